import PyProof.Rows.All
import Wide.All
import OpenK.AllK
import Wide.FinOn
import PySem.Challenge.RW_ny0057_01
set_option Elab.async false

section -- C1
open PySem PySem.W PyProof.Rows
namespace Mine

/-- the built-ins under whose frame a bytearray counts as exported -/
noncomputable def holders : List String := Builtin.Bytes.decodersThatHold ++ ["bytearray.__contains__", "bytearray.__mod__", "bytearray.__rmod__", "_struct.pack_into.held", "bytearray.find.held"]
noncomputable def okCode : Code → Bool
  | .builtin id _ => !holders.contains id
  | _ => true
/-- no frame of the stack is a holder's -/
noncomputable def Clean (Γ : Ctx) : Prop := okCode Γ.code = true ∧ ∀ x ∈ Γ.below, okCode x.1 = true

theorem Clean.enter {Γ : Ctx} (h : Clean Γ) {c : Code} (hd : Option Value) (p : Pos) (hc : okCode c = true) : Clean (Γ.enter c hd p) :=
  ⟨hc, fun x hx => by
    rcases List.mem_cons.mp hx with rfl | hx
    · exact h.1
    · exact h.2 x hx⟩
theorem Clean.goto {Γ : Ctx} (h : Clean Γ) {c : Code} (hc : okCode c = true) : Clean (Γ.goto c) := ⟨hc, h.2⟩

noncomputable def wpC {α : Type} (M : Model) (A : Around) (t : Sem α) (Q : α → Shared → Prop) (E : Value → Shared → Prop) (s : Shared) : Prop :=
  ∀ Γ p, Γ.In A → Clean Γ → Sem.wp M Γ t (fun a _ s' => Q a s') (fun e _ s' => E e s') p s
noncomputable def codeC (M : Model) (A : Around) (c : Code) (R : Result → Shared → Prop) (s : Shared) : Prop :=
  ∀ Γ p, Γ.code = c → Γ.Below A → Clean Γ → wpCode M Γ R p s

section
variable {α β : Type} {M : Model} {A : Around} {E : Value → Shared → Prop} {s : Shared}

theorem wpC_of {t : Sem α} {Q : α → Shared → Prop} (h : wpAny M A t Q E s) : wpC M A t Q E s := fun Γ p hΓ _ => h Γ p hΓ
theorem codeC_of {c : Code} {R : Result → Shared → Prop} (h : codeAny M A c R s) : codeC M A c R s := fun Γ p hc hΓ _ => h Γ p hc hΓ
theorem wpC_mono {t : Sem α} {Q Q' : α → Shared → Prop} {E' : Value → Shared → Prop} (h : wpC M A t Q E s)
    (hQ : ∀ a s, Q a s → Q' a s) (hE : ∀ e s, E e s → E' e s) : wpC M A t Q' E' s :=
  fun Γ p hΓ hC => Sem.wp_mono M Γ t (fun a _ s => hQ a s) (fun e _ s => hE e s) p s (h Γ p hΓ hC)
theorem wpC_pure {a : α} {Q : α → Shared → Prop} (h : Q a s) : wpC M A (pure a) Q E s := fun _ _ _ _ => h
theorem wpC_bind {m : Sem α} {f : α → Sem β} {Q : β → Shared → Prop} (h : wpC M A m (fun a s' => wpC M A (f a) Q E s') E s) :
    wpC M A (m >>= f) Q E s := fun Γ p hΓ hC => by
  rw [Sem.wp_bind']
  exact Sem.wp_mono M Γ m (fun a p' s' h' => h' Γ p' hΓ hC) (fun _ _ _ h' => h') p s (h Γ p hΓ hC)
/-- first a part that any stack bears, then one that a clean stack bears -/
theorem wpC_bindA {m : Sem α} {f : α → Sem β} {Q : β → Shared → Prop} (h : wpAny M A m (fun a s' => wpC M A (f a) Q E s') E s) :
    wpC M A (m >>= f) Q E s := wpC_bind (wpC_of h)
theorem wpC_onRaise {m : Sem α} {k : Value → Sem Unit} {Q : α → Shared → Prop}
    (h : wpC M A m Q (fun _ _ => False) s) : wpC M A (m.onRaise k) Q E s := fun Γ p hΓ hC => by
  rw [Sem.wp_onRaise]
  exact Sem.wp_mono M Γ m (fun _ _ _ h' => h') (fun e p' s' h' => h'.elim) p s (h Γ p hΓ hC)
theorem wpC_holding {vs : List Value} {m : Sem α} {Q : α → Shared → Prop} (h : wpC M A m Q E s) : wpC M A (holding vs m) Q E s :=
  fun Γ p hΓ hC => by rw [Sem.wp_holding]; exact h Γ p hΓ hC
theorem wpC_keep {vs : List Value} {m : Sem α} {Q : α → Shared → Prop} (h : wpC M A m Q E s) : wpC M A (m.keep vs) Q E s :=
  fun Γ p hΓ hC => by rw [Sem.wp_keep]; exact h Γ p hΓ hC

theorem codeC_of_tree {c : Code} {R : Result → Shared → Prop}
    (h : wpC M (A.under c) (M.den c) (fun fin s' => match fin with | .done f => R (.ok f) s' | .again c' => c'.quiet = true ∧ okCode c' = true ∧ codeC M A c' R s')
      (fun e s' => R (.error e) s') s) : codeC M A c R s := fun Γ p hc hΓ hC => by
  rw [wpCode_iff_wp, hc]
  refine Sem.wp_mono M Γ _ (fun fin p' s' h' => ?_) (fun _ _ _ h' => h') p s (h Γ p (hc ▸ hΓ.in) hC)
  cases fin with
  | done f => exact h'
  | again c' => exact ⟨h'.1, h'.2.2 (Γ.goto c') p' rfl (hΓ.goto c') (hC.goto h'.2.1)⟩
theorem codeC_mono {c : Code} {R R' : Result → Shared → Prop} (h : codeC M A c R s) (hR : ∀ r s, R r s → R' r s) : codeC M A c R' s :=
  fun Γ p hc hΓ hC => wpCode_mono hR (h Γ p hc hΓ hC)
theorem wpC_call {f : Value} {pos : List Value} {kw : List (Str × Value)} {Q : Value → Shared → Prop}
    (hc : codeC M A (.call f ⟨pos, kw⟩) (fun r s' => match r with | .ok (.ret v) => Q v s' | .ok _ => False | .error e => E e s') s) :
    wpC M A (call f pos kw) Q E s := fun Γ p hΓ hC => by
  rw [Sem.wp_cmd_call]
  exact hc _ p rfl (hΓ.enter _ none p (by intro x; cases x)) (hC.enter none p rfl)

theorem ok_ne {id : String} {a : Args} (h : okCode (.builtin id a) = true) : Builtin.Bytes.decodersThatHold.contains id = false ∧
    id ≠ "bytearray.__contains__" ∧ id ≠ "bytearray.__mod__" ∧ id ≠ "bytearray.__rmod__" ∧ id ≠ "_struct.pack_into.held" ∧ id ≠ "bytearray.find.held" := by
  have h : id ∉ holders := fun hm => by
    have e : (!holders.contains id) = true := h
    rw [List.contains_iff_mem.mpr hm] at e
    cases e
  refine ⟨?_, fun e => h ?_, fun e => h ?_, fun e => h ?_, fun e => h ?_, fun e => h ?_⟩
  · rw [Bool.eq_false_iff]
    exact fun e => h (List.mem_append_left _ (List.contains_iff_mem.mp e))
  all_goals (subst e; exact List.mem_append_right _ (by decide))

theorem wpC_exported {self : Value} {Q : Bool → Shared → Prop} (h : Q false s) : wpC M A (Builtin.Bytes.exported self) Q E s := fun Γ p hΓ hC => by
  unfold Builtin.Bytes.exported
  show Q (((Γ.code, p) :: Γ.below).any _) s
  rw [List.any_eq_false.mpr]
  · exact h
  · intro x hx
    have hx' : okCode x.1 = true := by
      rcases List.mem_cons.mp hx with rfl | hx
      · exact hC.1
      · exact hC.2 x hx
    obtain ⟨c, q⟩ := x
    rw [Bool.not_eq_true]
    cases c
    case builtin id a =>
      obtain ⟨n0, n1, n2, n3, n4, n5⟩ := ok_ne hx'
      delta Builtin.Bytes.exported.match_1 Builtin.Bytes.exported._sparseCasesOn_1
      refine (dif_neg n1).trans ?_
      refine (dif_neg n2).trans ?_
      refine (dif_neg n3).trans ?_
      refine (dif_neg n4).trans ?_
      refine (dif_neg n5).trans ?_
      obtain ⟨pos, kw⟩ := a
      cases pos with
      | nil => rfl
      | cons v tl => exact (congrArg _ n0).trans (Bool.and_false _)
    all_goals rfl
end
theorem ok_builtin {id : String} {a : Args} (h : holders.contains id = false) : okCode (.builtin id a) = true := by show (!holders.contains id) = true; rw [h]; rfl

section
variable {prog : Program} {w : World} {A : Around} {E : Value → Shared → Prop} {R : Result → Shared → Prop} {s : Shared}
theorem codeC_builtin {id : String} {args : Args} {b : Builtin} (hb : entryFor table id = some b)
    (h : wpC (model prog w) (A.under (.builtin id args)) (b args)
      (fun fin s' => match fin with | .done f => R (.ok f) s' | .again c' => c'.quiet = true ∧ okCode c' = true ∧ codeC (model prog w) A c' R s') (fun e s' => R (.error e) s') s) :
    codeC (model prog w) A (.builtin id args) R s := by
  refine codeC_of_tree ?_
  show wpC _ _ (match entryFor table id with | some b => b args | none => unsupported ((withoutEnding? id "#data").getD id)) _ _ s
  rw [hb]; exact h
theorem codeC_call_builtin {id : String} {args : Args} {b : Builtin} (hq : plainId id = true) (hok : holders.contains id = false) (hb : entryFor table id = some b)
    (h : wpAny (model prog w) A.in1 (checkBuiltinCall id args) (fun _ s₁ => wpC (model prog w) A.in1 (b args)
      (fun fin s' => match fin with | .done f => R (.ok f) s' | .again c' => c'.quiet = true ∧ okCode c' = true ∧ codeC (model prog w) A c' R s') (fun e s' => R (.error e) s') s₁)
      (fun e s' => R (.error e) s') s) : codeC (model prog w) A (.call (.builtin id) args) R s := by
  refine codeC_of_tree ?_
  show wpC _ A.in1 (do checkBuiltinCall id args; again (.builtin id args)) _ _ s
  refine wpC_bindA (wpAny_mono h (fun _ s₁ h₁ => wpC_pure ⟨plainId_quiet hq args, ok_builtin hok, codeC_builtin hb ?_⟩) fun _ _ h' => h')
  rw [Around.under_plainId hq args]; exact h₁
end
end Mine
end

section -- K1
open PySem PySem.W PySem.Spec PySem.Calls PyProof.Rows
set_option maxRecDepth 100000
namespace Mine

noncomputable abbrev topCtx : _root_.PySem.Ctx := ⟨.builtin "claim.caller" {}, none, none, [], none⟩
theorem clean_top : Clean topCtx := ⟨by decide +kernel, fun _ hx => nomatch hx⟩

theorem thread_endsC {prog : Program} {w : World} {t : Sem Fin} {s : Shared} {R : Result → Shared → Prop} (hreg : s.asleep)
    (h : wpC (model prog w) callerA t (fun fin s' => ∃ f, fin = .done f ∧ (R (.ok f) s' ∧ leftWithCleanup s'.gens = false)) (fun e s' => R (.error e) s' ∧ leftWithCleanup s'.gens = false) s) :
    ∃ n r s' s'', runN (denote table) prog w n s ⟨t, .builtin "claim.caller" {}, default, []⟩ = .halted (outcomeOf r) s' ∧
      schedN (denote table) prog w n (.single s ⟨t, .builtin "claim.caller" {}, default, []⟩) = .halted (outcomeOf r) s' ∧ s'.forget = s''.forget ∧ R r s'' := by
  have hw : Sem.wp (model prog w) topCtx t (Sem.finPost (model prog w) topCtx fun r s' => R r s' ∧ leftWithCleanup s'.gens = false) (fun e _ s' => R (.error e) s' ∧ leftWithCleanup s'.gens = false) default s := by
    refine Sem.wp_mono _ topCtx t (fun fin p' s' h' => ?_) (fun _ _ _ h' => h') default s (h topCtx default caller_in clean_top)
    obtain ⟨f, rfl, hf⟩ := h'
    exact hf
  obtain ⟨n, r, s₁, s₂, hs, hn, hfo, hR⟩ := wp_halts_full (M := model prog w) (R := R) hreg hw
  exact ⟨n, r, s₂, s₁, hn, hs, hfo, hR⟩

theorem callFromC {c : ClaimW} {tree : List Value → Sem Fin} {w : World} {s : Shared} {free : Addr → Prop} {gens : Prop} {kept : Heap → Prop} (hz : s.asleep) (hgens : s.gens = #[])
    (hspec : ∀ args, c.pre args = true → WData.layableAll args = true →
      ∀ ord : List DictEntry → List DictEntry, (∀ l, (ord l).Perm l) →
      ∃ vs s₁, layAllW c.records (classAt s.heap) w.params ord args s = some (vs, s₁) ∧
        wpC (model c.prog w) callerA (tree vs) (fun fin s' => ∃ f, fin = .done f ∧ (c.Ends s args vs s₁ (.ok f) s' ∧ s'.os = s.os ∧ AllBare s'.gens ∧ kept s'.heap))
          (fun e s' => c.Ends s args vs s₁ (.error e) s' ∧ s'.os = s.os ∧ AllBare s'.gens ∧ kept s'.heap) s₁) :
    c.CallFrom (fun vs => ⟨tree vs, .builtin "claim.caller" {}, default, []⟩) w free gens kept s := by
  intro args hpre hlay ord hord
  obtain ⟨vs, s₁, hlaid, hcode⟩ := hspec args hpre hlay ord hord
  have hal := layAllW_rest _ _ _ hlaid
  obtain ⟨k, r, s', s'', hrun, hsched, hfo, hcase, hos, hkp⟩ := thread_endsC (prog := c.prog) (w := w) (t := tree vs) (s := s₁)
    (R := fun r s' => c.Ends s args vs s₁ r s' ∧ s'.os = s.os ∧ kept s'.heap)
    (Shared.asleep_of_life hal.2.2.2 hz)
    (wpC_mono hcode (by
      rintro fin s' ⟨f, e, h1, h2, h3, h4⟩
      exact ⟨f, e, ⟨h1, h2, h4⟩, leftWithCleanup_false_of_bare h3⟩) (by
      rintro e s' ⟨h1, h2, h3, h4⟩
      exact ⟨⟨h1, h2, h4⟩, leftWithCleanup_false_of_bare h3⟩))
  obtain ⟨eh, _, _, eo, _⟩ := Shared.forget_eq hfo
  have hcase := hcase.congr eh
  have hkp : kept s'.heap := by first | exact eh ▸ hkp | (rw [eh] at hkp; exact hkp) | (rw [← eh] at hkp; exact hkp)
  rw [← eo] at hos
  have hlife : s'.heap.life = s.heap.life := (runN_life _ _ _ hrun).trans hal.2.2.2
  refine ⟨vs, s₁, hlaid, k, _, s', hsched, ?_, (fun _ i x hx => by rw [hgens] at hx; simp at hx), hkp, by rw [hlife], Shared.rest_eq hos⟩
  rcases hcase with ⟨v, rfl, d1, d2, d3, d4, d5⟩ | ⟨e, ob, cls, rfl, d1, d2, d3, d4, d5⟩
  · exact .inl ⟨v, rfl, d1, d2, d3, fun b o y _ => d4 b o y, d5⟩
  · exact .inr ⟨e, ob, cls, rfl, d1, d2, d3, d4, fun b o y _ => d5 b o y⟩

/-- what is left behind the head: the call, on a clean stack -/
noncomputable abbrev WalkC (q : Program) (loose : List Str) (XP : (Str → Option Value) → Heap → Prop) (YP : World → Heap → Prop) (r : RowW) (d : DefRec) : Prop :=
  ∀ (w : World) (s₀ s₁ : Shared) (mg mb : Str → Option Value), Ground q loose r.records XP w s₀ mg mb s₁.heap → YP w s₁.heap → ∀ (a : Addr) (o : Obj) (pm cd doc dV kV : Value), s₁.heap.get? a = some o →
    o.data = .func { docDef d.name d.params d.body d.scope pm cd doc with defaults := dV, kwdefaults := kV } → s₁.heap.CodeRec cd d.name → mg d.name = some (.ref a) → s₁.gens = #[] →
    ∀ (args : List WData) (vals : List Value) (as : List Addr), r.claim.pre args = true → WData.layableAll args = true → ReadsAllW r.records (classAt s₀.heap) s₁.heap vals args as →
      wpC (model r.prog w) callerA (call (.ref a) vals) (fun v s' => GoodWG r.claim (classAt s₀.heap) (ExcName.means s₀.heap) args s₁ (.ok (.ret v)) s')
        (fun e s' => GoodWG r.claim (classAt s₀.heap) (ExcName.means s₀.heap) args s₁ (.error e) s') s₁

end Mine
namespace Mine.PySem.W
/-- the head for a call that needs a clean stack (the library's own asks any stack, and a bytearray is not made under every one) -/
theorem holds_open {r : OpenRow} {q : Program} {loose : List Str} {Xt : Shared → Bool} {XP : (Str → Option Value) → Heap → Prop} {α : Type} {Yf : Shared → α} {Ya : World → α} {YP : World → Heap → Prop} {d : DefRec} {kwd : List (Str × Expr)} {N : Nat}
    (left : LeftO r.prog q loose Xt Yf Ya N) (hY : ∀ w s, Yf s = Ya w → YP w s.heap) (hYk : ∀ w h h', YP w h → (∀ b o, h.get? b = some o → h'.get? b = some o) → YP w h')
    (hX : ∀ s, Xt s = true → XP (s.heap.nsMap mainGlobals) s.heap) (hXk : ∀ mg h h', XP mg h → (∀ b o, h.get? b = some o → h'.get? b = some o) → XP mg h')
    (hdef : defOf q r.name = some (d, kwd)) (hp : r.prog.theDef r.name = some (d.params, d.body, d.scope)) (hk : kwWritten? d.params.kwonlyargs d.params.kw_defaults = some kwd) (hRf : ∀ s, Xt s = true → RecFacts r.records s.heap) (hwr : (!r.writes || r.records.isEmpty) = true)
    (k1 : r.wellSaid = true) (ok : (chainsOk q && opensWell r.prog && (frees r.toRowW && r.within.isEmpty)) = true) (hb : r.prog.bare) (hw : r.toRowW.promised)
    (call : WalkC q loose XP YP r.toRowW d) : r.Holds := by
  refine ⟨k1, hw, ?_⟩
  obtain ⟨ok, k5⟩ := Bool.and_eq_true_iff.mp ok
  obtain ⟨hch, o1⟩ := Bool.and_eq_true_iff.mp ok
  obtain ⟨k5, k6⟩ := Bool.and_eq_true_iff.mp k5
  obtain ⟨hsame, hu, ha, hap, hm⟩ := frees_parts k5
  refine ⟨⟨hb, o1, by show r.toRowW.makers.map _ = []; rw [hm]; rfl⟩, hw.witness, fun w => ⟨(left.behind hX hch w).1, fun s' hs' => ?_⟩⟩
  obtain ⟨s₀, hf, hg0, s, hT, hz, hgens, hg, G00, y⟩ := (left.behind (XP := fun mg h => XP mg h ∧ RecFacts r.records h) (fun s hs => ⟨hX s hs, hRf s hs⟩) hch w).2 s' hs'
  have G0 : Ground q loose [] XP w s (s.heap.nsMap mainGlobals) (s.heap.nsMap builtinsNs) s.heap := ⟨G00.T, G00.B, G00.D, G00.TE, G00.TD, G00.W, G00.X.1, G00.cls, G00.has, G00.apart, G00.once, G00.K⟩
  have RF := G00.X.2
  have hT' := hT
  refine ⟨s₀, hf, hg0, s, hT, ?_, RF.1, RF.2.1, ?_⟩
  · intro n hn
    obtain rfl : n = r.name := by split at hn <;> simp_all
    exact pinned_of_view hg G0 hdef hp hk
  have hgens : s.gens = #[] := Array.eq_empty_of_size_eq_zero (beq_iff_eq.mp hgens)
  have G : Ground q loose r.toRowW.records XP w s _ _ s.heap := RF.ground G0
  refine callFromC (c := r.toRowW.claim) hz hgens fun args hpre hlay ord hord => ?_
  obtain ⟨⟨vs, s₁⟩, hlaid⟩ := Option.isSome_iff_exists.mp (layAllW_isSome (P := w.params) (ord := ord) G.has args r.toRowW.args s (pre_splitW hpre).1)
  have keeps := layAllW_keeps _ _ _ hlaid
  have hal := layAllW_rest _ _ _ hlaid
  obtain ⟨as, hrd, hin, hold⟩ := reads_layAllW hord _ _ _ hlaid hlay s₁.heap (fun _ _ e => e)
  have L : Laid r.toRowW.records w s s₁ args vs as := ⟨⟨ord, hord, hlaid⟩, hrd, hin, hold, keeps, hal.1.trans hgens, hal.2.2.1⟩
  have G₁ := G.keeps hXk keeps
  obtain ⟨a, o, pm, cd, doc, dV, kV, h1, h2, h3, h4, h5⟩ := G₁.fn hdef
  have h := call w s s₁ _ _ G₁ (hYk _ _ _ (hY w s y) keeps) a o pm cd doc dV kV h2 h3 h4 (defOf_name hdef ▸ h1) L.gens args vs as hpre hlay L.reads
  have hi := ident_freeW hu ha hap
  have hwi : r.toRowW.claim.within = [] := List.isEmpty_iff.mp k6
  refine ⟨vs, s₁, hlaid, wpC_bindA (wpAny_nsGet G₁.T.g ?_)⟩
  rw [show s.heap.nsMap mainGlobals r.name = some (.ref a) from h1]
  refine wpC_bind (wpC_mono h (fun v s' g => wpC_pure ⟨_, rfl, ?_⟩) fun e s' g => ?_)
  · have z := g.laid (c := r.toRowW.claim) hsame hwi hi L
    exact ⟨z.1, z.2.1, z.2.2, fun q => ⟨namesKept_of hT' hg _ keeps g.2.1.old, noTable hwr q⟩⟩
  · have z := g.laid (c := r.toRowW.claim) hsame hwi hi L
    exact ⟨z.1, z.2.1, z.2.2, fun q => ⟨namesKept_of hT' hg _ keeps g.2.1.old, noTable hwr q⟩⟩
end Mine.PySem.W
end

section -- Hd
open PySem PySem.W PyProof.Rows
namespace Mine
set_option maxRecDepth 100000 in
set_option maxHeartbeats 8000000 in
open_top hd for _root_.PySem.Challenge.rw_ny0057_01
end Mine
end

section -- L1
open PySem PySem.W PyProof.Rows
namespace Mine
open AutoSeq1 (wpAny_loadPart')
open PySem.SeqAt PySem.MeetsSeq PySem.MeetsSeq2 PySem.MeetsSeq3

/-- what «<» gives -/
noncomputable def RcLtAt (A : Around) (s : Shared) (y x : Value) (b : Bool) : Prop :=
  ∀ (prog : Program) (w : World) (E : Value → Shared → Prop) (Q : Value → Shared → Prop), Q (.bool b) s → wpAny (model prog w) A (richCompare .Lt y x) Q E s

noncomputable def ltFrom (e r : Nat → Bool) (n : Nat) : Nat → Nat → Bool
  | _, 0 => false
  | i, k + 1 => if e i then ltFrom e r n (i + 1) k else r i

theorem lt_loopAt (l b : Addr) (items items2 : Array Value) (n n2 : Nat) (dd dd2 : Option Addr) (sl sl2 : Array (Option Value)) (hsz : items.size = items2.size) (e r : Nat → Bool) (k : Nat) :
    ∀ i : Nat, items.size - i = k → Meets (Builtin.«list.__eq__.loop» ⟨[.ref l, .ref b, rawInt i, rawInt 0], []⟩)
      (fun A R s => s.heap.get? l = some { cls := .type "list", dict := dd, data := .seq items n, slots := sl } ∧ s.heap.get? b = some { cls := .type "list", dict := dd2, data := .seq items2 n2, slots := sl2 } ∧
        (∀ j (h1 : j < items.size) (h2 : j < items2.size), EqAt A.in1 s items[j] items2[j] (e j)) ∧
        (∀ j (h1 : j < items.size) (h2 : j < items2.size), e j = false → RcLtAt A.in1 s items[j] items2[j] (r j)) ∧
        R (.ok (.ret (.bool (ltFrom e r items.size i k)))) s) := by
  induction k with
  | zero =>
    intro i hk prog w A R s h
    obtain ⟨hp, g, d, tk, os⟩ := s; obtain ⟨hl, hb, he, hr, h⟩ := h
    wp_walk using wpAny_loadPart' hl, wpAny_loadPart' hb
    have hi1 : items[((i : Nat) : Int).toNat]? = none := by simp; omega
    have hi2 : items2[((i : Nat) : Int).toNat]? = none := by simp; omega
    rw [hi1, hi2]
    wp_walk using wpAny_loadPart' hl, wpAny_loadPart' hb
    show R (.ok (.ret (.bool (decide (items.size < items2.size))))) _
    rw [hsz]
    simpa [ltFrom] using h
  | succ k ih =>
    intro i hk prog w A R s h
    obtain ⟨hp, g, d, tk, os⟩ := s; obtain ⟨hl, hb, he, hr, h⟩ := h
    wp_walk using wpAny_loadPart' hl, wpAny_loadPart' hb
    have hlt : i < items.size := by omega
    have hlt2 : i < items2.size := by omega
    have hi1 : items[((i : Nat) : Int).toNat]? = some items[i] := by simp [hlt]
    have hi2 : items2[((i : Nat) : Int).toNat]? = some items2[i] := by simp [hlt2]
    have hc : ((i : Int) + 1) = ((i + 1 : Nat) : Int) := by push_cast; rfl
    rw [ltFrom] at h
    rw [hi1, hi2]
    refine wpAny_bind (he i hlt hlt2 prog w _ _ ?_)
    cases hb' : e i with
    | true =>
      rw [hb'] at h
      wp_walk
      rw [hc]
      exact ⟨plainId_quiet plain_eq_loop _, codeAny_builtin entry_eq_loop (by
        rw [Around.under_plainId plain_eq_loop _]
        exact ih (i + 1) (by omega) prog w A R _ ⟨hl, hb, he, hr, by simpa using h⟩)⟩
    | false =>
      rw [hb'] at h
      wp_walk using wpAny_loadPart' hl, wpAny_loadPart' hb
      rw [hi1, hi2]
      refine wpAny_bind (hr i hlt hlt2 hb' prog w _ _ ?_)
      exact wpAny_pure (by simpa using h)

theorem list_ltAt (l b : Addr) (items items2 : Array Value) (n n2 : Nat) (dd dd2 : Option Addr) (sl sl2 : Array (Option Value)) (hsz : items.size = items2.size) (e r : Nat → Bool) :
    Meets (Builtin.«list.__lt__» ⟨[.ref l, .ref b], []⟩)
      (fun A R s => s.heap.get? l = some { cls := .type "list", dict := dd, data := .seq items n, slots := sl } ∧ s.heap.get? b = some { cls := .type "list", dict := dd2, data := .seq items2 n2, slots := sl2 } ∧
        (∀ j (h1 : j < items.size) (h2 : j < items2.size), EqAt A.in1 s items[j] items2[j] (e j)) ∧
        (∀ j (h1 : j < items.size) (h2 : j < items2.size), e j = false → RcLtAt A.in1 s items[j] items2[j] (r j)) ∧
        R (.ok (.ret (.bool (ltFrom e r items.size 0 items.size)))) s) := by
  intro prog w A R s h
  obtain ⟨hp, g, d, tk, os⟩ := s; obtain ⟨hl, hb, he, hr, h⟩ := h
  have f3 := AutoSeq1.sub_list_list
  wp_walk using wpAny_loadPart' hl, wpAny_loadPart' hb
  exact ⟨plainId_quiet plain_eq_loop _, codeAny_builtin entry_eq_loop (by
    rw [Around.under_plainId plain_eq_loop _]
    exact lt_loopAt l b items items2 n n2 dd dd2 sl sl2 hsz e r _ 0 rfl prog w A R _ ⟨hl, hb, he, hr, by simpa using h⟩)⟩

theorem RcLtAt.lists {A : Around} {s : Shared} {l b : Addr} {items items2 : Array Value} {e r : Nat → Bool} (hl : s.heap.IsList l items) (hb : s.heap.IsList b items2) (hsz : items.size = items2.size) (hu : A.units < cLine)
    (he : ∀ j (h1 : j < items.size) (h2 : j < items2.size), EqAt A.in1 s items[j] items2[j] (e j))
    (hr : ∀ j (h1 : j < items.size) (h2 : j < items2.size), e j = false → RcLtAt A.in1 s items[j] items2[j] (r j)) : RcLtAt A s (.ref l) (.ref b) (ltFrom e r items.size 0 items.size) := fun prog w E Q h => by
  obtain ⟨⟨cls, dd, data, sl⟩, ho, hc, n, hd⟩ := id hl
  obtain ⟨⟨cls2, dd2, data2, sl2⟩, ho2, hc2, n2, hd2⟩ := id hb
  simp only at hc hd hc2 hd2
  subst hc hd hc2 hd2
  exact richCompare_meets_room (op := .Lt) ⟨_, ho, rfl⟩ ⟨_, ho2, rfl⟩ F.slot_list_lt F.entry_list_lt (F.args_list_lt_2 _ _) (list_ltAt l b items items2 n n2 dd dd2 sl sl2 hsz e r)
    ⟨ho, ho2, he, hr, show Value.bool (ltFrom e r items.size 0 items.size) ≠ Value.notImplemented ∧ Q (.bool (ltFrom e r items.size 0 items.size)) s from ⟨(fun x => nomatch x), h⟩⟩ hu

theorem RcLtAt.int {A : Around} {s : Shared} (a b : Int) (t u : Tok) : RcLtAt A s (.int a t) (.int b u) (decide (a < b)) := fun _ _ _ _ h => wpAny_lt_int h
end Mine
end

section -- B1
open PySem PySem.W PyProof.Rows
namespace Mine

/-- the state: σ with another heap and another count of tokens -/
noncomputable abbrev S (σ : Shared) (h : Heap) (t : Nat) : Shared := { σ with heap := h, toks := t }
noncomputable def Ext (h h' : Heap) : Prop := ∀ b o, h.get? b = some o → h'.get? b = some o
theorem Ext.refl (h : Heap) : Ext h h := fun _ _ e => e
theorem Ext.trans {h₁ h₂ h₃ : Heap} (x : Ext h₁ h₂) (y : Ext h₂ h₃) : Ext h₁ h₃ := fun b o e => y b o (x b o e)
theorem Ext.push (h : Heap) (o : Obj) : Ext h (h.push o) := fun _ _ e => Heap.get?_push_of_some o e
theorem Ext.fresh {G h : Heap} (x : Ext G h) : G.get? h.objs.size = none := by
  cases hq : G.get? h.objs.size with
  | none => rfl
  | some o => exact absurd (Heap.lt_size (x _ _ hq)) (Nat.lt_irrefl _)
theorem Ext.but {G h h' : Heap} {a : Addr} (x : Ext G h) (hs : Heap.SameBut a h h') (ha : G.get? a = none) : Ext G h' := fun b o e =>
  (hs.2 b (fun hb => by subst hb; rw [ha] at e; cases e)).trans (x b o e)

/-- what stands at the top -/
structure Base (w : World) (h : Heap) : Prop where
  X : (Mine.hd.heap_39 w.params).In h
  g : ∃ mg, h.Ns mainGlobals mg
  b : ∃ mb, h.Ns builtinsNs mb ∧ ∀ x : Str, x ≠ "__name__" → mb x = bootBuiltins x
  nl : h.NoLimit
theorem Base.ext {w : World} {h h' : Heap} (B : Base w h) (e : Ext h h') : Base w h' :=
  ⟨fun a o q => e a o (B.X a o q), let ⟨mg, g⟩ := B.g; ⟨mg, g.keeps e⟩, let ⟨mb, b, r⟩ := B.b; ⟨mb, b.keeps e, r⟩, B.nl.keeps e⟩

/-- a map with one name stored anew -/
noncomputable def upd (m : Str → Option Value) (x : Str) (v : Value) : Str → Option Value := fun y => if y = x then some v else m y
theorem st_ne {m : Str → Option Value} {x y : Str} {v v' : Value} (hm : m x = some v) (hne : (x == y) = false := by decide) : upd m y v' x = some v := by
  show (if x = y then some v' else m x) = some v
  rw [if_neg (by simpa using hne)]; exact hm
theorem st_eq {m : Str → Option Value} {x : Str} {v : Value} : upd m x v x = some v := if_pos rfl

section
variable {prog : Program} {w : World} {A : Around} {E : Value → Shared → Prop} {σ : Shared} {h : Heap} {t : Nat} {env : Env} {Q : Value → Shared → Prop}

theorem rInt {i : Int} {k : Nat} {pos : Pos} (H : ∀ u t', Q (.int i u) (S σ h t')) : wpAny (model prog w) A (eval (.Constant (.int i) k pos) env) Q E (S σ h t) := wpAny_Constant_int (H _ _)

theorem rLoc {x : Str} {pos : Pos} {m : Str → Option Value} {v : Value} (hn : h.Ns env.locals m) (hv : m x = some v) (H : Q v (S σ h t))
    (hk : env.scope.kind = .function := by rfl) (hl : env.kindOf x = some .local := by rfl) (hd : (x == ("__debug__" : Str)) = false := by decide) :
    wpAny (model prog w) A (eval (.Name x pos) env) Q E (S σ h t) := wpAny_Name (wpAny_loadName_local hk hl hn hv H) hd

theorem rGlob {x : Str} {pos : Pos} {v : Value} (B : Base w h) (e : nsIn (Mine.hd.heap_39 w.params) mainGlobals x = some (some v)) (H : Q v (S σ h t))
    (hk : env.scope.kind = .function := by rfl) (hg : env.globals = mainGlobals := by rfl) (hx : env.kindOf x = some .globalImplicit := by rfl) (hd : (x == ("__debug__" : Str)) = false := by decide) :
    wpAny (model prog w) A (eval (.Name x pos) env) Q E (S σ h t) := by
  obtain ⟨mg, g⟩ := B.g
  exact Calls.Name_function_global hk hx (Calls.loadGlobal_global (mg := mg) (by rw [hg]; exact g) (mg_of B.X g e) H) hd

theorem rBuilt {x : Str} {pos : Pos} {v : Value} (B : Base w h) (e : nsIn (Mine.hd.heap_39 w.params) mainGlobals x = some none) (hv : bootBuiltins x = some v) (H : Q v (S σ h t))
    (hn : x ≠ "__name__" := by decide)
    (hk : env.scope.kind = .function := by rfl) (hg : env.globals = mainGlobals := by rfl) (hb : env.builtins = builtinsNs := by rfl) (hx : env.kindOf x = some .globalImplicit := by rfl) (hd : (x == ("__debug__" : Str)) = false := by decide) :
    wpAny (model prog w) A (eval (.Name x pos) env) Q E (S σ h t) := by
  obtain ⟨mg, g⟩ := B.g
  obtain ⟨mb, b, r⟩ := B.b
  exact Calls.Name_function_global hk hx (Calls.loadGlobal_builtin (mg := mg) (mb := mb) (by rw [hg]; exact g) (mg_none_of B.X g e) (by rw [hb]; exact b) ((r x hn).trans hv) H) hd

theorem rSt {x : Str} {pos' pos : Pos} {value : Expr} {QF : Flow → Shared → Prop}
    (H : wpAny (model prog w) A (eval value env) (fun v s₁ => wpAny (model prog w) A (storeName env x v) (fun _ => QF .next) E s₁) E (S σ h t))
    (hs : swapsWith value (some (.Name x pos')) pos.line env = pure false := by rfl) :
    wpAny (model prog w) A (exec (.Assign [.Name x pos'] value pos) env) QF E (S σ h t) := wpAny_Assign_Name H hs

theorem rStore {x : Str} {v : Value} {m : Str → Option Value} {QU : Unit → Shared → Prop} (hn : h.Ns env.locals m)
    (H : ∀ h' t', h'.Ns env.locals (upd m x v) → Heap.SameBut env.locals h h' → QU () (S σ h' t'))
    (hk : env.scope.kind = .function := by rfl) (hl : env.kindOf x = some .local := by rfl) :
    wpAny (model prog w) A (storeName env x v) QU E (S σ h t) :=
  wpAny_storeName_local hl hn (fun h' hn' hs => H h' _ hn' hs) (by rw [hk]; rfl)

theorem rAdd {a b : Int} {u v : Tok} (H : ∀ x t', Q (.int (a + b) x) (S σ h t')) : wpAny (model prog w) A (binaryOp .Add (.int a u) (.int b v)) Q E (S σ h t) := add_int (H _ _)
theorem rSub {a b : Int} {u v : Tok} (H : ∀ x t', Q (.int (a - b) x) (S σ h t')) : wpAny (model prog w) A (binaryOp .Sub (.int a u) (.int b v)) Q E (S σ h t) := sub_int (H _ _)
theorem rMul {a b : Int} {u v : Tok} (hm : IntMulOk a b) (H : ∀ x t', Q (.int (a * b) x) (S σ h t')) : wpAny (model prog w) A (binaryOp .Mult (.int a u) (.int b v)) Q E (S σ h t) := mul_int (H _ _) hm
theorem rShr {a n : Int} {u v : Tok} (hn : 0 ≤ n) (H : ∀ x t', Q (.int (a.fdiv (2 ^ n.toNat)) x) (S σ h t')) : wpAny (model prog w) A (binaryOp .RShift (.int a u) (.int n v)) Q E (S σ h t) := rshift_int hn (H _ _)

/-- an item of a list -/
theorem rItem {value slice : Expr} {l : Addr} {items : Array Value} {k : Int} {u : Tok} {v : Value}
    (hl : h.IsList l items) (h0 : 0 ≤ k) (hhi : k < 2 ^ 63) (hx : items[k.toNat]? = some v) (H : Q v (S σ h t))
    (hs : subscripted slice false (.ref l) (.int k u) = operate [.ref l, .int k u] (getItem (.ref l) (.int k u)) := by with_unfolding_all rfl) :
    wpAny (model prog w) A (subscriptTail value slice (.ref l) (.int k u)) Q E (S σ h t) :=
  tail_any (s := S σ h t) (Heap.IsList.typeIs (s := S σ h t) hl) slot_list_getitem.lookup (wpAny_getItem_list hl h0 hhi hx H) hs

theorem setItem_plainL {l : Addr} {items : Array Value} {k : Int} {u : Tok} {v : Value} {QU : Unit → Shared → Prop} (hl : PlainL h l items)
    (h0 : 0 ≤ k) (hfit : k < 2 ^ 63) (hn : k < items.size)
    (H : ∀ h', PlainL h' l (items.setIfInBounds k.toNat v) → Heap.SameBut l h h' → QU () (S σ h' t)) :
    wpAny (model prog w) A (setItem (.ref l) (.int k u) v) QU E (S σ h t) := by
  obtain ⟨o, ne, ho, hc, hdn, hd⟩ := id hl
  have hT : (S σ h t).TypeIs (.ref l) "list" := Heap.IsList.typeIs (s := S σ h t) hl.isList
  unfold setItem
  try with_reducible refine wpAny_holding ?_
  first | refine wpAny_bind (wpAny_pure ?_) | skip
  refine wpAny_bind (wpAny_sequenceKey hT (by decide) ?_)
  refine wpAny_bind (wpAny_callSpecial?_slot (name := Str.ofString "__setitem__") hT slot_list_setitem
    (wpAny_call_entry slot_list_setitem hT entry_list_setitem ?_ (args_list_setitem _ _ _)))
  show wpAny _ _ (Builtin.List.listSubscript? (.int k u) >>= _) _ _ (S σ h t)
  refine wpAny_bind (wpAny_listSubscript_int (fitsIndex_of h0 hfit) ?_)
  clear hfit
  obtain ⟨j, rfl⟩ := Int.eq_ofNat_of_zero_le h0
  have hj : j < items.size := by omega
  have hx' : items[j]? = some items[j] := Array.getElem?_eq_getElem hj
  show wpAny _ _ ((seqItemAt l j >>= fun r => pure (r.map (j, ·))) >>= _) _ _ (S σ h t)
  refine wpAny_bind (wpAny_bind (wpAny_seqItemAt ho hd (wpAny_pure ?_)))
  rw [hx']
  show wpAny _ _ (setSeqItemAt l j v >>= _) _ _ (S σ h t)
  obtain ⟨n', hd'⟩ := Obj.data_mapSeq hd (·.setIfInBounds j v)
  have hfin : PlainL (h.update l (Obj.mapSeq (·.setIfInBounds j v))) l (items.setIfInBounds j v) := by
    refine ⟨_, n', Heap.get?_update_self _ ho (Obj.isFreed_of_seq hd'), (Obj.cls_mapSeq ..).trans hc, ?_, hd'⟩
    obtain ⟨c, d, dt, sl⟩ := o
    subst hd
    exact hdn
  refine wpAny_bind (wpAny_setSeqItemAt ho hd ?_)
  first
    | exact wpAny_bind (wpAny_pure (wpAny_pure ⟨.none, rfl, wpAny_pure (H _ hfin (Heap.SameBut.update ..))⟩))
    | exact wpAny_pure ⟨.none, rfl, wpAny_pure (H _ hfin (Heap.SameBut.update ..))⟩
end

/-- the names as a call binds them -/
noncomputable def lk (binds : List (Str × Value)) : Str → Option Value := fun x => binds.reverse.lookup x

section
variable {M : Model} {A : Around} {E : Value → Shared → Prop} {s : Shared} {env : Env} {pos : Pos} {Q : Value → Shared → Prop}
theorem cwB {id : String} {e : Expr} {rest : List Expr}
    (h : wpAny M A (spliced (backTo pos (starEach (e :: rest) env))) (fun vs s₁ => wpAny M A (call (.builtin id) vs) Q E s₁) E s)
    (he : starEach (e :: rest) env = (false, eval e env) :: starEach rest env := by rfl)
    (hplain : (backTo pos (starEach rest env)).any (·.1) = false := by rfl) :
    wpAny M A (callWith pos (.builtin id) [] (backTo pos (starEach (e :: rest) env)) []) Q E s := PyProof.Rows.callWith_builtin1 h he hplain
theorem cwT {T : String} {e : Expr} {rest : List Expr}
    (h : wpAny M A (spliced (backTo pos (starEach (e :: rest) env))) (fun vs s₁ => wpAny M A (call (.type T) vs) Q E s₁) E s)
    (he : starEach (e :: rest) env = (false, eval e env) :: starEach rest env := by rfl)
    (hplain : (backTo pos (starEach rest env)).any (·.1) = false := by rfl) :
    wpAny M A (callWith pos (.type T) [] (backTo pos (starEach (e :: rest) env)) []) Q E s := PyProof.Rows.callWith_type1 h he hplain
theorem cwM {id : String} {first : List Value} {e : Expr} {rest : List Expr}
    (h : wpAny M A (spliced (backTo pos (starEach (e :: rest) env))) (fun vs s₁ => wpAny M A (call (.builtin id) (first ++ vs)) Q E s₁) E s)
    (he : starEach (e :: rest) env = (false, eval e env) :: starEach rest env := by rfl)
    (hplain : (backTo pos (starEach rest env)).any (·.1) = false := by rfl) :
    wpAny M A (callWith pos (.builtin id) first (backTo pos (starEach (e :: rest) env)) []) Q E s := PyProof.Rows.callWith_method1 h he hplain
theorem cwD {f : Addr} {h' : Heap} {o : Obj} {fd : FuncData} {e : Expr} {rest : List Expr} (_ : h'.get? f = some o) (hdat : o.data = .func fd)
    (h : wpAny M A (spliced (backTo pos (starEach (e :: rest) env))) (fun vs s₁ => s₁.heap.get? f = some o ∧ wpAny M A (call (.ref f) vs) Q E s₁) E s)
    (he : starEach (e :: rest) env = (false, eval e env) :: starEach rest env := by rfl) :
    wpAny M A (callWith pos (.ref f) [] (backTo pos (starEach (e :: rest) env)) []) Q E s := PyProof.Rows.callWith_def hdat h he
end

/-- a call of a def without cells enters its body -/
theorem enterFn {prog : Program} {w : World} {A : Around} {E : Value → Shared → Prop} {σ : Shared} {h : Heap} {t : Nat} {Q : Value → Shared → Prop}
    {a : Addr} {o : Obj} {fd : FuncData} {body : List Stmt} {vals : List Value} {kw : List (Str × Value)} {binds : List (Str × Value)}
    (hroom : A.depth < recursionLimit) (B : Base w h) (ho : h.get? a = some o) (hdata : o.data = .func fd) (hcd : h.CodeRec fd.code fd.qualname)
    (hbody : fd.body = .stmts body) (hbind : BindsTo (S σ h t) fd ⟨vals, kw⟩ binds)
    (hcell : ∀ x ∈ fd.scope.names, x.2 ≠ .cell) (hloc : ∀ x ∈ binds, fd.scope.names.lookup x.1 = some .local)
    (H : ∀ h₁ t₁, h₁.Ns h.objs.size (lk binds) → Ext h h₁ →
      wpAny (model prog w) (A.deeper (callEnv fd h.objs.size a)) (execs body (callEnv fd h.objs.size a)) (fun f s' => Q (match f with | .ret v => v | _ => .none) s') (fun _ _ => False) (S σ h₁ t₁))
    (hco : fd.scope.isCoroutine = false := by rfl) (hgen : fd.scope.isGenerator = false := by rfl) (hk : fd.scope.kind = .function := by rfl) :
    wpAny (model prog w) A (call (.ref a) vals kw) Q E (S σ h t) := by
  refine wpAny_call (codeAny_call_def hroom ho hdata B.nl hcd hbody hbind hcell hloc (fun h₁ hns keep => ?_) hco hgen hk)
  exact wpAny_mono (H h₁ _ hns keep) (fun _ _ x => x) (fun _ _ x => x.elim)
end Mine
end

section -- H1
open PySem PySem.W PyProof.Rows
namespace Mine

noncomputable def sdStep {α : Type} (lt : α → α → Bool) (new : α) (pos : Nat) (go : ∀ q, q < pos → Array α → Array α) (xs : Array α) : Array α :=
  if h : 0 < pos then
    match xs[(pos - 1) / 2]? with
    | some parent => if lt new parent then go ((pos - 1) / 2) (by omega) (xs.setIfInBounds pos parent) else xs.setIfInBounds pos new
    | none => xs.setIfInBounds pos new
  else xs.setIfInBounds pos new
noncomputable def sd {α : Type} (lt : α → α → Bool) (new : α) (xs : Array α) (pos : Nat) : Array α :=
  WellFounded.fix (C := fun _ => Array α → Array α) Nat.lt_wfRel.wf (sdStep lt new) pos xs
theorem sd_eq {α : Type} (lt : α → α → Bool) (new : α) (xs : Array α) (pos : Nat) : sd lt new xs pos = if _ : 0 < pos then
    match xs[(pos - 1) / 2]? with
    | some parent => if lt new parent then sd lt new (xs.setIfInBounds pos parent) ((pos - 1) / 2) else xs.setIfInBounds pos new
    | none => xs.setIfInBounds pos new
  else xs.setIfInBounds pos new := by
  unfold sd
  rw [WellFounded.fix_eq]
  rfl

/-- «<» is told on the things that P takes -/
noncomputable def CmpOn (G : Heap) (lt : Value → Value → Bool) (P : Value → Prop) : Prop :=
  ∀ v v', P v → P v' → ∀ h, Ext G h → ∀ A σ t, A.units + 20 < cLine → RcLtAt A (S σ h t) v v' (lt v v')

theorem all_set {α : Type} {P : α → Prop} {xs : Array α} {i : Nat} {x : α} (hx : P x) (h : ∀ v ∈ xs, P v) : ∀ v ∈ xs.setIfInBounds i x, P v := by
  intro v hv
  rcases Array.mem_or_eq_of_mem_setIfInBounds hv with hv | rfl
  · exact h v hv
  · exact hx

section
variable {prog : Program} {w : World} {A : Around} {E : Value → Shared → Prop} {σ : Shared} {h : Heap} {t : Nat} {Q : Value → Shared → Prop}

theorem siftdown_call {G : Heap} {Hp : Addr} {xs : Array Value} {pos : Nat} {t1 t2 : Tok} {lt : Value → Value → Bool} {P : Value → Prop} {new : Value}
    (B : Base w G) (hG : Ext G h) (hHp : G.get? Hp = none) (hl : PlainL h Hp xs) (hsz : xs.size < 1000) (hnew : xs[pos]? = some new)
    (hC : CmpOn G lt P) (hP : ∀ v ∈ xs, P v) (hd : A.depth + 5 < recursionLimit) (hu : A.units + 40 < cLine)
    (H : ∀ h' t', Ext G h' → PlainL h' Hp (sd lt new xs pos) → Q .none (S σ h' t')) :
    wpAny (model prog w) A (call (.ref 79) [.ref Hp, .int 0 t1, .int pos t2]) Q E (S σ h t) := by
  have hpos : pos < xs.size := (Array.getElem?_eq_some_iff.mp hnew).1
  refine enterFn (binds := [("heap", .ref Hp), ("startpos", .int 0 t1), ("pos", .int pos t2)]) (by omega) (B.ext hG) (hG _ _ (B.X 79 _ rfl)) rfl ⟨78, _, _, _, rfl, hG _ _ (B.X 78 _ rfl), rfl, rfl⟩ rfl (BindsTo.of_eq rfl) (by decide) (locs rfl) ?_
  intro h₁ t₁ hN hX
  have hL : G.get? h.objs.size = none := hG.fresh
  have hne : Hp ≠ h.objs.size := Nat.ne_of_lt hl.lt
  generalize h.objs.size = L at *
  refine wpAny_execs_cons (rSt (Subscript_ (rLoc hN rfl (rLoc hN rfl (rItem (hl.keeps hX).isList (by omega) (by omega) (by simpa using hnew) (rStore hN ?_))))))
  intro h₂ t₂ hN₂ hS₂
  have e2 : Ext G h₂ := (hG.trans hX).but hS₂ hL
  have l2 : PlainL h₂ Hp xs := (hl.keeps hX).extBut hS₂.extBut hne
  let I : Nat → Shared → Prop := fun n s => ∃ h t xs' m u1 u2, s = S σ h t ∧ Ext G h ∧ PlainL h Hp xs' ∧ xs'.size = xs.size ∧ n < xs.size ∧ (∀ v ∈ xs', P v) ∧ sd lt new xs' n = sd lt new xs pos ∧
    h.Ns L m ∧ m "heap" = some (.ref Hp) ∧ m "startpos" = some (.int 0 u1) ∧ m "pos" = some (.int n u2) ∧ m "newitem" = some new
  let J : Shared → Prop := fun s => ∃ h t xs' m p u2, s = S σ h t ∧ Ext G h ∧ PlainL h Hp xs' ∧ xs'.size = xs.size ∧ p < xs.size ∧ xs'.setIfInBounds p new = sd lt new xs pos ∧
    h.Ns L m ∧ m "heap" = some (.ref Hp) ∧ m "pos" = some (.int (p : Nat) u2) ∧ m "newitem" = some new
  refine wpAny_execs_cons (wpAny_While (codeAny_mono (R := fun r s' => r = .ok .next ∧ J s') (codeAny_whileLoop I ?turn pos ?init) ?after))
  case init => exact ⟨h₂, t₂, xs, _, t1, t2, rfl, e2, l2, rfl, hpos, hP, rfl, hN₂, st_ne rfl, st_ne rfl, st_ne rfl, st_eq⟩
  case after =>
    rintro r s' ⟨rfl, h₃, t₃, ys, m, p, u2, rfl, e3, l3, hs3, hp3, hfin, hN3, hm1, hm2, hm3⟩
    refine wpAny_execs_cons (wpAny_Assign_Subscript (rLoc hN3 hm3 (rLoc hN3 hm1 (rLoc hN3 hm2 (setItem_plainL l3 (by omega) (by omega) (by omega) ?_)))))
    intro h₄ l4 hs4
    refine wpAny_execs_nil (H _ _ (e3.but hs4 hHp) ?_)
    rw [← hfin]; exact l4
  case turn =>
    rintro n s ⟨h₃, t₃, ys, m, u1, u2, rfl, e3, l3, hs3, hn3, hP3, hfin, hN3, hm1, hm2, hm3, hm4⟩
    refine wpAny_isTrue_Compare1 (rLoc hN3 hm3 (rLoc hN3 hm2 (gt_int (wpAny_truthy_bool ?_))))
    by_cases h0 : 0 < n
    · have hb : decide ((0 : Int) < (n : Int)) = true := by simpa using h0
      rw [hb]
      simp only [if_true]
      have hpp : ((n : Int) - 1).fdiv (2 ^ (1 : Int).toNat) = (((n - 1) / 2 : Nat) : Int) := by
        show ((n : Int) - 1).fdiv (2 ^ 1) = _
        rw [show (2 : Int) ^ 1 = 2 from rfl, Int.fdiv_eq_ediv_of_nonneg _ (by omega)]
        omega
      have hq : (n - 1) / 2 < ys.size := by omega
      refine wpAny_execs_cons (rSt (wpAny_BinOp (wpAny_BinOp (rLoc hN3 hm3 (rInt fun _ _ => rSub fun _ _ => rInt fun _ _ => rShr (by omega) fun u3 _ => ?_)))))
      rw [hpp]
      refine rStore hN3 fun h₄ t₄ hN4 hs4 => ?_
      have e4 := e3.but hs4 hL
      have l4 := l3.extBut hs4.extBut hne
      refine wpAny_execs_cons (rSt (Subscript_ (rLoc hN4 (st_ne hm1) (rLoc hN4 st_eq (rItem l4.isList (by omega) (by omega) (by simp; exact Array.getElem?_eq_getElem hq) (rStore hN4 ?_))))))
      intro h₅ t₅ hN5 hs5
      have e5 := e4.but hs5 hL
      have l5 := l4.extBut hs5.extBut hne
      refine wpAny_execs_cons (wpAny_If (wpAny_isTrue_Compare1 (rLoc hN5 (st_ne (st_ne hm4)) (rLoc hN5 st_eq (hC _ _ ?_ ?_ _ e5 _ _ _ ?_ _ _ _ _ (wpAny_truthy_bool ?_))))))
      · exact hP _ (Array.mem_of_getElem? hnew)
      · exact hP3 _ (Array.getElem_mem hq)
      · show A.units + 3 + 20 < cLine; omega
      · have hgo : sd lt new ys n = if lt new ys[(n - 1) / 2] then sd lt new (ys.setIfInBounds n ys[(n - 1) / 2]) ((n - 1) / 2) else ys.setIfInBounds n new := by
          rw [sd_eq, dif_pos h0, Array.getElem?_eq_getElem hq]
        cases hb' : lt new ys[(n - 1) / 2] with
        | true =>
          rw [hb'] at hgo
          simp only [if_true] at hgo ⊢
          refine wpAny_execs_cons (wpAny_Assign_Subscript (rLoc hN5 st_eq (rLoc hN5 (st_ne (st_ne hm1)) (rLoc hN5 (st_ne (st_ne hm3)) (setItem_plainL l5 (by omega) (by omega) (by omega) ?_)))))
          intro h₆ l6 hs6
          have e6 := e5.but hs6 hHp
          have hN6 := hN5.sameBut hs6 (Ne.symm hne)
          refine wpAny_execs_cons (rSt (rLoc hN6 (st_ne st_eq) (rStore hN6 ?_)))
          intro h₇ t₇ hN7 hs7
          refine wpAny_execs_cons (wpAny_Continue ?_)
          refine ⟨(n - 1) / 2, by omega, h₇, t₇, _, _, u1, u3, rfl, e6.but hs7 hL, l6.extBut hs7.extBut hne, by simp [hs3], by omega, ?_, ?_, hN7, st_ne (st_ne (st_ne hm1)), st_ne (st_ne (st_ne hm2)), st_eq, st_ne (st_ne (st_ne hm4))⟩
          · exact all_set (hP3 _ (Array.getElem_mem hq)) hP3
          · rw [Int.toNat_natCast, ← hgo]; exact hfin
        | false =>
          rw [hb'] at hgo
          simp only [Bool.false_eq_true, if_false] at hgo ⊢
          refine wpAny_execs_nil (wpAny_execs_cons (wpAny_Break ?_))
          exact ⟨by first | rfl | trivial, h₅, t₅, ys, _, n, u2, rfl, e5, l5, hs3, hn3, hgo.symm.trans hfin, hN5, st_ne (st_ne hm1), st_ne (st_ne hm3), st_ne (st_ne hm4)⟩
    · have hb : decide ((0 : Int) < (n : Int)) = false := by simpa using h0
      rw [hb]
      simp only [Bool.false_eq_true, if_false]
      refine wpAny_execs_nil ⟨by first | rfl | trivial, h₃, t₃, ys, m, n, u2, rfl, e3, l3, hs3, hn3, ?_, hN3, hm1, hm3, hm4⟩
      rw [← hfin, sd_eq, dif_neg h0]
end
end Mine
end

section -- H2
open PySem PySem.W PyProof.Rows
namespace Mine
open AutoSeq1 (wpAny_loadPart')

theorem get_set {α : Type} {xs : Array α} {i : Nat} {x : α} (h : i < xs.size) : (xs.setIfInBounds i x)[i]? = some x := by simp [h]

noncomputable def suChild {α : Type} (lt : α → α → Bool) (xs : Array α) (pos : Nat) : Nat :=
  match xs[2 * pos + 1]?, xs[2 * pos + 2]? with
  | some a, some b => if lt a b then 2 * pos + 1 else 2 * pos + 2
  | _, _ => 2 * pos + 1

theorem suChild_gt {α : Type} (lt : α → α → Bool) (xs : Array α) (pos : Nat) : 2 * pos + 1 ≤ suChild lt xs pos ∧ suChild lt xs pos ≤ 2 * pos + 2 := by
  unfold suChild
  split
  · split <;> omega
  · omega
theorem suChild_lt {α : Type} (lt : α → α → Bool) (xs : Array α) (pos : Nat) (h : 2 * pos + 1 < xs.size) : suChild lt xs pos < xs.size := by
  unfold suChild
  split
  · rename_i a b h1 h2
    have := (Array.getElem?_eq_some_iff.mp h2).1
    split <;> omega
  · omega

theorem suGo_down {α : Type} (lt : α → α → Bool) (xs : Array α) (pos : Nat) (v : α) (h : 2 * pos + 1 < xs.size) : (xs.setIfInBounds pos v).size - suChild lt xs pos < xs.size - pos := by
  have := suChild_gt lt xs pos
  rw [Array.size_setIfInBounds]; omega
noncomputable def suStep {α : Type} (lt : α → α → Bool) (x : Array α × Nat) (go : ∀ y : Array α × Nat, y.1.size - y.2 < x.1.size - x.2 → Array α × Nat) : Array α × Nat :=
  if h : 2 * x.2 + 1 < x.1.size then
    match x.1[suChild lt x.1 x.2]? with
    | some v => go (x.1.setIfInBounds x.2 v, suChild lt x.1 x.2) (suGo_down lt x.1 x.2 v h)
    | none => (x.1, x.2)
  else (x.1, x.2)
noncomputable def suGo {α : Type} (lt : α → α → Bool) (xs : Array α) (pos : Nat) : Array α × Nat :=
  WellFounded.fix (C := fun _ => Array α × Nat) (measure fun x : Array α × Nat => x.1.size - x.2).wf (suStep lt) (xs, pos)
theorem suGo_eq {α : Type} (lt : α → α → Bool) (xs : Array α) (pos : Nat) : suGo lt xs pos = if _ : 2 * pos + 1 < xs.size then
    match xs[suChild lt xs pos]? with
    | some v => suGo lt (xs.setIfInBounds pos v) (suChild lt xs pos)
    | none => (xs, pos)
  else (xs, pos) := by
  unfold suGo
  rw [WellFounded.fix_eq]
  rfl

noncomputable def su {α : Type} (lt : α → α → Bool) (new : α) (xs : Array α) : Array α :=
  sd lt new ((suGo lt xs 0).1.setIfInBounds (suGo lt xs 0).2 new) (suGo lt xs 0).2

section
variable {prog : Program} {w : World} {A : Around} {E : Value → Shared → Prop} {σ : Shared} {h : Heap} {t : Nat} {env : Env} {Q : Value → Shared → Prop}

theorem rLen {l : Addr} {items : Array Value} (hl : h.IsList l items) (hfit : items.size < 2 ^ 62) (H : ∀ u t', Q (.int items.size u) (S σ h t')) :
    wpAny (model prog w) A (call (.builtin "len") [.ref l]) Q E (S σ h t) := Calls.call_len_list (s := S σ h t) hl (by omega) (H _ _)

theorem rMethod {l : Addr} {items : Array Value} {name : Str} {id : String} {pl : Sem Bool} {QM : Value × List Value → Shared → Prop} (hl : PlainL h l items) (slot : Slot "list" name id) (hty : typeOf (.builtin id) = pure (.type "method_descriptor"))
    (H : QM (.builtin id, [.ref l]) (S σ h t)) : wpAny (model prog w) A (getMethod (.ref l) name pl) QM E (S σ h t) :=
  getMethod_builtin (s := S σ h t) (Heap.IsList.typeIs (s := S σ h t) hl.isList) F.plainAttrs_list slot hty (fun a ha => by cases ha; obtain ⟨o, n, e, _, d, _⟩ := hl; exact ⟨o, e, d⟩) H

theorem rAppend {l : Addr} {items : Array Value} {x : Value} (hl : PlainL h l items) (hsz : items.size < 100000)
    (H : ∀ h', PlainL h' l (items.push x) → Heap.SameBut l h h' → Q .none (S σ h' t)) : wpAny (model prog w) A (call (.builtin "list.append") [.ref l, x]) Q E (S σ h t) :=
  list_append_plainL (s := S σ h t) hl H (by rw [sizeLine_eq]; omega)

theorem rPop {l : Addr} {items : Array Value} {x : Value} (hl : PlainL h l (items.push x)) (hsz : items.size < 100000)
    (H : ∀ h', PlainL h' l items → Heap.SameBut l h h' → Q x (S σ h' t)) : wpAny (model prog w) A (call (.builtin "list.pop") [.ref l]) Q E (S σ h t) := by
  obtain ⟨o, n, ho, hc, hdn, hd⟩ := id hl
  have hT : (S σ h t).TypeIs (.ref l) "list" := Heap.IsList.typeIs (s := S σ h t) hl.isList
  refine wpAny_call_entry F.slot_list_pop hT F.entry_list_pop ?_ (F.args_list_pop_1 _)
  obtain ⟨c, d, dt, sl⟩ := o
  simp only at hc hdn hd
  subst hc hdn hd
  obtain ⟨n', hd'⟩ := Obj.data_mapSeq (o := ⟨.type "list", none, .seq (items.push x) n, sl⟩) rfl (·.eraseIdxIfInBounds items.size)
  have her : (items.push x).eraseIdxIfInBounds items.size = items := by
    rw [Array.eraseIdxIfInBounds, dif_pos (by simp)]
    apply Array.ext
    · simp
    · intro i h1 h2
      simp [Array.getElem_eraseIdx, h2, Array.getElem_push]
  rw [her] at hd'
  have hfin : PlainL (h.update l (Obj.mapSeq (·.eraseIdxIfInBounds items.size))) l items :=
    ⟨_, n', Heap.get?_update_self _ ho (Obj.isFreed_of_seq hd'), (Obj.cls_mapSeq ..).trans rfl, rfl, hd'⟩
  have hm : ((seqIndex? (-1) (items.push x).size).bind fun k => Option.map (fun x => (k, x)) (items.push x)[k]?) = some (items.size, x) := by
    have : seqIndex? (-1) (items.push x).size = some items.size := by
      unfold seqIndex?
      simp
      omega
    rw [this]
    simp
  wp_walk using wpAny_loadPart' ho
  rw [hm]
  refine wpAny_bind (listUpdate_at (s := S σ h t) ho rfl ?_ (by rw [sizeLine_eq, Array.size_push]; omega) (by rw [her, sizeLine_eq]; omega))
  exact wpAny_pure ⟨x, rfl, H _ hfin (Heap.SameBut.update ..)⟩

theorem siftup_call {G : Heap} {Hp : Addr} {xs : Array Value} {t1 : Tok} {lt : Value → Value → Bool} {P : Value → Prop} {new : Value}
    (B : Base w G) (hG : Ext G h) (hHp : G.get? Hp = none) (hl : PlainL h Hp xs) (hsz : xs.size < 1000) (hnew : xs[0]? = some new)
    (hC : CmpOn G lt P) (hP : ∀ v ∈ xs, P v) (hd : A.depth + 10 < recursionLimit) (hu : A.units + 60 < cLine)
    (H : ∀ h' t', Ext G h' → PlainL h' Hp (su lt new xs) → Q .none (S σ h' t')) :
    wpAny (model prog w) A (call (.ref 86) [.ref Hp, .int 0 t1]) Q E (S σ h t) := by
  have hpos : 0 < xs.size := (Array.getElem?_eq_some_iff.mp hnew).1
  refine enterFn (binds := [("heap", .ref Hp), ("pos", .int 0 t1)]) (by omega) (B.ext hG) (hG _ _ (B.X 86 _ rfl)) rfl ⟨85, _, _, _, rfl, hG _ _ (B.X 85 _ rfl), rfl, rfl⟩ rfl (BindsTo.of_eq rfl) (by decide) (locs rfl) ?_
  intro h₁ t₁ hN hX
  have hL : G.get? h.objs.size = none := hG.fresh
  have hne : Hp ≠ h.objs.size := Nat.ne_of_lt hl.lt
  generalize h.objs.size = L at *
  have e1 : Ext G h₁ := hG.trans hX
  have l1 : PlainL h₁ Hp xs := hl.keeps hX
  -- endpos = len(heap)
  refine wpAny_execs_cons (rSt (Call_ (rBuilt (B.ext e1) (by kernel_rfl) boot_len (cwB (args_cons (rLoc hN rfl (args_nil (rLen l1.isList (by omega) fun u _ => rStore hN ?_))))))))
  intro h₂ t₂ hN₂ hs₂
  have e2 := e1.but hs₂ hL
  have l2 := l1.extBut hs₂.extBut hne
  -- startpos = pos
  refine wpAny_execs_cons (rSt (rLoc hN₂ (st_ne rfl) (rStore hN₂ ?_)))
  intro h₃ t₃ hN₃ hs₃
  have e3 := e2.but hs₃ hL
  have l3 := l2.extBut hs₃.extBut hne
  -- newitem = heap[pos]
  refine wpAny_execs_cons (rSt (Subscript_ (rLoc hN₃ (st_ne (st_ne rfl)) (rLoc hN₃ (st_ne (st_ne rfl)) (rItem l3.isList (by omega) (by omega) hnew (rStore hN₃ ?_))))))
  intro h₄ t₄ hN₄ hs₄
  have e4 := e3.but hs₄ hL
  have l4 := l3.extBut hs₄.extBut hne
  -- childpos = 2 * pos + 1
  refine wpAny_execs_cons (rSt (wpAny_BinOp (wpAny_BinOp (rInt fun _ _ => rLoc hN₄ (st_ne (st_ne (st_ne rfl))) (rMul (by mul_fits) fun _ _ => rInt fun _ _ => rAdd fun _ _ => rStore hN₄ ?_)))))
  intro h₅ t₅ hN₅ hs₅
  have e5 := e4.but hs₅ hL
  have l5 := l4.extBut hs₅.extBut hne
  let I : Nat → Shared → Prop := fun n s => ∃ h t ys m p u1 u2 u3 u4, n = xs.size - p ∧ s = S σ h t ∧ Ext G h ∧ PlainL h Hp ys ∧ ys.size = xs.size ∧ p < xs.size ∧ (∀ v ∈ ys, P v) ∧ suGo lt ys p = suGo lt xs 0 ∧
    h.Ns L m ∧ m "heap" = some (.ref Hp) ∧ m "endpos" = some (.int (xs.size : Nat) u1) ∧ m "startpos" = some (.int 0 u2) ∧ m "newitem" = some new ∧ m "pos" = some (.int (p : Nat) u3) ∧ m "childpos" = some (.int ((2 * p + 1 : Nat) : Int) u4)
  let J : Shared → Prop := fun s => ∃ h t ys m p u2 u3, s = S σ h t ∧ Ext G h ∧ PlainL h Hp ys ∧ ys.size = xs.size ∧ p < xs.size ∧ (∀ v ∈ ys, P v) ∧ suGo lt xs 0 = (ys, p) ∧
    h.Ns L m ∧ m "heap" = some (.ref Hp) ∧ m "startpos" = some (.int 0 u2) ∧ m "newitem" = some new ∧ m "pos" = some (.int (p : Nat) u3)
  refine wpAny_execs_cons (wpAny_While (codeAny_mono (R := fun r s' => r = .ok .next ∧ J s') (codeAny_whileLoop I ?turn (xs.size - 0) ?init) ?after))
  case init => exact ⟨h₅, t₅, xs, _, 0, _, _, _, _, rfl, rfl, e5, l5, rfl, hpos, hP, rfl, hN₅, st_ne (st_ne (st_ne (st_ne rfl))), st_ne (st_ne (st_ne st_eq)), st_ne (st_ne st_eq), st_ne st_eq, st_ne (st_ne (st_ne (st_ne rfl))), st_eq⟩
  case after =>
    rintro r s' ⟨rfl, h₆, t₆, ys, m, p, u2, u3, rfl, e6, l6, hs6, hp6, hP6, hfin, hN6, hm1, hm2, hm3, hm4⟩
    refine wpAny_execs_cons (wpAny_Assign_Subscript (rLoc hN6 hm3 (rLoc hN6 hm1 (rLoc hN6 hm4 (setItem_plainL l6 (by omega) (by omega) (by omega) ?_)))))
    intro h₇ l7 hs7
    have e7 := e6.but hs7 hHp
    have hN7 := hN6.sameBut hs7 (Ne.symm hne)
    refine wpAny_execs_cons (wpAny_Expr (Call_ (rGlob (B.ext e7) (by kernel_rfl) (cwD (e7 _ _ (B.X 79 _ rfl)) rfl (args_cons (rLoc hN7 hm1 (args_cons (rLoc hN7 hm2 (args_cons (rLoc hN7 hm4 (args_nil ⟨e7 _ _ (B.X 79 _ rfl), ?_⟩)))))))))))
    refine siftdown_call (new := new) B e7 hHp l7 (by simp; omega) (get_set (by omega)) hC (all_set (hP _ (Array.mem_of_getElem? hnew)) hP6) (by show A.depth + 1 + 5 < _; omega) (by show A.units + 3 + 40 < _; omega) ?_
    intro h₈ t₈ e8 l8
    refine wpAny_execs_nil (H _ _ e8 ?_)
    unfold su
    rw [hfin]; exact l8
  case turn =>
    rintro n s ⟨h₆, t₆, ys, m, p, u1, u2, u3, u4, rfl, rfl, e6, l6, hs6, hp6, hP6, hfin, hN6, hm1, hm2, hm3, hm4, hm5, hm6⟩
    refine wpAny_isTrue_Compare1 (rLoc hN6 hm6 (rLoc hN6 hm2 (lt_int (wpAny_truthy_bool ?_))))
    by_cases h0 : 2 * p + 1 < xs.size
    · have hb : decide (((2 * p + 1 : Nat) : Int) < (xs.size : Int)) = true := by simp; omega
      rw [hb]
      simp only [if_true]
      -- rightpos = childpos + 1
      refine wpAny_execs_cons (rSt (wpAny_BinOp (rLoc hN6 hm6 (rInt fun _ _ => rAdd fun u5 _ => rStore hN6 ?_))))
      intro h₇ t₇ hN7 hs7
      have e7 := e6.but hs7 hL
      have l7 := l6.extBut hs7.extBut hne
      let Mid : Shared → Prop := fun s => ∃ h t m u u1 u2 u3, s = S σ h t ∧ Ext G h ∧ PlainL h Hp ys ∧ h.Ns L m ∧ m "heap" = some (.ref Hp) ∧ m "endpos" = some (.int (xs.size : Nat) u1) ∧ m "startpos" = some (.int 0 u2) ∧ m "newitem" = some new ∧
        m "pos" = some (.int (p : Nat) u3) ∧ m "childpos" = some (.int ((suChild lt ys p : Nat) : Int) u)
      refine wpAny_execs_cons (wpAny_mono (Q := fun f s => f = .next ∧ Mid s) (wpAny_If (wpAny_isTrue_BoolOp (wpAny_allTrue_And_cons (wpAny_isTrue_Compare1 (rLoc hN7 st_eq (rLoc hN7 (st_ne hm2) (lt_int (wpAny_truthy_bool ?_)))))))) ?_ (fun _ _ x => x))
      · have hy1 : ys[2 * p + 1]? = some ys[2 * p + 1] := Array.getElem?_eq_getElem (by omega)
        by_cases h1 : 2 * p + 2 < xs.size
        · have hb1 : decide (((2 * p + 1 : Nat) : Int) + 1 < (xs.size : Int)) = true := by simp; omega
          have hy2 : ys[2 * p + 2]? = some ys[2 * p + 2] := Array.getElem?_eq_getElem (by omega)
          have hc : suChild lt ys p = if lt ys[2 * p + 1] ys[2 * p + 2] then 2 * p + 1 else 2 * p + 2 := by
            unfold suChild; rw [hy1, hy2]
          rw [hb1]
          simp only [if_true]
          refine wpAny_allTrue_And_cons (wpAny_isTrue_Not (wpAny_isTrue_Compare1 (Subscript_ (rLoc hN7 (st_ne hm1) (rLoc hN7 (st_ne hm6) (rItem l7.isList (by omega) (by omega) hy1 ?_))))))
          refine Subscript_ (rLoc hN7 (st_ne hm1) (rLoc hN7 st_eq (rItem (v := ys[2 * p + 2]) l7.isList (by omega) (by omega) ?_ (hC _ _ ?_ ?_ _ e7 _ _ _ ?_ _ _ _ _ (wpAny_truthy_bool ?_)))))
          · rw [show (((2 * p + 1 : Nat) : Int) + 1).toNat = 2 * p + 2 by omega]; exact hy2
          · exact hP6 _ (Array.getElem_mem _)
          · exact hP6 _ (Array.getElem_mem _)
          · show A.units + 3 + 20 < cLine; omega
          · cases hb2 : lt ys[2 * p + 1] ys[2 * p + 2] with
            | true =>
              rw [hb2] at hc
              simp only [Bool.not_true, Bool.false_eq_true, if_false, if_true] at hc ⊢
              refine wpAny_execs_nil ⟨by first | rfl | trivial, h₇, t₇, _, u4, u1, u2, u3, rfl, e7, l7, hN7, st_ne hm1, st_ne hm2, st_ne hm3, st_ne hm4, st_ne hm5, ?_⟩
              rw [hc]; exact st_ne hm6
            | false =>
              rw [hb2] at hc
              simp only [Bool.not_false, Bool.false_eq_true, if_false, if_true] at hc ⊢
              refine wpAny_allTrue_And_nil ?_
              simp only [if_true]
              refine wpAny_execs_cons (rSt (rLoc hN7 st_eq (rStore hN7 ?_)))
              intro h₈ t₈ hN8 hs8
              refine wpAny_execs_nil ⟨by first | rfl | trivial, h₈, t₈, _, u5, u1, u2, u3, rfl, e7.but hs8 hL, l7.extBut hs8.extBut hne, hN8, st_ne (st_ne hm1), st_ne (st_ne hm2), st_ne (st_ne hm3), st_ne (st_ne hm4), st_ne (st_ne hm5), ?_⟩
              rw [hc, show ((2 * p + 2 : Nat) : Int) = ((2 * p + 1 : Nat) : Int) + 1 by omega]; exact st_eq
        · have hb1 : decide (((2 * p + 1 : Nat) : Int) + 1 < (xs.size : Int)) = false := by simp; omega
          rw [hb1]
          have hy2 : ys[2 * p + 2]? = none := Array.getElem?_eq_none (by omega)
          have hc : suChild lt ys p = 2 * p + 1 := by unfold suChild; rw [hy1, hy2]
          simp only [Bool.false_eq_true, if_false]
          refine wpAny_execs_nil ⟨by first | rfl | trivial, h₇, t₇, _, u4, u1, u2, u3, rfl, e7, l7, hN7, st_ne hm1, st_ne hm2, st_ne hm3, st_ne hm4, st_ne hm5, ?_⟩
          rw [hc]; exact st_ne hm6
      · rintro f s' ⟨rfl, h₈, t₈, m8, v4, v1, v2, v3, rfl, e8, l8, hN8, k1, k2, k3, k4, k5, k6⟩
        have hcl : suChild lt ys p < ys.size := suChild_lt lt ys p (by omega)
        have hcg := suChild_gt lt ys p
        have hyc : ys[suChild lt ys p]? = some ys[suChild lt ys p] := Array.getElem?_eq_getElem hcl
        have hgo : suGo lt ys p = suGo lt (ys.setIfInBounds p ys[suChild lt ys p]) (suChild lt ys p) := by
          rw [suGo_eq, dif_pos (by omega), hyc]
        refine wpAny_execs_cons (wpAny_Assign_Subscript (Subscript_ (rLoc hN8 k1 (rLoc hN8 k6 (rItem l8.isList (by omega) (by omega) hyc (rLoc hN8 k1 (rLoc hN8 k5 (setItem_plainL l8 (by omega) (by omega) (by omega) ?_))))))))
        intro h₉ l9 hs9
        have e9 := e8.but hs9 hHp
        have hN9 := hN8.sameBut hs9 (Ne.symm hne)
        refine wpAny_execs_cons (rSt (rLoc hN9 k6 (rStore hN9 ?_)))
        intro h₁₀ t₁₀ hN10 hs10
        have e10 := e9.but hs10 hL
        have l10 := l9.extBut hs10.extBut hne
        refine wpAny_execs_cons (rSt (wpAny_BinOp (wpAny_BinOp (rInt fun _ _ => rLoc hN10 st_eq (rMul (by mul_fits) fun _ _ => rInt fun _ _ => rAdd fun u6 _ => ?_)))))
        rw [show (2 : Int) * (suChild lt ys p : Nat) + 1 = ((2 * suChild lt ys p + 1 : Nat) : Int) by push_cast; rfl]
        refine rStore hN10 fun h₁₁ t₁₁ hN11 hs11 => wpAny_execs_nil ?_
        refine ⟨xs.size - suChild lt ys p, by omega, h₁₁, t₁₁, _, _, suChild lt ys p, v1, v2, v4, u6, rfl, rfl, e10.but hs11 hL, l10.extBut hs11.extBut hne, by simp [hs6], by omega, ?_, ?_, hN11, st_ne (st_ne k1), st_ne (st_ne k2), st_ne (st_ne k3), st_ne (st_ne k4), st_ne st_eq, st_eq⟩
        · exact all_set (hP6 _ (Array.getElem_mem _)) hP6
        · rw [Int.toNat_natCast, ← hgo]; exact hfin
    · have hb : decide (((2 * p + 1 : Nat) : Int) < (xs.size : Int)) = false := by simp; omega
      rw [hb]
      simp only [Bool.false_eq_true, if_false]
      refine wpAny_execs_nil ⟨by first | rfl | trivial, h₆, t₆, ys, m, p, u2, u3, rfl, e6, l6, hs6, hp6, hP6, ?_, hN6, hm1, hm3, hm4, hm5⟩
      rw [← hfin, suGo_eq, dif_neg (by omega)]
end
end Mine
end

section -- H3
open PySem PySem.W PyProof.Rows
namespace Mine

/-- the heap without one object -/
noncomputable def dropAt (h : Heap) (a : Addr) : Heap := h.update a (fun o => { o with data := .freed })
theorem dropAt_same (h : Heap) (a : Addr) : Heap.SameBut a h (dropAt h a) := Heap.SameBut.update ..
theorem dropAt_self (h : Heap) (a : Addr) : (dropAt h a).get? a = none := by
  cases hq : (dropAt h a).get? a with
  | none => rfl
  | some o =>
    obtain ⟨e1, e2⟩ := Heap.get?_some_iff.mp hq
    cases h
    simp only [dropAt, Heap.update, Array.getElem?_modify, if_true] at e1
    rename_i objs l
    cases ho : objs[a]? with
    | none => rw [ho] at e1; cases e1
    | some o' => rw [ho] at e1; cases e1; cases e2
theorem dropAt_ext (h : Heap) (a : Addr) : Ext (dropAt h a) h := fun b o e => by
  have hb : b ≠ a := fun hb => by subst hb; rw [dropAt_self] at e; cases e
  rw [← (dropAt_same h a).2 b hb]; exact e
theorem Ext.drop {G h : Heap} {a : Addr} (hG : Ext G h) (hg : G.get? a = none) : Ext G (dropAt h a) := hG.but (dropAt_same h a) hg
theorem CmpOn.mono {G G' : Heap} {lt : Value → Value → Bool} {P : Value → Prop} (x : CmpOn G lt P) (e : Ext G G') : CmpOn G' lt P := fun v v' p p' h eh => x v v' p p' h (e.trans eh)

section
variable {prog : Program} {w : World} {A : Around} {E : Value → Shared → Prop} {σ : Shared} {h : Heap} {t : Nat} {env : Env} {Q : Value → Shared → Prop}

theorem heappush_call {G : Heap} {Hp : Addr} {xs : Array Value} {lt : Value → Value → Bool} {P : Value → Prop} {new : Value}
    (B : Base w G) (hG : Ext G h) (hHp : G.get? Hp = none) (hl : PlainL h Hp xs) (hsz : xs.size < 500)
    (hC : CmpOn G lt P) (hP : ∀ v ∈ xs, P v) (hPn : P new) (hd : A.depth + 20 < recursionLimit) (hu : A.units + 80 < cLine)
    (H : ∀ h' t', Ext G h' → PlainL h' Hp (sd lt new (xs.push new) xs.size) → Q .none (S σ h' t')) :
    wpAny (model prog w) A (call (.ref 65) [.ref Hp, new]) Q E (S σ h t) := by
  refine enterFn (binds := [("heap", .ref Hp), ("item", new)]) (by omega) (B.ext hG) (hG _ _ (B.X 65 _ rfl)) rfl ⟨64, _, _, _, rfl, hG _ _ (B.X 64 _ rfl), rfl, rfl⟩ rfl (BindsTo.of_eq rfl) (by decide) (locs rfl) ?_
  intro h₁ t₁ hN hX
  have hL : G.get? h.objs.size = none := hG.fresh
  have hne : Hp ≠ h.objs.size := Nat.ne_of_lt hl.lt
  generalize h.objs.size = L at *
  have e1 : Ext G h₁ := hG.trans hX
  have l1 : PlainL h₁ Hp xs := hl.keeps hX
  refine wpAny_execs_cons (wpAny_Expr (MethodCall_ (rLoc hN rfl (rMethod l1 F.slot_list_append F.type_list_append (cwM (args_cons (rLoc hN rfl (args_nil (rAppend l1 (by omega) ?_)))))))))
  intro h₂ l2 hs₂
  have e2 := e1.but hs₂ hHp
  have hN2 := hN.sameBut hs₂ (Ne.symm hne)
  refine wpAny_execs_cons (wpAny_Expr (Call_ (rGlob (B.ext e2) (by kernel_rfl) (cwD (e2 _ _ (B.X 79 _ rfl)) rfl (args_cons (rLoc hN2 rfl (args_cons (rInt fun _ _ => args_cons (wpAny_BinOp ?_)))))))))
  refine Call_ (rBuilt (B.ext e2) (by kernel_rfl) boot_len (cwB (args_cons (rLoc hN2 rfl (args_nil (rLen l2.isList (by simp; omega) fun u _ => rInt fun _ _ => rSub fun _ _ => args_nil ⟨e2 _ _ (B.X 79 _ rfl), ?_⟩))))))
  rw [show ((xs.push new).size : Int) - 1 = (xs.size : Int) by simp]
  refine siftdown_call (new := new) B e2 hHp l2 (by simp; omega) (by simp) hC ?_ (by show A.depth + 1 + 5 < _; omega) (by show A.units + 3 + 40 < _; omega) ?_
  · intro v hv
    rcases Array.mem_push.mp hv with hv | rfl
    · exact hP v hv
    · exact hPn
  · intro h₃ t₃ e3 l3
    exact wpAny_execs_nil (H _ _ e3 l3)

/-- what heappop leaves -/
noncomputable def popRest {α : Type} (lt : α → α → Bool) (ys : Array α) (last : α) : Array α := if ys.size = 0 then ys else su lt last (ys.setIfInBounds 0 last)
/-- what heappop hands back -/
noncomputable def popTop {α : Type} (ys : Array α) (last : α) : α := ys[0]?.getD last

theorem heappop_call {G : Heap} {Hp : Addr} {ys : Array Value} {last : Value} {lt : Value → Value → Bool} {P : Value → Prop}
    (B : Base w G) (hG : Ext G h) (hHp : G.get? Hp = none) (hl : PlainL h Hp (ys.push last)) (hsz : ys.size < 500)
    (hC : CmpOn G lt P) (hP : ∀ v ∈ ys.push last, P v) (hd : A.depth + 20 < recursionLimit) (hu : A.units + 80 < cLine)
    (H : ∀ h' t', Ext G h' → PlainL h' Hp (popRest lt ys last) → Q (popTop ys last) (S σ h' t')) :
    wpAny (model prog w) A (call (.ref 72) [.ref Hp]) Q E (S σ h t) := by
  refine enterFn (binds := [("heap", .ref Hp)]) (by omega) (B.ext hG) (hG _ _ (B.X 72 _ rfl)) rfl ⟨71, _, _, _, rfl, hG _ _ (B.X 71 _ rfl), rfl, rfl⟩ rfl (BindsTo.of_eq rfl) (by decide) (locs rfl) ?_
  intro h₁ t₁ hN hX
  have hL : G.get? h.objs.size = none := hG.fresh
  have hne : Hp ≠ h.objs.size := Nat.ne_of_lt hl.lt
  generalize h.objs.size = L at *
  have e1 : Ext G h₁ := hG.trans hX
  have l1 : PlainL h₁ Hp (ys.push last) := hl.keeps hX
  refine wpAny_execs_cons (rSt (MethodCall_ (rLoc hN rfl (rMethod l1 F.slot_list_pop F.type_list_pop (callWith_method0 (rPop l1 (by omega) ?_))))))
  intro h₂ l2 hs₂
  have e2 := e1.but hs₂ hHp
  have hN2 := hN.sameBut hs₂ (Ne.symm hne)
  refine rStore hN2 fun h₃ t₃ hN3 hs₃ => ?_
  have e3 := e2.but hs₃ hL
  have l3 := l2.extBut hs₃.extBut hne
  refine wpAny_execs_cons (wpAny_If (wpAny_isTrue_value (rLoc hN3 (st_ne rfl) (wpAny_truthy_list (s := S σ h₃ t₃) l3.isList (by omega) ?_))))
  by_cases h0 : ys.size = 0
  · have hb : (!ys.isEmpty) = false := by simp [Array.isEmpty, h0]
    rw [hb]
    simp only [Bool.false_eq_true, if_false]
    refine wpAny_execs_nil (wpAny_execs_cons (wpAny_Return_some ?_))
    refine rLoc (t := t₃ + 1 + 1) hN3 st_eq ?_
    have he : ys = #[] := Array.eq_empty_of_size_eq_zero h0
    have := H h₃ (t₃ + 1 + 1) e3
    unfold popRest popTop at this
    rw [if_pos h0] at this
    subst he
    exact this l3
  · have hb : (!ys.isEmpty) = true := by simp [Array.isEmpty, h0]
    rw [hb]
    simp only [if_true]
    have hy0 : ys[0]? = some ys[0] := Array.getElem?_eq_getElem (by omega)
    refine wpAny_execs_cons (rSt (t := t₃ + 1 + 1) (Subscript_ (rLoc hN3 (st_ne rfl) (rInt fun _ _ => rItem l3.isList (by omega) (by omega) hy0 (rStore hN3 ?_)))))
    intro h₄ t₄ hN4 hs₄
    have e4 := e3.but hs₄ hL
    have l4 := l3.extBut hs₄.extBut hne
    refine wpAny_execs_cons (wpAny_Assign_Subscript (rLoc hN4 (st_ne st_eq) (rLoc hN4 (st_ne (st_ne rfl)) (rInt fun _ _ => setItem_plainL l4 (by omega) (by omega) (by omega) ?_))))
    intro h₅ l5 hs₅
    have e5 := e4.but hs₅ hHp
    have hN5 := hN4.sameBut hs₅ (Ne.symm hne)
    refine wpAny_execs_cons (wpAny_Expr (Call_ (rGlob (B.ext e5) (by kernel_rfl) (cwD (e5 _ _ (B.X 86 _ rfl)) rfl (args_cons (rLoc hN5 (st_ne (st_ne rfl)) (args_cons (rInt fun _ _ => args_nil ⟨e5 _ _ (B.X 86 _ rfl), ?_⟩))))))))
    have hPl : P last := hP _ (by simp)
    have hPy : ∀ v ∈ ys, P v := fun v hv => hP v (by simp [hv])
    have hGd : Ext G (dropAt h₅ Hp) := e5.drop hHp
    refine siftup_call (new := last) (B.ext hGd) (dropAt_ext h₅ Hp) (dropAt_self h₅ Hp) l5 (by simp; omega) (get_set (by omega)) (hC.mono hGd) (all_set hPl hPy) (by show A.depth + 1 + 10 < _; omega) (by show A.units + 3 + 60 < _; omega) ?_
    intro h₆ t₆ e6 l6
    have hN6 : h₆.Ns L _ := ((hN5.sameBut (dropAt_same h₅ Hp) (Ne.symm hne))).keeps e6
    refine wpAny_execs_cons (wpAny_Return_some (rLoc hN6 st_eq ?_))
    have := H h₆ t₆ (hGd.trans e6)
    unfold popRest popTop at this
    rw [if_neg h0, hy0] at this
    exact this l6
end
end Mine
end

section -- F1
open PySem PySem.W PyProof.Rows
namespace Mine

noncomputable def drops (h : Heap) (M : List Addr) : Heap := M.foldl dropAt h
theorem drops_ext : ∀ (M : List Addr) (h : Heap), Ext (drops h M) h
  | [], h => Ext.refl h
  | a :: r, h => (drops_ext r (dropAt h a)).trans (dropAt_ext h a)
theorem Ext.drops {G : Heap} : ∀ (M : List Addr) {h : Heap}, Ext G h → (∀ a ∈ M, G.get? a = none) → Ext G (drops h M)
  | [], _, hG, _ => hG
  | a :: r, h, hG, hM => Ext.drops r (hG.drop (hM a (by simp))) (fun b hb => hM b (by simp [hb]))
theorem drops_none : ∀ (M : List Addr) (h : Heap), ∀ a ∈ M, (drops h M).get? a = none
  | [], _, _, ha => absurd ha List.not_mem_nil
  | b :: r, h, a, ha => by
    show (drops (dropAt h b) r).get? a = none
    rcases List.mem_cons.mp ha with rfl | ha
    · cases hq : (drops (dropAt h a) r).get? a with
      | none => rfl
      | some o =>
        have := drops_ext r (dropAt h a) a o hq
        rw [dropAt_self] at this; cases this
    · exact drops_none r _ a ha
theorem drops_keep : ∀ (M : List Addr) (h : Heap) (b : Addr) (o : Obj), b ∉ M → h.get? b = some o → (drops h M).get? b = some o
  | [], _, _, _, _, e => e
  | a :: r, h, b, o, hb, e => drops_keep r (dropAt h a) b o (fun x => hb (by simp [x])) (((dropAt_same h a).2 b (fun x => hb (by simp [x]))).trans e)

section
variable {prog : Program} {w : World} {A : Around} {E : Value → Shared → Prop} {σ : Shared} {h : Heap} {t : Nat} {env : Env} {Q : Value → Shared → Prop}

/-- a for loop over anything that walks: Inv speaks of the addresses M alone, all else stands in G -/
theorem forLoop_walk {target : Expr} {body : List Stmt} {I : Addr} {fp wr : List Addr} {n : Nat} {P : Nat → Value → Prop} {St : Nat → Heap → Prop} {R : Result → Shared → Prop}
    {G : Heap} (M : List Addr) (Inv : Nat → Heap → Prop)
    (W : Walks prog w A I fp wr n P St) (hMf : ∀ a ∈ M, a ∉ fp)
    (stab : ∀ i h h', (∀ a ∈ M, ∀ o, h.get? a = some o → h'.get? a = some o) → Inv i h → Inv i h')
    (hG : Ext G h) (hGM : ∀ a ∈ M, G.get? a = none) (hGwr : ∀ b ∈ wr, G.get? b = none) (hst : St 0 h) (hI : Inv 0 h)
    (turn : ∀ i v G' h t, i < n → P i v → Ext G G' → (∀ a ∈ M, G'.get? a = none) → Ext G' h → Inv i h →
      wpAny (model prog w) A (assign target env v) (fun _ s₁ => wpAny (model prog w) A (execs body env)
        (fun f s' => (f = .next ∨ f = .cont) ∧ ∃ h' t', s' = S σ h' t' ∧ Ext G' h' ∧ Inv (i + 1) h') (fun _ _ => False) s₁) (fun _ _ => False) (S σ h t))
    (fin : ∀ h t, Ext G h → Inv n h → R (.ok .next) (S σ h t))
    (hlo : ∀ v, letOwnedTupleGo target (.ref I) v = pure () := by intros; rfl) :
    codeAny (model prog w) A (.forLoop target (.ref I) body [] env) R (S σ h t) := by
  have hMw : ∀ a ∈ M, a ∉ wr := fun a ha hw => hMf a ha (W.sub a hw)
  refine codeAny_forLoop_any (fun k s => ∃ h t i, s = S σ h t ∧ i ≤ n ∧ k = n - i ∧ Ext G h ∧ St i h ∧ Inv i h) ?_ (n - 0) ⟨h, t, 0, rfl, Nat.zero_le _, rfl, hG, hst, hI⟩
  rintro k s ⟨h, t, i, rfl, hi, rfl, hG, hst, hI⟩
  by_cases hin : i < n
  · refine W.item i (S σ h t) _ _ hin hst (fun v h₁ t₁ hP hst₁ hk => ?_)
    refine wpAny_of_eq (a := ()) (hlo v) ?_
    have hG₁ : Ext G h₁ := fun b o e => hk b o (fun hb => by rw [hGwr b hb] at e; cases e) (hG b o e)
    have hI₁ : Inv i h₁ := stab i h h₁ (fun a ha o e => hk a o (hMw a ha) e) hI
    refine wpAny_mono (turn i v (drops h₁ M) h₁ t₁ hin hP (hG₁.drops M hGM) (drops_none M h₁) (drops_ext M h₁) hI₁) (fun _ s₁ hs₁ => wpAny_mono hs₁ ?_ (fun _ _ x => x.elim)) (fun _ _ x => x.elim)
    rintro f s' ⟨hf, h₂, t₂, rfl, e₂, hI₂⟩
    have hst₂ : St (i + 1) h₂ := W.frame (i + 1) h₁ h₂ hst₁ fun b hb o e => e₂ b o (drops_keep M h₁ b o (fun hbM => hMf b hbM hb) e)
    have hG₂ : Ext G h₂ := (hG₁.drops M hGM).trans e₂
    rcases hf with rfl | rfl
    · exact ⟨n - (i + 1), by omega, h₂, t₂, i + 1, rfl, by omega, rfl, hG₂, hst₂, hI₂⟩
    · exact ⟨n - (i + 1), by omega, h₂, t₂, i + 1, rfl, by omega, rfl, hG₂, hst₂, hI₂⟩
  · have hn : i = n := by omega
    subst hn
    refine W.done (S σ h t) _ _ hst (fun h₁ t₁ hk => ?_)
    refine wpAny_execs_nil (fin h₁ t₁ (fun b o e => hk b o (fun hb => by rw [hGwr b hb] at e; cases e) (hG b o e)) ?_)
    exact stab i h h₁ (fun a ha o e => hk a o (hMw a ha) e) hI

theorem rangeSize_nat {a c : Int} {n : Nat} (b : Int) (hb : Builtin.Range.rangeSize a b c = n) : (n : Int) - ((0 : Nat) : Int) = Builtin.Range.rangeSize a b c := by rw [hb]; simp

/-- over a range object -/
theorem rIterRange {x : Str} {px : Pos} {body : List Stmt} {r : Addr} {a b c : Int} {u₁ u₂ u₃ : Tok} {n : Nat} {R : Result → Shared → Prop}
    {G : Heap} (M : List Addr) (Inv : Nat → Heap → Prop) (hh : A.handled = none) (hr : IsRange h r a b c u₁ u₂ u₃) (hsm : Builtin.Range.small a b c = true) (hn : Builtin.Range.rangeSize a b c = n)
    (hMl : ∀ a ∈ M, a < h.objs.size)
    (stab : ∀ i h h', (∀ a ∈ M, ∀ o, h.get? a = some o → h'.get? a = some o) → Inv i h → Inv i h')
    (hG : Ext G h) (hGM : ∀ a ∈ M, G.get? a = none) (hI : Inv 0 h)
    (turn : ∀ i u G' h t, i < n → Ext G G' → (∀ a ∈ M, G'.get? a = none) → Ext G' h → Inv i h →
      wpAny (model prog w) A (storeName env x (.int (a + i * c) u)) (fun _ s₁ => wpAny (model prog w) A (execs body env)
        (fun f s' => (f = .next ∨ f = .cont) ∧ ∃ h' t', s' = S σ h' t' ∧ Ext G' h' ∧ Inv (i + 1) h') (fun _ _ => False) s₁) (fun _ _ => False) (S σ h t))
    (fin : ∀ h t, Ext G h → Inv n h → R (.ok .next) (S σ h t)) :
    wpAny (model prog w) A (pyIter (.ref r)) (fun it s₂ => codeAny (model prog w) A (.forLoop (.Name x px) it body [] env) R s₂) E (S σ h t) := by
  refine wpAny_pyIter_range (s := S σ h t) hr hsm ?_
  refine forLoop_walk M Inv (Walks.range hh h.objs.size a c n) ?_ stab (hG.trans (Ext.push h _)) hGM ?_ ?_ ?_ ?_ fin
  · intro b hb hm
    rw [List.mem_singleton] at hm
    exact absurd (hm ▸ hMl b hb) (Nat.lt_irrefl _)
  · intro b hb
    simp at hb; subst hb; exact hG.fresh
  · have := Heap.get?_push_size h (o := { cls := .type "range_iterator", data := .fields #[rawInt a, rawInt (Builtin.Range.rangeSize a b c), rawInt c] }) rfl
    rw [hn] at this ⊢
    simpa using this
  · exact stab 0 h _ (fun a _ o e => Heap.get?_push_of_some _ e) hI
  · rintro i v G' h t hi ⟨u, rfl⟩ hG' hM' hh' hI'
    exact wpAny_assign_Name (turn i u G' h t hi hG' hM' hh' hI')
end
end Mine
end

section -- C2a
open PySem PySem.W PyProof.Rows
set_option maxRecDepth 100000
namespace Mine
namespace BA
theorem boot : bootBuiltins "bytearray" = some (.type "bytearray") := by decide +kernel
theorem mro : mroOf (.type "bytearray") = pure [.type "bytearray", .type "object"] := by rw [mroOf_type]; kernel_rfl
theorem lookup_new : typeLookup (.type "bytearray") "__new__" = pure (some (.builtin "bytearray.__new__")) := by rw [typeLookup_type, builtinLookup_eq_fast]; kernel_rfl
theorem slot_init : Slot "bytearray" "__init__" "bytearray.__init__" :=
  .of (owner := "bytearray") (n := "__init__") (by rw [typeLookup_type, builtinLookup_eq_fast]; kernel_rfl) (by decide +kernel) (by decide +kernel) (by decide +kernel)
    (by first | exact .inl (by decide +kernel) | exact .inr (by decide +kernel)) (by rw [isSubtype_type]; kernel_rfl)
theorem sub : isSubtype (.type "bytearray") (.type "bytearray") = pure true := by rw [isSubtype_type]; kernel_rfl
theorem called : TypeCalled "bytearray" "bytearray.__new__" "bytearray.__init__" :=
  ⟨by decide +kernel, by decide +kernel, ⟨_, _, mro⟩, madeBy_type mro lookup_new (by decide +kernel), by decide +kernel, sub, slot_init⟩
theorem typeCall (a : Value) : checkTypeCall "bytearray" ⟨[a], []⟩ = pure () := by kernel_rfl
theorem newCall (a : Value) : checkBuiltinCall "bytearray.__new__" ⟨[.type "bytearray", a], []⟩ = pure () := by kernel_rfl
theorem entry_new : entryFor table "bytearray.__new__" = some Builtin.«list.__new__» := entryFor_alias (id' := "list.__new__") (by kernel_rfl) rfl (by decide +kernel) (by kernel_rfl)
theorem plain_new : plainId "bytearray.__new__" = true := by decide +kernel
theorem plain_init : plainId "bytearray.__init__" = true := by decide +kernel
theorem entry_init : entryFor table "bytearray.__init__" = some Builtin.«bytearray.__init__» := by first | exact entryFor_of_fast (by kernel_rfl) | exact entryFor_of_tree (by kernel_rfl)
theorem args_init (a b : Value) : argsOk "bytearray.__init__" ⟨[a, b], []⟩ := by unfold argsOk; kernel_rfl
theorem bind1 (v : Value) : Builtin.Bytes.bindOptional "bytearray.__init__" "bytearray" ["source", "encoding", "errors"] [v] [] = pure [some v, none, none] := by kernel_rfl
set_option maxRecDepth 1000000 in
set_option maxHeartbeats 4000000 in
theorem owner_new : ("bytearray.__new__".splitOn ".__new__").headD "" = "bytearray" := by simp +decide [String.splitOn, String.splitOnAux]
theorem lk_release : typeLookup (.type "bytearray") "__release_buffer__" = pure (some (.builtin "bytearray.__release_buffer__")) := by rw [typeLookup_type, builtinLookup_eq_fast]; kernel_rfl
theorem ends_release : (!"bytearray.__release_buffer__".endsWith ("." ++ "__release_buffer__")) = false := by decide +kernel
theorem drop_release : "bytearray.__release_buffer__".dropRight ("__release_buffer__".length + 1) = "bytearray" := by decide +kernel
end BA

end Mine
end

section -- C2
open PySem PySem.W PyProof.Rows
set_option maxRecDepth 100000
namespace Mine
open AutoSeq1 (wpAny_loadPart')

/-- a plain bytearray -/
noncomputable abbrev BAt (h : Heap) (a : Addr) (b : Array UInt8) : Prop := h.get? a = some ({ cls := .type "bytearray", data := .bytearray b } : Obj)

section
variable {prog : Program} {w : World} {A : Around} {E : Value → Shared → Prop} {s : Shared}

theorem code_ba_new (v : Value) {Q₁ : Value → Shared → Prop}
    (h : Q₁ (.ref s.heap.objs.size) { s with heap := s.heap.push { cls := .type "bytearray", data := .bytearray #[] } }) :
    codeAny (model prog w) A (.call (.builtin "bytearray.__new__") ⟨[.type "bytearray", v], []⟩) (wants Q₁ E) s := by
  refine codeAny_of_tree ?_
  show wpAny _ A.in1 (do checkBuiltinCall "bytearray.__new__" ⟨[.type "bytearray", v], []⟩; again (.builtin "bytearray.__new__" ⟨[.type "bytearray", v], []⟩)) _ _ s
  refine wpAny_bind (wpAny_of_eq (BA.newCall v) (wpAny_pure ⟨plainId_quiet BA.plain_new _, codeAny_builtin_stack BA.entry_new rfl fun p st => ?_⟩))
  rw [Around.under_plainId BA.plain_new _]
  have hsub := BA.sub
  have hown := BA.owner_new
  obtain ⟨hp, g, d, tk, os⟩ := s
  simp only [hown]
  wp_walk
  exact h

theorem ba_write {σ : Shared} {h : Heap} {t : Nat} {a : Addr} {b : Array UInt8} {f : Array UInt8 → Array UInt8} {Q : Unit → Shared → Prop} (ho : BAt h a b) (hsz : (f b).size ≤ 1000000)
    (H : ∀ h', BAt h' a (f b) → Heap.SameBut a h h' → Q () (S σ h' t)) : wpAny (model prog w) A (Builtin.Bytes.write (.ref a) f) Q E (S σ h t) := by
  show wpAny _ _ (updateBytearray a f) _ _ _
  unfold updateBytearray
  refine wpAny_bind (wpAny_load ho ?_)
  refine wpAny_bind (wpAny_update ho ?_)
  have ho' : BAt (h.update a (Obj.mapBytearray f)) a (f b) := Heap.get?_update_self _ ho rfl
  refine wpAny_lookBehind ho' ?_ (H _ ho' (Heap.SameBut.update ..))
  show (if (f b).size > sizeLine then some "bytearray:memory" else none) = none
  rw [if_neg (by rw [sizeLine_eq]; omega)]

theorem asStr_int (i : Int) (u : Tok) : asStr? (.int i u) = pure none := rfl

theorem special_int (i : Int) (u : Tok) : specialOf (.int i u) "__index__" = pure (some (.builtin "int.__index__")) := by
  show (typeLookup (.type "int") "__index__") = _
  exact int_index
theorem attempt_int (i : Int) (u : Tok) : (asIndex (.int i u)).attempt = pure (.ok i) := rfl

theorem ba_init {σ : Shared} {h : Heap} {t : Nat} {a : Addr} {n : Nat} {u : Tok} {Q : Fin → Shared → Prop} (ho : BAt h a #[]) (hn : n < 100000)
    (H : ∀ h', BAt h' a (Array.replicate n 0) → Heap.SameBut a h h' → Q (.done (.ret .none)) (S σ h' t)) :
    wpC (model prog w) A (Builtin.«bytearray.__init__» ⟨[.ref a, .int n u], []⟩) Q E (S σ h t) := by
  have hT : (S σ h t).TypeIs (.ref a) "bytearray" := ⟨_, ho, rfl⟩
  unfold Builtin.«bytearray.__init__»
  dsimp only
  refine wpC_bindA ?_
  unfold Builtin.Bytes.ownRelease Builtin.Bytes.slotIsOwn
  refine wpAny_bind (wpAny_bind (wpAny_specialOf hT BA.lk_release ?_))
  simp only [BA.ends_release, BA.drop_release, Bool.false_eq_true, if_false]
  refine wpAny_isInstance hT BA.sub (wpAny_pure ?_)
  simp only [Bool.not_true, Bool.false_eq_true, if_false]
  rw [BA.bind1]
  refine wpC_bindA (wpAny_pure ?_)
  dsimp only
  refine wpC_bindA (m := Builtin.Bytes.checkCodecArg _ _ _ none) (wpAny_pure ?_)
  refine wpC_bindA (m := Builtin.Bytes.checkCodecArg _ _ _ none) (wpAny_pure ?_)
  refine wpC_bind (wpC_bind (wpC_exported ?_))
  refine wpC_of (wpAny_bind (wpAny_bind (wpAny_load ho (wpAny_pure (wpAny_pure ?_)))))
  rw [if_neg (by decide)]
  refine wpC_of ?_
  refine wpAny_bind (ba_write ho (by simp) fun h₁ ho₁ hs₁ => ?_)
  have f1 : Builtin.Bytes.fitsIndex (n : Int) = true := by unfold Builtin.Bytes.fitsIndex; simp; omega
  have f2 : ¬ ((n : Int) < 0) := by omega
  have f3 : ((n : Int) == 2 ^ 63 - 1) = false := by simp; omega
  have f4 : Builtin.Bytes.tooLong (n : Int).toNat = false := by unfold Builtin.Bytes.tooLong; rw [sizeLine_eq]; simp; omega
  simp only [asStr_int, pure_bind, Option.isSome_none, special_int, Option.isSome_some, if_true, attempt_int, f1, f2, f3, f4, Bool.not_true, Bool.false_eq_true, if_false]
  refine wpAny_bind (wpAny_rule ?_)
  by_cases h0 : 0 < n
  · rw [if_pos (by omega)]
    refine wpAny_bind (ba_write ho₁ (by simp; omega) fun h₂ ho₂ hs₂ => ?_)
    exact wpAny_pure (H h₂ (by simpa using ho₂) (hs₁.trans hs₂))
  · rw [if_neg (by omega)]
    obtain rfl : n = 0 := by omega
    exact wpAny_pure (H h₁ ho₁ hs₁)

theorem callSpecialC {M : Model} {self : Value} {T : String} {name : Str} {id : String} {args : List Value} {kw : List (Str × Value)}
    {Q : Option Value → Shared → Prop} (hT : s.TypeIs self T) (h : Slot T name id)
    (hc : wpC M A (call (.builtin id) (self :: args) kw) (fun v => Q (some v)) E s) : wpC M A (callSpecial? self name args kw) Q E s := by
  simp only [callSpecial?]
  refine wpC_bindA (wpAny_specialOf hT h.lookup ?_)
  simp only [h.bind]
  exact wpC_holding (wpC_bindA (wpAny_pure (wpC_bind (wpC_mono hc (fun v s' h' => wpC_pure h') fun _ _ h' => h'))))

theorem call_bytearray {σ : Shared} {h : Heap} {t : Nat} {n : Nat} {u : Tok} {Q : Value → Shared → Prop} (hn : n < 100000)
    (H : ∀ h' t', BAt h' h.objs.size (Array.replicate n 0) → Ext h h' → Q (.ref h.objs.size) (S σ h' t')) :
    wpC (model prog w) A (call (.type "bytearray") [.int n u]) Q E (S σ h t) := by
  refine wpC_call (codeC_of_tree ?_)
  show wpC _ _ (callAny (.type "bytearray") _) _ _ _
  refine wpC_pure ⟨Code.quiet_builtin _ (by decide +kernel), ok_builtin (by decide +kernel), codeC_builtin F.entry_type_call ?_⟩
  rw [Around.under_plain (weight_type_call_type "bytearray" [.int n u] []) rfl]
  unfold Builtin.«type.__call__»
  dsimp only
  have h1 := BA.called.notType
  have h2 := BA.called.canCreate
  have h3 := BA.called.made
  simp only [h1, h2, h3, BA.typeCall, BA.mro, pure_bind, Bool.false_eq_true, if_false, List.isEmpty_cons]
  refine wpC_bindA (wpAny_holding (wpAny_call (codeAny_mono (code_ba_new (E := fun _ _ => False) (Q₁ := fun v s' => v = .ref h.objs.size ∧ s' = S σ (h.push { cls := .type "bytearray", data := .bytearray #[] }) t) _ ⟨rfl, rfl⟩) ?_)))
  rintro r s' hr
  cases r with
  | error e => exact hr.elim
  | ok f =>
    cases f with
    | ret v =>
      obtain ⟨rfl, rfl⟩ := hr
      have ho : BAt (h.push { cls := .type "bytearray", data := .bytearray #[] }) h.objs.size #[] := Heap.get?_push_size _ rfl
      have hT : (S σ (h.push { cls := .type "bytearray", data := .bytearray #[] }) t).TypeIs (.ref h.objs.size) "bytearray" := ⟨_, ho, rfl⟩
      refine wpC_bindA (wpAny_isInstance hT BA.sub ?_)
      simp only [Bool.not_true, Bool.false_eq_true, if_false]
      refine wpC_bind (wpC_holding (callSpecialC hT BA.slot_init (wpC_call (codeC_call_builtin BA.plain_init (by decide +kernel) BA.entry_init ?_))))
      refine BA.slot_init.check _ _ _ _ _ _ _ _ hT (BA.args_init _ _) ?_
      refine ba_init ho hn fun h' ho' hs' => ?_
      refine wpC_pure (H h' t ho' fun b o e => ?_)
      exact hs'.extBut b o (Nat.ne_of_lt (Heap.lt_size e)) (Heap.get?_push_of_some _ e)
    | _ => exact hr.elim
end
end Mine
end

section -- C3a
open PySem PySem.W PyProof.Rows
set_option maxRecDepth 100000
namespace Mine
namespace BA
theorem no_bytes : typeLookup (.type "bytearray") "__bytes__" = pure none := by rw [typeLookup_type, builtinLookup_eq_fast]; kernel_rfl
theorem noIndex : typeLookup (.type "bytearray") "__index__" = pure none := by rw [typeLookup_type, builtinLookup_eq_fast]; kernel_rfl
theorem lk_buffer : typeLookup (.type "bytearray") "__buffer__" = pure (some (.builtin "bytearray.__buffer__")) := by rw [typeLookup_type, builtinLookup_eq_fast]; kernel_rfl
theorem ends_buffer : (!"bytearray.__buffer__".endsWith ("." ++ "__buffer__")) = false := by decide +kernel
theorem drop_buffer : "bytearray.__buffer__".dropRight ("__buffer__".length + 1) = "bytearray" := by decide +kernel
theorem slot_set : Slot "bytearray" "__setitem__" "bytearray.__setitem__" :=
  .of (owner := "bytearray") (n := "__setitem__") (by rw [typeLookup_type, builtinLookup_eq_fast]; kernel_rfl) (by decide +kernel) (by decide +kernel) (by decide +kernel)
    (by first | exact .inl (by decide +kernel) | exact .inr (by decide +kernel)) (by rw [isSubtype_type]; kernel_rfl)
theorem entry_set : entryFor table "bytearray.__setitem__" = some Builtin.«bytearray.__setitem__» := by first | exact entryFor_of_fast (by kernel_rfl) | exact entryFor_of_tree (by kernel_rfl)
theorem args_set (a b c : Value) : argsOk "bytearray.__setitem__" ⟨[a, b, c], []⟩ := by unfold argsOk; kernel_rfl
end BA
end Mine
end

section -- C3
open PySem PySem.W PyProof.Rows
set_option maxRecDepth 100000
namespace Mine
section
variable {prog : Program} {w : World} {A : Around} {E : Value → Shared → Prop} {s : Shared} {σ : Shared} {h : Heap} {t : Nat} {Q : Value → Shared → Prop}

theorem ba_slotOwn {name : String} {id : String} {QB : Bool → Shared → Prop} {a : Addr} (hT : s.TypeIs (.ref a) "bytearray") (hl : typeLookup (.type "bytearray") (name : Str) = pure (some (.builtin id)))
    (he : (!id.endsWith ("." ++ name)) = false) (hd : id.dropRight (name.length + 1) = "bytearray") (H : QB true s) : wpAny (model prog w) A (Builtin.Bytes.slotIsOwn (.ref a) name) QB E s := by
  unfold Builtin.Bytes.slotIsOwn
  refine wpAny_bind (wpAny_specialOf hT hl ?_)
  simp only [he, hd, Bool.false_eq_true, if_false]
  exact wpAny_isInstance hT BA.sub H

theorem ba_payload {a : Addr} {b : Array UInt8} {QA : Array UInt8 → Shared → Prop} (ho : BAt s.heap a b) (H : QA b s) : wpAny (model prog w) A (Builtin.Bytes.payload (.ref a)) QA E s := by
  unfold Builtin.Bytes.payload
  refine wpAny_bind ?_
  show wpAny _ _ (load a >>= _) _ _ _
  exact wpAny_bind (wpAny_load ho (wpAny_pure (wpAny_pure H)))

theorem ba_buffer {id : String} {full : Bool} {a : Addr} {b : Array UInt8} {QO : Option (Array UInt8) → Shared → Prop} (ho : BAt s.heap a b) (H : QO (some b) s) :
    wpAny (model prog w) A (Builtin.Bytes.buffer? id (.ref a) full) QO E s := by
  have hT : s.TypeIs (.ref a) "bytearray" := ⟨_, ho, rfl⟩
  unfold Builtin.Bytes.buffer?
  refine wpAny_bind (wpAny_specialOf hT BA.lk_buffer ?_)
  dsimp only
  refine wpAny_bind (ba_slotOwn hT BA.lk_buffer BA.ends_buffer BA.drop_buffer ?_)
  simp only [Bool.not_true, Bool.false_eq_true, if_false]
  refine wpAny_bind (wpAny_specialOf hT BA.lk_buffer ?_)
  unfold Builtin.Bytes.ownRelease
  refine wpAny_bind (wpAny_bind (ba_slotOwn hT BA.lk_release BA.ends_release BA.drop_release (wpAny_pure ?_)))
  simp only [Bool.not_true, Bool.false_eq_true, if_false]
  exact wpAny_bind (ba_payload ho (wpAny_pure H))

theorem call_bytes_ba {a : Addr} {b : Array UInt8} (ho : BAt h a b) (hz : b.size < 100000) (H : ∀ u t', Q (.bytes b u) (S σ h t')) : wpAny (model prog w) A (call (.type "bytes") [.ref a]) Q E (S σ h t) := by
  have hT : (S σ h t).TypeIs (.ref a) "bytearray" := ⟨_, ho, rfl⟩
  refine callType_codes (Q₁ := fun obj s₁ => s₁.TypeIs obj "bytes" ∧ Q obj s₁) F.bm_called (F.bm_typeCall _) F.entry_object_init ?_ fun obj s₁ h₁ => ?_
  · refine codeAny_of_tree ?_
    show wpAny _ A.in1.in1 (do checkBuiltinCall "bytes.__new__" ⟨[.type "bytes", .ref a], []⟩; again (.builtin "bytes.__new__" ⟨[.type "bytes", .ref a], []⟩)) _ _ (S σ h t)
    refine wpAny_bind (wpAny_of_eq (F.bm_newCall _) (wpAny_pure ⟨plainId_quiet F.bm_plain _, codeAny_builtin F.bm_entry ?_⟩))
    rw [Around.under_plainId F.bm_plain _]
    unfold Builtin.«bytes.__new__»
    refine wpAny_bind (wpAny_of_eq (a := true) rfl ?_)
    refine bm_if_false rfl ?_
    refine wpAny_bind (wpAny_of_eq F.bm_sub ?_)
    refine bm_if_false rfl ?_
    refine wpAny_bind (wpAny_of_eq (F.bm_bind _) ?_)
    refine wpAny_bind (wpAny_of_eq (a := ()) rfl ?_)
    refine wpAny_bind (wpAny_of_eq (a := ()) rfl ?_)
    refine bm_if_false rfl ?_
    refine wpAny_bind (wpAny_specialOf hT BA.no_bytes ?_)
    refine wpAny_bind (wpAny_bind ?_)
    show wpAny _ _ (load a >>= _) _ _ _
    refine wpAny_bind (wpAny_load ho ?_)
    refine wpAny_pure (wpAny_pure ?_)
    refine bm_if_false rfl ?_
    refine wpAny_bind (wpAny_specialOf hT BA.noIndex ?_)
    refine bm_if_true rfl ?_
    first
      | show wpAny _ _ (Builtin.Bytes.buffer? "bytes.__new__" (.ref a) true >>= _) _ _ _
      | (refine wpAny_bind ?_; show wpAny _ _ (Builtin.Bytes.buffer? "bytes.__new__" (.ref a) true >>= _) _ _ _)
    refine wpAny_bind (ba_buffer ho ?_)
    refine wpAny_bind (wpAny_rule ?_)
    refine wpAny_bind ?_
    unfold mkBytes
    rw [if_neg (by rw [sizeLine_eq]; omega)]
    refine wpAny_bind (wpAny_fresh ?_)
    exact wpAny_pure (wpAny_of_eq (a := Fin.done (Flow.ret (.bytes b t))) rfl ⟨PySem.W.typeIs_bytes _ _ _, H _ _⟩)
  · exact ⟨h₁.1, F.args_object_init_2 obj _, object_init_meets F.bm_called.init.lookup F.bm_called.made (by decide) prog w A.in1 _ s₁ ⟨h₁.1, rfl, h₁.2⟩⟩

theorem ba_setItem {a : Addr} {b : Array UInt8} {k x : Int} {u v : Tok} {QU : Unit → Shared → Prop} (ho : BAt h a b) (hz : b.size < 100000) (h0 : 0 ≤ k) (hk : k < b.size) (hx : 0 ≤ x ∧ x < 256)
    (H : ∀ h', BAt h' a (b.setIfInBounds k.toNat x.toNat.toUInt8) → Heap.SameBut a h h' → QU () (S σ h' t)) :
    wpAny (model prog w) A (setItem (.ref a) (.int k u) (.int x v)) QU E (S σ h t) := by
  have hT : (S σ h t).TypeIs (.ref a) "bytearray" := ⟨_, ho, rfl⟩
  unfold setItem
  try with_reducible refine wpAny_holding ?_
  first | refine wpAny_bind (wpAny_pure ?_) | skip
  refine wpAny_bind (wpAny_sequenceKey hT (by decide) ?_)
  refine wpAny_bind (wpAny_callSpecial?_slot (name := Str.ofString "__setitem__") hT BA.slot_set
    (wpAny_call_entry BA.slot_set hT BA.entry_set ?_ (BA.args_set _ _ _)))
  unfold Builtin.«bytearray.__setitem__»
  have f1 : Builtin.Bytes.fitsIndex k = true := by unfold Builtin.Bytes.fitsIndex; simp; omega
  have f2 : Builtin.Bytes.subscript? (.int k u) = pure (some k) := by
    unfold Builtin.Bytes.subscript?
    simp only [special_int, pure_bind, Option.isNone_some, Bool.false_eq_true, if_false, show asIndex (.int k u) = pure k from rfl, f1, Bool.not_true]
  have f3 : Builtin.Bytes.byteValue (.int x v) = pure x.toNat.toUInt8 := by
    unfold Builtin.Bytes.byteValue
    have : (decide (x < 0) || decide (x ≥ 256)) = false := by simp; omega
    simp only [show asIndex (.int x v) = pure x from rfl, pure_bind, this, Bool.false_eq_true, if_false]
  have f4 : seqIndex? k b.size = some k.toNat := by unfold seqIndex?; simp; omega
  simp only [List.isEmpty_nil, Bool.not_true, Bool.false_eq_true, if_false, f2, f3, pure_bind]
  refine wpAny_bind (ba_payload ho ?_)
  rw [f4]
  refine wpAny_bind (ba_write ho (by simp; omega) fun h' ho' hs' => ?_)
  exact wpAny_pure ⟨.none, rfl, wpAny_pure (H _ ho' hs')⟩
end
end Mine
end

section -- C4
open PySem PySem.W PyProof.Rows
set_option maxRecDepth 100000
namespace Mine
section
variable {M : Model} {A : Around} {E : Value → Shared → Prop} {s : Shared} {env : Env}

theorem execsC_cons {st : Stmt} {rest : List Stmt} {Q : Flow → Shared → Prop}
    (h : wpC M A (exec st env) (fun f s' => match f with | .next => wpC M A (execs rest env) Q E s' | f => Q f s') E s) :
    wpC M A (execs (st :: rest) env) Q E s := by
  rw [execs_cons]
  refine wpC_bind (wpC_mono h (fun f s' h' => ?_) fun _ _ x => x)
  cases f <;> first | exact h' | exact wpC_pure h'
/-- a statement that any stack bears -/
theorem execsC_consA {st : Stmt} {rest : List Stmt} {Q : Flow → Shared → Prop}
    (h : wpAny M A (exec st env) (fun f s' => match f with | .next => wpC M A (execs rest env) Q E s' | f => Q f s') E s) :
    wpC M A (execs (st :: rest) env) Q E s := execsC_cons (wpC_of h)

theorem assignC_Name {x : Str} {pos' pos : Pos} {value : Expr} {Q : Flow → Shared → Prop}
    (h : wpC M A (eval value env) (fun v s₁ => wpAny M A (storeName env x v) (fun _ => Q .next) E s₁) E s)
    (hs : swapsWith value (some (.Name x pos')) pos.line env = pure false := by rfl) :
    wpC M A (exec (.Assign [.Name x pos'] value pos) env) Q E s := fun Γ p hΓ hC => by
  simp only [exec_Assign_Name env x pos' value pos hs, Sem.wp_bind', Sem.wp_cmd_standAt, Sem.wp_bindName, Sem.wp_pure']
  exact Sem.wp_mono M Γ _ (fun v _ s₁ h₁ => h₁ Γ _ hΓ) (fun _ _ _ h' => h') _ _ (h Γ _ hΓ hC)

theorem callC_Expr {func : Expr} {args : List Expr} {pos : Pos} {Q : Value → Shared → Prop}
    (h : wpAny M A (eval func env) (fun f s₁ => wpC M A (callWith pos f [] (backTo pos (starEach args env)) []) Q E s₁) E s)
    (he : eval (.Call func args [] pos) env = (do callWith pos (← eval func env) [] (backTo pos (starEach args env)) (backToKw pos (keywordEach [] env))) := by rfl) :
    wpC M A (eval (.Call func args [] pos) env) Q E s := by
  rw [he]
  exact wpC_bindA h

theorem callWithC_type {pos : Pos} {T : String} {first : List Value} {args : List (Bool × Sem Value)} {Q : Value → Shared → Prop}
    (hplain : args.any (·.1) = false)
    (h : wpAny M A (evalArgs (.type T) true args []) (fun a s₁ => wpC M A (call (.type T) (first ++ a.pos) a.kw) Q E s₁) E s) :
    wpC M A (callWith pos (.type T) first args []) Q E s := by
  unfold callWith
  refine wpC_bindA (wpAny_holding (wpAny_mono h (fun a s₁ h₁ => wpC_bindA (wpAny_standAt ?_)) fun _ _ x => x))
  simp only [hplain, List.any_nil, Bool.or_false]
  refine wpC_bindA (wpAny_pure ?_)
  exact wpC_bind (wpC_mono h₁ (fun r s₂ hr => wpC_of (wpAny_bind (wpAny_holding (wpAny_point (wpAny_pure hr))))) fun _ _ x => x)

theorem callWithC_type1 {pos : Pos} {T : String} {e : Expr} {rest : List Expr} {Q : Value → Shared → Prop}
    (h : wpAny M A (spliced (backTo pos (starEach (e :: rest) env))) (fun vs s₁ => wpC M A (call (.type T) vs) Q E s₁) E s)
    (he : starEach (e :: rest) env = (false, eval e env) :: starEach rest env := by rfl)
    (hplain : (backTo pos (starEach rest env)).any (·.1) = false := by rfl) :
    wpC M A (callWith pos (.type T) [] (backTo pos (starEach (e :: rest) env)) []) Q E s := by
  rw [he] at h ⊢
  exact callWithC_type (by simpa [backTo] using hplain) (Calls.evalArgs_plain h)

theorem callWithC_function {pos : Pos} {a : Addr} {o : Obj} {fd : FuncData} {first : List Value} {args : List (Bool × Sem Value)} {Q : Value → Shared → Prop}
    (h : wpAny M A (evalArgs (.ref a) true args []) (fun x s₁ => (s₁.heap.get? a = some o ∧ o.data = .func fd) ∧ wpC M A (call (.ref a) (first ++ x.pos) x.kw) Q E s₁) E s) :
    wpC M A (callWith pos (.ref a) first args []) Q E s := by
  unfold callWith
  refine wpC_bindA (wpAny_holding (wpAny_mono h (fun x s₁ h₁ => wpC_bindA (wpAny_standAt ?_)) fun _ _ x => x))
  have tail : ∀ {t : Sem Value}, wpC M A t Q E s₁ → wpC M A (t >>= fun r => holding [r] point >>= fun _ => pure r) Q E s₁ :=
    fun ht => wpC_bind (wpC_mono ht (fun r s₂ hr => wpC_of (wpAny_bind (wpAny_holding (wpAny_point (wpAny_pure hr))))) fun _ _ x => x)
  cases hs : args.any (·.1) <;> simp only [List.any_nil, Bool.or_false] <;>
    refine wpC_bindA (m := keeperOf (.ref a)) ?_ <;> unfold keeperOf <;>
    refine wpAny_bind (wpAny_load h₁.1.1 ?_) <;> rw [h₁.1.2] <;> refine wpAny_pure ?_
  all_goals (repeat' split)
  all_goals first | exact tail h₁.2 | exact tail (wpC_keep h₁.2)

theorem callWithC_def {pos : Pos} {f : Addr} {o : Obj} {fd : FuncData} {e : Expr} {rest : List Expr} {Q : Value → Shared → Prop} (hdat : o.data = .func fd)
    (h : wpAny M A (spliced (backTo pos (starEach (e :: rest) env))) (fun vs s₁ => s₁.heap.get? f = some o ∧ wpC M A (call (.ref f) vs) Q E s₁) E s)
    (he : starEach (e :: rest) env = (false, eval e env) :: starEach rest env := by rfl) :
    wpC M A (callWith pos (.ref f) [] (backTo pos (starEach (e :: rest) env)) []) Q E s := by
  rw [he] at h ⊢
  exact callWithC_function (Calls.evalArgs_plain (wpAny_mono h (fun vs s₁ h₁ => ⟨⟨h₁.1, hdat⟩, h₁.2⟩) fun _ _ x => x))
end

section
variable {prog : Program} {w : World} {A : Around} {E : Value → Shared → Prop} {s : Shared} {R : Result → Shared → Prop}

theorem codeC_func {body : List Stmt} {env : Env}
    (h : wpC (model prog w) (A.deeper env) (execs body env) (fun f s' => R (.ok (.ret (match f with | .ret v => v | _ => .none))) s') (fun _ _ => False) s) :
    codeC (model prog w) A (.func body env) R s := by
  refine codeC_of_tree ?_
  show wpC _ (A.deeper env) (do point; match ← (execs body env).onRaise (leaving env) with | .ret v => ret v | _ => ret .none) _ _ s
  refine wpC_bindA (wpAny_point (wpC_bind (wpC_onRaise (wpC_mono h (fun f s' h' => ?_) fun _ _ h' => h'))))
  cases f <;> exact wpC_pure h'

theorem codeC_call_function {a : Addr} {args : Args} {o : Obj} {fd : FuncData} {body : List Stmt} (hroom : A.depth < recursionLimit)
    (ho : s.heap.get? a = some o)
    (hd' : o.data = .func fd) (hco : fd.scope.isCoroutine = false) (hgen : fd.scope.isGenerator = false) (hbody : fd.body = .stmts body) (hcd : s.heap.CodeRec fd.code fd.qualname)
    (h : wpAny (model prog w) A.in1 (bindArgs fd args) (fun binds s₁ =>
      wpAny (model prog w) A.in1 (newFunctionEnv fd.scope fd.globals fd.closure binds (fd.qualname ++ ".<locals>.") (some a) fd.code none fd.builtins)
        (fun env s₂ => s₂.heap.NoLimit ∧ codeC (model prog w) A (.func body env) R s₂) (fun e s' => R (.error e) s') s₁) (fun e s' => R (.error e) s') s) :
    codeC (model prog w) A (.call (.ref a) args) R s := by
  refine codeC_of_tree ?_
  show wpC _ A.in1 (callAny (.ref a) args) _ _ s
  simp only [callAny]
  refine wpC_bindA (wpAny_load ho ?_)
  obtain ⟨c, oc, vs, tq, hc, hoc, hdc, hq⟩ := hcd
  simp only [hd', callFunction, hco, hgen, hbody, hc]
  rw [hc] at h
  refine wpC_bindA (m := field (.ref c) 1) (wpAny_field hoc hdc hq (wpC_bindA (wpAny_pure ?_)))
  exact wpC_bindA (wpAny_mono h (fun binds s₁ h₁ => wpC_bindA (wpAny_mono h₁ (fun env s₂ h₂ => wpC_bindA (wpAny_enterFrame h₂.1 hroom
    (wpC_pure ⟨rfl, rfl, h₂.2⟩))) fun _ _ h' => h')) fun _ _ h' => h')

theorem enterFnC {σ : Shared} {h : Heap} {t : Nat} {Q : Value → Shared → Prop}
    {a : Addr} {o : Obj} {fd : FuncData} {body : List Stmt} {vals : List Value} {kw : List (Str × Value)} {binds : List (Str × Value)}
    (hroom : A.depth < recursionLimit) (B : Base w h) (ho : h.get? a = some o) (hdata : o.data = .func fd) (hcd : h.CodeRec fd.code fd.qualname)
    (hbody : fd.body = .stmts body) (hbind : BindsTo (S σ h t) fd ⟨vals, kw⟩ binds)
    (hcell : ∀ x ∈ fd.scope.names, x.2 ≠ .cell) (hloc : ∀ x ∈ binds, fd.scope.names.lookup x.1 = some .local)
    (H : ∀ h₁ t₁, h₁.Ns h.objs.size (lk binds) → Ext h h₁ →
      wpC (model prog w) (A.deeper (callEnv fd h.objs.size a)) (execs body (callEnv fd h.objs.size a)) (fun f s' => Q (match f with | .ret v => v | _ => .none) s') (fun _ _ => False) (S σ h₁ t₁))
    (hco : fd.scope.isCoroutine = false := by rfl) (hgen : fd.scope.isGenerator = false := by rfl) (hk : fd.scope.kind = .function := by rfl) :
    wpC (model prog w) A (call (.ref a) vals kw) Q E (S σ h t) := by
  refine wpC_call (codeC_call_function hroom ho hdata hco hgen hbody hcd (hbind _ _ _ _ ?_))
  refine wpAny_newFunctionEnv hcell hloc (fun h₀ hns₀ hsb₀ => ⟨B.nl.fresh _ hsb₀, codeC_func (wpC_mono (H h₀ _ hns₀ fun b o e => ?_) (fun _ _ x => x) fun _ _ x => x)⟩) hk
  exact hsb₀.extBut b o (Nat.ne_of_lt (Heap.lt_size e)) (Heap.get?_push_of_some _ e)
end
end Mine
end

section -- W1
open PySem PySem.W PyProof.Rows
set_option maxRecDepth 100000
set_option maxHeartbeats 4000000
namespace Mine

noncomputable def swapAt (d : List UInt8) (wd p : Nat) : UInt8 := d.getD (p / wd * wd + (wd - 1 - p % wd)) 0
noncomputable def swapped (d : List UInt8) (wd : Nat) : List UInt8 := (List.range d.length).map (swapAt d wd)

theorem rangeSize_mul {q wd : Nat} (hw : 0 < wd) : Builtin.Range.rangeSize 0 ((wd * q : Nat) : Int) (wd : Int) = (q : Nat) := by
  unfold Builtin.Range.rangeSize
  rw [if_pos (by omega)]
  by_cases hq : q = 0
  · subst hq; simp
  · have hpos : 0 < wd * q := Nat.mul_pos hw (by omega)
    rw [if_pos (by omega)]
    have e : ((wd * q : Nat) : Int) - 0 - 1 = ((wd * q - 1 : Nat) : Int) := by omega
    rw [e, ← Int.natCast_ediv]
    have : (wd * q - 1) / wd = q - 1 := by
      obtain ⟨r, rfl⟩ : ∃ r, q = r + 1 := ⟨q - 1, by omega⟩
      have : wd * (r + 1) - 1 = wd * r + (wd - 1) := by rw [Nat.mul_add]; omega
      rw [this, Nat.mul_add_div hw, Nat.div_eq_of_lt (by omega)]; omega
    rw [this]; omega
theorem small_mul {q wd : Nat} (hw : 0 < wd) (hb : wd * q < 100000) (hw2 : wd < 1000) : Builtin.Range.small 0 ((wd * q : Nat) : Int) (wd : Int) = true := by
  have hq : q ≤ wd * q := Nat.le_mul_of_pos_left q hw
  unfold Builtin.Range.small
  rw [rangeSize_mul hw]
  simp only [Builtin.Range.rangeFitsLong, Bool.and_eq_true, Bool.or_eq_true, decide_eq_true_eq, beq_iff_eq]
  refine ⟨⟨⟨⟨?_, ?_⟩, ?_⟩, ?_⟩, .inr ?_⟩ <;> first | omega | (rw [if_pos (by omega)]; simp only [Bool.and_eq_true, decide_eq_true_eq]; omega)

theorem swapAt_at {d : List UInt8} {wd i r : Nat} (hr : r < wd) : swapAt d wd (wd * i + r) = d.getD (wd * i + (wd - 1 - r)) 0 := by
  unfold swapAt
  rw [Nat.mul_add_div (by omega), Nat.div_eq_of_lt hr, Nat.mul_add_mod, Nat.mod_eq_of_lt hr, Nat.add_zero, Nat.mul_comm]
theorem byte_there (x : UInt8) : x.toNat.toUInt8 = x := by simp
theorem byte_int (x : UInt8) : 0 ≤ ((x.toNat : Nat) : Int) ∧ ((x.toNat : Nat) : Int) < 256 := by have := x.toNat_lt; omega

section
variable {prog : Program} {w : World} {A : Around} {E : Value → Shared → Prop} {σ : Shared} {h : Heap} {t : Nat} {Q : Value → Shared → Prop}

theorem rRange3 {a b c : Int} {u v x : Tok} (hc : c ≠ 0) (hc2 : c.natAbs < 2 ^ 29) (H : IsRange (h.push { cls := .type "range", data := .fields #[.int a u, .int b v, .int c x] }) h.objs.size a b c u v x →
      Q (.ref h.objs.size) (S σ (h.push { cls := .type "range", data := .fields #[.int a u, .int b v, .int c x] }) t)) :
    wpAny (model prog w) A (call (.type "range") [.int a u, .int b v, .int c x]) Q E (S σ h t) :=
  call_range_3 (s := S σ h t) hc (H (IsRange.new h a b c u v x)) (Or.inl (PyProof.noPylong_small (by omega)))
theorem rRange1 {n : Int} {u : Tok} (H : ∀ h' t' v x, h' = h.push { cls := .type "range", data := .fields #[.int 0 v, .int n u, .int 1 x] } → IsRange h' h.objs.size 0 n 1 v u x →
      Q (.ref h.objs.size) (S σ h' t')) :
    wpAny (model prog w) A (call (.type "range") [.int n u]) Q E (S σ h t) :=
  call_range_1 (s := S σ h t) (H _ _ _ _ rfl (IsRange.new h 0 n 1 _ u _))

theorem rLenB {b : Array UInt8} {v : Tok} (hz : b.size < 100000) (H : ∀ u t', Q (.int (b.size : Nat) u) (S σ h t')) :
    wpAny (model prog w) A (call (.builtin "len") [.bytes b v]) Q E (S σ h t) := len_bytes (s := S σ h t) (by omega) (H _ _)
theorem rItemB {d : List UInt8} {i : Int} {u v : Tok} {value slice : Expr} (hz : d.length < 100000) (h0 : 0 ≤ i) (h1 : i < (d.length : Int)) (H : ∀ x t', Q (.int ((d.getD i.toNat 0).toNat : Nat) x) (S σ h t'))
    (hs : subscripted slice false (.bytes d.toArray u) (.int i v) = operate [.bytes d.toArray u, .int i v] (getItem (.bytes d.toArray u) (.int i v)) := by with_unfolding_all rfl)
    (ht : ∀ r, letTemporaryGo value (.bytes d.toArray u) r = pure () := by intro _; with_unfolding_all rfl) : wpAny (model prog w) A (subscriptTail value slice (.bytes d.toArray u) (.int i v)) Q E (S σ h t) :=
  bytes_item_K (s := S σ h t) (by omega) h0 h1 rfl (H _ _) hs ht

theorem byteswap_call {d : List UInt8} {wd q : Nat} {u v : Tok} (hh : A.handled = none) (B : Base w h) (hw : 0 < wd) (hw2 : wd < 100) (hlen : d.length = wd * q) (hl : d.length < 10000)
    (hd : A.depth + 20 < recursionLimit)
    (H : ∀ h' t' u', Ext h h' → Q (.bytes (swapped d wd).toArray u') (S σ h' t')) :
    wpC (model prog w) A (call (.ref 28) [.bytes d.toArray u, .int wd v]) Q E (S σ h t) := by
  refine enterFnC (binds := [("data", .bytes d.toArray u), ("width", .int wd v)]) (by omega) B (B.X 28 _ rfl) rfl ⟨27, _, _, _, rfl, B.X 27 _ rfl, rfl, rfl⟩ rfl (BindsTo.of_eq rfl) (by decide) (locs rfl) ?_
  intro h₁ t₁ hN hX
  have hL : h.get? h.objs.size = none := (Ext.refl h).fresh
  generalize hLe : h.objs.size = L at *
  have B1 := B.ext hX
  -- swapped_data = bytearray(len(data))
  refine execsC_cons (assignC_Name (callC_Expr (rBuilt B1 (by kernel_rfl) BA.boot (callWithC_type1 (args_cons (Call_ (rBuilt B1 (by kernel_rfl) boot_len (cwB (args_cons (rLoc hN rfl (args_nil (rLenB (by simp; omega) fun _ t₂ => args_nil ?_))))))))))))
  rw [show ((d.toArray.size : Nat) : Int) = ((d.length : Nat) : Int) by simp]
  have hNL : h₁.objs.size ≠ L := Nat.ne_of_gt hN.lt
  have hfr : h.get? h₁.objs.size = none := hX.fresh
  refine call_bytearray (by omega) fun h₂ t₂ hb₂ hx₂ => ?_
  generalize h₁.objs.size = ba at *
  have hN2 := hN.keeps hx₂
  refine rStore hN2 fun h₃ t₃ hN3 hs₃ => wpC_of ?_
  have e3 : Ext h h₃ := (hX.trans hx₂).but hs₃ hL
  have hb₃ : BAt h₃ ba (Array.replicate d.length 0) := (hs₃.2 ba hNL).trans hb₂
  have B3 := B.ext e3
  -- the loops
  refine wpAny_execs_cons <| wpAny_For <| Call_ <| rBuilt B3 (by kernel_rfl) boot_range <| cwT <| args_cons <| rInt fun _ _ => args_cons <| Call_ <| rBuilt B3 (by kernel_rfl) boot_len <| cwB <| args_cons <| rLoc hN3 (st_ne rfl) <| args_nil <| rLenB (by simp; omega) fun _ t₂ => args_cons <| rLoc hN3 (st_ne rfl) <| args_nil ?_
  rw [show ((d.toArray.size : Nat) : Int) = ((wd * q : Nat) : Int) by simp [hlen]]
  refine rRange3 (by omega) (by omega) fun hR => ?_
  let Inv : Nat → Heap → Prop := fun k h => ∃ m b, h.Ns L m ∧ m "data" = some (.bytes d.toArray u) ∧ m "width" = some (.int wd v) ∧ m "swapped_data" = some (.ref ba) ∧ BAt h ba b ∧ b.size = d.length ∧ ∀ p, p < wd * k → b[p]? = some (swapAt d wd p)
  have stab : ∀ i h h', (∀ a ∈ [L, ba], ∀ o, h.get? a = some o → h'.get? a = some o) → Inv i h → Inv i h' := by
    rintro i h h' hk ⟨m, b, k1, k2, k3, k4, k5, k6⟩
    exact ⟨m, b, k1.at' (hk L (by simp)), k2, k3, k4, hk ba (by simp) _ k5, k6⟩
  refine rIterRange (G := h) [L, ba] Inv hh hR (small_mul hw (by omega) (by omega)) (rangeSize_mul hw) ?_ stab (e3.trans (Ext.push _ _)) ?_ ?_ ?turn ?fin
  · intro a ha
    rw [Heap.size_push]
    rcases List.mem_cons.mp ha with rfl | ha
    · exact Nat.lt_succ_of_lt hN3.lt
    · rw [List.mem_singleton] at ha; subst ha
      exact Nat.lt_succ_of_lt (Heap.lt_size hb₃)
  · intro a ha
    rcases List.mem_cons.mp ha with rfl | ha
    · exact hL
    · rw [List.mem_singleton] at ha; subst ha; exact hfr
  · exact ⟨_, _, hN3.push _, st_ne rfl, st_ne rfl, st_eq, Heap.get?_push_of_some _ hb₃, by simp, fun p hp => absurd hp (by simp)⟩
  case turn =>
    rintro i ui G' h₄ t₄ hi hGG hGM hEG ⟨m, b, k1, k2, k3, k4, k5, k6, k7⟩
    have hGL : G'.get? L = none := hGM L (by simp)
    have hGb : G'.get? ba = none := hGM ba (by simp)
    rw [show (0 : Int) + (i : Nat) * ((wd : Nat) : Int) = ((wd * i : Nat) : Int) by rw [Nat.mul_comm]; simp]
    refine rStore k1 fun h₅ t₅ hN5 hs5 => ?_
    have e5 := hEG.but hs5 hGL
    have b5 : BAt h₅ ba b := (hs5.2 ba hNL).trans k5
    have B5 := B.ext (hGG.trans e5)
    refine wpAny_execs_cons <| wpAny_For <| Call_ <| rBuilt B5 (by kernel_rfl) boot_range <| cwT <| args_cons <| rLoc hN5 (st_ne k3) <| args_nil <| rRange1 fun h₆ t₆ v₁ v₂ he hR6 => ?_
    subst he
    let Inv2 : Nat → Heap → Prop := fun j h => ∃ m b, h.Ns L m ∧ m "data" = some (.bytes d.toArray u) ∧ m "width" = some (.int wd v) ∧ m "swapped_data" = some (.ref ba) ∧ m "i" = some (.int ((wd * i : Nat) : Int) ui) ∧ BAt h ba b ∧ b.size = d.length ∧
      (∀ p, p < wd * i → b[p]? = some (swapAt d wd p)) ∧ ∀ p, wd * i + wd - j ≤ p → p < wd * i + wd → b[p]? = some (swapAt d wd p)
    have stab2 : ∀ i h h', (∀ a ∈ [L, ba], ∀ o, h.get? a = some o → h'.get? a = some o) → Inv2 i h → Inv2 i h' := by
      rintro i h h' hk ⟨m, b, k1, k2, k3, k4, k5, k6, k7⟩
      exact ⟨m, b, k1.at' (hk L (by simp)), k2, k3, k4, k5, hk ba (by simp) _ k6, k7⟩
    have hin : wd * i + wd ≤ d.length := by
      rw [hlen, ← Nat.mul_succ]; exact Nat.mul_le_mul_left wd hi
    refine rIterRange (n := wd) (G := G') [L, ba] Inv2 hh hR6 (small_one (by omega) (by omega) (by omega) (by omega)) (by rw [rangeSize_one]; split <;> omega) ?_ stab2 (e5.trans (Ext.push _ _)) hGM ?_ ?turn2 ?fin2
    · intro a ha
      rw [Heap.size_push]
      rcases List.mem_cons.mp ha with rfl | ha
      · exact Nat.lt_succ_of_lt hN5.lt
      · rw [List.mem_singleton] at ha; subst ha
        exact Nat.lt_succ_of_lt (Heap.lt_size b5)
    · exact ⟨_, _, hN5.push _, st_ne k2, st_ne k3, st_ne k4, st_eq, Heap.get?_push_of_some _ b5, k6, k7, fun p hp hp' => absurd hp (by omega)⟩
    case turn2 =>
      rintro j uj G'' h₇ t₇ hj hGG2 hGM2 hEG2 ⟨m, b, k1, k2, k3, k4, k5, k6, k7, k8, k9⟩
      have hGL2 : G''.get? L = none := hGM2 L (by simp)
      have hGb2 : G''.get? ba = none := hGM2 ba (by simp)
      rw [show (0 : Int) + (j : Nat) * 1 = ((j : Nat) : Int) by simp]
      refine rStore k1 fun h₈ t₈ hN8 hs8 => ?_
      have e8 := hEG2.but hs8 hGL2
      have b8 : BAt h₈ ba b := (hs8.2 ba hNL).trans k6
      refine wpAny_execs_cons <| wpAny_Assign_Subscript <| Subscript_ <| rLoc hN8 (st_ne k2) <| wpAny_BinOp <| rLoc hN8 (st_ne k5) <| rLoc hN8 st_eq <| rAdd fun _ _ => rItemB (by omega) (by omega) (by omega) fun ux _ => ?_
      refine rLoc hN8 (st_ne k4) <| wpAny_BinOp <| wpAny_BinOp <| wpAny_BinOp <| rLoc hN8 (st_ne k5) <| rLoc hN8 (st_ne k3) <| rAdd fun _ _ => rInt fun _ _ => rSub fun _ _ => rLoc hN8 st_eq <| rSub fun _ _ => ?_
      refine ba_setItem b8 (by omega) (by omega) (by omega) (byte_int _) fun h₉ b9 hs9 => ?_
      rw [Int.toNat_natCast, byte_there, show (((wd * i : Nat) : Int) + ((wd : Nat) : Int) - 1 - ((j : Nat) : Int)).toNat = wd * i + (wd - 1 - j) by omega,
        show (((wd * i : Nat) : Int) + ((j : Nat) : Int)).toNat = wd * i + j by omega] at b9
      refine wpAny_execs_nil ⟨.inl rfl, h₉, _, rfl, e8.but hs9 hGb2, _, _, hN8.sameBut hs9 (Ne.symm hNL), st_ne k2, st_ne k3, st_ne k4, st_ne k5, b9, by simp [k7], fun p hp => ?_, fun p hp hp' => ?_⟩
      · rw [Array.getElem?_setIfInBounds_ne (by omega)]; exact k8 p hp
      · by_cases hpe : wd * i + (wd - 1 - j) = p
        · subst hpe
          rw [get_set (by omega), swapAt_at (by omega)]
          congr 2; omega
        · rw [Array.getElem?_setIfInBounds_ne (by omega)]
          exact k9 p (by omega) hp'
    case fin2 =>
      rintro h₇ t₇ hE7 ⟨m, b, k1, k2, k3, k4, k5, k6, k7, k8, k9⟩
      refine wpAny_execs_nil ⟨.inl rfl, h₇, t₇, rfl, hE7, m, b, k1, k2, k3, k4, k6, k7, fun p hp => ?_⟩
      by_cases hp' : p < wd * i
      · exact k8 p hp'
      · exact k9 p (by omega) (by rw [Nat.mul_succ] at hp; omega)
  case fin =>
    rintro h₄ t₄ hE4 ⟨m, b, k1, k2, k3, k4, k5, k6, k7⟩
    have B4 := B.ext hE4
    refine wpAny_execs_cons <| wpAny_Return_some <| Call_ <| rBuilt B4 (by kernel_rfl) boot_bytes <| cwT <| args_cons <| rLoc k1 k4 <| args_nil <| call_bytes_ba k5 (by omega) fun u' t' => ?_
    have hb : b = (swapped d wd).toArray := by
      apply Array.ext_getElem?
      intro p
      by_cases hp : p < d.length
      · rw [k7 p (by omega)]
        simp [swapped, hp]
      · rw [Array.getElem?_eq_none (by omega), Array.getElem?_eq_none (by simp [swapped]; omega)]
    rw [hb]
    exact H h₄ t' u' hE4
end
end Mine
end

section -- P1
open PySem PySem.W PyProof.Rows
set_option maxRecDepth 100000
namespace Mine

section
variable {prog : Program} {w : World} {A : Around} {E : Value → Shared → Prop} {σ : Shared} {h : Heap} {t : Nat} {env : Env} {Q : Value → Shared → Prop}

theorem rCell {x : Str} {pos : Pos} {c : Addr} {v : Value} (hv : h.IsCell c (some v)) (H : Q v (S σ h t))
    (hk : env.scope.kind = .function := by rfl) (hl : env.kindOf x = some .cell := by rfl) (hc : env.cells.lookup x = some c := by rfl) (hd : (x == ("__debug__" : Str)) = false := by decide) :
    wpAny (model prog w) A (eval (.Name x pos) env) Q E (S σ h t) := wpAny_Name (wpAny_loadName_cell hk hl hc hv H) hd

theorem rStoreC {x : Str} {c : Addr} {v : Value} {v₀ : Option Value} {QU : Unit → Shared → Prop} (hv : h.IsCell c v₀)
    (H : ∀ h', h'.IsCell c (some v) → Heap.SameBut c h h' → QU () (S σ h' t))
    (hk : env.scope.kind = .function := by rfl) (hl : env.kindOf x = some .cell := by rfl) (hc : env.cells.lookup x = some c := by rfl) :
    wpAny (model prog w) A (storeName env x v) QU E (S σ h t) := wpAny_storeName_cell hk hl hc hv H

/-- the turns of a comprehension with one clause: the target is set, the element made, and the list is longer by it -/
theorem compLoop1 {elt target iter : Expr} {scope : Scope} {pos : Pos} {I D : Addr} {fp wr : List Addr} {n : Nat} {P : Nat → Value → Prop} {St : Nat → Heap → Prop} {R : Result → Shared → Prop}
    {cenv : Env} {G : Heap} {lo : Nat} (M : List Addr) (K : Heap → Prop) (Elt : Nat → Value → Heap → Prop)
    (W : Walks prog w A I fp wr n P St) (hn : n < 100000) (hM : ∀ a ∈ M, a ∉ fp ∧ a ≠ D ∧ G.get? a = none ∧ a < lo) (hDf : D ∉ fp) (hGD : G.get? D = none) (hDl : D < lo) (hGwr : ∀ b ∈ wr, G.get? b = none) (hwl : ∀ b ∈ wr, b < lo)
    (hK : ∀ h h', (∀ a ∈ M, ∀ o, h.get? a = some o → h'.get? a = some o) → K h → K h') (hKlo : ∀ h, K h → lo ≤ h.objs.size)
    (hE : ∀ i y h h', Ext G h' → (∀ b o, lo ≤ b → h.get? b = some o → h'.get? b = some o) → Elt i y h → Elt i y h')
    (hG : Ext G h) (hst : St 0 h) (hacc : PlainL h D #[]) (hk : K h)
    (turn : ∀ i v h t, i < n → P i v → Ext G h → lo ≤ h.objs.size → K h → wpAny (model prog w) A (assign target cenv v) (fun _ s₁ => wpAny (model prog w) A (eval elt cenv)
      (fun y s' => ∃ h' t', s' = S σ h' t' ∧ (∀ b o, b ∉ M → h.get? b = some o → h'.get? b = some o) ∧ K h' ∧ Elt i y h') (fun _ _ => False) s₁) (fun _ _ => False) (S σ h t))
    (fin : ∀ h t ys, Ext G h → K h → PlainL h D ys → ys.size = n → (∀ i y, ys[i]? = some y → Elt i y h) → R (.ok .next) (S σ h t))
    (ht : ∀ v, letOwnedTupleGo target (.ref I) v = pure () := by intro _; rfl) :
    codeAny (model prog w) A (.compLoop (.ListComp elt [⟨target, iter, [], 0⟩] scope pos) 0 (.ref I) (.ref D) cenv) R (S σ h t) := by
  have hMw : ∀ a ∈ M, a ∉ wr := fun a ha hw => (hM a ha).1 (W.sub a hw)
  have hDw : D ∉ wr := fun hw => hDf (W.sub D hw)
  have hDM : D ∉ M := fun hm => (hM D hm).2.1 rfl
  refine codeAny_compLoop_list (fun k s => ∃ h t i ys, s = S σ h t ∧ i ≤ n ∧ k = n - i ∧ Ext G h ∧ St i h ∧ K h ∧ PlainL h D ys ∧ ys.size = i ∧ (∀ j y, ys[j]? = some y → Elt j y h)) ?_ (n - 0)
    ⟨h, t, 0, #[], rfl, Nat.zero_le _, rfl, hG, hst, hk, hacc, rfl, fun j y e => by simp at e⟩ ht
  rintro k s ⟨h, t, i, ys, rfl, hi, rfl, hG, hst, hk, hacc, hsz, hel⟩
  by_cases hin : i < n
  · refine W.item i (S σ h t) _ _ hin hst (fun v h₁ t₁ hP hst₁ hk₁ => ?_)
    have hG₁ : Ext G h₁ := fun b o e => hk₁ b o (fun hb => by rw [hGwr b hb] at e; cases e) (hG b o e)
    have hK₁ : K h₁ := hK h h₁ (fun a ha o e => hk₁ a o (hMw a ha) e) hk
    refine wpAny_mono (turn i v h₁ t₁ hin hP hG₁ (hKlo _ hK₁) hK₁) (fun _ s₁ hs₁ => wpAny_mono hs₁ ?_ (fun _ _ x => x.elim)) (fun _ _ x => x.elim)
    rintro y s' ⟨h₂, t₂, rfl, hk₂, hK₂, hy⟩
    have hG₂ : Ext G h₂ := fun b o e => hk₂ b o (fun hb => by rw [(hM b hb).2.2.1] at e; cases e) (hG₁ b o e)
    have hacc₂ : PlainL h₂ D ys := (hacc.at fun o e => hk₁ D o hDw e).at fun o e => hk₂ D o hDM e
    refine list_append_plainL (s := S σ h₂ t₂) hacc₂ (fun h₃ hacc₃ hs₃ => ?_) (by rw [sizeLine_eq]; omega)
    have up : ∀ b o, lo ≤ b → h₂.get? b = some o → h₃.get? b = some o := fun b o hb e => hs₃.extBut b o (Nat.ne_of_gt (Nat.lt_of_lt_of_le hDl hb)) e
    have hG₃ : Ext G h₃ := hG₂.but hs₃ hGD
    refine ⟨n - (i + 1), by omega, h₃, t₂, i + 1, ys.push y, rfl, by omega, rfl, hG₃, ?_, ?_, hacc₃, by simp [hsz], fun j z e => ?_⟩
    · exact W.frame (i + 1) h₁ h₃ hst₁ fun b hb o e => hs₃.extBut b o (fun hbD => hDf (hbD ▸ hb)) (hk₂ b o (fun hbM => (hM b hbM).1 hb) e)
    · exact hK h₂ h₃ (fun a ha o e => hs₃.extBut a o (hM a ha).2.1 e) hK₂
    · rw [Array.getElem?_push] at e
      split at e
      · rename_i hj
        cases e
        rw [hj, hsz]
        exact hE i y h₂ h₃ hG₃ up hy
      · refine hE j z h h₃ hG₃ (fun b o hb e' => up b o hb (hk₂ b o (fun hbM => ?_) (hk₁ b o (fun hbw => ?_) e'))) (hel j z e)
        · exact Nat.lt_irrefl _ (Nat.lt_of_lt_of_le (hM b hbM).2.2.2 hb)
        · exact Nat.lt_irrefl _ (Nat.lt_of_lt_of_le (hwl b hbw) hb)
  · obtain rfl : i = n := by omega
    refine W.done (S σ h t) _ _ hst (fun h₁ t₁ hk₁ => ?_)
    have hG₁ : Ext G h₁ := fun b o e => hk₁ b o (fun hb => by rw [hGwr b hb] at e; cases e) (hG b o e)
    exact fin h₁ t₁ ys hG₁ (hK h h₁ (fun a ha o e => hk₁ a o (hMw a ha) e) hk) (hacc.at fun o e => hk₁ D o hDw e) hsz fun j y e => hE j y h h₁ hG₁ (fun b o hb e' => hk₁ b o (fun hbw => Nat.lt_irrefl _ (Nat.lt_of_lt_of_le (hwl b hbw) hb)) e') (hel j y e)

/-- a comprehension's block: the list, the names, the turns -/
theorem compBlock {elt target iter : Expr} {scope : Scope} {cl : List (Str × Addr)} {pos : Pos} {I : Addr} {fp wr : List Addr} {n : Nat} {P : Nat → Value → Prop} {St : Nat → Heap → Prop}
    {RR : Value → Addr → Result → Shared → Prop} {G : Heap} (Elt : Nat → Value → Heap → Prop)
    (W : Walks prog w A I fp wr n P St) (hn : n < 100000) (hcell : ∀ y ∈ scope.names, y.2 ≠ .cell) (hkind : scope.kind = .function)
    (hst : St 0 h) (hfp : ∀ b ∈ fp, b < h.objs.size) (hG : Ext G h) (hGwr : ∀ b ∈ wr, G.get? b = none)
    (hE : ∀ i y h₁ h₂, Ext G h₂ → (∀ b o, h.objs.size + 2 ≤ b → h₁.get? b = some o → h₂.get? b = some o) → Elt i y h₁ → Elt i y h₂)
    (turn : ∀ i v C h' t' m, i < n → P i v → Ext G h' → h.objs.size + 2 ≤ h'.objs.size → G.get? C = none → h'.Ns C m → wpAny (model prog w) A (assign target (compEnvC scope cl C env) v) (fun _ s₁ => wpAny (model prog w) A (eval elt (compEnvC scope cl C env))
      (fun y s' => ∃ h'' t'' m', s' = S σ h'' t'' ∧ (∀ b o, b ≠ C → h'.get? b = some o → h''.get? b = some o) ∧ h''.Ns C m' ∧ Elt i y h'') (fun _ _ => False) s₁) (fun _ _ => False) (S σ h' t'))
    (fin : ∀ D C h' t' ys m, Ext G h' → h.objs.size ≤ D → D ≠ C → G.get? C = none → C < h.objs.size + 2 → h'.Ns C m → PlainL h' D ys → ys.size = n → (∀ i y, ys[i]? = some y → Elt i y h') → RR (.ref D) C (.ok .next) (S σ h' t'))
    (ht : ∀ v, letOwnedTupleGo target (.ref I) v = pure () := by intro _; rfl) :
    wpAny (model prog w) A (newList []) (fun acc s₃ => wpAny (model prog w) A (newFunctionEnv scope env.globals cl [] env.qual none .none (some env)) (fun cenv s₄ =>
      codeAny (model prog w) A (.compStart (.ListComp elt [⟨target, iter, [], 0⟩] scope pos) 0 (.ref I) acc { cenv with scope := relabel scope env }) (RR acc cenv.locals) s₄) E s₃) E (S σ h t) := by
  refine wpAny_newObj_type (wpAny_newFunctionEnv hcell (by intro y hy; simp at hy) (fun h₁ hns₁ hsb₁ => ?_) hkind)
  dsimp only at hns₁ hsb₁ ⊢
  generalize hH2 : h.push { cls := .type "list", dict := none, data := .seq ([] : List Value).toArray } = H2 at hns₁ hsb₁ ⊢
  have hC : H2.objs.size = h.objs.size + 1 := by rw [← hH2, Heap.size_push]
  have hDC : h.objs.size ≠ H2.objs.size := by rw [hC]; exact Nat.ne_of_lt (Nat.lt_succ_self _)
  have x01 : Ext h h₁ := fun b o e => hsb₁.extBut b o (by rw [hC]; exact Nat.ne_of_lt (Nat.lt_succ_of_lt (Heap.lt_size e))) (Heap.get?_push_of_some _ (hH2 ▸ Heap.get?_push_of_some _ e))
  have hacc : PlainL h₁ h.objs.size #[] := ⟨_, _, hsb₁.extBut _ _ hDC (Heap.get?_push_of_some _ (hH2 ▸ Heap.get?_push_size _ rfl)), rfl, rfl, rfl⟩
  have hst₁ : St 0 h₁ := W.frame _ _ _ hst fun b _ o e => x01 b o e
  have fresh : ∀ a, h.objs.size ≤ a → G.get? a = none := fun a ha => by
    cases e : G.get? a with
    | none => rfl
    | some o' => exact absurd (Heap.lt_size (hG _ _ e)) (Nat.not_lt.mpr ha)
  have loop : ∀ tk, codeAny (model prog w) A (.compLoop (.ListComp elt [⟨target, iter, [], 0⟩] scope pos) 0 (.ref I) (.ref h.objs.size) (compEnvC scope cl H2.objs.size env))
        (RR (.ref h.objs.size) H2.objs.size) (S σ h₁ tk) := by
    intro tk
    refine compLoop1 (G := G) (lo := h.objs.size + 2) [H2.objs.size] (fun h' => ∃ m, h'.Ns H2.objs.size m) Elt W hn ?_ ?_ (fresh _ (Nat.le_refl _)) (Nat.lt_succ_of_lt (Nat.lt_succ_self _)) hGwr ?_ ?_ ?_ hE (hG.trans x01) hst₁ hacc ⟨_, hns₁⟩ ?_ ?_ ht
    · intro a ha
      rw [List.mem_singleton] at ha; subst ha
      exact ⟨fun hf => by have := hfp _ hf; rw [hC] at this; exact absurd this (Nat.not_lt.mpr (Nat.le_succ _)), Ne.symm hDC, fresh _ (by rw [hC]; exact Nat.le_succ _), by rw [hC]; exact Nat.lt_succ_self _⟩
    · exact fun hf => Nat.lt_irrefl _ (hfp _ hf)
    · exact fun b hb => Nat.lt_of_lt_of_le (hfp b (W.sub b hb)) (Nat.le_add_right _ 2)
    · rintro h₂ h₃ hk ⟨m, hm⟩
      exact ⟨m, hm.at' (hk _ (by simp))⟩
    · rintro h₂ ⟨m, hm⟩
      have := hm.lt
      rw [hC] at this; exact this
    · rintro i v h₂ t₂ hi hP hG₂ hlo ⟨m, hm⟩
      refine wpAny_mono (turn i v H2.objs.size h₂ t₂ m hi hP hG₂ hlo (fresh _ (by rw [hC]; exact Nat.le_succ _)) hm) (fun _ s₁ hs => wpAny_mono hs ?_ (fun _ _ x => x)) (fun _ _ x => x)
      rintro y s' ⟨h₃, t₃, m', rfl, hk, hm', hy⟩
      exact ⟨h₃, t₃, rfl, fun b o hb e => hk b o (by simpa using hb) e, ⟨m', hm'⟩, hy⟩
    · rintro h₂ t₂ ys hG₂ ⟨m, hm⟩ hl hsz hel
      exact fin _ _ h₂ t₂ ys m hG₂ (Nat.le_refl _) hDC (fresh _ (by rw [hC]; exact Nat.le_succ _)) (by rw [hC]; exact Nat.lt_succ_self _) hm hl hsz hel
  exact codeAny_compStart_list (loop _) (W.self 0 (S σ h₁ _) _ _ hst₁ (loop _))

/-- what is to be shown of the elements, over the source's items -/
noncomputable def CompOf (prog : Program) (w : World) (A : Around) (σ : Shared) (env : Env) (scope : Scope) (cl : List (Str × Addr)) (x : Str) (elt : Expr) (G : Heap) (lo n : Nat) (P : Nat → Value → Prop) (Elt : Nat → Value → Heap → Prop) : Prop :=
  (∀ i y h₁ h₂, Ext G h₂ → (∀ b o, lo ≤ b → h₁.get? b = some o → h₂.get? b = some o) → Elt i y h₁ → Elt i y h₂) ∧
  ∀ i v C h' t' m, i < n → P i v → Ext G h' → lo ≤ h'.objs.size → h'.Ns C m → m x = some v →
    wpAny (model prog w) A (eval elt (compEnvC scope cl C env)) (fun y s' => ∃ h'' t'', s' = S σ h'' t'' ∧ Ext h' h'' ∧ Elt i y h'') (fun _ _ => False) (S σ h' t')

noncomputable def CompIt (prog : Program) (w : World) (A : Around) (σ : Shared) (env : Env) (scope : Scope) (cl : List (Str × Addr)) (x : Str) (elt : Expr) (Q : Value → Shared → Prop) (it : Value) (s₂ : Shared) : Prop :=
  ∃ h t I fp wr n P St G Elt, it = .ref I ∧ s₂ = S σ h t ∧ Walks prog w A I fp wr n P St ∧ n < 100000 ∧ St 0 h ∧ (∀ b ∈ fp, b < h.objs.size) ∧ Ext G h ∧ (∀ b ∈ wr, G.get? b = none) ∧
      CompOf prog w A σ env scope cl x elt G (h.objs.size + 2) n P Elt ∧
      (∀ D h' t' ys, Ext G h' → h.objs.size ≤ D → PlainL h' D ys → ys.size = n → (∀ i y, ys[i]? = some y → Elt i y h') → Q (.ref D) (S σ h' t'))
noncomputable def AsgIt (prog : Program) (w : World) (A : Around) (σ : Shared) (env : Env) (scope : Scope) (cl : List (Str × Addr)) (x z : Str) (elt : Expr) (QF : Flow → Shared → Prop) (it : Value) (s₂ : Shared) : Prop :=
  ∃ h t I fp wr n P St G Elt m, it = .ref I ∧ s₂ = S σ h t ∧ Walks prog w A I fp wr n P St ∧ n < 100000 ∧ St 0 h ∧ (∀ b ∈ fp, b < h.objs.size) ∧ Ext G h ∧ (∀ b ∈ wr, G.get? b = none) ∧ G.Ns env.locals m ∧
      CompOf prog w A σ env scope cl x elt G (h.objs.size + 2) n P Elt ∧
      (∀ D h' t' ys, Heap.ExtBut env.locals G h' → h'.Ns env.locals (upd m z (.ref D)) → h.objs.size ≤ D → PlainL h' D ys → ys.size = n →
        (∃ h₁, Ext G h₁ ∧ (∀ i y, ys[i]? = some y → Elt i y h₁) ∧ ∀ b o, h.objs.size + 2 ≤ b → h₁.get? b = some o → h'.get? b = some o) → QF .next (S σ h' t'))

/-- a comprehension as a value: [elt for x in iter] -/
theorem rComp {elt iter : Expr} {x : Str} {px : Pos} {scope : Scope} {cl : List (Str × Addr)} {pos : Pos}
    (H : wpAny (model prog w) A (eval iter env) (fun xv s₁ => wpAny (model prog w) A (pyIter xv) (CompIt prog w A σ env scope cl x elt Q) E s₁) E (S σ h t))
    (hclos : closureFor scope env = pure cl := by rfl) (hcell : ∀ y ∈ scope.names, y.2 ≠ .cell := by decide) (hkind : scope.kind = .function := by rfl)
    (hnames : ∀ y ∈ scope.names, y.2 = .local → scope.names.lookup y.1 = some .local := by decide) (hx : scope.names.lookup x = some .local := by rfl)
    (hs : ∀ x, foldedSetIterable iter env x = pure x := by intro _; rfl) :
    wpAny (model prog w) A (eval (.ListComp elt [⟨.Name x px, iter, [], 0⟩] scope pos) env) Q E (S σ h t) := by
  rw [eval_ListComp]
  refine wpAny_comprehension_free (use := none) rfl hs hclos hkind hnames (wpAny_mono H (fun xv s₁ h₁ => wpAny_mono h₁ (fun it s₂ h₂ => ?_) fun _ _ e => e) fun _ _ e => e)
  obtain ⟨h, t, I, fp, wr, n, P, St, G, Elt, rfl, rfl, W, hn, hst, hfp, hG, hGwr, ⟨hE, helt⟩, hQ⟩ := h₂
  refine compBlock (RR := fun acc C => compPost (model prog w) A E none Q acc C) Elt W hn hcell hkind hst hfp hG hGwr hE ?_ ?_
  · intro i v C h' t' m hi hP hG' hlo hGC hm
    refine wpAny_assign_Name (rStore (env := compEnvC scope cl C env) hm (fun h₁ t₁ hN₁ hs₁ => ?_) (by simp [compEnvC, relabel, hkind]) (lookup_relabel_local hx))
    have hlo₁ : h.objs.size + 2 ≤ h₁.objs.size := by rw [hs₁.1]; exact hlo
    refine wpAny_mono (helt i v C h₁ t₁ _ hi hP (hG'.but hs₁ hGC) hlo₁ hN₁ st_eq) ?_ (fun _ _ x => x)
    rintro y s' ⟨h₂, t₂, rfl, hx₂, hy⟩
    exact ⟨h₂, t₂, _, rfl, fun b o hb e => hx₂ b o (hs₁.extBut b o hb e), hN₁.keeps hx₂, hy⟩
  · intro D C h' t' ys m hG' hD hDC hGC hC hm hl hsz hel
    exact ⟨m, hm, fun h'' hs'' => hQ D h'' t' ys (hG'.but hs'' hGC) hD (hl.extBut hs''.extBut hDC) hsz fun i y e => hE i y h' h'' (hG'.but hs'' hGC) (fun b o hb e => hs''.extBut b o (Nat.ne_of_gt (Nat.lt_of_lt_of_le hC hb)) e) (hel i y e)⟩

/-- x = [elt for y in iter], x a local: the name is stored ahead of the comprehension's own names' end -/
theorem rAssignComp {elt iter : Expr} {x z : Str} {px pz spos : Pos} {scope : Scope} {cl : List (Str × Addr)} {pos : Pos} {QF : Flow → Shared → Prop}
    (H : wpAny (model prog w) A (eval iter env) (fun xv s₁ => wpAny (model prog w) A (pyIter xv) (AsgIt prog w A σ env scope cl x z elt QF) E s₁) E (S σ h t))
    (hsw : swapsWith (.ListComp elt [⟨.Name x px, iter, [], 0⟩] scope pos) (some (.Name z pz)) spos.line env = pure true := by rfl)
    (hz : env.kindOf z = some .local := by rfl) (hek : env.scope.kind = .function := by rfl)
    (hclos : closureFor scope env = pure cl := by rfl) (hcell : ∀ y ∈ scope.names, y.2 ≠ .cell := by decide) (hkind : scope.kind = .function := by rfl)
    (hnames : ∀ y ∈ scope.names, y.2 = .local → scope.names.lookup y.1 = some .local := by decide) (hx : scope.names.lookup x = some .local := by rfl)
    (hs : ∀ x, foldedSetIterable iter env x = pure x := by intro _; rfl) :
    wpAny (model prog w) A (exec (.Assign [.Name z pz] (.ListComp elt [⟨.Name x px, iter, [], 0⟩] scope pos) spos) env) QF E (S σ h t) := by
  rw [exec_Assign_Name_used _ _ _ _ hsw]
  refine wpAny_bind (wpAny_standAt (wpAny_bind ?_))
  show wpAny _ A (do let _ ← comprehension (.ListComp elt [⟨.Name x px, iter, [], 0⟩] scope pos) scope env _ (newList []) false (eval iter env) (some (assign (.Name z pz) env))) _ _ (S σ h t)
  refine wpAny_bind (wpAny_mono (wpAny_comprehension_free (use := some (assign (.Name z pz) env)) (Q := fun _ s' => QF .next s') rfl hs hclos hkind hnames
    (wpAny_mono H (fun xv s₁ h₁ => wpAny_mono h₁ (fun it s₂ h₂ => ?_) fun _ _ e => e) fun _ _ e => e)) (fun _ s' hq => wpAny_pure (wpAny_pure hq)) fun _ _ e => e)
  obtain ⟨h, t, I, fp, wr, n, P, St, G, Elt, m, rfl, rfl, W, hn, hst, hfp, hG, hGwr, hGL, ⟨hE, helt⟩, hQ⟩ := h₂
  refine compBlock (RR := fun acc C => compPost (model prog w) A E (some (assign (.Name z pz) env)) (fun _ s' => QF .next s') acc C) Elt W hn hcell hkind hst hfp hG hGwr hE ?_ ?_
  · intro i v C h' t' m hi hP hG' hlo hGC hm
    refine wpAny_assign_Name (rStore (env := compEnvC scope cl C env) hm (fun h₁ t₁ hN₁ hs₁ => ?_) (by simp [compEnvC, relabel, hkind]) (lookup_relabel_local hx))
    have hlo₁ : h.objs.size + 2 ≤ h₁.objs.size := by rw [hs₁.1]; exact hlo
    refine wpAny_mono (helt i v C h₁ t₁ _ hi hP (hG'.but hs₁ hGC) hlo₁ hN₁ st_eq) ?_ (fun _ _ x => x)
    rintro y s' ⟨h₂, t₂, rfl, hx₂, hy⟩
    exact ⟨h₂, t₂, _, rfl, fun b o hb e => hx₂ b o (hs₁.extBut b o hb e), hN₁.keeps hx₂, hy⟩
  · intro D C h' t' ys mC hG' hD hDC hGC hC hm hl hsz hel
    have hLC : env.locals ≠ C := by rintro rfl; obtain ⟨o, _, _, ho, _⟩ := hGL; rw [hGC] at ho; cases ho
    have hLh : env.locals < h.objs.size := by obtain ⟨o, _, _, ho, _⟩ := hGL; exact Heap.lt_size (hG _ _ ho)
    have hLD : env.locals ≠ D := Nat.ne_of_lt (Nat.lt_of_lt_of_le hLh hD)
    show wpAny _ A (assign (.Name z pz) env (.ref D)) _ _ _
    refine wpAny_assign_Name (rStore (hGL.keeps hG') (fun h₂ t₂ hn₂ hs₂ => ?_) hek hz)
    refine ⟨mC, hm.sameBut hs₂ (Ne.symm hLC), fun h₃ hs₃ => ?_⟩
    refine hQ D h₃ _ ys (fun b o hb e => hs₃.extBut b o (by rintro rfl; rw [hGC] at e; cases e) (hs₂.extBut b o hb (hG' b o e))) (hn₂.sameBut hs₃ hLC) hD ((hl.extBut hs₂.extBut (Ne.symm hLD)).extBut hs₃.extBut hDC) hsz
      ⟨h', hG', hel, fun b o hb e => hs₃.extBut b o (Nat.ne_of_gt (Nat.lt_of_lt_of_le hC hb)) (hs₂.extBut b o (Nat.ne_of_gt (Nat.lt_of_lt_of_le hLh (Nat.le_trans (Nat.le_add_right _ 2) hb))) e)⟩

section
variable {scope : Scope} {cl : List (Str × Addr)} {x z : Str} {elt : Expr} {QF : Flow → Shared → Prop} {a : Addr} {items : Array Value}

theorem itList (Elt : Nat → Value → Heap → Prop) (hh : A.handled = none) (hl : h.IsList a items) (hn : items.size < 100000)
    (hC : CompOf prog w A σ env scope cl x elt h (h.objs.size + 3) items.size (fun i v => items[i]? = some v) Elt)
    (fin : ∀ D h' t' ys, Ext h h' → h.objs.size ≤ D → PlainL h' D ys → ys.size = items.size → (∀ i y, ys[i]? = some y → Elt i y h') → Q (.ref D) (S σ h' t')) :
    wpAny (model prog w) A (pyIter (.ref a)) (CompIt prog w A σ env scope cl x elt Q) E (S σ h t) := by
  have hlt : a < h.objs.size := by obtain ⟨o, ho, _⟩ := hl; exact Heap.lt_size ho
  refine wpAny_pyIter_list (s := S σ h t) hl ⟨_, t, h.objs.size, _, _, _, _, _, h, Elt, rfl, rfl, Walks.list hh h.objs.size a (Nat.ne_of_lt hlt) items, hn, ⟨⟨_, Heap.get?_push_size _ rfl, rfl, rfl⟩, hl.push _⟩, ?_, Ext.push _ _, ?_, ?_, ?_⟩
  · intro b hb
    rw [Heap.size_push]
    rcases List.mem_cons.mp hb with rfl | hb
    · exact Nat.lt_succ_self _
    · rw [List.mem_singleton] at hb; subst hb; exact Nat.lt_succ_of_lt hlt
  · intro b hb
    rw [List.mem_singleton] at hb; subst hb; exact (Ext.refl h).fresh
  · rw [Heap.size_push]; exact hC
  · intro D h' t' ys hx hD
    rw [Heap.size_push] at hD
    exact fin D h' t' ys hx (Nat.le_of_succ_le hD)

theorem itRange {r : Addr} {a b c : Int} {u₁ u₂ u₃ : Tok} {n : Nat} (Elt : Nat → Value → Heap → Prop) (hh : A.handled = none) (hr : IsRange h r a b c u₁ u₂ u₃) (hsm : Builtin.Range.small a b c = true) (hn : Builtin.Range.rangeSize a b c = n) (hnb : n < 100000)
    (hC : CompOf prog w A σ env scope cl x elt h (h.objs.size + 3) n (fun i v => ∃ t, v = .int (a + i * c) t) Elt)
    (fin : ∀ D h' t' ys, Ext h h' → h.objs.size ≤ D → PlainL h' D ys → ys.size = n → (∀ i y, ys[i]? = some y → Elt i y h') → Q (.ref D) (S σ h' t')) :
    wpAny (model prog w) A (pyIter (.ref r)) (CompIt prog w A σ env scope cl x elt Q) E (S σ h t) := by
  refine wpAny_pyIter_range (s := S σ h t) hr hsm ⟨_, t, h.objs.size, _, _, _, _, _, h, Elt, rfl, rfl, Walks.range hh h.objs.size a c n, hnb, ?_, ?_, Ext.push _ _, ?_, ?_, ?_⟩
  · have := Heap.get?_push_size h (o := { cls := .type "range_iterator", data := .fields #[rawInt a, rawInt (Builtin.Range.rangeSize a b c), rawInt c] }) rfl
    rw [hn] at this ⊢
    simpa using this
  · intro b hb
    rw [List.mem_singleton] at hb; subst hb
    rw [Heap.size_push]; exact Nat.lt_succ_self _
  · intro b hb
    rw [List.mem_singleton] at hb; subst hb; exact (Ext.refl h).fresh
  · rw [Heap.size_push]; exact hC
  · intro D h' t' ys hx hD
    rw [Heap.size_push] at hD
    exact fin D h' t' ys hx (Nat.le_of_succ_le hD)

theorem itStr {y : Str} {u : Tok} (Elt : Nat → Value → Heap → Prop) (hh : A.handled = none) (hn : y.cps.size < 100000)
    (hC : CompOf prog w A σ env scope cl x elt h (h.objs.size + 3) y.cps.size (SignAt y) Elt)
    (fin : ∀ D h' t' ys, Ext h h' → h.objs.size ≤ D → PlainL h' D ys → ys.size = y.cps.size → (∀ i y, ys[i]? = some y → Elt i y h') → Q (.ref D) (S σ h' t')) :
    wpAny (model prog w) A (pyIter (.str y u)) (CompIt prog w A σ env scope cl x elt Q) E (S σ h t) := by
  refine wpAny_pyIter_str (s := S σ h t) fun o St hW hst => ⟨_, t, h.objs.size, _, _, _, _, _, h, Elt, rfl, rfl, hW A hh, hn, hst, ?_, Ext.push _ _, ?_, ?_, ?_⟩
  · intro b hb
    rw [List.mem_singleton] at hb; subst hb
    rw [Heap.size_push]; exact Nat.lt_succ_self _
  · intro b hb
    rw [List.mem_singleton] at hb; subst hb; exact (Ext.refl h).fresh
  · rw [Heap.size_push]; exact hC
  · intro D h' t' ys hx hD
    rw [Heap.size_push] at hD
    exact fin D h' t' ys hx (Nat.le_of_succ_le hD)

theorem asRange {r : Addr} {a b c : Int} {u₁ u₂ u₃ : Tok} {n : Nat} {m : Str → Option Value} (Elt : Nat → Value → Heap → Prop) (hh : A.handled = none) (hr : IsRange h r a b c u₁ u₂ u₃) (hsm : Builtin.Range.small a b c = true) (hn : Builtin.Range.rangeSize a b c = n) (hnb : n < 100000)
    (hL : h.Ns env.locals m)
    (hC : CompOf prog w A σ env scope cl x elt h (h.objs.size + 3) n (fun i v => ∃ t, v = .int (a + i * c) t) Elt)
    (fin : ∀ D h' t' ys, Heap.ExtBut env.locals h h' → h'.Ns env.locals (upd m z (.ref D)) → h.objs.size ≤ D → PlainL h' D ys → ys.size = n →
      (∃ h₁, Ext h h₁ ∧ (∀ i y, ys[i]? = some y → Elt i y h₁) ∧ ∀ b o, h.objs.size + 3 ≤ b → h₁.get? b = some o → h'.get? b = some o) → QF .next (S σ h' t')) :
    wpAny (model prog w) A (pyIter (.ref r)) (AsgIt prog w A σ env scope cl x z elt QF) E (S σ h t) := by
  refine wpAny_pyIter_range (s := S σ h t) hr hsm ⟨_, t, h.objs.size, _, _, _, _, _, h, Elt, m, rfl, rfl, Walks.range hh h.objs.size a c n, hnb, ?_, ?_, Ext.push _ _, ?_, hL, ?_, ?_⟩
  · have := Heap.get?_push_size h (o := { cls := .type "range_iterator", data := .fields #[rawInt a, rawInt (Builtin.Range.rangeSize a b c), rawInt c] }) rfl
    rw [hn] at this ⊢
    simpa using this
  · intro b hb
    rw [List.mem_singleton] at hb; subst hb
    rw [Heap.size_push]; exact Nat.lt_succ_self _
  · intro b hb
    rw [List.mem_singleton] at hb; subst hb; exact (Ext.refl h).fresh
  · rw [Heap.size_push]; exact hC
  · intro D h' t' ys hx hL' hD hl hsz hex
    rw [Heap.size_push] at hD hex
    exact fin D h' t' ys hx hL' (Nat.le_of_succ_le hD) hl hsz hex
end
end
end Mine
end

section -- P2
open PySem PySem.W PyProof.Rows
set_option maxRecDepth 100000
set_option maxHeartbeats 2000000
namespace Mine

section
variable {prog : Program} {w : World} {A : Around} {E : Value → Shared → Prop} {σ : Shared} {h : Heap} {t : Nat} {env : Env} {Q : Value → Shared → Prop}

theorem rDiv {a b : Int} {u v : Tok} (hb : b ≠ 0) (hs : b.natAbs < 2 ^ 1000) (H : ∀ x t', Q (.int (a.fdiv b) x) (S σ h t')) : wpAny (model prog w) A (binaryOp .FloorDiv (.int a u) (.int b v)) Q E (S σ h t) :=
  floordiv_int (s := S σ h t) hb (H _ _) (Or.inl (PyProof.noPylong_of_log2 (Nat.lt_of_lt_of_le ((Nat.log2_lt (by omega)).mpr hs) (by decide))))
theorem rMod {a b : Int} {u v : Tok} (hb : b ≠ 0) (H : ∀ x t', Q (.int (a.fmod b) x) (S σ h t')) : wpAny (model prog w) A (binaryOp .Mod (.int a u) (.int b v)) Q E (S σ h t) := mod_int' (s := S σ h t) hb (H _ _)
theorem rPow {a n : Int} {u v : Tok} (hn : 0 ≤ n) (hn2 : n ≤ 1000) (ha : a.natAbs < 2 ^ 20) (H : ∀ x t', Q (.int (a ^ n.toNat) x) (S σ h t')) : wpAny (model prog w) A (binaryOp .Pow (.int a u) (.int n v)) Q E (S σ h t) := by
  refine pow_int (s := S σ h t) hn ?_ (H _ _)
  have hb : Builtin.Int.intBits a ≤ 20 := by
    unfold Builtin.Int.intBits
    split
    · exact Nat.zero_le _
    · rename_i h0
      have h0' : a.natAbs ≠ 0 := by simpa using h0
      have := (Nat.log2_lt h0').mpr ha
      omega
  have : (Builtin.Int.intBits a : Int) * n ≤ 20 * 1000 := Int.mul_le_mul (by omega) hn2 hn (by omega)
  omega

/-- a call of a def with cells enters its body -/
theorem enterCells {a : Addr} {o : Obj} {fd : FuncData} {body : List Stmt} {vals : List Value} {binds : List (Str × Value)}
    (hroom : A.depth < recursionLimit) (B : Base w h) (ho : h.get? a = some o) (hdata : o.data = .func fd) (hcd : h.CodeRec fd.code fd.qualname)
    (hbody : fd.body = .stmts body) (hbind : bindArgs fd ⟨vals, []⟩ = pure binds) (hclo : fd.closure = [])
    (hkind : ∀ x ∈ binds, fd.scope.names.lookup x.1 = some .local ∨ (fd.scope.names.lookup x.1 = some .cell ∧ ((cellsFrom (h.objs.size + 1) fd.scope.names []).lookup x.1).isSome = true))
    (H : ∀ h₁ t₁, h₁.Ns h.objs.size (bindL (callEnvC fd h.objs.size a).kindOf binds fun _ => none) → Ext h h₁ →
      (∀ n c, (cellsFrom (h.objs.size + 1) fd.scope.names []).lookup n = some c → h₁.IsCell c (bindC (callEnvC fd h.objs.size a).kindOf binds (fun _ => none) n)) →
      wpAny (model prog w) (A.deeper (callEnvC fd h.objs.size a)) (execs body (callEnvC fd h.objs.size a)) (fun f s' => Q (match f with | .ret v => v | _ => .none) s') (fun _ _ => False) (S σ h₁ t₁))
    (hco : fd.scope.isCoroutine = false := by rfl) (hgen : fd.scope.isGenerator = false := by rfl) (hk : fd.scope.kind = .function := by rfl) :
    wpAny (model prog w) A (call (.ref a) vals) Q E (S σ h t) := by
  refine wpAny_call (codeAny_call_cells (s := S σ h t) hroom ho hdata B.nl hcd hbody hbind hclo hkind (fun s₁ x => ?_) hco hgen hk)
  obtain ⟨h₁, t₁, rfl⟩ := x.toInCall.same
  exact wpAny_mono (H h₁ t₁ x.toInCall.ns x.toInCall.keep x.cell) (fun _ _ x => x) (fun _ _ x => x.elim)

section
variable {elt t₀ t₁ i₀ i₁ : Expr} {scope : Scope} {pos : Pos} {it acc : Value} {cenv : Env} {R : Result → Shared → Prop} {s : Shared}

theorem compTurn_in : compTurn (.ListComp elt [⟨t₀, i₀, [], 0⟩, ⟨t₁, i₁, [], 0⟩] scope pos) 1 it acc cenv = (standAt i₁.pos >>= fun _ => pyNext it >>= fun r => match r with
      | none => pure (.done .next)
      | some v => letOwnedTupleGo t₁ it v >>= fun _ => assign t₁ cenv v >>= fun _ =>
        (eval elt cenv >>= fun x => call (.builtin "list.append") [acc, x] >>= fun _ => pure ()) >>= fun _ =>
          again (.compLoop (.ListComp elt [⟨t₀, i₀, [], 0⟩, ⟨t₁, i₁, [], 0⟩] scope pos) 1 it acc cenv)) := by rfl

theorem compTurn_out : compTurn (.ListComp elt [⟨t₀, i₀, [], 0⟩, ⟨t₁, i₁, [], 0⟩] scope pos) 0 it acc cenv = (standAt i₀.pos >>= fun _ => pyNext it >>= fun r => match r with
      | none => pure (.done .next)
      | some v => letOwnedTupleGo t₀ it v >>= fun _ => assign t₀ cenv v >>= fun _ =>
        (eval i₁ cenv >>= fun x => standAt i₁.pos >>= fun _ => foldedSetIterable i₁ cenv x >>= fun x => (holding [x] (pyIter x)) >>= fun it₁ =>
          runOwn (.compStart (.ListComp elt [⟨t₀, i₀, [], 0⟩, ⟨t₁, i₁, [], 0⟩] scope pos) 1 it₁ acc cenv) cenv >>= fun _ => 
          again (.compLoop (.ListComp elt [⟨t₀, i₀, [], 0⟩, ⟨t₁, i₁, [], 0⟩] scope pos) 0 it acc cenv))) := by rfl

theorem compLoop_in (I : Nat → Shared → Prop)
    (turn : ∀ n s, I n s → wpAny (model prog w) A (pyNext it) (fun r s₁ => match r with
      | none => R (.ok .next) s₁
      | some v => wpAny (model prog w) A (assign t₁ cenv v) (fun _ s₂ => wpAny (model prog w) A (eval elt cenv) (fun x s₃ =>
          wpAny (model prog w) A (call (.builtin "list.append") [acc, x]) (fun _ s₄ => ∃ m, m < n ∧ I m s₄) (fun _ _ => False) s₃) (fun _ _ => False) s₂) (fun _ _ => False) s₁) (fun _ _ => False) s)
    (n : Nat) (h : I n s) (ht : ∀ v, letOwnedTupleGo t₁ it v = pure () := by intro _; rfl) :
    codeAny (model prog w) A (.compLoop (.ListComp elt [⟨t₀, i₀, [], 0⟩, ⟨t₁, i₁, [], 0⟩] scope pos) 1 it acc cenv) R s := by
  refine codeAny_loop rfl I (fun n s hI => ?_) n h
  show wpAny _ _ ((compTurn (.ListComp elt [⟨t₀, i₀, [], 0⟩, ⟨t₁, i₁, [], 0⟩] scope pos) 1 it acc cenv).onRaise (fun x => do noteFrame x cenv; theTreesLotGoes x)) _ _ s
  refine wpAny_noted (wpAny_mono (E := fun _ _ => False) ?_ (fun _ _ x => x) (fun _ _ x => x.elim))
  rw [compTurn_in]
  refine wpAny_bind (wpAny_standAt (wpAny_bind (wpAny_mono (turn n s hI) (fun r s₁ h₁ => ?_) fun _ _ h' => h')))
  cases r with
  | none => exact wpAny_pure h₁
  | some v =>
    refine wpAny_bind (wpAny_of_eq (ht v) ?_)
    exact wpAny_bind (wpAny_mono h₁ (fun _ s₂ h₂ => wpAny_bind (wpAny_bind (wpAny_mono h₂ (fun x s₃ h₃ => wpAny_bind (wpAny_mono h₃
      (fun _ s₄ h₄ => wpAny_pure (wpAny_pure ⟨rfl, h₄⟩)) fun _ _ h' => h')) fun _ _ h' => h'))) fun _ _ h' => h')

theorem compStart_in
    (h0 : codeAny (model prog w) A (.compLoop (.ListComp elt [⟨t₀, i₀, [], 0⟩, ⟨t₁, i₁, [], 0⟩] scope pos) 1 it acc cenv) R s)
    (h : wpAny (model prog w) A (pyIter it) (fun it' s' => codeAny (model prog w) A (.compLoop (.ListComp elt [⟨t₀, i₀, [], 0⟩, ⟨t₁, i₁, [], 0⟩] scope pos) 1 it' acc cenv) R s') (fun _ _ => False) s) :
    codeAny (model prog w) A (.compStart (.ListComp elt [⟨t₀, i₀, [], 0⟩, ⟨t₁, i₁, [], 0⟩] scope pos) 1 it acc cenv) R s := by
  refine codeAny_of_tree ?_
  show wpAny _ _ ((compStart (.ListComp elt [⟨t₀, i₀, [], 0⟩, ⟨t₁, i₁, [], 0⟩] scope pos) 1 it acc cenv).onRaise (fun x => do noteFrame x cenv; standAt theWindowsPlace)) _ _ s
  refine wpAny_notedAt (wpAny_mono (E := fun _ _ => False) ?_ (fun _ _ x => x) (fun _ _ x => x.elim))
  unfold compStart
  show wpAny _ _ (ask >>= _) _ _ s
  refine wpAny_bind (wpAny_askSetting (wpAny_ite ?_))
  split
  · first
      | exact wpAny_bind (wpAny_pure (wpAny_pure (And.intro rfl h0)))
      | exact wpAny_pure (And.intro rfl h0)
  · first
      | exact wpAny_bind (wpAny_rule (wpAny_bind (wpAny_standAt (wpAny_bind (wpAny_mono h (fun it' s' h' => wpAny_pure (And.intro rfl h')) fun _ _ x => x)))))
      | (refine wpAny_bind (wpAny_rule ?_); show wpAny _ _ (standAt i₁.pos >>= _) _ _ s; exact wpAny_bind (wpAny_standAt (wpAny_bind (wpAny_mono h (fun it' s' h' => wpAny_pure (And.intro rfl h')) fun _ _ x => x))))

theorem compLoop_out (I : Nat → Shared → Prop)
    (turn : ∀ n s, I n s → wpAny (model prog w) A (pyNext it) (fun r s₁ => match r with
      | none => R (.ok .next) s₁
      | some v => wpAny (model prog w) A (assign t₀ cenv v) (fun _ s₂ => wpAny (model prog w) A (eval i₁ cenv) (fun x s₃ =>
          wpAny (model prog w) A (pyIter x) (fun it₁ s₄ => codeAny (model prog w) A (.compStart (.ListComp elt [⟨t₀, i₀, [], 0⟩, ⟨t₁, i₁, [], 0⟩] scope pos) 1 it₁ acc cenv) (fun r s₅ => r = .ok .next ∧ ∃ m, m < n ∧ I m s₅) s₄)
            (fun _ _ => False) s₃) (fun _ _ => False) s₂) (fun _ _ => False) s₁) (fun _ _ => False) s)
    (n : Nat) (h : I n s) (ht : ∀ v, letOwnedTupleGo t₀ it v = pure () := by intro _; rfl) (hs : ∀ x, foldedSetIterable i₁ cenv x = pure x := by intro _; rfl) :
    codeAny (model prog w) A (.compLoop (.ListComp elt [⟨t₀, i₀, [], 0⟩, ⟨t₁, i₁, [], 0⟩] scope pos) 0 it acc cenv) R s := by
  refine codeAny_loop rfl I (fun n s hI => ?_) n h
  show wpAny _ _ ((compTurn (.ListComp elt [⟨t₀, i₀, [], 0⟩, ⟨t₁, i₁, [], 0⟩] scope pos) 0 it acc cenv).onRaise (fun x => do noteFrame x cenv; theTreesLotGoes x)) _ _ s
  refine wpAny_noted (wpAny_mono (E := fun _ _ => False) ?_ (fun _ _ x => x) (fun _ _ x => x.elim))
  rw [compTurn_out]
  refine wpAny_bind (wpAny_standAt (wpAny_bind (wpAny_mono (turn n s hI) (fun r s₁ h₁ => ?_) fun _ _ h' => h')))
  cases r with
  | none => exact wpAny_pure h₁
  | some v =>
    refine wpAny_bind (wpAny_of_eq (ht v) ?_)
    refine wpAny_bind (wpAny_mono h₁ (fun _ s₂ h₂ => wpAny_bind (wpAny_mono h₂ (fun x s₃ h₃ => wpAny_bind (wpAny_standAt (wpAny_bind (wpAny_of_eq (hs x) (wpAny_bind (wpAny_holding (wpAny_mono h₃ (fun it₁ s₄ h₄ => ?_) fun _ _ x => x))))))) fun _ _ x => x)) fun _ _ x => x)
    refine wpAny_bind (wpAny_runOwn (codeAny_mono h₄ ?_))
    rintro r s₅ ⟨rfl, hm⟩
    exact wpAny_pure ⟨rfl, hm⟩
end
end
end Mine
end

section -- P3
open PySem PySem.W PyProof.Rows
set_option maxRecDepth 100000
set_option maxHeartbeats 2000000
namespace Mine

theorem ints_at {v : Value} : ∀ {vs : List Value} {ns : List Int} {i : Nat}, IntsAre vs ns → vs[i]? = some v → ∃ n u, ns[i]? = some n ∧ v = .int n u
  | [], _, i, _, hv => by simp at hv
  | _ :: vs, [], _, h, _ => by cases h
  | v' :: vs, n :: ns, 0, h, hv => by
    cases h
    simp at hv
    exact ⟨_, _, rfl, hv.symm⟩
  | v' :: vs, n :: ns, i + 1, h, hv => by
    cases h
    rename_i h'
    simp only [List.getElem?_cons_succ] at hv ⊢
    exact ints_at h' hv

section
variable {prog : Program} {w : World} {A : Around} {E : Value → Shared → Prop} {σ : Shared} {h : Heap} {t : Nat} {env : Env} {Q : Value → Shared → Prop}

theorem compIn {elt t₀ i₀ i₁ : Expr} {x₁ : Str} {px₁ : Pos} {scope : Scope} {pos : Pos} {cenv : Env} {C D r : Addr} {G : Heap} {m : Str → Option Value} {pre : List Int} {vs : List Value} {wd : Nat} {f : Nat → Int} {u₁ u₂ u₃ : Tok}
    (hh : A.handled = none) (hC : cenv.locals = C) (hck : cenv.scope.kind = .function) (hx₁ : cenv.kindOf x₁ = some .local) (hGC : G.get? C = none) (hGD : G.get? D = none) (hCD : C ≠ D) (hG : Ext G h) (hN : h.Ns C m) (hl : PlainL h D vs.toArray) (hi : IntsAre vs pre)
    (hsz : vs.length + wd < 100000) (hr : IsRange h r 0 wd 1 u₁ u₂ u₃)
    (helt : ∀ j u h t m', j < wd → Ext G h → h.Ns C m' → (∀ y, y ≠ x₁ → m' y = m y) → m' x₁ = some (.int (j : Nat) u) → ∀ QV : Value → Shared → Prop, (∀ u' t', QV (.int (f j) u') (S σ h t')) → wpAny (model prog w) A (eval elt cenv) QV (fun _ _ => False) (S σ h t)) :
    wpAny (model prog w) A (pyIter (.ref r)) (fun it₁ s₄ => codeAny (model prog w) A (.compStart (.ListComp elt [⟨t₀, i₀, [], 0⟩, ⟨.Name x₁ px₁, i₁, [], 0⟩] scope pos) 1 it₁ (.ref D) cenv)
      (fun r s₅ => r = .ok .next ∧ ∃ h' t' m' vs', s₅ = S σ h' t' ∧ Ext G h' ∧ h'.Ns C m' ∧ (∀ y, y ≠ x₁ → m' y = m y) ∧ PlainL h' D vs'.toArray ∧ IntsAre vs' (pre ++ (List.range wd).map f)) s₄) E (S σ h t) := by
  refine wpAny_pyIter_range (s := S σ h t) hr (small_one (by omega) (by omega) (by omega) (by omega)) ?_
  have hI : G.get? h.objs.size = none := hG.fresh
  have hCI : C ≠ h.objs.size := Nat.ne_of_lt hN.lt
  have hDI : D ≠ h.objs.size := Nat.ne_of_lt hl.lt
  have hrs : Builtin.Range.rangeSize 0 (wd : Int) 1 = (wd : Nat) := by rw [rangeSize_one]; split <;> omega
  have W := Walks.range (prog := prog) (w := w) hh h.objs.size 0 1 wd
  have hst : IsRangeIter (h.push { cls := .type "range_iterator", data := .fields #[rawInt 0, rawInt (Builtin.Range.rangeSize 0 (wd : Int) 1), rawInt 1] }) h.objs.size (0 + ((0 : Nat) : Int) * 1) ((wd : Int) - ((0 : Nat) : Int)) 1 := by
    have := Heap.get?_push_size h (o := { cls := .type "range_iterator", data := .fields #[rawInt 0, rawInt (Builtin.Range.rangeSize 0 (wd : Int) 1), rawInt 1] }) rfl
    rw [hrs] at this ⊢
    simpa using this
  have hG' := hG.trans (Ext.push h { cls := .type "range_iterator", data := .fields #[rawInt 0, rawInt (Builtin.Range.rangeSize 0 (wd : Int) 1), rawInt 1] })
  have hN' := hN.push { cls := .type "range_iterator", data := .fields #[rawInt 0, rawInt (Builtin.Range.rangeSize 0 (wd : Int) 1), rawInt 1] }
  have hl' := hl.keeps (Ext.push h { cls := .type "range_iterator", data := .fields #[rawInt 0, rawInt (Builtin.Range.rangeSize 0 (wd : Int) 1), rawInt 1] })
  generalize h.push { cls := .type "range_iterator", data := .fields #[rawInt 0, rawInt (Builtin.Range.rangeSize 0 (wd : Int) 1), rawInt 1] } = h₀ at *
  generalize h.objs.size = I at *
  have loop : codeAny (model prog w) A (.compLoop (.ListComp elt [⟨t₀, i₀, [], 0⟩, ⟨.Name x₁ px₁, i₁, [], 0⟩] scope pos) 1 (.ref I) (.ref D) cenv)
      (fun r s₅ => r = .ok .next ∧ ∃ h' t' m' vs', s₅ = S σ h' t' ∧ Ext G h' ∧ h'.Ns C m' ∧ (∀ y, y ≠ x₁ → m' y = m y) ∧ PlainL h' D vs'.toArray ∧ IntsAre vs' (pre ++ (List.range wd).map f)) (S σ h₀ t) := by
    refine compLoop_in (fun k s => ∃ h t j m' vs', s = S σ h t ∧ j ≤ wd ∧ k = wd - j ∧ Ext G h ∧ IsRangeIter h I (0 + ((j : Nat) : Int) * 1) ((wd : Int) - ((j : Nat) : Int)) 1 ∧ h.Ns C m' ∧ (∀ y, y ≠ x₁ → m' y = m y) ∧ PlainL h D vs'.toArray ∧ IntsAre vs' (pre ++ (List.range j).map f)) ?_ (wd - 0)
      ⟨h₀, t, 0, m, vs, rfl, Nat.zero_le _, rfl, hG', hst, hN', fun _ _ => rfl, hl', by simpa using hi⟩
    rintro k s ⟨h, t, j, m', vs', rfl, hj, rfl, hG, hst, hN, hm, hl, hi'⟩
    by_cases hjn : j < wd
    · refine W.item j (S σ h t) _ _ hjn hst ?_
      rintro v h₁ t₁ ⟨u, rfl⟩ hst₁ hk₁
      have hG₁ : Ext G h₁ := fun b o e => hk₁ b o (fun hb => by rw [List.mem_singleton] at hb; subst hb; rw [hI] at e; cases e) (hG b o e)
      have hN₁ : h₁.Ns C m' := hN.at' fun o e => hk₁ C o (by simpa using hCI) e
      have hl₁ : PlainL h₁ D vs'.toArray := hl.at fun o e => hk₁ D o (by simpa using hDI) e
      rw [show (0 : Int) + (j : Int) * 1 = ((j : Nat) : Int) by simp]
      refine wpAny_assign_Name (rStore (env := cenv) (by rw [hC]; exact hN₁) (fun h₂ t₂ hN₂ hs₂ => ?_) hck hx₁)
      rw [hC] at hN₂ hs₂
      have hG₂ := hG₁.but hs₂ hGC
      have hl₂ := hl₁.extBut hs₂.extBut (Ne.symm hCD)
      have hst₂ : IsRangeIter h₂ I (0 + ((j + 1 : Nat) : Int) * 1) ((wd : Int) - ((j + 1 : Nat) : Int)) 1 := (hs₂.2 I (Ne.symm hCI)).trans hst₁
      have hm₂ : ∀ y, y ≠ x₁ → upd m' x₁ (.int (j : Nat) u) y = m y := fun y hy => (if_neg hy).trans (hm y hy)
      refine helt j u h₂ t₂ _ hjn hG₂ hN₂ hm₂ st_eq _ fun u' t₃ => ?_
      have hvl : vs'.length = vs.length + j := by rw [hi'.length, hi.length]; simp
      refine list_append_plainL (s := S σ h₂ t₃) hl₂ (fun h₃ hl₃ hs₃ => ?_) (by rw [sizeLine_eq]; simp; omega)
      refine ⟨wd - (j + 1), by omega, h₃, t₃, j + 1, _, vs' ++ [.int (f j) u'], rfl, by omega, rfl, hG₂.but hs₃ hGD, (hs₃.2 I (Ne.symm hDI)).trans hst₂, hN₂.sameBut hs₃ hCD, hm₂, by simpa using hl₃, ?_⟩
      rw [List.range_succ, List.map_append, ← List.append_assoc]
      exact ksk_snoc hi'
    · obtain rfl : j = wd := by omega
      refine W.done (S σ h t) _ _ hst (fun h₁ t₁ hk₁ => ?_)
      exact ⟨rfl, h₁, t₁, m', vs', rfl, fun b o e => hk₁ b o (fun hb => by rw [List.mem_singleton] at hb; subst hb; rw [hI] at e; cases e) (hG b o e), hN.at' fun o e => hk₁ C o (by simpa using hCI) e, hm, hl.at fun o e => hk₁ D o (by simpa using hDI) e, hi'⟩
  exact compStart_in loop (W.self 0 (S σ h₀ t) _ _ hst loop)

theorem compPrelude {e : Expr} {it : Value} {scope : Scope} {cl : List (Str × Addr)} {RR : Value → Addr → Result → Shared → Prop} (hcell : ∀ y ∈ scope.names, y.2 ≠ .cell) (hkind : scope.kind = .function)
    (H : ∀ h₁ t₁ m, Ext h h₁ → PlainL h₁ h.objs.size #[] → h₁.Ns (h.objs.size + 1) m →
      codeAny (model prog w) A (.compStart e 0 it (.ref h.objs.size) (compEnvC scope cl (h.objs.size + 1) env)) (RR (.ref h.objs.size) (h.objs.size + 1)) (S σ h₁ t₁)) :
    wpAny (model prog w) A (newList []) (fun acc s₃ => wpAny (model prog w) A (newFunctionEnv scope env.globals cl [] env.qual none .none (some env)) (fun cenv s₄ =>
      codeAny (model prog w) A (.compStart e 0 it acc { cenv with scope := relabel scope env }) (RR acc cenv.locals) s₄) E s₃) E (S σ h t) := by
  refine wpAny_newObj_type (wpAny_newFunctionEnv hcell (by intro y hy; simp at hy) (fun h₁ hns₁ hsb₁ => ?_) hkind)
  dsimp only at hns₁ hsb₁ ⊢
  generalize hH2 : h.push { cls := .type "list", dict := none, data := .seq ([] : List Value).toArray } = H2 at hns₁ hsb₁ ⊢
  have hC : H2.objs.size = h.objs.size + 1 := by rw [← hH2, Heap.size_push]
  have hDC : h.objs.size ≠ H2.objs.size := by rw [hC]; exact Nat.ne_of_lt (Nat.lt_succ_self _)
  have x01 : Ext h h₁ := fun b o e => hsb₁.extBut b o (by rw [hC]; exact Nat.ne_of_lt (Nat.lt_succ_of_lt (Heap.lt_size e))) (Heap.get?_push_of_some _ (hH2 ▸ Heap.get?_push_of_some _ e))
  have hacc : PlainL h₁ h.objs.size #[] := ⟨_, _, hsb₁.extBut _ _ hDC (Heap.get?_push_of_some _ (hH2 ▸ Heap.get?_push_size _ rfl)), rfl, rfl, rfl⟩
  have := H h₁ (t + ([] : List (Str × Value)).length) _ x01 hacc (hC ▸ hns₁)
  rw [← hC] at this
  exact this

theorem compStart_self {elt target iter : Expr} {ifs : List Expr} {rest : List Comprehension} {scope : Scope} {pos : Pos} {I : Addr} {acc : Value} {fp wr : List Addr} {n : Nat} {P : Nat → Value → Prop} {St : Nat → Heap → Prop} {R : Result → Shared → Prop}
    (W : Walks prog w A I fp wr n P St) (hst : St 0 h) (hl : codeAny (model prog w) A (.compLoop (.ListComp elt (⟨target, iter, ifs, 0⟩ :: rest) scope pos) 0 (.ref I) acc env) R (S σ h t)) :
    codeAny (model prog w) A (.compStart (.ListComp elt (⟨target, iter, ifs, 0⟩ :: rest) scope pos) 0 (.ref I) acc env) R (S σ h t) :=
  codeAny_compStart_list hl (W.self 0 (S σ h t) _ _ hst hl)

noncomputable def tapeInts (ns : List Int) (wd : Nat) : List Int := ns.flatMap fun n => (List.range wd).map fun p => (n.fdiv (256 ^ p)).fmod 256

theorem tapeInts_take {ns : List Int} {wd i : Nat} {n : Int} (hn : ns[i]? = some n) : tapeInts (ns.take (i + 1)) wd = tapeInts (ns.take i) wd ++ (List.range wd).map fun p => (n.fdiv (256 ^ p)).fmod 256 := by
  have : ns.take (i + 1) = ns.take i ++ [n] := by rw [List.take_add_one, hn]; rfl
  rw [this]; unfold tapeInts; rw [List.flatMap_append]; simp
theorem tapeInts_length (ns : List Int) (wd : Nat) : (tapeInts ns wd).length = ns.length * wd := by
  unfold tapeInts
  induction ns with
  | nil => simp
  | cons n r ih => rw [List.flatMap_cons, List.length_append, ih, List.length_map, List.length_range, List.length_cons, Nat.add_mul]; omega
theorem tapeInts_in (ns : List Int) (wd : Nat) : ∀ x ∈ tapeInts ns wd, 0 ≤ x ∧ x < 256 := by
  intro x hx
  unfold tapeInts at hx
  obtain ⟨n, _, hx⟩ := List.mem_flatMap.mp hx
  obtain ⟨p, _, rfl⟩ := List.mem_map.mp hx
  rw [Int.fmod_eq_emod_of_nonneg _ (by omega)]
  omega

theorem pow_nat_lt {b p : Nat} (hb : b ≤ 256) (hp : p < 100) : ((b : Int) ^ p).natAbs < 2 ^ 1000 := by
  rw [Int.natAbs_pow, Int.natAbs_natCast]
  calc b ^ p ≤ 256 ^ p := Nat.pow_le_pow_left hb p
    _ = 2 ^ (8 * p) := by rw [show (256 : Nat) = 2 ^ 8 from rfl, ← Nat.pow_mul]
    _ < 2 ^ 1000 := Nat.pow_lt_pow_right (by omega) (by omega)

theorem tape_call {a : Addr} {vs : List Value} {ns : List Int} {wd : Nat} {v : Tok} (hh : A.handled = none) (B : Base w h) (hl : h.IsList a vs.toArray) (hi : IntsAre vs ns) (hw : wd < 100) (hsz : ns.length < 100)
    (hd : A.depth + 20 < recursionLimit)
    (H : ∀ h' t' u, Ext h h' → Q (.bytes (byteArr (tapeInts ns wd)) u) (S σ h' t')) :
    wpAny (model prog w) A (call (.ref 91) [.ref a, .int wd v]) Q E (S σ h t) := by
  refine enterCells (binds := [("numbers", .ref a), ("width", .int wd v)]) (by omega) B (B.X 91 _ rfl) rfl ⟨90, _, _, _, rfl, B.X 90 _ rfl, rfl, rfl⟩ rfl rfl rfl ?_ ?_
  · intro x hx
    rcases List.mem_cons.mp hx with rfl | hx
    · exact .inl rfl
    · rw [List.mem_singleton] at hx; subst hx; exact .inr ⟨rfl, rfl⟩
  intro h₁ t₁ hN hX hcl
  have hw₁ : h₁.IsCell (h.objs.size + 1) (some (.int wd v)) := hcl "width" (h.objs.size + 1) rfl
  clear hcl
  have hNL : h₁.Ns h.objs.size _ := hN
  generalize h.objs.size = L at *
  have B1 := B.ext hX
  refine wpAny_execs_cons <| wpAny_Return_some <| Call_ <| rBuilt B1 (by kernel_rfl) boot_bytes <| cwT <| args_cons ?_
  rw [eval_ListComp]
  refine wpAny_comprehension_free (use := none) (cl := [("width", L + 1)]) rfl (by intro _; rfl) rfl rfl (by decide) ?_
  refine rLoc hN rfl ?_
  have hl₁ : h₁.IsList a vs.toArray := let ⟨o, ho, r⟩ := hl; ⟨o, hX _ _ ho, r⟩
  refine wpAny_pyIter_list (s := S σ h₁ t₁) hl₁ ?_
  have hfr : h.get? h₁.objs.size = none := hX.fresh
  have hI₂ : (h₁.push { cls := .type "list_iterator", data := .fields #[.ref a, .int 0 0] }).IsListIter h₁.objs.size a 0 := ⟨_, Heap.get?_push_size _ rfl, rfl, rfl⟩
  have x₂ := Ext.push h₁ { cls := .type "list_iterator", data := .fields #[.ref a, .int 0 0] }
  have hs₂ : (h₁.push { cls := .type "list_iterator", data := .fields #[.ref a, .int 0 0] }).objs.size = h₁.objs.size + 1 := Heap.size_push _ _
  have haI : a ≠ h₁.objs.size := by obtain ⟨o, ho, _⟩ := hl₁; exact Nat.ne_of_lt (Heap.lt_size ho)
  have hf1 : h₁.get? h₁.objs.size = none := (Ext.refl h₁).fresh
  have hf2 : ∀ k, h₁.get? (h₁.objs.size + k) = none := fun k => by
    cases e : h₁.get? (h₁.objs.size + k) with
    | none => rfl
    | some o => exact absurd (Heap.lt_size e) (Nat.not_lt.mpr (Nat.le_add_right _ _))
  show wpAny _ _ _ _ _ (S σ (h₁.push { cls := .type "list_iterator", data := .fields #[.ref a, .int 0 0] }) t₁)
  generalize h₁.push { cls := .type "list_iterator", data := .fields #[.ref a, .int 0 0] } = h₂ at *
  refine compPrelude (by decide) rfl fun h₃ t₃ m₃ x₃ hD₃ hC₃ => ?_
  rw [hs₂] at hD₃ hC₃ ⊢
  generalize hIe : h₁.objs.size = I at *
  generalize hA : A.deeper _ = A'
  have hh' : A'.handled = none := hA ▸ hh
  clear hA
  have W := Walks.list (prog := prog) (w := w) hh' I a haI vs.toArray
  have hst₃ : h₃.IsListIter I a 0 ∧ h₃.IsList a vs.toArray := ⟨hI₂.at fun o e => x₃ _ _ e, hl₁.at fun o e => x₃ _ _ (x₂ _ _ e)⟩
  refine compStart_self W hst₃ (compLoop_out (fun k s => ∃ h t i m ys, s = S σ h t ∧ i ≤ vs.length ∧ k = vs.length - i ∧ Ext h₁ h ∧ (h.IsListIter I a i ∧ h.IsList a vs.toArray) ∧ h.Ns (I + 1 + 1) m ∧ PlainL h (I + 1) ys.toArray ∧ IntsAre ys (tapeInts (ns.take i) wd)) ?_ (vs.length - 0)
    ⟨h₃, t₃, 0, m₃, [], rfl, Nat.zero_le _, rfl, x₂.trans x₃, hst₃, hC₃, hD₃, by simpa [tapeInts] using IntsAre.nil⟩)
  rintro k s ⟨h₄, t₄, i, m₄, ys, rfl, hi4, rfl, x₄, hst₄, hN₄, hD₄, hys⟩
  by_cases hin : i < vs.length
  · refine W.item i (S σ h₄ t₄) _ _ (by simpa using hin) hst₄ ?_
    intro x h₅ t₅ hv hst₅ hk₅
    obtain ⟨n, un, hn, rfl⟩ := ints_at hi (by simpa using hv)
    have hCI : (I + 1 + 1 : Nat) ≠ I := by omega
    have hDI : (I + 1 : Nat) ≠ I := by omega
    have hDC : (I + 1 : Nat) ≠ I + 1 + 1 := by omega
    have x₅ : Ext h₁ h₅ := fun b o e => hk₅ b o (fun hb => by rw [List.mem_singleton] at hb; subst hb; rw [hf1] at e; cases e) (x₄ b o e)
    have hN₅ : h₅.Ns (I + 1 + 1) m₄ := hN₄.at' fun o e => hk₅ _ o (by simpa using hCI) e
    have hD₅ : PlainL h₅ (I + 1) ys.toArray := hD₄.at fun o e => hk₅ _ o (by simpa using hDI) e
    refine wpAny_assign_Name (rStore (m := m₄) hN₅ (fun h₆ t₆ hN₆ hs₆ => ?_))
    have hs₆' : Heap.SameBut (I + 1 + 1) h₅ h₆ := hs₆
    have x₆ : Ext h₁ h₆ := x₅.but hs₆' (hf2 2)
    have hD₆ := hD₅.extBut hs₆'.extBut hDC
    have hst₆ := W.frame (i + 1) h₅ h₆ hst₅ fun b hb o e => hs₆'.extBut b o (fun hbC => by
      subst hbC
      rcases List.mem_cons.mp hb with hb | hb
      · exact hCI hb
      · rw [List.mem_singleton] at hb; subst hb
        obtain ⟨o', ho', _⟩ := hl₁
        rw [hf2 2] at ho'; cases ho') e
    refine Call_ <| rBuilt (B1.ext x₆) (by kernel_rfl) boot_range <| cwT <| args_cons <| rCell (hw₁.keeps x₆) <| args_nil <| rRange1 fun h₇ t₇ v₁ v₂ he hR => ?_
    have x67 : Ext h₆ h₇ := he ▸ Ext.push _ _
    have hG : Ext (drops h₇ [I + 1 + 1, I + 1]) h₇ := drops_ext _ _
    have hlen : ys.length = i * wd := by rw [hys.length, tapeInts_length, List.length_take, ← hi.length, Nat.min_eq_left hi4]
    have hbnd : i * wd ≤ 100 * 100 := Nat.mul_le_mul (by have := hi.length; omega) (by omega)
    refine wpAny_mono (compIn (C := I + 1 + 1) (D := I + 1) (f := fun p => (n.fdiv (256 ^ p)).fmod 256) (G := drops h₇ [I + 1 + 1, I + 1]) hh' rfl rfl rfl (drops_none _ _ _ (by simp)) (drops_none _ _ _ (by simp)) (Ne.symm hDC) hG (hN₆.keeps x67) (hD₆.keeps x67) hys (by omega) hR ?_) (fun it₁ s₄ hc => codeAny_mono hc ?_) (fun _ _ x => x)
    · intro j u h₈ t₈ m' hj hG₈ hN₈ hm' hmj QV HQ
      have e1 : m' "number" = some (.int n un) := (hm' "number" (by decide)).trans st_eq
      refine wpAny_BinOp <| wpAny_BinOp <| rLoc hN₈ e1 <| wpAny_BinOp <| rInt fun _ _ => rLoc hN₈ hmj <| rPow (by omega) (by omega) (by decide) fun _ _ => rDiv ?_ ?_ fun _ _ => rInt fun _ _ => rMod (by decide) fun u' t' => ?_
      · exact Int.pow_ne_zero (by decide)
      · exact pow_nat_lt (b := 256) (by omega) (by omega)
      · exact HQ u' t'
    · rintro r s₅ ⟨rfl, h₉, t₉, m₉, ys₉, rfl, hG₉, hN₉, _, hD₉, hys₉⟩
      have hst₉ := W.frame (i + 1) h₆ h₉ hst₆ fun b hb o e => hG₉ b o (drops_keep _ _ b o (fun hbM => by
        rcases List.mem_cons.mp hb with hb | hb
        · subst hb
          rcases List.mem_cons.mp hbM with hbM | hbM
          · exact hCI hbM.symm
          · rw [List.mem_singleton] at hbM; exact hDI hbM.symm
        · rw [List.mem_singleton] at hb; subst hb
          obtain ⟨o', ho', _⟩ := hl₁
          rcases List.mem_cons.mp hbM with hbM | hbM
          · subst hbM; rw [hf2 2] at ho'; cases ho'
          · rw [List.mem_singleton] at hbM; subst hbM; rw [hf2 1] at ho'; cases ho') (x67 b o e))
      refine ⟨rfl, vs.length - (i + 1), by omega, h₉, t₉, i + 1, m₉, ys₉, rfl, by omega, rfl, ?_, hst₉, hN₉, hD₉, by rw [tapeInts_take hn]; exact hys₉⟩
      refine (Ext.drops _ (x₆.trans x67) fun b hb => ?_).trans hG₉
      rcases List.mem_cons.mp hb with rfl | hb
      · exact hf2 2
      · rw [List.mem_singleton] at hb; subst hb; exact hf2 1
  · obtain rfl : i = vs.length := by omega
    refine W.done (S σ h₄ t₄) _ _ hst₄ (fun h₅ t₅ hk₅ => ?_)
    have hCI : (I + 1 + 1 : Nat) ≠ I := by omega
    have hDI : (I + 1 : Nat) ≠ I := by omega
    have hDC : (I + 1 : Nat) ≠ I + 1 + 1 := by omega
    have x₅ : Ext h₁ h₅ := fun b o e => hk₅ b o (fun hb => by rw [List.mem_singleton] at hb; subst hb; rw [hf1] at e; cases e) (x₄ b o e)
    have hN₅ : h₅.Ns (I + 1 + 1) m₄ := hN₄.at' fun o e => hk₅ _ o (by simpa using hCI) e
    have hD₅ : PlainL h₅ (I + 1) ys.toArray := hD₄.at fun o e => hk₅ _ o (by simpa using hDI) e
    refine ⟨m₄, hN₅, fun h₆ hs₆ => args_nil ?_⟩
    have x₆ : Ext h₁ h₆ := x₅.but hs₆ (hf2 2)
    have hD₆ := hD₅.extBut hs₆.extBut hDC
    have hys' : IntsAre ys (tapeInts ns wd) := by rw [List.take_of_length_le (by rw [hi.length]; exact Nat.le_refl _)] at hys; exact hys
    have hbnd : ns.length * wd ≤ 100 * 100 := Nat.mul_le_mul (by omega) (by omega)
    refine call_bytes_ints (s := S σ h₆ t₅) hD₆.isList hys' (tapeInts_in ns wd) (by rw [hys'.length, tapeInts_length, sizeLine_eq]; omega) hh' fun h₇ u t₇ x₇ => ?_
    exact H h₇ t₇ u ((hX.trans x₆).trans x₇)
end
end Mine
end

section -- FG
open PySem PySem.W PyProof.Rows
set_option maxRecDepth 100000
set_option maxHeartbeats 2000000
namespace Mine

noncomputable def b64L : List Nat := "ABCDEFGHIJKLMNOPQRSTUVWXYZabcdefghijklmnopqrstuvwxyz0123456789+/".toList.map Char.toNat
noncomputable def alpha : Str := "ABCDEFGHIJKLMNOPQRSTUVWXYZabcdefghijklmnopqrstuvwxyz0123456789+/"
noncomputable def code (d : Nat) : Nat := b64L.getD d 0
theorem code_index : ∀ d, d < 64 → Builtin.Str.occurrences alpha ⟨#[code d]⟩ 0 alpha.length 1 = [d] := by decide +kernel

/-- ints of a list, at places -/
theorem ints_of {ys : Array Value} {ns : List Int} (hsz : ys.size = ns.length) (h : ∀ (i : Nat) (y : Value), ys[i]? = some y → ∃ (n : Int) (u : Tok), ns[i]? = some n ∧ y = Value.int n u) : IntsAre ys.toList ns := by
  obtain ⟨l⟩ := ys
  simp only [List.size_toArray] at hsz
  simp only [List.getElem?_toArray] at h
  induction l generalizing ns with
  | nil => cases ns with
    | nil => exact IntsAre.nil
    | cons => simp at hsz
  | cons y r ih => cases ns with
    | nil => simp at hsz
    | cons n ns =>
      obtain ⟨n', u, e, rfl⟩ := h 0 y rfl
      obtain rfl : n = n' := by simpa using e
      exact IntsAre.cons _ _ (ih (by simpa using hsz) fun i z e => by have := h (i + 1) z (by simpa using e); simpa using this)

section
variable {prog : Program} {w : World} {A : Around} {E : Value → Shared → Prop} {σ : Shared} {h : Heap} {t : Nat} {env : Env} {Q : Value → Shared → Prop}

theorem rStr {x : Str} {k : Nat} {pos : Pos} (H : ∀ u t', Q (.str x u) (S σ h t')) : wpAny (model prog w) A (eval (.Constant (.str x) k pos) env) Q E (S σ h t) := wpAny_Constant_str (H _ _)

theorem figures_call {y : Str} {u : Tok} {ds : List Nat} (hh : A.handled = none) (B : Base w h) (hy : y.cps = (ds.map code).toArray) (hds : ∀ d ∈ ds, d < 64) (hn : ds.length < 1000)
    (hd : A.depth + 20 < recursionLimit)
    (H : ∀ D h' t' vs, Ext h h' → h.objs.size ≤ D → PlainL h' D vs.toArray → IntsAre vs (ds.map fun d : Nat => (d : Int)) → Q (.ref D) (S σ h' t')) :
    wpAny (model prog w) A (call (.ref 96) [.str y u]) Q E (S σ h t) := by
  refine enterCells (binds := [("piece", .str y u)]) (by omega) B (B.X 96 _ rfl) rfl ⟨95, _, _, _, rfl, B.X 95 _ rfl, rfl, rfl⟩ rfl rfl rfl ?_ ?_
  · intro x hx
    rw [List.mem_singleton] at hx; subst hx; exact .inl rfl
  intro h₁ t₁ hN hX hcl
  have hw₁ : h₁.IsCell (h.objs.size + 1) none := hcl "signs" (h.objs.size + 1) rfl
  have hNL : h₁.Ns h.objs.size _ := hN
  have hlo : h.objs.size < h₁.objs.size := hNL.lt
  clear hcl
  have fr : ∀ k, h.get? (h.objs.size + k) = none := fun k => by
    cases e : h.get? (h.objs.size + k) with
    | none => rfl
    | some o => exact absurd (Heap.lt_size e) (Nat.not_lt.mpr (Nat.le_add_right _ _))
  have hf0 := fr 0
  have hf1 := fr 1
  refine wpAny_execs_cons <| rSt <| rStr fun u₂ t₂ => rStoreC (c := h.objs.size + 1) hw₁ fun h₂ hw₂ hs₂ => ?_
  have hN₂ : h₂.Ns h.objs.size _ := hNL.sameBut hs₂ (Nat.ne_of_lt (Nat.lt_succ_self _))
  have x₂ : Ext h h₂ := hX.but hs₂ hf1
  have hsz₂ : h₂.objs.size = h₁.objs.size := hs₂.1
  have hle : h.objs.size ≤ h₂.objs.size := by rw [hsz₂]; exact Nat.le_of_lt hlo
  generalize h.objs.size = L at *
  have hal : h₂.IsCell (L + 1) (some (.str alpha u₂)) := hw₂
  refine wpAny_execs_cons <| wpAny_Return_some <| rComp (cl := [("signs", L + 1)]) <| rLoc hN₂ rfl <| itStr (fun i v _ => ∃ d k, ds[i]? = some d ∧ v = .int d k) hh (by rw [hy]; simp; omega) ⟨fun _ _ _ _ _ _ x => x, ?_⟩ ?_
  · rintro i v C h' t' m hi ⟨c, k, hc, rfl⟩ hG hlo' hN' hm
    rw [hy] at hc
    simp only [List.getElem?_toArray, List.getElem?_map] at hc
    obtain ⟨d, hd', rfl⟩ := Option.map_eq_some_iff.mp hc
    have hd64 := hds d (List.mem_of_getElem? hd')
    refine MethodCall_ <| rCell (hal.keeps hG) <| GM.index <| cwM <| args_cons <| rLoc hN' hm <| args_nil <| SC.index (code_index d hd64) ?_
    exact ⟨h', _, rfl, Ext.refl _, d, _, hd', rfl⟩
  · intro D h' t' ys hG hD hl hsz hel
    have hsz' : ys.size = ds.length := by rw [hsz, hy]; simp
    refine H D h' t' ys.toList (x₂.trans hG) (Nat.le_trans hle hD) (by simpa using hl) (ints_of (by simpa using hsz') fun i v e => ?_)
    obtain ⟨d, k, hd', rfl⟩ := hel i v e
    exact ⟨d, k, by simp [hd'], rfl⟩
end
end Mine
end

section -- E1
open PySem PySem.W PyProof.Rows
set_option maxRecDepth 100000
set_option maxHeartbeats 2000000
namespace Mine

noncomputable def b64B : List UInt8 := b64L.map Nat.toUInt8
noncomputable def bytesOf : Option (Option Value) → Option (Array UInt8)
 | some (some (.bytes b _)) => some b
 | _ => none
theorem b64_ns (P) : bytesOf (nsIn (Mine.hd.heap_39 P) mainGlobals "_B64") = some b64B.toArray := by kernel_rfl
theorem b64_glob (P) : ∃ u, nsIn (Mine.hd.heap_39 P) mainGlobals "_B64" = some (some (.bytes b64B.toArray u)) := by
  have := b64_ns P
  generalize nsIn (Mine.hd.heap_39 P) mainGlobals "_B64" = q at this
  unfold bytesOf at this
  split at this
  · rename_i b u; cases this; exact ⟨u, rfl⟩
  · cases this
theorem b64_at : ∀ d, d < 64 → (b64B.getD d 0).toNat = code d := by decide +kernel
theorem b64_len : b64B.length = 64 := by decide +kernel
theorem code_lt : ∀ d, d < 64 → code d < 128 := by decide +kernel

noncomputable def val (b : Nat) (ds : List Nat) : Nat := ds.foldl (fun a x => a * b + x) 0
theorem val_snoc (b : Nat) (ds : List Nat) (x : Nat) : val b (ds ++ [x]) = val b ds * b + x := by simp [val]

theorem bitOr_low {a b : Nat} (hb : b < 256) : Builtin.bitOr ((a : Int) * 2 ^ (8 : Int).toNat) (b : Int) = ((a * 256 + b : Nat) : Int) := by
  rw [bitOr_and]
  have : Builtin.bitAnd ((a : Int) * 2 ^ (8 : Int).toNat) (b : Int) = 0 := by
    rw [show ((a : Int) * 2 ^ (8 : Int).toNat) = ((a * 2 ^ 8 : Nat) : Int) by push_cast; rfl]
    unfold Builtin.bitAnd
    have e1 : decide (0 ≤ ((a * 2 ^ 8 : Nat) : Int)) = true := decide_eq_true (Int.natCast_nonneg _)
    have e2 : decide (0 ≤ ((b : Nat) : Int)) = true := by simp
    rw [e1, e2]
    simp only [Int.toNat_natCast]
    have : (a * 2 ^ 8) &&& b = 0 := by
      apply Nat.eq_of_testBit_eq
      intro i
      rw [Nat.testBit_and, Nat.zero_testBit, Nat.testBit_mul_two_pow]
      by_cases hi : 8 ≤ i
      · rw [Nat.testBit_lt_two_pow (x := b) (Nat.lt_of_lt_of_le hb (Nat.pow_le_pow_right (n := 2) (by omega) hi))]; simp
      · simp [hi]
    rw [this]; rfl
  rw [this]
  push_cast
  show (a : Int) * 256 + b - 0 = _
  omega

section
variable {prog : Program} {w : World} {A : Around} {E : Value → Shared → Prop} {σ : Shared} {h : Heap} {t : Nat} {env : Env} {Q : Value → Shared → Prop}

theorem rShl {a n : Int} {u v : Tok} (hn : 0 ≤ n) (hn2 : n ≤ 1000000) (ha : a.natAbs < 2 ^ 64) (H : ∀ x t', Q (.int (a * 2 ^ n.toNat) x) (S σ h t')) : wpAny (model prog w) A (binaryOp .LShift (.int a u) (.int n v)) Q E (S σ h t) := lshift_int_small hn hn2 ha (H _ _)
theorem rOr {a b : Int} {u v : Tok} (H : ∀ x t', Q (.int (Builtin.bitOr a b) x) (S σ h t')) : wpAny (model prog w) A (binaryOp .BitOr (.int a u) (.int b v)) Q E (S σ h t) := or_int (H _ _)
theorem rAnd {a b : Int} {u v : Tok} (H : ∀ x t', Q (.int (Builtin.bitAnd a b) x) (S σ h t')) : wpAny (model prog w) A (binaryOp .BitAnd (.int a u) (.int b v)) Q E (S σ h t) := and_int (H _ _)
theorem rNil {pos : Pos} (H : ∀ h', PlainL h' h.objs.size #[] → Ext h h' → Q (.ref h.objs.size) (S σ h' t)) : wpAny (model prog w) A (eval (.List [] pos) env) Q E (S σ h t) :=
  wpAny_List (Calls.spliced_nil ⟨Nat.zero_le _, H _ ⟨_, _, Heap.get?_push_size _ rfl, rfl, rfl, rfl⟩ (Ext.push _ _)⟩)

/-- over a bytes object -/
theorem rIterBytes {x : Str} {px : Pos} {body : List Stmt} {d : Array UInt8} {u : Tok} {R : Result → Shared → Prop}
    {G : Heap} (M : List Addr) (Inv : Nat → Heap → Prop) (hh : A.handled = none)
    (hMl : ∀ a ∈ M, a < h.objs.size)
    (stab : ∀ i h h', (∀ a ∈ M, ∀ o, h.get? a = some o → h'.get? a = some o) → Inv i h → Inv i h')
    (hG : Ext G h) (hGM : ∀ a ∈ M, G.get? a = none) (hI : Inv 0 h)
    (turn : ∀ i c u G' h t, i < d.size → d[i]? = some c → Ext G G' → (∀ a ∈ M, G'.get? a = none) → Ext G' h → Inv i h →
      wpAny (model prog w) A (storeName env x (.int (c.toNat : Int) u)) (fun _ s₁ => wpAny (model prog w) A (execs body env)
        (fun f s' => (f = .next ∨ f = .cont) ∧ ∃ h' t', s' = S σ h' t' ∧ Ext G' h' ∧ Inv (i + 1) h') (fun _ _ => False) s₁) (fun _ _ => False) (S σ h t))
    (fin : ∀ h t, Ext G h → Inv d.size h → R (.ok .next) (S σ h t)) :
    wpAny (model prog w) A (pyIter (.bytes d u)) (fun it s₂ => codeAny (model prog w) A (.forLoop (.Name x px) it body [] env) R s₂) E (S σ h t) := by
  refine KBw.pyIter_bytes (s := S σ h t) ?_
  refine forLoop_walk M Inv (KBw.walks hh h.objs.size d u) ?_ stab (hG.trans (Ext.push h _)) hGM ?_ ?_ ?_ ?_ fin
  · intro b hb hm
    rw [List.mem_singleton] at hm
    exact absurd (hm ▸ hMl b hb) (Nat.lt_irrefl _)
  · intro b hb
    simp at hb; subst hb; exact hG.fresh
  · exact ⟨_, Heap.get?_push_size _ rfl, rfl, rfl⟩
  · exact stab 0 h _ (fun a _ o e => Heap.get?_push_of_some _ e) hI
  · rintro i v G' h t hi ⟨c, u, hc, rfl⟩ hG' hM' hh' hI'
    exact wpAny_assign_Name (turn i c u G' h t hi hc hG' hM' hh' hI')

theorem buffer_call {d : Array UInt8} {u : Tok} (B : Base w h) (hd : A.depth + 20 < recursionLimit)
    (H : ∀ h' t', Ext h h' → Q (.bytes d u) (S σ h' t')) :
    wpAny (model prog w) A (call (.ref 35) [.bytes d u]) Q E (S σ h t) := by
  refine enterFn (binds := [("data", .bytes d u)]) (by omega) B (B.X 35 _ rfl) rfl ⟨34, _, _, _, rfl, B.X 34 _ rfl, rfl, rfl⟩ rfl (BindsTo.of_eq rfl) (by decide) (locs rfl) ?_
  intro h₁ t₁ hN hX
  have hL : h.get? h.objs.size = none := (Ext.refl h).fresh
  generalize h.objs.size = L at *
  have B1 := B.ext hX
  refine wpAny_execs_cons <| rSt <| Call_ <| rBuilt B1 (by kernel_rfl) PyProof.Rows.boot_type <| cwT <| args_cons <| rLoc hN rfl <| args_nil <| call_type_of (s := S σ h₁ t₁) (typeIs_bytes _ _ _) rfl <| rStore hN fun h₂ t₂ hN₂ hs₂ => ?_
  have x₂ := hX.but hs₂ hL
  refine wpAny_execs_cons <| wpAny_If <| wpAny_isTrue_Compare1 <| rLoc hN₂ st_eq <| rBuilt (B.ext x₂) (by kernel_rfl) boot_bytes <| wpAny_is_self rfl <| wpAny_truthy_bool ?_
  simp only [if_true]
  exact wpAny_execs_cons <| wpAny_Return_some <| rLoc hN₂ (st_ne rfl) <| H h₂ t₂ x₂

theorem truth_call (B : Base w h) (hd : A.depth + 20 < recursionLimit)
    (H : ∀ h' t', Ext h h' → Q (.bool false) (S σ h' t')) :
    wpAny (model prog w) A (call (.ref 42) [.bool false]) Q E (S σ h t) := by
  refine enterFn (binds := [("x", .bool false)]) (by omega) B (B.X 42 _ rfl) rfl ⟨41, _, _, _, rfl, B.X 41 _ rfl, rfl, rfl⟩ rfl (BindsTo.of_eq rfl) (by decide) (locs rfl) ?_
  intro h₁ t₁ hN hX
  have hL : h.get? h.objs.size = none := (Ext.refl h).fresh
  generalize h.objs.size = L at *
  have B1 := B.ext hX
  refine wpAny_execs_cons <| rSt <| Call_ <| rBuilt B1 (by kernel_rfl) PyProof.Rows.boot_type <| cwT <| args_cons <| rLoc hN rfl <| args_nil <| call_type_of (s := S σ h₁ t₁) (PySem.typeIs_bool _ _) rfl <| rStore hN fun h₂ t₂ hN₂ hs₂ => ?_
  have x₂ := hX.but hs₂ hL
  refine wpAny_execs_cons <| wpAny_If <| isTrue_or <| wpAny_isTrue_Compare1 <| rLoc hN₂ (st_ne rfl) <| wpAny_Constant_none <| is_bool_none <| wpAny_truthy_bool ?_
  simp only [Bool.false_eq_true, if_false]
  refine isTrue_or <| wpAny_isTrue_Compare1 <| rLoc hN₂ st_eq <| rBuilt (B.ext x₂) (by kernel_rfl) boot_bool <| wpAny_is_self rfl <| wpAny_truthy_bool ?_
  simp only [if_true]
  refine wpAny_execs_cons <| wpAny_Return_some <| wpAny_IfExp <| wpAny_isTrue_value <| rLoc hN₂ (st_ne rfl) <| wpAny_truthy_bool ?_
  simp only [Bool.false_eq_true, if_false]
  exact wpAny_Constant_bool (H h₂ t₂ x₂)
end
end Mine
end

section -- E2
open PySem PySem.W PyProof.Rows
set_option maxRecDepth 100000
set_option maxHeartbeats 4000000
namespace Mine
theorem shift_digit (V n : Nat) (hn : 6 ≤ n) (hn2 : n ≤ 16) : V % 65536 / 2 ^ (n - 6) % 64 = V / 2 ^ (n - 6) % 64 := by
  obtain ⟨k, rfl⟩ : ∃ k, n = k + 6 := ⟨n - 6, by omega⟩
  rw [Nat.add_sub_cancel]
  have h1 : (65536 : Nat) = 2 ^ k * 2 ^ (16 - k) := by rw [← Nat.pow_add, show k + (16 - k) = 16 by omega]
  rw [h1, Nat.mod_mul_right_div_self]
  exact Nat.mod_mod_of_dvd _ (Nat.pow_dvd_pow 2 (m := 6) (by omega))
theorem next_digit (V n : Nat) (hn : 6 ≤ n) : V / 2 ^ n * 64 + V / 2 ^ (n - 6) % 64 = V / 2 ^ (n - 6) := by
  obtain ⟨k, rfl⟩ : ∃ k, n = k + 6 := ⟨n - 6, by omega⟩
  rw [Nat.add_sub_cancel, Nat.pow_add, ← Nat.div_div_eq_div_mul]
  omega

section
variable {prog : Program} {w : World} {A : Around} {E : Value → Shared → Prop} {σ : Shared} {h : Heap} {t : Nat} {env : Env} {Q : Value → Shared → Prop}

noncomputable def bv (d : List UInt8) (i : Nat) : Nat := val 256 ((d.take i).map UInt8.toNat)
theorem bv_succ {d : List UInt8} {i : Nat} {c : UInt8} (hc : d[i]? = some c) : bv d (i + 1) = bv d i * 256 + c.toNat := by
  unfold bv
  rw [List.take_add_one, hc, List.map_append]
  exact val_snoc _ _ _

theorem b2a_call {d : List UInt8} {u : Tok} {q : Nat} (hh : A.handled = none) (B : Base w h) (hlen : d.length = 3 * q) (hq : q < 1000) (hd : A.depth + 40 < recursionLimit)
    (H : ∀ h' t' u' ds, Ext h h' → (∀ x ∈ ds, x < 64) → ds.length = 4 * q → val 64 ds = val 256 (d.map UInt8.toNat) → Q (.bytes (byteArr (ds.map fun x : Nat => (code x : Int))) u') (S σ h' t')) :
    wpAny (model prog w) A (call (.ref 50) [.bytes d.toArray u] [("newline", .bool false)]) Q E (S σ h t) := by
  refine enterFn (binds := [("data", .bytes d.toArray u), ("newline", .bool false)]) (by omega) B (B.X 50 _ rfl) rfl ⟨49, _, _, _, rfl, B.X 49 _ rfl, rfl, rfl⟩ rfl (BindsTo.of_eq rfl) (by decide) (locs rfl) ?_
  intro h₁ t₁ hN hX
  have hL : h.get? h.objs.size = none := (Ext.refl h).fresh
  generalize h.objs.size = L at *
  have B1 := B.ext hX
  generalize hA : A.deeper _ = A'
  have hh' : A'.handled = none := hA ▸ hh
  have hd' : A'.depth + 39 < recursionLimit := by rw [← hA]; show A.depth + 1 + 39 < _; omega
  clear hA
  refine wpAny_execs_cons <| rSt <| Call_ <| rGlob B1 (by kernel_rfl) <| cwD (B1.X 35 _ rfl) rfl <| args_cons <| rLoc hN rfl <| args_nil ⟨B1.X 35 _ rfl, buffer_call B1 (by omega) fun h₂ t₂ x₂ => ?_⟩
  have hN₂ := hN.keeps x₂
  refine rStore hN₂ fun h₃ t₃ hN₃ hs₃ => ?_
  have x₃ := (hX.trans x₂).but hs₃ hL
  have B3 := B.ext x₃
  refine wpAny_execs_cons <| rSt <| Call_ <| rGlob B3 (by kernel_rfl) <| cwD (B3.X 42 _ rfl) rfl <| args_cons <| rLoc hN₃ (st_ne rfl) <| args_nil ⟨B3.X 42 _ rfl, truth_call B3 (by omega) fun h₄ t₄ x₄ => ?_⟩
  have hN₄ := hN₃.keeps x₄
  refine rStore hN₄ fun h₅ t₅ hN₅ hs₅ => ?_
  have x₅ := (x₃.trans x₄).but hs₅ hL
  refine wpAny_execs_cons <| rSt <| rNil fun h₆ l₆ x₆ => ?_
  have hO : h.get? h₅.objs.size = none := x₅.fresh
  have hLO : L ≠ h₅.objs.size := Nat.ne_of_lt hN₅.lt
  generalize h₅.objs.size = O at *
  have hN₆ := hN₅.keeps x₆
  refine rStore hN₆ fun h₇ t₇ hN₇ hs₇ => ?_
  have l₇ := l₆.extBut hs₇.extBut (Ne.symm hLO)
  have x₇ := (x₅.trans x₆).but hs₇ hL
  refine wpAny_execs_cons <| rSt <| rInt fun ul tl => rStore hN₇ fun h₈ t₈ hN₈ hs₈ => ?_
  have l₈ := l₇.extBut hs₈.extBut (Ne.symm hLO)
  have x₈ := x₇.but hs₈ hL
  refine wpAny_execs_cons <| rSt <| rInt fun uc tc => rStore hN₈ fun h₉ t₉ hN₉ hs₉ => ?_
  have l₉ := l₈.extBut hs₉.extBut (Ne.symm hLO)
  have x₉ := x₈.but hs₉ hL
  obtain ⟨ug, hg⟩ := b64_glob w.params
  let Inv : Nat → Heap → Prop := fun i h => ∃ m ds vs lb u1 u2, h.Ns L m ∧ m "out" = some (.ref O) ∧ m "leftbits" = some (.int (lb : Nat) u1) ∧ m "leftchar" = some (.int ((bv d i % 65536 : Nat) : Int) u2) ∧ m "newline" = some (.bool false) ∧
    PlainL h O vs.toArray ∧ IntsAre vs (ds.map fun x : Nat => (code x : Int)) ∧ (∀ x ∈ ds, x < 64) ∧ lb < 6 ∧ ds.length * 6 + lb = 8 * i ∧ val 64 ds = bv d i / 2 ^ lb
  have stab : ∀ i h h', (∀ a ∈ [L, O], ∀ o, h.get? a = some o → h'.get? a = some o) → Inv i h → Inv i h' := by
    rintro i h h' hk ⟨m, ds, vs, lb, u1, u2, k1, k2, k3, k4, k5, k6, k7⟩
    exact ⟨m, ds, vs, lb, u1, u2, k1.at' (hk L (by simp)), k2, k3, k4, k5, k6.at (hk O (by simp)), k7⟩
  refine wpAny_execs_cons <| wpAny_For <| rLoc hN₉ (st_ne (st_ne (st_ne (st_ne st_eq)))) <| rIterBytes (G := h) [L, O] Inv hh' ?_ stab x₉ ?_ ?_ ?turn ?fin
  · intro a ha
    rcases List.mem_cons.mp ha with rfl | ha
    · exact hN₉.lt
    · rw [List.mem_singleton] at ha; subst ha; exact l₉.lt
  · intro a ha
    rcases List.mem_cons.mp ha with rfl | ha
    · exact hL
    · rw [List.mem_singleton] at ha; subst ha; exact hO
  · exact ⟨_, [], [], 0, _, _, hN₉, st_ne (st_ne st_eq), st_ne st_eq, st_eq, st_ne (st_ne (st_ne st_eq)), l₉, IntsAre.nil, by simp, by omega, rfl, by simp [bv, val]⟩
  case turn =>
    rintro i c uc G' h₁ t₁ hi hc hGG hGM hEG ⟨m, ds, vs, lb, u1, u2, k1, k2, k3, k4, k5, k6, k7, k8, k9, k10, k11⟩
    have hGL : G'.get? L = none := hGM L (by simp)
    have hGO : G'.get? O = none := hGM O (by simp)
    have hc' : d[i]? = some c := by simpa using hc
    have hi' : i < d.length := by simpa using hi
    refine rStore k1 fun h₂ t₂ hN2 hs2 => ?_
    have e2 := hEG.but hs2 hGL
    have l2 := k6.extBut hs2.extBut (Ne.symm hLO)
    refine wpAny_execs_cons <| rSt <| wpAny_BinOp <| wpAny_BinOp <| wpAny_BinOp <| rLoc hN2 (st_ne k4) <| rInt fun _ _ => rShl (by omega) (by omega) (by omega) fun _ _ => rLoc hN2 st_eq <| rOr fun _ _ => rInt fun _ _ => rAnd fun _ _ => ?_
    rw [bitOr_low (by have := c.toNat_lt; omega), PyProof.Rows.bitAnd_m16, show ((bv d i % 65536 * 256 + c.toNat : Nat) : Int) % 65536 = ((bv d (i + 1) % 65536 : Nat) : Int) by rw [bv_succ hc']; omega]
    refine rStore hN2 fun h₃ t₃ hN3 hs3 => ?_
    have e3 := e2.but hs3 hGL
    have l3 := l2.extBut hs3.extBut (Ne.symm hLO)
    refine wpAny_execs_cons <| rSt <| wpAny_BinOp <| rLoc hN3 (st_ne (st_ne k3)) <| rInt fun _ _ => rAdd fun _ _ => rStore hN3 fun h₄ t₄ hN4 hs4 => ?_
    have e4 := e3.but hs4 hGL
    have l4 := l3.extBut hs4.extBut (Ne.symm hLO)
    let I : Nat → Shared → Prop := fun n s => ∃ h t m ds vs u1 u2, s = S σ h t ∧ Ext G' h ∧ h.Ns L m ∧ m "out" = some (.ref O) ∧ m "leftbits" = some (.int (n : Nat) u1) ∧ m "leftchar" = some (.int ((bv d (i + 1) % 65536 : Nat) : Int) u2) ∧ m "newline" = some (.bool false) ∧
      PlainL h O vs.toArray ∧ IntsAre vs (ds.map fun x : Nat => (code x : Int)) ∧ (∀ x ∈ ds, x < 64) ∧ n < 14 ∧ ds.length * 6 + n = 8 * (i + 1) ∧ val 64 ds = bv d (i + 1) / 2 ^ n
    refine wpAny_execs_cons (wpAny_While (codeAny_mono (R := fun r s' => r = .ok .next ∧ ∃ n, n < 6 ∧ I n s') (codeAny_whileLoop I ?wturn (lb + 8) ?winit) ?wafter))
    case winit =>
      refine ⟨h₄, t₄, _, ds, vs, _, _, rfl, e4, hN4, st_ne (st_ne (st_ne k2)), st_eq, st_ne st_eq, st_ne (st_ne (st_ne k5)), l4, k7, k8, by omega, by omega, ?_⟩
      rw [k11, bv_succ hc', Nat.pow_add, Nat.mul_comm (2 ^ lb), ← Nat.div_div_eq_div_mul]
      have := c.toNat_lt
      congr 1
      omega
    case wafter =>
      rintro r s' ⟨rfl, n, hn, h₅, t₅, m', ds', vs', u1', u2', rfl, e5, j1, j2, j3, j4, j5, j6, j7, j8, j9, j10, j11⟩
      exact wpAny_execs_nil ⟨.inl rfl, h₅, t₅, rfl, e5, m', ds', vs', n, u1', u2', j1, j2, j3, j4, j5, j6, j7, j8, hn, j10, j11⟩
    case wturn =>
      rintro n s ⟨h₅, t₅, m', ds', vs', u1', u2', rfl, e5, j1, j2, j3, j4, j5, j6, j7, j8, j9, j10, j11⟩
      refine wpAny_isTrue_Compare1 (rLoc j1 j3 (rInt fun _ _ => PyProof.Rows.ge_int (wpAny_truthy_bool ?_)))
      by_cases hn : 6 ≤ n
      · have hb : decide ((6 : Int) ≤ (n : Int)) = true := by simpa using (by omega : (6 : Int) ≤ (n : Int))
        rw [hb]
        simp only [if_true]
        have B5 := B.ext (hGG.trans e5)
        have hsh : Builtin.bitAnd (((bv d (i + 1) % 65536 : Nat) : Int).fdiv (2 ^ ((n : Int) - 6).toNat)) 63 = ((bv d (i + 1) / 2 ^ (n - 6) % 64 : Nat) : Int) := by
          rw [PyProof.Rows.bitAnd_m6, show ((n : Int) - 6).toNat = n - 6 by omega, ← shift_digit _ n hn (by omega), Int.fdiv_eq_ediv_of_nonneg _ (Int.le_of_lt (Int.pow_pos (by omega)))]
          generalize bv d (i + 1) % 65536 = X
          rw [Int.natCast_emod, Int.natCast_ediv, Int.natCast_pow]; rfl
        have hlt : bv d (i + 1) / 2 ^ (n - 6) % 64 < 64 := Nat.mod_lt _ (by omega)
        refine wpAny_execs_cons <| wpAny_Expr <| MethodCall_ <| rLoc j1 j2 <| rMethod j6 F.slot_list_append F.type_list_append <| cwM <| args_cons <| Subscript_ <| rGlob B5 hg <| wpAny_BinOp <| wpAny_BinOp <| rLoc j1 j4 <| wpAny_BinOp <| rLoc j1 j3 <| rInt fun _ _ => rSub fun _ _ => rShr (by omega) fun _ _ => rInt fun _ _ => rAnd fun _ _ => ?_
        rw [hsh]
        refine rItemB (by rw [b64_len]; omega) (by omega) (by rw [b64_len]; omega) fun ux tx => args_nil ?_
        rw [Int.toNat_natCast, b64_at _ hlt]
        have hvl : vs'.length = ds'.length := by rw [j7.length]; simp
        refine rAppend j6 (by simp; omega) fun h₆ l6 hs6 => ?_
        have hN6 := j1.sameBut hs6 hLO
        have e6 := e5.but hs6 hGO
        refine wpAny_execs_cons <| rSt <| wpAny_BinOp <| rLoc hN6 j3 <| rInt fun _ _ => rSub fun _ _ => ?_
        rw [show (n : Int) - 6 = ((n - 6 : Nat) : Int) by omega]
        refine rStore hN6 fun h₇ t₇ hN7 hs7 => wpAny_execs_nil ?_
        refine ⟨n - 6, by omega, h₇, t₇, _, ds' ++ [bv d (i + 1) / 2 ^ (n - 6) % 64], vs' ++ [.int (code (bv d (i + 1) / 2 ^ (n - 6) % 64)) ux], _, _, rfl, e6.but hs7 hGL, hN7, st_ne j2, st_eq, st_ne j4, st_ne j5, ?_, ?_, ?_, by omega, by simp; omega, ?_⟩
        · have := l6.extBut hs7.extBut (Ne.symm hLO)
          simpa using this
        · rw [List.map_append]
          exact ksk_snoc j7
        · intro x hx
          rcases List.mem_append.mp hx with hx | hx
          · exact j8 x hx
          · rw [List.mem_singleton] at hx; subst hx; exact hlt
        · rw [val_snoc, j11]; exact next_digit _ _ hn
      · have hb : decide ((6 : Int) ≤ (n : Int)) = false := by simp; omega
        rw [hb]
        simp only [Bool.false_eq_true, if_false]
        exact wpAny_execs_nil ⟨by first | rfl | trivial, n, by omega, h₅, _, m', ds', vs', u1', u2', rfl, e5, j1, j2, j3, j4, j5, j6, j7, j8, j9, j10, j11⟩
  case fin =>
    rintro h₁ t₁ e1 ⟨m, ds, vs, lb, u1, u2, k1, k2, k3, k4, k5, k6, k7, k8, k9, k10, k11⟩
    have hsz : d.toArray.size = 3 * q := by simpa using hlen
    rw [hsz] at k10 k11
    obtain rfl : lb = 0 := by omega
    refine wpAny_execs_cons <| wpAny_If <| wpAny_isTrue_Compare1 (rLoc k1 k3 (rInt fun _ _ => PyProof.Rows.eq_int (wpAny_truthy_bool ?_)))
    rw [show (((0 : Nat) : Int) == 2) = false from rfl]
    simp only [Bool.false_eq_true, if_false]
    refine wpAny_execs_cons <| wpAny_If <| wpAny_isTrue_Compare1 (rLoc k1 k3 (rInt fun _ _ => PyProof.Rows.eq_int (wpAny_truthy_bool ?_)))
    rw [show (((0 : Nat) : Int) == 4) = false from rfl]
    simp only [Bool.false_eq_true, if_false]
    refine wpAny_execs_nil <| wpAny_execs_nil <| wpAny_execs_cons <| wpAny_If <| wpAny_isTrue_value <| rLoc k1 k5 <| wpAny_truthy_bool ?_
    simp only [Bool.false_eq_true, if_false]
    have hvl : vs.length = ds.length := by rw [k7.length]; simp
    refine wpAny_execs_nil <| wpAny_execs_cons <| wpAny_Return_some <| Call_ <| rBuilt (B.ext e1) (by kernel_rfl) boot_bytes <| cwT <| args_cons <| rLoc k1 k2 <| args_nil <| call_bytes_ints k6.isList k7 ?_ (by rw [sizeLine_eq]; omega) hh' fun h₂ u' t' x₂ => ?_
    · intro n hn
      obtain ⟨x, hx, rfl⟩ := List.mem_map.mp hn
      have := code_lt x (k8 x hx)
      omega
    · refine H h₂ t' u' ds (e1.trans x₂) k8 (by omega) ?_
      rw [k11, Nat.pow_zero, Nat.div_one, bv, ← hlen, List.take_length]
end
end Mine
end

section -- E3
open PySem PySem.W PyProof.Rows
set_option maxRecDepth 100000
set_option maxHeartbeats 2000000
namespace Mine
open Builtin

theorem forIn_steps {β : Type} (f : Nat → β → Sem (ForInStep β)) (st : Nat → β) (n : Nat) (hf : ∀ k, k < n → f k (st k) = pure (.yield (st (k + 1)))) :
    ∀ m k, k + m = n → forIn (List.range' k m) (st k) f = (pure (st n) : Sem β) := by
  intro m
  induction m with
  | zero => intro k hk; obtain rfl : k = n := by omega
            rfl
  | succ m ih =>
    intro k hk
    rw [List.range'_succ, List.forIn_cons, hf k (by omega), pure_bind]
    exact ih (k + 1) (by omega)

theorem decodes {b : Array UInt8} (hb : ∀ c ∈ b, c.toNat < 128) (hz : b.size ≤ sizeLine) (id : String) :
    _codecs.runDecoder id _codecs.asciiDecoder none true b 0 [] = pure (b.map UInt8.toNat, b.size) := by
  unfold _codecs.runDecoder
  simp only [Std.Legacy.Range.forIn_eq_forIn_range', Std.Legacy.Range.size, Nat.sub_zero, Nat.add_sub_cancel, Nat.div_one]
  have h0 : ((0, #[], {}) : Nat × Array Nat × _codecs.Faults) = (fun k : Nat => ((k, ((b.toList.map UInt8.toNat).take k).toArray, {}) : Nat × Array Nat × _codecs.Faults)) 0 := by simp
  rw [h0, forIn_steps _ (fun k : Nat => ((k, ((b.toList.map UInt8.toNat).take k).toArray, {}) : Nat × Array Nat × _codecs.Faults)) b.size (fun k hk => ?_) b.size 0 (by omega), pure_bind]
  · have : ((b.toList.map UInt8.toNat).take b.size).toArray = b.map UInt8.toNat := by
      rw [List.take_of_length_le (by simp)]
      rw [← Array.toList_map]
    dsimp only
    rw [this]
  · dsimp only
    rw [if_neg (by simp; omega), if_neg (by omega)]
    have hg : b.getD k 0 = b[k] := by simp [Array.getD, hk]
    have : _codecs.asciiDecoder.find true b k = .text [(b.getD k 0).toNat] (k + 1) := by
      show (if (b.getD k 0).toNat < 128 then _ else _) = _
      rw [if_pos (by rw [hg]; exact hb _ (Array.getElem_mem hk))]; rfl
    rw [this, hg]
    dsimp only
    have hk' : (b.toList.map UInt8.toNat)[k]? = some b[k].toNat := by simp [hk]
    rw [List.take_add_one, hk']
    simp

section
variable {b : Array UInt8} {c : UInt8} {cs : List UInt8} {t : Tok} {n : Nat}
theorem road_ascii {id : String} : _codecs.decodeRoad id b (PySem.Str.ofString "ascii") none [] = (_codecs.runDecoder id _codecs.asciiDecoder none true b 0 [] >>= fun r => mkStr ⟨r.1⟩) := by kernel_rfl
theorem meets_text {t1 t2 : Tok} {d : PySem.Str} {x : Str} (hd : ∀ id, _codecs.runDecoder id _codecs.asciiDecoder none true b 0 [] = pure (x.cps, n)) :
    Meets («_codecs.decode.text» ⟨[.bytes b t, .str (PySem.Str.ofString "ascii") t1, .none, .str d t2], []⟩) (fun _ R s => x.length ≤ sizeLine ∧ R (.ok (.ret (.str x s.toks))) { s with toks := s.toks + 1 }) := by
  refine .of_wp fun prog w A R s hS => ?_
  obtain ⟨hsz, h⟩ := hS
  show wpAny _ _ (Bytes.bytesLike _ (.bytes b t) >>= fun r => _) _ _ s
  refine wpAny_bind (wpAny_of_eq KBd.like_eq ?_)
  refine wpAny_bind (wpAny_of_eq KBd.held_eq ?_)
  show wpAny _ _ (_codecs.decodeRoad _ b (PySem.Str.ofString "ascii") none [] >>= fun v => _) _ _ s
  rw [road_ascii, hd]
  refine wpAny_bind (wpAny_bind (wpAny_pure ?_))
  exact wpAny_mkStr (wpAny_pure ⟨_, rfl, h⟩) hsz
theorem entry_ascii {t1 : Tok} : «bytes.decode» ⟨[.bytes (c :: cs).toArray t, .str (PySem.Str.ofString "ascii") t1], []⟩ = (mkStr (PySem.Str.ofString "utf-8") >>= fun _ => mkStr (PySem.Str.ofString "ascii") >>= fun e => mkStr (PySem.Str.ofString "bytes.decode") >>= fun d =>
    call (.builtin "_codecs.decode.text") [.bytes (c :: cs).toArray t, e, .none, d] >>= fun v => ret v) := by kernel_rfl
theorem meets_ascii {t1 : Tok} {x : Str} (hd : ∀ id, _codecs.runDecoder id _codecs.asciiDecoder none true (c :: cs).toArray 0 [] = pure (x.cps, n)) :
    Meets («bytes.decode» ⟨[.bytes (c :: cs).toArray t, .str (PySem.Str.ofString "ascii") t1], []⟩) (fun _ R s => x.length ≤ sizeLine ∧ ∀ t' k, R (.ok (.ret (.str x t'))) { s with toks := k }) := by
  refine .of_wp fun prog w A R s hS => ?_
  obtain ⟨hsz, h⟩ := hS
  rw [entry_ascii]
  refine wpAny_bind (wpAny_mkStr ?_ (by decide))
  refine wpAny_bind (wpAny_mkStr ?_ (by decide))
  refine wpAny_bind (wpAny_mkStr ?_ (by decide))
  exact wpAny_bind (call_function_meets KBd.kind_text KBd.plain_text KBd.entry_text (KBd.args_text _ _ _ _) (meets_text hd) ⟨hsz, wpAny_pure ⟨_, rfl, h _ _⟩⟩)
theorem args_decode2 (a b : Value) : argsOk "bytes.decode" ⟨[a, b], []⟩ := by
  unfold argsOk; rw [signature?_of (id := "bytes.decode") (n := ['e', 'd', 'o', 'c', 'e', 'd']) (o := ['s', 'e', 't', 'y', 'b']) (by kernel_rfl) FB.owner_bytes]; kernel_rfl
end
section
variable {prog : Program} {w : World} {A : Around} {E : Value → Shared → Prop} {σ : Shared} {h : Heap} {t : Nat} {env : Env} {Q : Value → Shared → Prop}

theorem rDecode {b : Array UInt8} {u u' : Tok} (h0 : 0 < b.size) (hb : ∀ c ∈ b, c.toNat < 128) (hz : b.size < 100000) (H : ∀ u t', Q (.str ⟨b.map UInt8.toNat⟩ u) (S σ h t')) :
    wpAny (model prog w) A (call (.builtin "bytes.decode") [.bytes b u, .str "ascii" u']) Q E (S σ h t) := by
  obtain ⟨l⟩ := b
  cases l with
  | nil => simp at h0
  | cons c cs =>
    exact call_meets (s := S σ h t) FB.slot_bytes_decode (typeIs_bytes _ _ _) FB.entry_bytes_decode (args_decode2 _ _) (meets_ascii (x := ⟨_⟩) (decodes hb (by rw [sizeLine_eq]; exact Nat.le_of_lt (Nat.lt_trans hz (by omega))))) ⟨by rw [sizeLine_eq]; show (Array.map _ _).size ≤ _; rw [Array.size_map]; exact Nat.le_of_lt (Nat.lt_trans hz (by omega)), fun t' k => H t' k⟩

theorem cwK {M : Model} {s : Shared} {pos : Pos} {f : Addr} {h' : Heap} {o : Obj} {fd : FuncData} {e : Expr} {rest : List Expr} {kws : List Keyword} (_ : h'.get? f = some o) (hdat : o.data = .func fd)
    (h : wpAny M A (spliced (backTo pos (starEach (e :: rest) env))) (fun vs s₁ => wpAny M A (evalAll ((backToKw pos (keywordEach kws env)).map (·.2))) (fun ks s₂ => s₂.heap.get? f = some o ∧ wpAny M A (call (.ref f) vs (((backToKw pos (keywordEach kws env)).filterMap (·.1)).zip ks)) Q E s₂) E s₁) E s)
    (he : starEach (e :: rest) env = (false, eval e env) :: starEach rest env := by rfl) (hall : (backToKw pos (keywordEach kws env)).all (·.1.isSome) = true := by rfl) :
    wpAny M A (callWith pos (.ref f) [] (backTo pos (starEach (e :: rest) env)) (backToKw pos (keywordEach kws env))) Q E s := by
  rw [he] at h ⊢
  exact callWith_function_kw (evalArgs_kw hall (wpAny_mono h (fun vs s₁ h₁ => wpAny_mono h₁ (fun ks s₂ h₂ => ⟨⟨h₂.1, hdat⟩, h₂.2⟩) fun _ _ x => x) fun _ _ x => x))

theorem b64_call {d : List UInt8} {u : Tok} {q : Nat} (hh : A.handled = none) (B : Base w h) (hlen : d.length = 3 * q) (hq : q < 1000) (hd : A.depth + 60 < recursionLimit)
    (H : ∀ h' t' u' ds, Ext h h' → (∀ x ∈ ds, x < 64) → ds.length = 4 * q → val 64 ds = val 256 (d.map UInt8.toNat) → Q (.bytes (byteArr (ds.map fun x : Nat => (code x : Int))) u') (S σ h' t')) :
    wpAny (model prog w) A (call (.ref 58) [.bytes d.toArray u]) Q E (S σ h t) := by
  refine enterFn (binds := [("s", .bytes d.toArray u), ("altchars", .none)]) (by omega) B (B.X 58 _ rfl) rfl ⟨57, _, _, _, rfl, B.X 57 _ rfl, rfl, rfl⟩ rfl (BindsTo.of_defaults (T := 51) rfl (B.X 51 _ rfl) rfl rfl rfl) (by decide) (locs rfl) ?_
  intro h₁ t₁ hN hX
  have hL : h.get? h.objs.size = none := (Ext.refl h).fresh
  generalize h.objs.size = L at *
  have B1 := B.ext hX
  refine wpAny_execs_cons <| rSt <| wpAny_Call_Name_kw <| rGlob B1 (by kernel_rfl) <| cwK (B1.X 50 _ rfl) rfl <| args_cons <| rLoc hN rfl <| args_nil <| kwAll_cons <| wpAny_Constant_bool <| kwAll_nil ⟨B1.X 50 _ rfl, ?_⟩
  refine b2a_call hh B1 hlen hq (by show A.depth + 1 + 40 < _; omega) fun h₂ t₂ u₂ ds x₂ hds hl hv => ?_
  have hN₂ := hN.keeps x₂
  refine rStore hN₂ fun h₃ t₃ hN₃ hs₃ => ?_
  have x₃ := (hX.trans x₂).but hs₃ hL
  refine wpAny_execs_cons <| wpAny_If <| wpAny_isTrue_Compare1 <| rLoc hN₃ (st_ne rfl) <| wpAny_Constant_none <| wpAny_isNot_self rfl <| wpAny_truthy_bool ?_
  simp only [Bool.false_eq_true, if_false]
  exact wpAny_execs_nil <| wpAny_execs_cons <| wpAny_Return_some <| rLoc hN₃ st_eq <| H h₃ t₃ u₂ ds x₃ hds hl hv
end
end Mine
end

section -- LH
open PySem PySem.W PySem.Spec PyProof.Rows
set_option maxRecDepth 100000
set_option maxHeartbeats 2000000
namespace Mine

theorem ints_of_reads {R : WRecords} {cl : Str → Option Addr} {h : Heap} : ∀ {xs : List WData} {vs : List Value} {as : List Addr}, ReadsAllW R cl h vs xs as → (∀ d ∈ xs, WShape.has R d .int = true) → ∃ ns : List Int, IntsAre vs ns ∧ ns.length = xs.length
  | [], _, _, r, _ => by
    obtain ⟨rfl, _⟩ := readsAllW_nil_inv r
    exact ⟨[], .nil, rfl⟩
  | d :: xs, _, _, r, hx => by
    obtain ⟨v, vs, as1, as2, rfl, _, r1, r2⟩ := readsAllW_cons_inv r
    obtain ⟨ns, hi, hl⟩ := ints_of_reads r2 fun d hd => hx d (by simp [hd])
    have hd := hx d (by simp)
    cases d <;> first | cases (show false = true from hd) | skip
    obtain ⟨t, rfl, _⟩ := readsW_int_inv r1
    exact ⟨_ :: ns, .cons _ _ hi, by simp [hl]⟩

theorem law_head (main : ∀ (w : World) (σ : Shared) (h : Heap) (t : Nat) (sc : Addr) (vs : List Value) (ns : List Int), Base w h → h.IsList sc vs.toArray → IntsAre vs ns → ns.length ≤ 63 →
      wpC (model (_root_.PySem.Challenge.rw_ny0057_01).prog w) callerA (call (.ref 101) [.ref sc]) (fun v s' => v = .bool true ∧ ∃ h' t', s' = S σ h' t' ∧ Ext h h') (fun _ _ => False) (S σ h t)) :
    _root_.PySem.Challenge.rw_ny0057_01.Holds := by
  refine Mine.hd ?_
  intro w s₀ s₁ mg mb G Y a o pm cd doc dV kV ho hdat hcd hmg hgens args vals as hpre hlay hrd
  have X := kIn_of Y
  have B : Base w s₁.heap := ⟨X, ⟨mg, G.T.g⟩, ⟨mb, G.T.b, G.T.builtins⟩, G.T.nolimit⟩
  have ha : mg "law" = some (.ref 101) := mg_of X G.T.g (by kernel_rfl)
  obtain rfl : a = 101 := by
    have := hmg.symm.trans ha
    simpa using this
  obtain ⟨hsh, hp⟩ := pre_splitW hpre
  have hargs : ∃ xs, args = [.list xs] ∧ WShape.hasItems [] xs .int = true := by
    have hsh' : WShape.hasAll [] args [.list .int] = true := hsh
    match args, hsh' with
    | [d], hs =>
      simp only [WShape.hasAll] at hs
      cases d <;> first | cases (show false = true from hs) | skip
      exact ⟨_, rfl, by have hs' : ((WShape.hasItems [] _ .int || false) && true) = true := hs; simpa using hs'⟩
    | [], hs => simp [WShape.hasAll] at hs
    | _ :: _ :: _, hs => simp [WShape.hasAll] at hs
  obtain ⟨xs, rfl, hxs⟩ := hargs
  obtain ⟨v, vs', as1, as2, rfl, rfl, r1, r2⟩ := readsAllW_cons_inv hrd
  obtain ⟨rfl, _⟩ := readsAllW_nil_inv r2
  obtain ⟨sc, its, as', rfl, hl, ra, _⟩ := readsW_list_inv r1
  obtain ⟨ns, hi, hlen⟩ := ints_of_reads ra (hasItemsW_at hxs)
  have hp' : WTm.holds [] (.and (.not (.lt (.lit (.int 63)) (.len (.arg 0)))) (.lit (.bool true))) { args := [.list xs] } = true := hp
  have hle : ns.length ≤ 63 := by
    rw [hlen]
    by_cases hq : (63 : Int) < (xs.length : Int)
    · have e1 : W.less? (WData.int 63) (WData.int (xs.length : Nat)) = some true := by
        rw [W.less?]; show some (decide _) = _; rw [decide_eq_true hq]
      simp [WTm.holds, WTm.value, e1] at hp'
    · omega
  refine wpC_mono (main w s₁ s₁.heap s₁.toks sc its.toList ns B (by simpa using hl) hi hle) ?_ (fun _ _ x => x.elim)
  rintro v s' ⟨rfl, h', t', rfl, hx⟩
  refine ⟨.inl ⟨.bool true, .bool true, [], rfl, ?_, .bool .., ?_, ?_⟩, .of_keep hx, rfl, .of_eq hgens⟩
  · intro cls; rfl
  · show (WShape.has [] (WData.bool true) .bool && WTm.holds [] (.eq .res (.lit (.bool true))) { args := [.list xs], res := some (.bool true), after := [.list xs] }) = true
    simp [WShape.has, WShape.arms, WTm.holds, WTm.value]
    have : W.same (WData.bool true) (WData.bool true) = true := by rw [W.same]; rfl
    rw [this]
  · exact fun _ => ⟨.nil, by simp⟩
end Mine
end

section -- RL
open PySem PySem.W PyProof.Rows
set_option maxRecDepth 100000
set_option maxHeartbeats 2000000
namespace Mine
section
variable {prog : Program} {w : World} {A : Around} {E : Value → Shared → Prop} {σ : Shared} {h : Heap} {t : Nat} {env : Env} {Q : Value → Shared → Prop}

noncomputable abbrev slObj (l u : Value) : Obj := { cls := .type "slice", data := .fields #[l, u, .none] }
theorem rSliceN {e : Expr} {p : Pos} (H : wpAny (model prog w) A (eval e env) (fun u s₂ => Q (.ref s₂.heap.objs.size) { s₂ with heap := s₂.heap.push (slObj .none u) }) E (S σ h t)) :
    wpAny (model prog w) A (eval (.Slice none (some e) none p) env) Q E (S σ h t) := by
  refine wpAny_Slice ?_
  rw [evalPart_none]
  refine wpAny_pure ?_
  rw [evalPart_some]
  refine wpAny_mono H (fun u s₂ h₂ => ?_) fun _ _ x => x
  exact wpAny_pure h₂
theorem rSliceE {e₀ e : Expr} {p : Pos} (H : wpAny (model prog w) A (eval e₀ env) (fun l s₁ => wpAny (model prog w) A (eval e env) (fun u s₂ => Q (.ref s₂.heap.objs.size) { s₂ with heap := s₂.heap.push (slObj l u) }) E s₁) E (S σ h t)) :
    wpAny (model prog w) A (eval (.Slice (some e₀) (some e) none p) env) Q E (S σ h t) := by
  refine wpAny_Slice ?_
  rw [evalPart_some]
  refine wpAny_mono H (fun l s₁ h₁ => ?_) fun _ _ x => x
  rw [evalPart_some]
  refine wpAny_mono h₁ (fun u s₂ h₂ => ?_) fun _ _ x => x
  exact wpAny_pure h₂

theorem rSliceL {value slice : Expr} {l : Addr} {vs : List Value} {ns : List Int} {k : Nat} {u : Tok} (hl : h.IsList l vs.toArray) (hi : IntsAre vs ns) (hz : ns.length < 100000)
    (H : ∀ h' vs', PlainL h' (h.objs.size + 1) vs'.toArray → IntsAre vs' (ns.take k) → Ext h h' → h'.objs.size = h.objs.size + 2 → Q (.ref (h.objs.size + 1)) (S σ h' t))
    (hs : subscripted slice false (.ref l) (.ref h.objs.size) = operate [.ref h.objs.size, .ref l] (getItem (.ref l) (.ref h.objs.size)) := by with_unfolding_all rfl)
    (ht : ∀ r, letTemporaryGo value (.ref l) r = pure () := by intro _; with_unfolding_all rfl) :
    wpAny (model prog w) A (subscriptTail value slice (.ref l) (.ref h.objs.size)) Q E (S σ (h.push (slObj .none (.int k u))) t) := by
  have hl' : (h.push (slObj .none (.int k u))).IsList l vs.toArray := hl.push _
  refine subscriptTail_ops (s := S σ (h.push (slObj .none (.int k u))) t) (Heap.IsList.typeIs (s := S σ (h.push (slObj .none (.int k u))) t) hl') list_getitem_lookup (wpAny_getItem_list_slice (s := S σ (h.push (slObj .none (.int k u))) t) hl' (Heap.IsSliceOf.new ..) .none (.int _ _) .none (by simp) ?_ (by rw [sizeLine_eq]; simp; have := hi.length; omega)) hs ht
  have e : (h.push (slObj .none (.int k u))).objs.size = h.objs.size + 1 := Heap.size_push _ _
  have hi' := slice_ints_uptoW hi (y := (k : Int)) (by omega)
  rw [Int.toNat_natCast] at hi'
  show Q (.ref (h.push _).objs.size) (S σ _ t)
  rw [e]
  have hp := Heap.get?_push_size (h.push (slObj .none (.int k u))) (o := { cls := .type "list", data := .seq (slicePick vs.toArray none (some (k : Int)) none) }) rfl
  rw [e] at hp
  refine H _ _ ⟨_, _, hp, rfl, rfl, by rw [Array.toArray_toList]⟩ hi' ((Ext.push _ _).trans (Ext.push _ _)) ?_
  rw [Heap.size_push, e]

theorem rSum {a : Addr} {vs : List Value} {ns : List Int} (hh : A.handled = none) (hl : h.IsList a vs.toArray) (hi : IntsAre vs ns) (H : ∀ z h' t' u, Ext h h' → Q (.int z u) (S σ h' t')) :
    wpAny (model prog w) A (call (.builtin "sum") [.ref a]) Q E (S σ h t) := by
  have hlt : a < h.objs.size := by obtain ⟨o, ho, _⟩ := hl; exact Heap.lt_size ho
  refine call_sum_walkG (s := S σ h t) (wpAny_pyIter_list (s := S σ h t) hl ⟨h.objs.size, _, _, _, _, _, fun i => ns.getD i 0, rfl, Walks.list (A := A.in1) hh h.objs.size a (Nat.ne_of_lt hlt) vs.toArray, ⟨⟨_, Heap.get?_push_size _ rfl, rfl, rfl⟩, hl.push _⟩, ?_, ?_, ?_⟩)
  · intro b hb
    show b < (h.push _).objs.size
    rw [Heap.size_push]
    rcases List.mem_cons.mp hb with rfl | hb
    · exact Nat.lt_succ_self _
    · rw [List.mem_singleton] at hb; subst hb; exact Nat.lt_succ_of_lt hlt
  · intro i v hv
    obtain ⟨n, u, hn, rfl⟩ := ints_at hi (by simpa using hv)
    exact ⟨u, by simp [hn]⟩
  · intro h' tk t' hk
    refine H _ h' tk t' fun b o e => hk b o (fun hb => ?_) (Heap.get?_push_of_some _ e)
    rw [List.mem_singleton] at hb; subst hb
    exact Nat.lt_irrefl _ (Heap.lt_size e)

theorem rAddL {l b : Addr} {vs ws : List Value} (hl : PlainL h l vs.toArray) (hb : PlainL h b ws.toArray) (hz : vs.length + ws.length < 100000)
    (H : ∀ h', PlainL h' h.objs.size (vs ++ ws).toArray → Ext h h' → h'.objs.size = h.objs.size + 1 → Q (.ref h.objs.size) (S σ h' t)) :
    wpAny (model prog w) A (binaryOp .Add (.ref l) (.ref b)) Q E (S σ h t) := by
  obtain ⟨⟨cls, dd, data, sl⟩, n, ho, hc, hdn, hd⟩ := id hl
  obtain ⟨⟨cls2, dd2, data2, sl2⟩, n2, ho2, hc2, hdn2, hd2⟩ := id hb
  simp only at hc hd hc2 hd2
  subst hc hd hc2 hd2
  refine concat_meets (s := S σ h t) ⟨_, ho, rfl⟩ ⟨_, ho2, rfl⟩ noFill_list_add seq_list_add F.slot_list_add F.entry_list_add (F.args_list_add_2 _ _) (list_addW l b vs.toArray ws.toArray n n2 dd dd2 sl sl2 (by rw [sizeLine_eq]; simp; omega)) ⟨ho, ho2, ?_⟩
  rw [show vs.toArray ++ ws.toArray = (vs ++ ws).toArray by simp]
  exact H _ ⟨_, _, Heap.get?_push_size _ rfl, rfl, rfl, rfl⟩ (Ext.push _ _) (Heap.size_push _ _)

theorem rStrSlice {value slice : Expr} {x : Str} {u : Tok} {a b : Nat} {ua ub : Tok} (hab : a ≤ b) (hb : b ≤ x.cps.size) (hz : x.cps.size < 100000)
    (H : ∀ h' t' u', Ext h h' → h.objs.size ≤ h'.objs.size → Q (.str ⟨((x.cps.toList.drop a).take (b - a)).toArray⟩ u') (S σ h' t'))
    (hs : subscripted slice false (.str x u) (.ref h.objs.size) = operate [.ref h.objs.size, .str x u] (getItem (.str x u) (.ref h.objs.size)) := by with_unfolding_all rfl)
    (ht : ∀ r, letTemporaryGo value (.str x u) r = pure () := by intro _; with_unfolding_all rfl) :
    wpAny (model prog w) A (subscriptTail value slice (.str x u) (.ref h.objs.size)) Q E (S σ (h.push (slObj (.int a ua) (.int b ub))) t) := by
  refine tail_of_ItemOn (SBG.sliceItem_ss (s := S σ h t) (Fm := fun s => ∃ h' t', s = S σ h' t' ∧ Ext h h' ∧ h.objs.size ≤ h'.objs.size) ?_ ⟨h, t, rfl, Ext.refl _, Nat.le_refl _⟩ ?_ (by rw [sizeLine_eq]; show x.cps.size ≤ _; omega)) hs ht
  · rintro s ob k ⟨h', t', rfl, x, hz'⟩
    exact ⟨_, k, rfl, x.trans (Ext.push _ _), by rw [Heap.size_push]; exact Nat.le_succ_of_le hz'⟩
  · rintro s' t' ⟨h', t'', rfl, x', hz'⟩
    have := slice_closes (x := x) (i := (a : Int)) (j := (b : Int)) ⟨by omega, by omega, by simp; omega⟩
    rw [beq_iff_eq] at this
    rw [this, Int.toNat_natCast, show ((b : Int) - a).toNat = b - a by omega]
    exact H h' t'' t' x' hz'

theorem rBytesSlice {value slice : Expr} {d : Array UInt8} {u : Tok} {a b : Nat} {ua ub : Tok} (hab : a ≤ b) (hb : b ≤ d.size) (hz : d.size < 100000)
    (H : ∀ h' t' u', Ext h h' → Q (.bytes ((d.toList.drop a).take (b - a)).toArray u') (S σ h' t'))
    (hs : subscripted slice false (.bytes d u) (.ref h.objs.size) = operate [.ref h.objs.size, .bytes d u] (getItem (.bytes d u) (.ref h.objs.size)) := by with_unfolding_all rfl)
    (ht : ∀ r, letTemporaryGo value (.bytes d u) r = pure () := by intro _; with_unfolding_all rfl) :
    wpAny (model prog w) A (subscriptTail value slice (.bytes d u) (.ref h.objs.size)) Q E (S σ (h.push (slObj (.int a ua) (.int b ub))) t) := by
  have hpk : KBy.picked d (some (a : Int)) (some (b : Int)) = ((d.toList.drop a).take (b - a)).toArray := by
    rw [KBc.picked_eq]
    simp only [Option.elim, clipAt_nat]
    rw [Nat.min_eq_left hb, Nat.min_eq_left (Nat.le_trans hab hb)]
  refine tail_of_ItemOn (s := S σ (h.push (slObj (.int a ua) (.int b ub))) t) ⟨"bytes", _, FB.slot_bytes_getitem.lookup, typeIs_bytes _ _ _, getItem_meets (typeIs_bytes _ _ _) (by decide) FB.slot_bytes_getitem FB.entry_bytes_getitem (FB.args_bytes_getitem_2 _ _) (KBc.meets_slice2 d u _ (.int _ _) (.int _ _))
    ⟨Heap.IsSliceOf.new _ _ _ _, ?_, fun t' k => ?_⟩⟩ hs ht
  · rw [hpk, sizeLine_eq]; simp; omega
  · rw [hpk]; exact H _ k t' (Ext.push _ _)
end
end Mine
end

section -- J1
open PySem PySem.W PyProof.Rows
set_option maxRecDepth 100000
set_option maxHeartbeats 2000000
namespace Mine
open Builtin

theorem slot_bytes_join : Slot "bytes" "join" "bytes.join" :=
  .of (owner := "bytes") (n := "join") (by rw [typeLookup_type, builtinLookup_eq_fast]; kernel_rfl) (by decide +kernel) (by decide +kernel) (by decide +kernel)
    (by first | exact .inl (by decide +kernel) | exact .inr (by decide +kernel)) (by rw [isSubtype_type]; kernel_rfl)
theorem type_bytes_join : typeOf (.builtin "bytes.join") = pure (.type "method_descriptor") := by show builtinType _ = _; rw [builtinType_eq_fast]; kernel_rfl
theorem entry_bytes_join : entryFor table "bytes.join" = some Builtin.«bytes.join» := entryFor_of_tree (by kernel_rfl)
theorem args_bytes_join_2 (a b : Value) : argsOk "bytes.join" ⟨[a, b], []⟩ := by
  unfold argsOk; rw [signature?_of (id := "bytes.join") (n := ['n', 'i', 'o', 'j']) (o := ['s', 'e', 't', 'y', 'b']) (by kernel_rfl) FB.owner_bytes]; kernel_rfl

theorem take_eq {id : String} {b : Array UInt8} {u : Tok} : Bytes.takeBufferQuiet? id (.bytes b u) 0 = pure (some (b, none)) := by
  unfold Bytes.takeBufferQuiet? Bytes.takeBuffer?
  rw [KBy.special_eq KBy.look_buffer, KBy.own_buffer]
  simp only [pure_bind, show ((0 : Int) == Bytes.fullReadOnly) = false by decide]
  rw [KBy.buffer_eq]
  rfl

section
variable {M : Model} {A : Around} {E : Value → Shared → Prop} {s : Shared}
theorem forIn_wp {β : Type} (f : Nat → β → Sem (ForInStep β)) (I : Nat → β → Prop) (n : Nat) {Q : β → Shared → Prop}
    (hf : ∀ k b, k < n → I k b → wpAny M A (f k b) (fun r s' => s' = s ∧ ∃ b', r = .yield b' ∧ I (k + 1) b') E s) (hQ : ∀ b, I n b → Q b s) :
    ∀ m k b, k + m = n → I k b → wpAny M A (forIn (List.range' k m) b f) Q E s := by
  intro m
  induction m with
  | zero => intro k b hk hI; obtain rfl : k = n := by omega
            exact wpAny_pure (hQ b hI)
  | succ m ih =>
    intro k b hk hI
    rw [List.range'_succ, List.forIn_cons]
    refine wpAny_bind (wpAny_mono (hf k b (by omega) hI) ?_ fun _ _ x => x)
    rintro r s' ⟨rfl, b', rfl, hI'⟩
    exact ih (k + 1) b' (by omega) hI'
theorem joinLetGo_wp {Q : Unit → Shared → Prop} (keep : List Value) (h : Q () s) : ∀ taken : List (Value × Option Value), (∀ x ∈ taken, x.2 = none) → wpAny M A (Bytes.joinLetGo taken keep) Q E s
  | [], _ => wpAny_pure h
  | (x, w) :: rest, hx => by
    obtain rfl : w = none := hx (x, w) (by simp)
    unfold Bytes.joinLetGo
    exact wpAny_bind (wpAny_letGo (joinLetGo_wp keep h rest fun y hy => hx y (by simp [hy])))
end

theorem joined_nil (ps : List (Array UInt8)) : Bytes.joined #[] ps = (ps.map Array.toList).flatten.toArray := by
  unfold Bytes.joined
  have : ∀ (ps : List (Array UInt8)) (k : Nat) (acc : Array UInt8), (ps.zipIdx k).foldl (fun out (p : Array UInt8 × Nat) => (if p.2 > 0 then out ++ #[] else out) ++ p.1) acc = acc ++ (ps.map Array.toList).flatten.toArray := by
    intro ps
    induction ps with
    | nil => intro k acc; simp
    | cons p r ih =>
      intro k acc
      rw [List.zipIdx_cons, List.foldl_cons, ih]
      apply Array.toList_inj.mp
      simp
  have := this ps 0 #[]
  simpa using this

theorem one_not (items : Array Value) (h : items.size ≠ 1) {α : Type} (f : Value → α) (g : Array Value → α) : Bytes.joinM.match_1 (fun _ => α) items f g = g items := by
  obtain ⟨l⟩ := items
  match l, h with
  | [], _ => rfl
  | [x], h => exact absurd rfl h
  | x :: y :: r, _ => rfl

theorem join_meets (a : Addr) (bs : List (Array UInt8 × Tok)) (u : Tok) (o : Obj) (n : Nat) (hd : o.data = .seq (bs.map fun p => Value.bytes p.1 p.2).toArray n) (hc : o.cls = .type "list") (h2 : bs.length ≠ 1) (hsz : (bs.map (·.1.size)).sum ≤ sizeLine) :
    Meets («bytes.join» ⟨[.bytes #[] u, .ref a], []⟩) (fun _ R s => s.heap.get? a = some o ∧ ∀ t' k, R (.ok (.ret (.bytes (bs.map (·.1.toList)).flatten.toArray t'))) { s with toks := k }) := by
  refine .of_wp fun prog w A R s hS => ?_
  obtain ⟨ho, h⟩ := hS
  have hT : s.TypeIs (.ref a) "list" := ⟨o, ho, hc⟩
  show wpAny _ _ (Bytes.joinItems (.ref a) >>= _) _ _ s
  refine wpAny_bind ?_
  unfold Bytes.joinItems
  refine wpAny_bind (wpAny_typeOf hT (wpAny_ite ?_))
  rw [if_pos (by decide)]
  refine wpAny_pure ?_
  show wpAny _ _ (seqItems? (.ref a) >>= _) _ _ s
  refine wpAny_bind (wpAny_seqItems ho hd ?_)
  dsimp only
  rw [if_pos (by decide)]
  generalize hit : (bs.map fun p => Value.bytes p.1 p.2).toArray = items at hd ⊢
  have hsi : items.size = bs.length := by rw [← hit]; simp
  rw [one_not items (by rw [hsi]; exact h2)]
  · refine wpAny_bind ?_
    simp only [Std.Legacy.Range.forIn_eq_forIn_range', Std.Legacy.Range.size, Nat.sub_zero, Nat.add_sub_cancel, Nat.div_one]
    refine forIn_wp (s := s) _ (fun k (b : Array (Array UInt8) × List (Value × Option Value)) => b = (((bs.take k).map (·.1)).toArray, (bs.take k).map fun p => (Value.bytes p.1 p.2, none))) bs.length ?_ ?_ _ 0 _ (by simp [hsi]) (by simp)
    · rintro k b hk rfl
      dsimp only
      refine wpAny_bind (wpAny_seqItems ho hd ?_)
      dsimp only
      have hx : items.getD k .none = Value.bytes bs[k].1 bs[k].2 := by rw [← hit]; simp [Array.getD, hk]
      have hno : ((bs.take k).map fun p => (Value.bytes p.1 p.2, (none : Option Value))).any (fun x => x.1.onHeap) = false := by
        rw [List.any_map, List.any_eq_false]
        intro p _
        exact Bool.false_ne_true
      rw [hx, if_neg (by rw [hno]; decide)]
      refine wpAny_bind (wpAny_holding (wpAny_of_eq take_eq ?_))
      dsimp only
      refine wpAny_bind (wpAny_seqItems ho hd ?_)
      dsimp only
      rw [if_neg (by simp)]
      refine wpAny_pure ⟨rfl, _, rfl, ?_⟩
      rw [List.take_add_one, List.getElem?_eq_getElem hk, List.map_append, List.map_append]
      refine Prod.ext ?_ rfl
      apply Array.toList_inj.mp
      simp only [Array.toList_push]
      rfl
    · rintro b rfl
      dsimp only
      rw [List.take_length]
      refine wpAny_bind (wpAny_of_eq (a := #[]) rfl ?_)
      have hsum : ∀ (l : List (Array UInt8)) (c : Nat), l.foldl (fun x1 x2 => x1 + x2.size) c = c + (l.map Array.size).sum := by
        intro l
        induction l with
        | nil => simp
        | cons x r ih => intro c; rw [List.foldl_cons, ih]; simp; omega
      have hsz' : (bs.map fun p => p.1.size).sum ≤ sizeLine := hsz
      rw [if_neg ?_]
      · rw [joined_nil]
        refine wpAny_bind (wpAny_mkBytes ?_ ?_)
        · refine wpAny_bind (wpAny_holding (wpAny_point ?_))
          refine wpAny_bind (joinLetGo_wp _ ?_ _ ?_)
          · refine wpAny_pure ⟨_, rfl, ?_⟩
            have := h s.toks (s.toks + 1)
            simpa [List.map_map, Function.comp_def] using this
          · intro x hx
            obtain ⟨p, _, rfl⟩ := List.mem_map.mp hx
            rfl
        · simp [List.map_map, Function.comp_def] at hsz' ⊢
          exact hsz'
      · simp [Bytes.tooLong, hsum, List.map_map, Function.comp_def] at hsz' ⊢
        exact hsz'

section
variable {prog : Program} {w : World} {A : Around} {E : Value → Shared → Prop} {σ : Shared} {h : Heap} {t : Nat} {env : Env} {Q : Value → Shared → Prop}
theorem rJoin {a : Addr} {bs : List (Array UInt8 × Tok)} {u : Tok} (hl : h.IsList a (bs.map fun p => Value.bytes p.1 p.2).toArray) (h2 : bs.length ≠ 1) (hsz : (bs.map (·.1.size)).sum < 100000)
    (H : ∀ u t', Q (.bytes (bs.map (·.1.toList)).flatten.toArray u) (S σ h t')) :
    wpAny (model prog w) A (call (.builtin "bytes.join") [.bytes #[] u, .ref a]) Q E (S σ h t) := by
  obtain ⟨o, ho, hc, n, hd⟩ := hl
  exact call_meets (s := S σ h t) slot_bytes_join (typeIs_bytes _ _ _) entry_bytes_join (args_bytes_join_2 _ _) (join_meets a bs u o n hd hc h2 (by rw [sizeLine_eq]; omega)) ⟨ho, fun t' k => H t' k⟩
theorem rJoinM {b : Array UInt8} {u : Tok} {pl : Sem Bool} {QM : Value × List Value → Shared → Prop} (H : QM (.builtin "bytes.join", [.bytes b u]) (S σ h t)) : wpAny (model prog w) A (getMethod (.bytes b u) "join" pl) QM E (S σ h t) := by
  with_reducible exact KBd.method_of (.bytes b u) (typeIs_bytes _ _ _) slot_bytes_join type_bytes_join KBd.noRef H
theorem rDecodeM {b : Array UInt8} {u : Tok} {pl : Sem Bool} {QM : Value × List Value → Shared → Prop} (H : QM (.builtin "bytes.decode", [.bytes b u]) (S σ h t)) : wpAny (model prog w) A (getMethod (.bytes b u) "decode" pl) QM E (S σ h t) := KBd.method H
end
end Mine
end

section -- TA
open PySem PySem.W PyProof.Rows
set_option maxRecDepth 100000
set_option maxHeartbeats 2000000
namespace Mine

section
variable {M : Model} {A : Around} {E : Value → Shared → Prop} {s : Shared} {env : Env}
theorem splicedC_cons {x : Sem Value} {rest : List (Bool × Sem Value)} {Q : List Value → Shared → Prop}
    (h : wpC M A x (fun v s₁ => wpAny M A (spliced rest) (fun vs s₂ => Q (v :: vs) s₂) E s₁) E s) : wpC M A (spliced ((false, x) :: rest)) Q E s := by
  rw [spliced]
  refine wpC_bind (wpC_mono h (fun v s₁ h₁ => wpC_of ?_) fun _ _ x => x)
  simp only [Bool.false_eq_true, if_false]
  exact wpAny_bind (wpAny_pure (wpAny_bind (wpAny_holding (wpAny_mono h₁ (fun vs s₂ h₂ => wpAny_pure h₂) fun _ _ x => x))))
theorem argsC_cons {e : Expr} {rest : List Expr} {pos : Pos} {Q : List Value → Shared → Prop}
    (h : wpC M A (eval e env) (fun v s₁ => wpAny M A (spliced (backTo pos (starEach rest env))) (fun vs s₂ => Q (v :: vs) s₂) E s₁) E s)
    (he : starEach (e :: rest) env = (false, eval e env) :: starEach rest env := by rfl) : wpC M A (spliced (backTo pos (starEach (e :: rest) env))) Q E s := by
  rw [he]
  exact splicedC_cons h
theorem tupleC {elts : List Expr} {k : Nat} {pos : Pos} {Q : Value → Shared → Prop}
    (h : wpC M A (spliced (backTo pos (starEach elts env)))
        (fun vs s₁ => vs.length ≤ sizeLine ∧ Q (.ref s₁.heap.objs.size) { s₁ with heap := s₁.heap.push { cls := .type "tuple", data := .seq vs.toArray } }) E s) : wpC M A (eval (.Tuple elts k pos) env) Q E s := by
  show wpC M A (do standAt pos; newTuple (← spliced (backTo pos (starEach elts env)))) Q E s
  refine wpC_bindA (wpAny_standAt (wpC_bind (wpC_mono h (fun vs s₁ h₁ => wpC_of ?_) fun _ _ x => x)))
  unfold newTuple
  exact wpAny_newObj_type h₁.2 h₁.1
theorem assignC_Tuple {elts k tpos value pos} {Q : Flow → Shared → Prop}
    (h : wpC M A (eval value env) (fun v s₁ => wpAny M A (assign (.Tuple elts k tpos) env v) (fun _ => Q .next) E s₁) E s)
    (hs : swapsWithSole [.Tuple elts k tpos] value pos.line env = pure false := by rfl)
    (hw : swappedStores [.Tuple elts k tpos] value env = pure none := by rfl) :
    wpC M A (exec (.Assign [.Tuple elts k tpos] value pos) env) Q E s := by
  rw [exec_Assign]
  refine wpC_bindA (wpAny_standAt ?_)
  rw [hs]
  refine wpC_bindA (wpAny_pure ?_)
  rw [if_neg (by decide)]
  refine wpC_bind (wpC_mono h (fun v s₁ h₁ => wpC_of ?_) fun _ _ x => x)
  rw [hw]
  refine wpAny_bind (wpAny_pure ?_)
  show wpAny M A (do assignAll v [assign (.Tuple elts k tpos) env]; pure .next) Q E s₁
  exact wpAny_bind (wpAny_mono h₁ (fun _ _ x => wpAny_pure x) fun _ _ x => x)
end

section
variable {prog : Program} {w : World} {A : Around} {E : Value → Shared → Prop} {σ : Shared} {h : Heap} {t : Nat} {env : Env} {QU : Unit → Shared → Prop}

theorem ext_of_but {h h' : Heap} (x : Heap.ExtBut h.objs.size h h') : Ext h h' := fun b o e => x b o (Nat.ne_of_lt (Heap.lt_size e)) e

theorem rUnpack2 {a b : Str} {pa pb pos : Pos} {k : Nat} {v₁ v₂ : Value} {T : Addr} (hh : A.handled = none) (hT : IsTup h T #[v₁, v₂])
    (H : ∀ h', Ext h h' → wpAny (model prog w) A (storeName env a v₁) (fun _ s₁ => wpAny (model prog w) A (storeName env b v₂) QU E s₁) E (S σ h' t)) :
    wpAny (model prog w) A (assign (.Tuple [.Name a pa, .Name b pb] k pos) env (.ref T)) QU E (S σ h t) := by
  refine assign_Tuple_tuple (s := S σ h t) hh hT rfl rfl fun h' x => ?_
  show wpAny _ _ (assignInOrder [assign (.Name a pa) env, assign (.Name b pb) env] [v₁, v₂]) _ _ (S σ h' t)
  simp only [assignInOrder]
  exact wpAny_bind (wpAny_holding (wpAny_assign_Name (wpAny_mono (H h' (ext_of_but x)) (fun _ s₁ h₁ => wpAny_bind (wpAny_holding (wpAny_assign_Name (wpAny_mono h₁ (fun _ _ x => wpAny_pure x) fun _ _ x => x)))) fun _ _ x => x)))
theorem rUnpack3 {a b c : Str} {pa pb pc pos : Pos} {k : Nat} {v₁ v₂ v₃ : Value} {T : Addr} (hh : A.handled = none) (hT : IsTup h T #[v₁, v₂, v₃])
    (H : ∀ h', Ext h h' → wpAny (model prog w) A (storeName env a v₁) (fun _ s₁ => wpAny (model prog w) A (storeName env b v₂) (fun _ s₂ => wpAny (model prog w) A (storeName env c v₃) QU E s₂) E s₁) E (S σ h' t)) :
    wpAny (model prog w) A (assign (.Tuple [.Name a pa, .Name b pb, .Name c pc] k pos) env (.ref T)) QU E (S σ h t) := by
  refine assign_Tuple_tuple (s := S σ h t) hh hT rfl rfl fun h' x => ?_
  show wpAny _ _ (assignInOrder [assign (.Name a pa) env, assign (.Name b pb) env, assign (.Name c pc) env] [v₁, v₂, v₃]) _ _ (S σ h' t)
  simp only [assignInOrder]
  exact wpAny_bind (wpAny_holding (wpAny_assign_Name (wpAny_mono (H h' (ext_of_but x)) (fun _ s₁ h₁ => wpAny_bind (wpAny_holding (wpAny_assign_Name (wpAny_mono h₁ (fun _ s₂ h₂ => wpAny_bind (wpAny_holding (wpAny_assign_Name (wpAny_mono h₂ (fun _ _ x => wpAny_pure x) fun _ _ x => x)))) fun _ _ x => x)))) fun _ _ x => x)))

/-- a call of a def with cells enters its body, on a clean stack -/
theorem enterCellsC {Q : Value → Shared → Prop} {a : Addr} {o : Obj} {fd : FuncData} {body : List Stmt} {vals : List Value} {binds : List (Str × Value)}
    (hroom : A.depth < recursionLimit) (B : Base w h) (ho : h.get? a = some o) (hdata : o.data = .func fd) (hcd : h.CodeRec fd.code fd.qualname)
    (hbody : fd.body = .stmts body) (hbind : bindArgs fd ⟨vals, []⟩ = pure binds) (hclo : fd.closure = [])
    (hkind : ∀ x ∈ binds, fd.scope.names.lookup x.1 = some .local ∨ (fd.scope.names.lookup x.1 = some .cell ∧ ((cellsFrom (h.objs.size + 1) fd.scope.names []).lookup x.1).isSome = true))
    (H : ∀ h₁ t₁, h₁.Ns h.objs.size (bindL (callEnvC fd h.objs.size a).kindOf binds fun _ => none) → Ext h h₁ →
      (∀ n c, (cellsFrom (h.objs.size + 1) fd.scope.names []).lookup n = some c → h₁.IsCell c (bindC (callEnvC fd h.objs.size a).kindOf binds (fun _ => none) n)) →
      wpC (model prog w) (A.deeper (callEnvC fd h.objs.size a)) (execs body (callEnvC fd h.objs.size a)) (fun f s' => Q (match f with | .ret v => v | _ => .none) s') (fun _ _ => False) (S σ h₁ t₁))
    (hco : fd.scope.isCoroutine = false := by rfl) (hgen : fd.scope.isGenerator = false := by rfl) (hk : fd.scope.kind = .function := by rfl) :
    wpC (model prog w) A (call (.ref a) vals) Q E (S σ h t) := by
  refine wpC_call (codeC_call_function (s := S σ h t) hroom ho hdata hco hgen hbody hcd ?_)
  rw [hbind, hclo]
  refine wpAny_pure (wpAny_newFunctionEnv_cells hk hkind fun env he s' x => ?_)
  subst he
  obtain ⟨h₁, t₁, rfl⟩ := x.toInCall.same
  exact ⟨B.nl.keeps x.toInCall.keep, codeC_func (H h₁ t₁ x.toInCall.ns x.toInCall.keep x.cell)⟩
end
end Mine
end

section -- PS
open PySem PySem.W PyProof.Rows
set_option maxRecDepth 100000
namespace Mine

noncomputable def krun {α : Type} (lt : Nat → Nat → Bool) : KasT α → α
  | .ret a => a
  | .ask i j k => krun lt (k (lt i j))
theorem krun_bind {α β : Type} {lt : Nat → Nat → Bool} {f : α → KasT β} : ∀ t : KasT α, krun lt (t.bind f) = krun lt (f (krun lt t))
  | .ret _ => rfl
  | .ask i j k => krun_bind (k (lt i j))

section
variable (r : Nat → Int)
noncomputable abbrev rlt (i j : Nat) : Bool := decide (r i < r j)
noncomputable def kk (p : Array Nat) (i : Nat) : Int := r (p.getD i 0)
noncomputable def Srt (p : Array Nat) (k : Nat) : Prop := ∀ i j, i < j → j < k → kk r p i < kk r p j
noncomputable def Dsc (p : Array Nat) (k : Nat) : Prop := ∀ i j, i < j → j < k → kk r p j < kk r p i
noncomputable def Dist (n : Nat) (p : Array Nat) : Prop := p.size = n ∧ ∀ i j, i < j → j < n → kk r p i ≠ kk r p j
variable {r}

theorem kk_congr {p q : Array Nat} {i j : Nat} (h : p[i]? = q[j]?) : kk r p i = kk r q j := by
  unfold kk
  simp only [Array.getD_eq_getD_getElem?, h]

theorem rlt_at (p : Array Nat) (i j : Nat) : rlt r (p.getD i 0) (p.getD j 0) = decide (kk r p i < kk r p j) := rfl

theorem asc_spec {n : Nat} {p : Array Nat} (hD : Dist r n p) : ∀ f m, 1 ≤ m → m + f = n → Srt r p m →
    m ≤ krun (rlt r) (kas_asc p f m) ∧ krun (rlt r) (kas_asc p f m) ≤ n ∧ Srt r p (krun (rlt r) (kas_asc p f m)) ∧ (krun (rlt r) (kas_asc p f m) < n → kk r p (krun (rlt r) (kas_asc p f m)) < kk r p (krun (rlt r) (kas_asc p f m) - 1)) := by
  intro f
  induction f with
  | zero => intro m h1 hm hs; exact ⟨Nat.le_refl _, by show m ≤ n; omega, hs, fun h => absurd h (by show ¬ m < n; omega)⟩
  | succ f ih =>
    intro m h1 hm hs
    rw [kas_asc, krun, rlt_at]
    by_cases hc : kk r p m < kk r p (m - 1)
    · rw [decide_eq_true hc, if_pos rfl]
      exact ⟨Nat.le_refl _, by show m ≤ n; omega, hs, fun _ => hc⟩
    · rw [decide_eq_false hc, if_neg (by decide)]
      have hne := hD.2 (m - 1) m (by omega) (by omega)
      have hs' : Srt r p (m + 1) := by
        intro i j hij hj
        by_cases hjm : j = m
        · subst hjm
          by_cases him : i = j - 1
          · subst him; omega
          · have := hs i (j - 1) (by omega) (by omega); omega
        · exact hs i j hij (by omega)
      obtain ⟨a, b, c, d⟩ := ih (m + 1) (by omega) (by omega) hs'
      exact ⟨by omega, b, c, d⟩

theorem desc_spec {n : Nat} {p : Array Nat} (hD : Dist r n p) : ∀ f m, 1 ≤ m → m + f = n → Dsc r p m →
    ∃ m', m ≤ m' ∧ m' ≤ n ∧ krun (rlt r) (kas_desc f p m 0) = (p, m', 0) ∧ Dsc r p m' := by
  intro f
  induction f with
  | zero => intro m h1 hm hs; exact ⟨m, Nat.le_refl _, by omega, rfl, hs⟩
  | succ f ih =>
    intro m h1 hm hs
    rw [kas_desc, krun, rlt_at]
    by_cases hc : kk r p m < kk r p (m - 1)
    · rw [decide_eq_true hc, if_pos rfl, if_neg (by decide)]
      have hs' : Dsc r p (m + 1) := by
        intro i j hij hj
        by_cases hjm : j = m
        · subst hjm
          by_cases him : i = j - 1
          · subst him; exact hc
          · have := hs i (j - 1) (by omega) (by omega); omega
        · exact hs i j hij (by omega)
      obtain ⟨m', a, b, c, d⟩ := ih (m + 1) (by omega) (by omega) hs'
      exact ⟨m', by omega, b, c, d⟩
    · have hne := hD.2 (m - 1) m (by omega) (by omega)
      rw [decide_eq_false hc, if_neg (by decide), krun, rlt_at, decide_eq_true (show kk r p (m - 1) < kk r p m by omega), if_pos rfl]
      exact ⟨m, Nat.le_refl _, by omega, rfl, hs⟩

theorem rev_kk {p : Array Nat} {m : Nat} (hm : m ≤ p.size) (k : Nat) : kk r (kas_rev p 0 m) k = if k < m then kk r p (m - 1 - k) else kk r p k := by
  have := getElem?_mirror_all (i := 0) hm k
  by_cases hk : k < m
  · rw [if_pos hk]; rw [if_pos ⟨by omega, hk⟩, Nat.zero_add] at this; exact kk_congr this
  · rw [if_neg hk]; rw [if_neg (by omega)] at this; exact kk_congr this
theorem rev_perm (p : Array Nat) (m : Nat) : (kas_rev p 0 m).Perm p := mirror_perm _ _ _ _
theorem rev_size (p : Array Nat) (m : Nat) : (kas_rev p 0 m).size = p.size := mirror_size _ _ _ _

theorem Dist.rev {n m : Nat} {p : Array Nat} (hD : Dist r n p) (hm : m ≤ n) : Dist r n (kas_rev p 0 m) := by
  refine ⟨(rev_size _ _).trans hD.1, fun i j hij hj => ?_⟩
  rw [rev_kk (by rw [hD.1]; exact hm), rev_kk (by rw [hD.1]; exact hm)]
  by_cases h1 : i < m <;> by_cases h2 : j < m <;> simp only [h1, h2, if_true, if_false]
  · exact Ne.symm (hD.2 (m - 1 - j) (m - 1 - i) (by omega) (by omega))
  · exact hD.2 _ _ (by omega) hj
  · omega
  · exact hD.2 _ _ hij hj

theorem tail3_spec {n m : Nat} {p : Array Nat} (hD : Dist r n p) (h1 : 1 ≤ m) (hm : m ≤ n) (hs : Dsc r p m) :
    ∃ m', 1 ≤ m' ∧ m' ≤ n ∧ krun (rlt r) (kas_tail3 m n p) = (m', kas_rev p 0 m) ∧ Srt r (kas_rev p 0 m) m' := by
  unfold kas_tail3
  rw [krun_bind]
  have hs' : Srt r (kas_rev p 0 m) m := by
    intro i j hij hj
    rw [rev_kk (by rw [hD.1]; exact hm), rev_kk (by rw [hD.1]; exact hm), if_pos (by omega), if_pos hj]
    exact hs _ _ (by omega) (by omega)
  obtain ⟨a, b, c, _⟩ := asc_spec (hD.rev hm) (n - m) m h1 (by omega) hs'
  exact ⟨_, by omega, b, rfl, c⟩

theorem count_spec {n : Nat} {p : Array Nat} (hD : Dist r n p) (h1 : 1 ≤ n) :
    ∃ m p', 1 ≤ m ∧ m ≤ n ∧ krun (rlt r) (kas_count n p) = (m, p') ∧ p'.Perm p ∧ Srt r p' m := by
  unfold kas_count
  rw [krun_bind]
  obtain ⟨a, b, c, d⟩ := asc_spec hD (n - 1) 1 (Nat.le_refl _) (by omega) (fun i j hij hj => by omega)
  generalize krun (rlt r) (kas_asc p (n - 1) 1) = m at a b c d
  by_cases hmn : m = n
  · subst hmn
    rw [if_pos (by simp)]
    exact ⟨m, p, a, b, rfl, Array.Perm.refl _, c⟩
  · rw [if_neg (by simpa using hmn)]
    by_cases hm1 : m > 1
    · rw [if_pos hm1, krun, rlt_at, decide_eq_true (c 0 (m - 1) (by omega) (by omega)), if_pos rfl]
      exact ⟨m, p, a, b, rfl, Array.Perm.refl _, c⟩
    · rw [if_neg hm1]
      obtain rfl : m = 1 := by omega
      unfold kas_descPart
      rw [krun_bind]
      have hs2 : Dsc r p 2 := by
        intro i j hij hj
        obtain rfl : i = 0 := by omega
        obtain rfl : j = 1 := by omega
        exact d (by omega)
      obtain ⟨m', e1, e2, e3, e4⟩ := desc_spec hD (n - (1 + 1)) 2 (by omega) (by omega) hs2
      rw [e3]
      dsimp only
      rw [if_neg (by omega)]
      obtain ⟨m'', f1, f2, f3, f4⟩ := tail3_spec hD (by omega) e2 e4
      exact ⟨m'', _, f1, f2, f3, rev_perm _ _, f4⟩

theorem place_spec {p : Array Nat} {n k : Nat} (hD : Dist r n p) (hk : k < n) : ∀ f l q, q - l ≤ f → l ≤ q → q ≤ k → (∀ i, i < l → kk r p i < kk r p k) → (∀ i, q ≤ i → i < k → kk r p k < kk r p i) → Srt r p k →
    ∃ x, krun (rlt r) (kas_place p k f l q) = x ∧ x ≤ k ∧ (∀ i, i < x → kk r p i < kk r p k) ∧ (∀ i, x ≤ i → i < k → kk r p k < kk r p i) := by
  intro f
  induction f with
  | zero => intro l q hf hl hq h1 h2 hs; exact ⟨l, rfl, by omega, h1, fun i hi => h2 i (by omega)⟩
  | succ f ih =>
    intro l q hf hl hq h1 h2 hs
    rw [kas_place]
    by_cases hlq : l ≥ q
    · rw [if_pos hlq]; exact ⟨l, rfl, by omega, h1, fun i hi => h2 i (by omega)⟩
    · rw [if_neg hlq, krun, rlt_at]
      have hmid : (l + q) / 2 < k := by omega
      have hne := hD.2 ((l + q) / 2) k hmid hk
      by_cases hc : kk r p k < kk r p ((l + q) / 2)
      · rw [decide_eq_true hc, if_pos rfl]
        refine ih l ((l + q) / 2) (by omega) (by omega) (by omega) h1 (fun i hi hik => ?_) hs
        by_cases he : i = (l + q) / 2
        · subst he; exact hc
        · have := hs ((l + q) / 2) i (by omega) hik; omega
      · rw [decide_eq_false hc, if_neg (by decide)]
        refine ih ((l + q) / 2 + 1) q (by omega) (by omega) hq (fun i hi => ?_) h2 hs
        by_cases he : i = (l + q) / 2
        · subst he; omega
        · have := hs i ((l + q) / 2) (by omega) hmid; omega

theorem bub_kk {p : Array Nat} {k d : Nat} (hk : k < p.size) (hd : d ≤ k) (i : Nat) : kk r (bubble p k d) i = if i = k - d then kk r p k else if k - d < i ∧ i ≤ k then kk r p (i - 1) else kk r p i := by
  have e := getElem?_bubble hk d hd i
  by_cases h1 : i = k - d
  · rw [if_pos h1] at e ⊢; exact kk_congr e
  · rw [if_neg h1] at e ⊢
    by_cases h2 : k - d < i ∧ i ≤ k
    · rw [if_pos h2] at e ⊢; exact kk_congr e
    · rw [if_neg h2] at e ⊢; exact kk_congr e

theorem perm_dist {n : Nat} {p q : Array Nat} (hD : Dist r n p) (hp : q.Perm p) : Dist r n q := by
  have hl : q.toList.Perm p.toList := Array.perm_iff_toList_perm.mp hp
  have e : ∀ x : Array Nat, x.size = n → ((∀ i j, i < j → j < n → kk r x i ≠ kk r x j) ↔ (x.toList.map r).Pairwise (· ≠ ·)) := by
    intro x hx
    rw [List.pairwise_iff_getElem]
    constructor
    · intro h i j hi hj hij
      simp at hi hj
      have := h i j hij (by omega)
      simp only [kk] at this
      simpa [Array.getD, hi, hj] using this
    · intro h i j hij hj
      have := h i j (by simp; omega) (by simp; omega) hij
      have hi' : i < x.size := by omega
      have hj' : j < x.size := by omega
      simp only [kk]
      simpa [Array.getD, hi', hj'] using this
  have hsz : q.size = n := by have := hl.length_eq; simp at this; rw [this]; exact hD.1
  refine ⟨hsz, (e q hsz).mpr ?_⟩
  have := (e p hD.1).mp hD.2
  exact ((hl.map r).pairwise_iff (fun {_ _} h => Ne.symm h)).mpr this

theorem bin_spec {n : Nat} : ∀ f k (p : Array Nat), Dist r n p → k + f = n → Srt r p k → ∃ p', krun (rlt r) (kas_bin f p k) = p' ∧ p'.Perm p ∧ Srt r p' n := by
  intro f
  induction f with
  | zero => intro k p hD hk hs; obtain rfl : k = n := by omega
            exact ⟨p, rfl, Array.Perm.refl _, hs⟩
  | succ f ih =>
    intro k p hD hk hs
    rw [kas_bin, krun_bind]
    obtain ⟨x, e, hx, h1, h2⟩ := place_spec hD (k := k) (by omega) k 0 k (by omega) (by omega) (by omega) (fun i hi => by omega) (fun i hi hik => by omega) hs
    rw [e]
    have hkp : k < p.size := by rw [hD.1]; omega
    have hs' : Srt r (bubble p k (k - x)) (k + 1) := by
      intro i j hij hj
      rw [bub_kk hkp (by omega), bub_kk hkp (by omega), show k - (k - x) = x by omega]
      by_cases a1 : i = x
      · rw [if_pos a1, if_neg (by omega), if_pos ⟨by omega, by omega⟩]
        exact h2 _ (by omega) (by omega)
      · rw [if_neg a1]
        by_cases a2 : x < i ∧ i ≤ k
        · rw [if_pos a2, if_neg (by omega), if_pos ⟨by omega, by omega⟩]
          exact hs _ _ (by omega) (by omega)
        · rw [if_neg a2]
          by_cases b1 : j = x
          · rw [if_pos b1]; exact h1 _ (by omega)
          · rw [if_neg b1]
            by_cases b2 : x < j ∧ j ≤ k
            · rw [if_pos b2]
              by_cases b3 : j - 1 = i
              · omega
              · exact hs _ _ (by omega) (by omega)
            · rw [if_neg b2]; exact hs _ _ hij (by omega)
    obtain ⟨p', f1, f2, f3⟩ := ih (k + 1) _ (perm_dist hD (bubble_perm _ _ _)) (by omega) hs'
    exact ⟨p', f1, f2.trans (bubble_perm _ _ _), f3⟩

theorem sort_spec {n : Nat} (h1 : 1 ≤ n) (hr : ∀ i j, i < j → j < n → r i ≠ r j) :
    ∃ p, krun (rlt r) (kas_sort n) = p ∧ p.toList.Perm (List.range n) ∧ p.size = n ∧ Srt r p n := by
  have hD : Dist r n (List.toArray (List.range n)) := by
    refine ⟨by simp, fun i j hij hj => ?_⟩
    have hi : i < n := by omega
    simp only [kk]
    simpa [Array.getD, hi, hj] using hr i j hij hj
  unfold kas_sort
  rw [krun_bind]
  obtain ⟨m, p', a1, a2, a3, a4, a5⟩ := count_spec hD h1
  rw [a3]
  dsimp only
  have hpl : ∀ q : Array Nat, q.Perm p' → q.toList.Perm (List.range n) ∧ q.size = n := fun q hq => by
    have : q.toList.Perm (List.range n) := by
      have := Array.perm_iff_toList_perm.mp (hq.trans a4)
      simpa using this
    exact ⟨this, by have := this.length_eq; simpa using this⟩
  by_cases hlt : m < n
  · rw [if_pos hlt]
    rw [Nat.max_eq_left a1]
    obtain ⟨q, b1, b2, b3⟩ := bin_spec (n - m) m p' (perm_dist hD a4) (by omega) a5
    exact ⟨q, b1, (hpl q b2).1, (hpl q b2).2, b3⟩
  · rw [if_neg hlt]
    obtain rfl : m = n := by omega
    exact ⟨p', rfl, (hpl p' (Array.Perm.refl _)).1, (hpl p' (Array.Perm.refl _)).2, a5⟩
end
end Mine
end

section -- SR
open PySem PySem.W PyProof.Rows
set_option maxRecDepth 100000
set_option maxHeartbeats 2000000
namespace Mine
open PySem.SeqAt PySem.MeetsSeq PySem.MeetsSeq2 PySem.MeetsSeq3

/-- every question of the tree is about places below n, and what it gives is fit -/
noncomputable def AskR {α : Type} (n : Nat) (R : α → Prop) : KasT α → Prop
  | .ret a => R a
  | .ask i j k => i < n ∧ j < n ∧ ∀ b, AskR n R (k b)
theorem AskR.bind {α β : Type} {n : Nat} {R : α → Prop} {R' : β → Prop} {f : α → KasT β} : ∀ {t : KasT α}, AskR n R t → (∀ a, R a → AskR n R' (f a)) → AskR n R' (t.bind f)
  | .ret a, h, hf => hf a h
  | .ask _ _ _, h, hf => ⟨h.1, h.2.1, fun b => AskR.bind (h.2.2 b) hf⟩
theorem AskR.mono {α : Type} {n : Nat} {R R' : α → Prop} (hR : ∀ a, R a → R' a) : ∀ {t : KasT α}, AskR n R t → AskR n R' t
  | .ret a, h => hR a h
  | .ask _ _ _, h => ⟨h.1, h.2.1, fun b => AskR.mono hR (h.2.2 b)⟩

noncomputable def Fit (n : Nat) (p : Array Nat) : Prop := 0 < n ∧ ∀ x ∈ p.toList, x < n
theorem Fit.at {n : Nat} {p : Array Nat} (h : Fit n p) (i : Nat) : p.getD i 0 < n := by
  rw [Array.getD_eq_getD_getElem?]
  cases e : p[i]? with
  | none => exact h.1
  | some x => exact h.2 x (by simpa using Array.mem_of_getElem? e)
theorem Fit.perm {n : Nat} {p q : Array Nat} (h : Fit n p) (hp : q.Perm p) : Fit n q := ⟨h.1, fun x hx => h.2 x ((Array.perm_iff_toList_perm.mp hp).subset hx)⟩
theorem asc_ask {n : Nat} {p : Array Nat} (h : Fit n p) : ∀ f m, AskR n (fun _ => True) (kas_asc p f m)
  | 0, _ => trivial
  | f + 1, m => ⟨h.at _, h.at _, fun b => by
    dsimp only
    split
    · trivial
    · exact asc_ask h f (m + 1)⟩
theorem desc_ask {n : Nat} : ∀ f (p : Array Nat) m q, Fit n p → AskR n (fun r => Fit n r.1) (kas_desc f p m q)
  | 0, _, _, _, h => h
  | f + 1, p, m, q, h => ⟨h.at _, h.at _, fun b => by
    dsimp only
    split
    · split
      · exact desc_ask f _ _ _ (h.perm (mirror_perm _ _ _ _))
      · exact desc_ask f _ _ _ h
    · refine ⟨h.at _, h.at _, fun d => ?_⟩
      dsimp only
      split
      · exact h
      · exact desc_ask f _ _ _ h⟩
theorem tail3_ask {n m k : Nat} {p : Array Nat} (h : Fit n p) : AskR n (fun r => Fit n r.2) (kas_tail3 m k p) :=
  AskR.bind (asc_ask (h.perm (mirror_perm _ _ _ _)) _ _) fun _ _ => h.perm (mirror_perm _ _ _ _)
theorem descPart_ask {n m k : Nat} {p : Array Nat} (h : Fit n p) : AskR n (fun r => Fit n r.2) (kas_descPart m k p) :=
  AskR.bind (desc_ask _ _ _ _ h) fun a ha => by
    split
    · exact tail3_ask (ha.perm (mirror_perm _ _ _ _))
    · exact tail3_ask ha
theorem count_ask {n k : Nat} {p : Array Nat} (h : Fit n p) : AskR n (fun r => Fit n r.2) (kas_count k p) :=
  AskR.bind (asc_ask h _ _) fun a _ => by
    split
    · exact h
    · split
      · refine ⟨h.at _, h.at _, fun b => ?_⟩
        dsimp only
        split
        · exact h
        · exact descPart_ask (h.perm (mirror_perm _ _ _ _))
      · exact descPart_ask h
theorem place_ask {n k : Nat} {p : Array Nat} (h : Fit n p) : ∀ f l q, AskR n (fun _ => True) (kas_place p k f l q)
  | 0, _, _ => trivial
  | f + 1, l, q => by
    rw [kas_place]
    split
    · trivial
    · refine ⟨h.at _, h.at _, fun b => ?_⟩
      dsimp only
      split
      · exact place_ask h f _ _
      · exact place_ask h f _ _
theorem bin_ask {n : Nat} : ∀ f (p : Array Nat) k, Fit n p → AskR n (fun _ => True) (kas_bin f p k)
  | 0, _, _, _ => trivial
  | f + 1, _, _, h => AskR.bind (place_ask h _ _ _) fun _ _ => bin_ask f _ _ (h.perm (bubble_perm _ _ _))
theorem sort_ask {n : Nat} (h0 : 0 < n) : AskR n (fun _ => True) (kas_sort n) := by
  refine AskR.bind (count_ask (n := n) ⟨h0, by simp⟩) fun a ha => ?_
  split
  · exact bin_ask _ _ _ ha
  · trivial

theorem kasWp_run {α : Type} {n : Nat} {lt : Nat → Nat → Bool} {cmp : Nat → Nat → (Bool → Shared → Prop) → Shared → Prop} {s : Shared} (hc : ∀ i j C, i < n → j < n → C (lt i j) s → cmp i j C s) {Q : α → Shared → Prop} :
    ∀ t : KasT α, AskR n (fun _ => True) t → Q (krun lt t) s → t.kasWp cmp Q s
  | .ret _, _, h => h
  | .ask i j k, ha, h => hc i j _ ha.1 ha.2.1 (kasWp_run hc (k (lt i j)) (ha.2.2 _) h)

section
variable {prog : Program} {w : World} {A : Around} {E : Value → Shared → Prop} {s : Shared}
theorem keyLt_lists {l b : Addr} {items items2 : Array Value} {e r : Nat → Bool} {Q : Bool → Shared → Prop} (hl : s.heap.IsList l items) (hb : s.heap.IsList b items2) (hsz : items.size = items2.size) (hu : A.units < cLine)
    (he : ∀ j (h1 : j < items.size) (h2 : j < items2.size), EqAt A.in1 s items[j] items2[j] (e j))
    (hr : ∀ j (h1 : j < items.size) (h2 : j < items2.size), e j = false → RcLtAt A.in1 s items[j] items2[j] (r j)) (h : Q (ltFrom e r items.size 0 items.size) s) : wpAny (model prog w) A (keyLt' oneType' (.ref l) (.ref b)) Q E s := by
  obtain ⟨⟨cls, dd, data, sl⟩, ho, hc, n, hd⟩ := id hl
  obtain ⟨⟨cls2, dd2, data2, sl2⟩, ho2, hc2, n2, hd2⟩ := id hb
  simp only at hc hd hc2 hd2
  subst hc hd hc2 hd2
  rw [keyLt'_oneType, oneLt'_eq]
  simp only [if_true]
  refine wpAny_bind (wpAny_cRoomFor hu ?_)
  refine wpAny_bind (wpAny_callSpecialIfBound?_slot (T := "list") ⟨_, ho, rfl⟩ F.slot_list_lt (call_meets F.slot_list_lt ⟨_, ho, rfl⟩ F.entry_list_lt (F.args_list_lt_2 _ _) (list_ltAt l b items items2 n n2 dd dd2 sl sl2 hsz e r) ⟨ho, ho2, he, hr, ?_⟩))
  exact wpAny_truthy_bool h
end

/-- a list of two numbers -/
noncomputable def PairAt (h : Heap) (v : Value) (n k : Int) : Prop := ∃ a u₁ u₂, v = .ref a ∧ h.IsList a #[.int n u₁, .int k u₂]
theorem PairAt.at {h h' : Heap} {v : Value} {n k : Int} {L : Addr} {m : Str → Option Value} (x : PairAt h v n k) (hN : h.Ns L m) (e : Heap.ExtBut L h h') : PairAt h' v n k := by
  obtain ⟨a, u₁, u₂, rfl, o, ho, hc, hd⟩ := x
  refine ⟨a, u₁, u₂, rfl, o, e a o ?_ ho, hc, hd⟩
  rintro rfl
  obtain ⟨o', _, _, ho', hd', _⟩ := hN
  obtain ⟨n', hd⟩ := hd
  rw [ho] at ho'; cases ho'
  rw [hd] at hd'; cases hd'

noncomputable def rank (ns : List Int) (i : Nat) : Int := ns.getD i 0 * 64 + i

noncomputable def allBut (h : Heap) (L : Addr) : List (Addr × Obj) := (List.range h.objs.size).filterMap fun b => if b = L then none else (h.get? b).map fun o => (b, o)
theorem mem_allBut {h : Heap} {L b : Addr} {o : Obj} : (b, o) ∈ allBut h L ↔ b ≠ L ∧ h.get? b = some o := by
  unfold allBut
  rw [List.mem_filterMap]
  constructor
  · rintro ⟨c, _, e⟩
    by_cases hc : c = L
    · rw [if_pos hc] at e; cases e
    · rw [if_neg hc] at e
      obtain ⟨o', ho, e'⟩ := Option.map_eq_some_iff.mp e
      cases e'; exact ⟨hc, ho⟩
  · rintro ⟨h1, h2⟩
    exact ⟨b, List.mem_range.mpr (Heap.lt_size h2), by rw [if_neg h1, h2]; rfl⟩
theorem pair_lt (n k n' k' : Int) : ltFrom (fun j => if j = 0 then n == n' else k == k') (fun j => if j = 0 then decide (n < n') else decide (k < k')) 2 0 2 = if n = n' then (if k = k' then false else decide (k < k')) else decide (n < n') := by
  simp only [ltFrom, if_true]
  by_cases h1 : n = n'
  · subst h1; simp
  · simp [h1]

section
variable {prog : Program} {w : World} {A : Around} {E : Value → Shared → Prop} {σ : Shared} {h : Heap} {t : Nat} {env : Env} {Q : Value → Shared → Prop}

theorem sorted_call {l L : Addr} {vs : List Value} {ns : List Int} {m : Str → Option Value} (hN : h.Ns L m) (hl : h.IsList l vs.toArray) (hlen : vs.length = ns.length) (h2 : 2 ≤ ns.length) (h64 : ns.length < 64)
    (hp : ∀ i v, vs[i]? = some v → PairAt h v (ns.getD i 0) i) (hu : A.units + 20 < cLine)
    (H : ∀ D h' (p : List Nat), Heap.ExtBut L h h' → h'.Ns L m → h.get? D = none → PlainL h' D (p.map fun i => vs.getD i .none).toArray → p.Perm (List.range ns.length) → (p.Pairwise fun i j => rank ns i < rank ns j) → Q (.ref D) (S σ h' t)) :
    wpAny (model prog w) A (call (.builtin "sorted") [.ref l]) Q E (S σ h t) := by
  have hF : Fr { h with objs := #[] } L h m := ⟨hN, fun b o e => by simp [Heap.get?] at e, Nat.zero_le _⟩
  have hNw : News { h with objs := #[] } L h (allBut h L) := fun p hp' => by
    obtain ⟨b, o⟩ := p
    obtain ⟨h1, h2⟩ := mem_allBut.mp hp'
    exact ⟨h2, h1, by simp [Heap.get?]⟩
  have ext : ∀ h', News { h with objs := #[] } L h' (allBut h L) → Heap.ExtBut L h h' := fun h' hN' b o hb e => (hN' (b, o) (mem_allBut.mpr ⟨hb, e⟩)).1
  refine kas_sorted (s := S σ h t) (T := .type "list") hF hNw hl (by omega) (by omega) ?_ (by decide) ?_
  · intro h' F' N' v hv
    obtain ⟨i, hi, rfl⟩ := List.mem_iff_getElem.mp hv
    obtain ⟨a, u₁, u₂, e, o, ho, hc, _⟩ := (hp i _ (List.getElem?_eq_getElem hi)).at hN (ext h' N')
    rw [e]
    exact kitAt_ty _ _ ⟨o, ho, hc⟩
  · intro D e1 h' F' N' hlt
    have x' : Heap.ExtBut L h h' := ext h' fun p hp' => N' p (.tail _ hp')
    have hrd : ∀ i j, i < j → j < ns.length → rank ns i ≠ rank ns j := by
      intro i j hij hj
      unfold rank
      omega
    obtain ⟨p, hpe, hperm, hpsz, hsrt⟩ := sort_spec (r := rank ns) (n := ns.length) (by omega) hrd
    refine kasWp_run (n := ns.length) (lt := rlt (rank ns)) ?_ _ (by rw [hlen]; exact sort_ask (by omega)) ?_
    · intro i j C hi hj hC
      obtain ⟨a, u₁, u₂, ei, la⟩ := (hp i _ (List.getElem?_eq_getElem (by omega))).at hN x'
      obtain ⟨b, v₁, v₂, ej, lb⟩ := (hp j _ (List.getElem?_eq_getElem (by omega))).at hN x'
      unfold kas_ask
      rw [show vs.getD i .none = vs[i] by simp [show i < vs.length by omega], show vs.getD j .none = vs[j] by simp [show j < vs.length by omega], ei, ej]
      refine keyLt_lists (e := fun q => if q = 0 then ns.getD i 0 == ns.getD j 0 else (i : Int) == (j : Int)) (r := fun q => if q = 0 then decide (ns.getD i 0 < ns.getD j 0) else decide ((i : Int) < (j : Int))) la lb rfl (by show A.units + _ + _ < _; omega) ?_ ?_ ?_
      · intro q h1 _
        match q, h1 with
        | 0, _ => exact EqAt.int_int _ _ _ _
        | 1, _ => exact EqAt.int_int _ _ _ _
      · intro q h1 _ _
        match q, h1 with
        | 0, _ => exact RcLtAt.int _ _ _ _
        | 1, _ => exact RcLtAt.int _ _ _ _
      · have := pair_lt (ns.getD i 0) i (ns.getD j 0) j
        show C (ltFrom _ _ 2 0 2) _
        rw [this]
        have hb : (if ns.getD i 0 = ns.getD j 0 then (if (i : Int) = j then false else decide ((i : Int) < j)) else decide (ns.getD i 0 < ns.getD j 0)) = rlt (rank ns) i j := by
          show _ = decide (rank ns i < rank ns j)
          unfold rank
          generalize ns.getD i 0 = X
          generalize ns.getD j 0 = Y
          by_cases e1 : X = Y
          · subst e1
            rw [if_pos rfl]
            by_cases e2 : (i : Int) = j
            · rw [if_pos e2, decide_eq_false (by omega)]
            · rw [if_neg e2]; exact decide_eq_decide.mpr (by omega)
          · rw [if_neg e1]; exact decide_eq_decide.mpr (by omega)
        rw [hb]; exact hC
    · rw [hlen, hpe]
      refine KasFin.intro F' N' (UpdF.head fun q hq => Nat.ne_of_lt (hlt q hq)) fun h'' c F'' N'' => ?_
      have hD := N'' (D, _) (.head _)
      refine H D h'' p.toList (ext h'' fun q hq => N'' q (.tail _ hq)) F''.ns ?_ ⟨_, _, hD.1, rfl, rfl, rfl⟩ hperm ?_
      · cases e : h.get? D with
        | none => rfl
        | some o => exact absurd (hlt (D, o) (mem_allBut.mpr ⟨hD.2.1, e⟩)) (Nat.lt_irrefl _)
      · rw [List.pairwise_iff_getElem]
        intro i j hi hj hij
        have hi' : i < p.size := by simpa using hi
        have hj' : j < p.size := by simpa using hj
        have := hsrt i j hij (by omega)
        simp only [kk] at this
        simpa [Array.getD, hi', hj'] using this
end
end Mine
end

section -- U1
open PySem PySem.W PyProof.Rows
set_option maxRecDepth 100000
set_option maxHeartbeats 2000000
namespace Mine

section
variable {prog : Program} {w : World} {A : Around} {E : Value → Shared → Prop} {σ : Shared} {h : Heap} {t : Nat} {env : Env} {Q : Value → Shared → Prop} {QU : Unit → Shared → Prop}

theorem rUnpackL {x y : Str} {px py pos : Pos} {kk : Nat} {v₁ v₂ : Value} {a : Addr} (hh : A.handled = none) (hl : h.IsList a #[v₁, v₂])
    (H : ∀ h' t', Ext h h' → wpAny (model prog w) A (storeName env x v₁) (fun _ s₁ => wpAny (model prog w) A (storeName env y v₂) QU E s₁) E (S σ h' t')) :
    wpAny (model prog w) A (assign (.Tuple [.Name x px, .Name y py] kk pos) env (.ref a)) QU E (S σ h t) := by
  rw [assign_Tuple]
  refine wpAny_bind (wpAny_standAt ?_)
  show wpAny _ _ (unpack (.ref a) [(false, assign (.Name x px) env), (false, assign (.Name y py) env)]) _ _ _
  unfold unpack
  have hlt : a < h.objs.size := by obtain ⟨o, ho, _⟩ := hl; exact Heap.lt_size ho
  have W := Walks.list (prog := prog) (w := w) hh h.objs.size a (Nat.ne_of_lt hlt) #[v₁, v₂]
  have hT : (S σ h t).TypeIs (.ref a) "list" := Heap.IsList.typeIs (s := S σ h t) hl
  refine wpAny_bind (wpAny_holding ?_)
  show wpAny _ _ (unpackItems (.ref a) 2 none) _ _ _
  unfold unpackItems
  refine wpAny_bind ?_
  unfold notIterableAtAll
  refine wpAny_bind (wpAny_specialOf hT F.slot_list_iter.lookup (wpAny_pure ?_))
  simp only [Bool.false_eq_true, if_false]
  refine wpAny_bind (wpAny_holding (wpAny_pyIter_list (s := S σ h t) hl ?_))
  dsimp only
  have fin : ∀ h₁ t₁, Ext h h₁ → wpAny (model prog w) A (assignInOrder [assign (.Name x px) env, assign (.Name y py) env] [v₁, v₂]) QU E (S σ h₁ t₁) := fun h₁ t₁ hx => by
    simp only [assignInOrder]
    exact wpAny_bind (wpAny_holding (wpAny_assign_Name (wpAny_mono (H h₁ t₁ hx) (fun _ s₁ h₁ => wpAny_bind (wpAny_holding (wpAny_assign_Name (wpAny_mono h₁ (fun _ _ x => wpAny_pure x) fun _ _ x => x)))) fun _ _ x => x)))
  have x₀ := Ext.push h { cls := .type "list_iterator", data := .fields #[.ref a, .int 0 0] }
  have st₀ : (h.push { cls := .type "list_iterator", data := .fields #[.ref a, .int 0 0] }).IsListIter h.objs.size a 0 ∧ (h.push { cls := .type "list_iterator", data := .fields #[.ref a, .int 0 0] }).IsList a #[v₁, v₂] := ⟨⟨_, Heap.get?_push_size _ rfl, rfl, rfl⟩, hl.push _⟩
  show wpAny _ _ _ _ _ (S σ (h.push { cls := .type "list_iterator", data := .fields #[.ref a, .int 0 0] }) t)
  generalize h.push { cls := .type "list_iterator", data := .fields #[.ref a, .int 0 0] } = h₀ at *
  have keep : ∀ {g g' : Heap}, Ext h g → (∀ b o, b ∉ [h.objs.size] → g.get? b = some o → g'.get? b = some o) → Ext h g' := fun hx hk b o e => hk b o (fun hb => by
    rw [List.mem_singleton] at hb; subst hb; exact Nat.lt_irrefl _ (Heap.lt_size e)) (hx b o e)
  refine wpAny_bind (wpAny_holding ?_)
  show wpAny _ _ (pyNext (.ref h.objs.size) >>= _) _ _ _
  refine wpAny_bind (W.item 0 (S σ h₀ t) _ _ (by simp) st₀ fun u₁ h₁ t₁ p₁ st₁ k₁ => ?_)
  obtain rfl : v₁ = u₁ := by simpa using p₁
  show wpAny _ _ (holding _ (pyNext (.ref h.objs.size) >>= _) >>= _) _ _ (S σ h₁ t₁)
  refine wpAny_bind (wpAny_holding (wpAny_bind (W.item 1 (S σ h₁ t₁) _ _ (by simp) st₁ fun u₂ h₂ t₂ p₂ st₂ k₂ => ?_)))
  obtain rfl : v₂ = u₂ := by simpa using p₂
  show wpAny _ _ (holding _ (pure []) >>= _) _ _ (S σ h₂ t₂)
  refine wpAny_bind (wpAny_holding (wpAny_pure (wpAny_pure (wpAny_pure ?_))))
  rw [if_neg (by simp)]
  refine wpAny_bind (wpAny_holding (W.done (S σ h₂ t₂) _ _ st₂ fun h₃ t₃ k₃ => ?_))
  simp only [Option.isSome_none, Bool.false_eq_true, if_false]
  exact wpAny_pure (fin h₃ t₃ (keep (keep (keep x₀ k₁) k₂) k₃))

section
variable {elt target i₀ : Expr} {scope : Scope} {pos : Pos} {it acc : Value} {cenv : Env} {R : Result → Shared → Prop} {s : Shared}
theorem compTurn_one : compTurn (.ListComp elt [⟨target, i₀, [], 0⟩] scope pos) 0 it acc cenv = (standAt i₀.pos >>= fun _ => pyNext it >>= fun r => match r with
      | none => pure (.done .next)
      | some v => letOwnedTupleGo target it v >>= fun _ => assign target cenv v >>= fun _ =>
        (eval elt cenv >>= fun x => call (.builtin "list.append") [acc, x] >>= fun _ => pure ()) >>= fun _ =>
          again (.compLoop (.ListComp elt [⟨target, i₀, [], 0⟩] scope pos) 0 it acc cenv)) := by rfl
theorem compLoop_one (I : Nat → Shared → Prop)
    (turn : ∀ n s, I n s → wpAny (model prog w) A (pyNext it) (fun r s₁ => match r with
      | none => R (.ok .next) s₁
      | some v => wpAny (model prog w) A (letOwnedTupleGo target it v) (fun _ s₁ => wpAny (model prog w) A (assign target cenv v) (fun _ s₂ => wpAny (model prog w) A (eval elt cenv) (fun x s₃ =>
          wpAny (model prog w) A (call (.builtin "list.append") [acc, x]) (fun _ s₄ => ∃ m, m < n ∧ I m s₄) (fun _ _ => False) s₃) (fun _ _ => False) s₂) (fun _ _ => False) s₁) (fun _ _ => False) s₁) (fun _ _ => False) s)
    (n : Nat) (h : I n s) :
    codeAny (model prog w) A (.compLoop (.ListComp elt [⟨target, i₀, [], 0⟩] scope pos) 0 it acc cenv) R s := by
  refine codeAny_loop rfl I (fun n s hI => ?_) n h
  show wpAny _ _ ((compTurn (.ListComp elt [⟨target, i₀, [], 0⟩] scope pos) 0 it acc cenv).onRaise (fun x => do noteFrame x cenv; theTreesLotGoes x)) _ _ s
  refine wpAny_noted (wpAny_mono (E := fun _ _ => False) ?_ (fun _ _ x => x) (fun _ _ x => x.elim))
  rw [compTurn_one]
  refine wpAny_bind (wpAny_standAt (wpAny_bind (wpAny_mono (turn n s hI) (fun r s₁ h₁ => ?_) fun _ _ h' => h')))
  cases r with
  | none => exact wpAny_pure h₁
  | some v =>
    exact wpAny_bind (wpAny_mono h₁ (fun _ s₁ h₁ => wpAny_bind (wpAny_mono h₁ (fun _ s₂ h₂ => wpAny_bind (wpAny_bind (wpAny_mono h₂ (fun x s₃ h₃ => wpAny_bind (wpAny_mono h₃
      (fun _ s₄ h₄ => wpAny_pure (wpAny_pure ⟨rfl, h₄⟩)) fun _ _ h' => h')) fun _ _ h' => h'))) fun _ _ h' => h')) fun _ _ h' => h')
end

/-- [z for x, y in row], the row's things lists of two numbers -/
theorem rUnpackComp {iter : Expr} {x y z : Str} {px py pz tpos pos : Pos} {kt : Nat} {scope : Scope} {cl : List (Str × Addr)} {r : Addr} {vs : List Value} {ns ks : List Int} (b : Bool) (hh : A.handled = none)
    (hl : h.IsList r vs.toArray) (hp : ∀ i v, vs[i]? = some v → PairAt h v (ns.getD i 0) (ks.getD i 0)) (hn : ns.length = vs.length) (hk : ks.length = vs.length) (hsz : vs.length < 100)
    (hit : ∀ Q', Q' (.ref r) (S σ h t) → wpAny (model prog w) A (eval iter env) Q' E (S σ h t))
    (hz : ∀ (m : Str → Option Value) (v₁ v₂ : Value), upd (upd m x v₁) y v₂ z = some (if b then v₁ else v₂))
    (H : ∀ D h' t' ys, Ext h h' → h.get? D = none → PlainL h' D ys.toArray → IntsAre ys (if b then ns else ks) → Q (.ref D) (S σ h' t'))
    (hclos : closureFor scope env = pure cl := by rfl) (hcell : ∀ y ∈ scope.names, y.2 ≠ .cell := by decide) (hkind : scope.kind = .function := by rfl)
    (hnames : ∀ y ∈ scope.names, y.2 = .local → scope.names.lookup y.1 = some .local := by decide) (hx : scope.names.lookup x = some .local := by rfl) (hy : scope.names.lookup y = some .local := by rfl) (hzl : scope.names.lookup z = some .local := by rfl)
    (hs : ∀ x, foldedSetIterable iter env x = pure x := by intro _; rfl) (hdb : (z == ("__debug__" : Str)) = false := by decide) :
    wpAny (model prog w) A (eval (.ListComp (.Name z pz) [⟨.Tuple [.Name x px, .Name y py] kt tpos, iter, [], 0⟩] scope pos) env) Q E (S σ h t) := by
  rw [eval_ListComp]
  refine wpAny_comprehension_free (use := none) rfl hs hclos hkind hnames (hit _ ?_)
  have hlt : r < h.objs.size := by obtain ⟨o, ho, _⟩ := hl; exact Heap.lt_size ho
  refine wpAny_pyIter_list (s := S σ h t) hl ?_
  have W := Walks.list (prog := prog) (w := w) hh h.objs.size r (Nat.ne_of_lt hlt) vs.toArray
  have x₀ := Ext.push h { cls := .type "list_iterator", data := .fields #[.ref r, .int 0 0] }
  have st₀ : (h.push { cls := .type "list_iterator", data := .fields #[.ref r, .int 0 0] }).IsListIter h.objs.size r 0 ∧ (h.push { cls := .type "list_iterator", data := .fields #[.ref r, .int 0 0] }).IsList r vs.toArray := ⟨⟨_, Heap.get?_push_size _ rfl, rfl, rfl⟩, hl.push _⟩
  have hs₀ : (h.push { cls := .type "list_iterator", data := .fields #[.ref r, .int 0 0] }).objs.size = h.objs.size + 1 := Heap.size_push _ _
  show wpAny _ _ _ _ _ (S σ (h.push { cls := .type "list_iterator", data := .fields #[.ref r, .int 0 0] }) t)
  generalize h.push { cls := .type "list_iterator", data := .fields #[.ref r, .int 0 0] } = h₀ at *
  have fr : ∀ k, h.get? (h.objs.size + k) = none := fun k => by
    cases e : h.get? (h.objs.size + k) with
    | none => rfl
    | some o => exact absurd (Heap.lt_size e) (Nat.not_lt.mpr (Nat.le_add_right _ _))
  refine compPrelude hcell hkind fun h₁ t₁ m₁ x₁ hD₁ hC₁ => ?_
  rw [hs₀] at hD₁ hC₁ ⊢
  generalize h.objs.size = I at *
  have hCI : (I + 1 + 1 : Nat) ≠ I := by omega
  have hDI : (I + 1 : Nat) ≠ I := by omega
  have hDC : (I + 1 : Nat) ≠ I + 1 + 1 := by omega
  have st₁ : h₁.IsListIter I r 0 ∧ h₁.IsList r vs.toArray := ⟨st₀.1.at fun o e => x₁ _ _ e, st₀.2.at fun o e => x₁ _ _ e⟩
  refine compStart_self W st₁ (compLoop_one (fun k s => ∃ h' t i m ys, s = S σ h' t ∧ i ≤ vs.length ∧ k = vs.length - i ∧ Ext h h' ∧ (h'.IsListIter I r i ∧ h'.IsList r vs.toArray) ∧ h'.Ns (I + 1 + 1) m ∧ PlainL h' (I + 1) ys.toArray ∧ IntsAre ys ((if b then ns else ks).take i)) ?_ (vs.length - 0)
    ⟨h₁, t₁, 0, m₁, [], rfl, Nat.zero_le _, rfl, x₀.trans x₁, st₁, hC₁, hD₁, by simpa using IntsAre.nil⟩)
  rintro k s ⟨h₄, t₄, i, m₄, ys, rfl, hi4, rfl, x₄, hst₄, hN₄, hD₄, hys⟩
  by_cases hin : i < vs.length
  · refine W.item i (S σ h₄ t₄) _ _ (by simpa using hin) hst₄ ?_
    intro v h₅ t₅ hv hst₅ hk₅
    have hv' : vs[i]? = some v := by simpa using hv
    have x₅ : Ext h h₅ := fun b o e => hk₅ b o (fun hb => by rw [List.mem_singleton] at hb; subst hb; exact nomatch (fr 0).symm.trans e) (x₄ b o e)
    have hN₅ : h₅.Ns (I + 1 + 1) m₄ := hN₄.at' fun o e => hk₅ _ o (by simpa using hCI) e
    have hD₅ : PlainL h₅ (I + 1) ys.toArray := hD₄.at fun o e => hk₅ _ o (by simpa using hDI) e
    obtain ⟨a, u₁, u₂, rfl, la⟩ := hp i v hv'
    refine wpAny_letOwnedTupleGo_listiter (s := S σ h₅ t₅) hst₅.1 (rUnpackL (h := h₅) hh (la.at fun o e => x₅ _ _ e) fun h₆ t₆ x₆ => ?_)
    refine rStore (env := compEnvC scope cl (I + 1 + 1) env) (hN₅.keeps x₆) (fun h₇ t₇ hN₇ hs₇ => ?_) (by simp [compEnvC, relabel, hkind]) (lookup_relabel_local hx)
    have hs₇' : Heap.SameBut (I + 1 + 1) h₆ h₇ := hs₇
    refine rStore (env := compEnvC scope cl (I + 1 + 1) env) hN₇ (fun h₈ t₈ hN₈ hs₈ => ?_) (by simp [compEnvC, relabel, hkind]) (lookup_relabel_local hy)
    have hs₈' : Heap.SameBut (I + 1 + 1) h₇ h₈ := hs₈
    have x₈ : Ext h h₈ := (((x₅.trans x₆).but hs₇' (fr 2))).but hs₈' (fr 2)
    have hD₈ : PlainL h₈ (I + 1) ys.toArray := (((hD₅.keeps x₆).extBut hs₇'.extBut hDC)).extBut hs₈'.extBut hDC
    have hst₈ := W.frame (i + 1) h₅ h₈ hst₅ fun c hc o e => by
      have hcC : c ≠ (I + 1 + 1 : Nat) := fun hcC => by
        subst hcC
        rcases List.mem_cons.mp hc with hc | hc
        · exact hCI hc
        · rw [List.mem_singleton] at hc; subst hc
          obtain ⟨o', ho', _⟩ := hl
          exact nomatch (fr 2).symm.trans ho'
      exact hs₈'.extBut c o hcC (hs₇'.extBut c o hcC (x₆ c o e))
    refine rLoc (env := compEnvC scope cl (I + 1 + 1) env) hN₈ (hz _ _ _) ?_ (by simp [compEnvC, relabel, hkind]) (lookup_relabel_local hzl) hdb
    have hyl : ys.length ≤ i := by rw [hys.length, List.length_take]; omega
    refine list_append_plainL (s := S σ h₈ t₈) hD₈ (fun h₉ hD₉ hs₉ => ?_) (by rw [sizeLine_eq]; simp; omega)
    have hs₉' : Heap.SameBut (I + 1) h₈ h₉ := hs₉
    refine ⟨vs.length - (i + 1), by omega, h₉, t₈, i + 1, _, ys ++ [if b then .int (ns.getD i 0) u₁ else .int (ks.getD i 0) u₂], rfl, by omega, rfl, x₈.but hs₉' (fr 1), ?_, hN₈.sameBut hs₉' (Ne.symm hDC), by simpa using hD₉, ?_⟩
    · refine W.frame (i + 1) h₈ h₉ hst₈ fun c hc o e => hs₉'.extBut c o (fun hcD => ?_) e
      subst hcD
      rcases List.mem_cons.mp hc with hc | hc
      · exact hDI hc
      · rw [List.mem_singleton] at hc; subst hc
        obtain ⟨o', ho', _⟩ := hl
        exact nomatch (fr 1).symm.trans ho'
    · cases b with
      | true =>
        have e : ns[i]? = some (ns.getD i 0) := by simp [show i < ns.length by omega]
        simp only [if_true] at hys ⊢
        rw [List.take_add_one, e]
        exact ksk_snoc hys
      | false =>
        have e : ks[i]? = some (ks.getD i 0) := by simp [show i < ks.length by omega]
        simp only [Bool.false_eq_true, if_false] at hys ⊢
        rw [List.take_add_one, e]
        exact ksk_snoc hys
  · obtain rfl : i = vs.length := by omega
    refine W.done (S σ h₄ t₄) _ _ (by simpa using hst₄) (fun h₅ t₅ hk₅ => ?_)
    have x₅ : Ext h h₅ := fun b o e => hk₅ b o (fun hb => by rw [List.mem_singleton] at hb; subst hb; exact nomatch (fr 0).symm.trans e) (x₄ b o e)
    have hN₅ : h₅.Ns (I + 1 + 1) m₄ := hN₄.at' fun o e => hk₅ _ o (by simpa using hCI) e
    have hD₅ : PlainL h₅ (I + 1) ys.toArray := hD₄.at fun o e => hk₅ _ o (by simpa using hDI) e
    refine ⟨m₄, hN₅, fun h₆ hs₆ => H (I + 1) h₆ t₅ ys (x₅.but hs₆ (fr 2)) (fr 1) (hD₅.extBut hs₆.extBut hDC) ?_⟩
    rw [List.take_of_length_le (by split <;> omega)] at hys
    exact hys
end
end Mine
end

section -- PH
open PySem PySem.W PyProof.Rows
set_option maxRecDepth 100000
namespace Mine
section
variable {α : Type} (r : α → Int)
noncomputable def rk (xs : Array α) (i : Nat) : Int := (xs[i]?).elim 0 r
noncomputable def IsHeap (xs : Array α) : Prop := ∀ i, 0 < i → i < xs.size → rk r xs ((i - 1) / 2) ≤ rk r xs i
/-- a heap but for what stands at pos against its parent -/
noncomputable def AHeap (Y : Array α) (pos : Nat) : Prop :=
  (∀ i, 0 < i → i < Y.size → i ≠ pos → rk r Y ((i - 1) / 2) ≤ rk r Y i) ∧ (0 < pos → ∀ c, 0 < c → c < Y.size → (c - 1) / 2 = pos → rk r Y ((pos - 1) / 2) ≤ rk r Y c)
/-- a heap with a hole at pos -/
noncomputable def HHeap (Y : Array α) (pos : Nat) : Prop :=
  (∀ i, 0 < i → i < Y.size → i ≠ pos → (i - 1) / 2 ≠ pos → rk r Y ((i - 1) / 2) ≤ rk r Y i) ∧ (0 < pos → ∀ c, 0 < c → c < Y.size → (c - 1) / 2 = pos → rk r Y ((pos - 1) / 2) ≤ rk r Y c)
variable {r}
theorem rk_set {xs : Array α} {i : Nat} {x : α} (hi : i < xs.size) (j : Nat) : rk r (xs.setIfInBounds i x) j = if j = i then r x else rk r xs j := by
  unfold rk
  by_cases hj : j = i
  · subst hj; rw [if_pos rfl, get_set hi]; rfl
  · rw [if_neg hj, Array.getElem?_setIfInBounds_ne (Ne.symm hj)]
theorem rk_at {xs : Array α} {i : Nat} {x : α} (h : xs[i]? = some x) : rk r xs i = r x := by unfold rk; rw [h]; rfl

theorem moved_perm {xs : Array α} {pos pp : Nat} {x v : α} (hp : pos < xs.size) (hv : xs[pp]? = some v) (hne : pp ≠ pos) :
    ((xs.setIfInBounds pos v).setIfInBounds pp x).Perm (xs.setIfInBounds pos x) := by
  have hpp : pp < xs.size := (Array.getElem?_eq_some_iff.mp hv).1
  have e : (xs.setIfInBounds pos v).setIfInBounds pp x = (xs.setIfInBounds pos x).swapIfInBounds pos pp := by
    apply Array.ext_getElem?
    intro i
    rw [getElem?_swapIB (by simpa using hp) (by simpa using hpp)]
    by_cases e1 : i = pp
    · subst e1
      rw [get_set (by simpa using hpp)]
      by_cases e2 : i = pos
      · exact absurd e2 hne
      · simp [hp]
    · rw [Array.getElem?_setIfInBounds_ne (Ne.symm e1)]
      by_cases e2 : i = pos
      · subst e2
        rw [get_set hp]
        rw [if_neg hne, if_pos rfl, Array.getElem?_setIfInBounds_ne (Ne.symm hne), hv]
      · rw [if_neg (Ne.symm e1), if_neg (Ne.symm e2), Array.getElem?_setIfInBounds_ne (Ne.symm e2), Array.getElem?_setIfInBounds_ne (Ne.symm e2)]
  rw [e]
  exact swapIB_perm _ _ _

theorem sd_spec {lt : α → α → Bool} (hlt : ∀ a b, lt a b = decide (r a < r b)) (new : α) : ∀ (pos : Nat) (xs : Array α), pos < xs.size → AHeap r (xs.setIfInBounds pos new) pos →
    IsHeap r (sd lt new xs pos) ∧ (sd lt new xs pos).Perm (xs.setIfInBounds pos new) := by
  intro pos
  induction pos using Nat.strongRecOn with
  | ind pos ih =>
    intro xs hpos hA
    obtain ⟨ha, hb⟩ := hA
    rw [Array.size_setIfInBounds] at ha hb
    rw [sd_eq]
    by_cases h0 : 0 < pos
    · rw [dif_pos h0]
      have hpp : (pos - 1) / 2 < xs.size := by omega
      have hpv : xs[(pos - 1) / 2]? = some xs[(pos - 1) / 2] := Array.getElem?_eq_getElem hpp
      rw [hpv]
      generalize xs[(pos - 1) / 2] = v at hpv
      have hne : (pos - 1) / 2 ≠ pos := by omega
      have kpp : rk r (xs.setIfInBounds pos new) ((pos - 1) / 2) = r v := by rw [rk_set hpos, if_neg hne, rk_at hpv]
      have kpos : rk r (xs.setIfInBounds pos new) pos = r new := by rw [rk_set hpos, if_pos rfl]
      dsimp only
      rw [hlt]
      by_cases hc : r new < r v
      · rw [decide_eq_true hc, if_pos rfl]
        have key : ∀ j, rk r ((xs.setIfInBounds pos v).setIfInBounds ((pos - 1) / 2) new) j = if j = (pos - 1) / 2 then r new else if j = pos then r v else rk r (xs.setIfInBounds pos new) j := by
          intro j
          rw [rk_set (by simpa using hpp), rk_set hpos, rk_set hpos]
          by_cases e1 : j = (pos - 1) / 2
          · rw [if_pos e1, if_pos e1]
          · rw [if_neg e1, if_neg e1]
            by_cases e2 : j = pos
            · rw [if_pos e2, if_pos e2]
            · rw [if_neg e2, if_neg e2, if_neg e2]
        have hmv := moved_perm (x := new) hpos hpv hne
        suffices hA2 : AHeap r ((xs.setIfInBounds pos v).setIfInBounds ((pos - 1) / 2) new) ((pos - 1) / 2) by
          obtain ⟨g1, g2⟩ := ih ((pos - 1) / 2) (by omega) (xs.setIfInBounds pos v) (by simpa using hpp) hA2
          exact ⟨g1, g2.trans hmv⟩
        refine ⟨?_, ?_⟩
        · intro i hi0 hi hip
          simp only [Array.size_setIfInBounds] at hi
          rw [key, key, if_neg hip]
          by_cases e1 : i = pos
          · subst e1; rw [if_pos rfl, if_pos rfl]; omega
          · rw [if_neg e1]
            by_cases e2 : (i - 1) / 2 = (pos - 1) / 2
            · rw [if_pos e2]
              have := ha i hi0 hi e1
              rw [e2, kpp] at this; omega
            · rw [if_neg e2]
              by_cases e3 : (i - 1) / 2 = pos
              · rw [if_pos e3]
                have := hb h0 i hi0 hi e3
                rw [kpp] at this; exact this
              · rw [if_neg e3]; exact ha i hi0 hi e1
        · intro hp0 c hc0 hcn hcp
          simp only [Array.size_setIfInBounds] at hcn
          rw [key, key, if_neg (by omega), if_neg (by omega), if_neg (by omega)]
          have hgp := ha ((pos - 1) / 2) hp0 hpp hne
          rw [kpp] at hgp
          by_cases e1 : c = pos
          · rw [if_pos e1]; exact hgp
          · rw [if_neg e1]
            have := ha c hc0 hcn e1
            rw [hcp, kpp] at this; omega
      · rw [decide_eq_false hc, if_neg (by decide)]
        refine ⟨fun i hi0 hi => ?_, Array.Perm.refl _⟩
        rw [Array.size_setIfInBounds] at hi
        by_cases e1 : i = pos
        · subst e1; rw [kpp, kpos]; omega
        · exact ha i hi0 hi e1
    · rw [dif_neg h0]
      refine ⟨fun i hi0 hi => ?_, Array.Perm.refl _⟩
      rw [Array.size_setIfInBounds] at hi
      exact ha i hi0 hi (by omega)

theorem suChild_min {lt : α → α → Bool} (hlt : ∀ a b, lt a b = decide (r a < r b)) (xs : Array α) (pos i : Nat) (hi : i < xs.size) (h0 : 0 < i) (hp : (i - 1) / 2 = pos) : rk r xs (suChild lt xs pos) ≤ rk r xs i := by
  unfold suChild
  have hi' : i = 2 * pos + 1 ∨ i = 2 * pos + 2 := by omega
  split
  · rename_i a b h1 h2
    rw [hlt]
    by_cases hc : r a < r b
    · rw [decide_eq_true hc, if_pos rfl, rk_at h1]
      rcases hi' with rfl | rfl
      · rw [rk_at h1]; exact Int.le_refl _
      · rw [rk_at h2]; omega
    · rw [decide_eq_false hc, if_neg (by decide), rk_at h2]
      rcases hi' with rfl | rfl
      · rw [rk_at h1]; omega
      · rw [rk_at h2]; exact Int.le_refl _
  · rename_i hx
    rcases hi' with rfl | rfl
    · exact Int.le_refl _
    · exact absurd (Array.getElem?_eq_getElem hi) (fun h2 => hx _ _ (Array.getElem?_eq_getElem (show 2 * pos + 1 < xs.size by omega)) h2)

theorem suGo_spec {lt : α → α → Bool} (hlt : ∀ a b, lt a b = decide (r a < r b)) : ∀ (k pos : Nat) (xs : Array α), xs.size - pos = k → pos < xs.size → HHeap r xs pos →
    (suGo lt xs pos).1.size = xs.size ∧ (suGo lt xs pos).2 < xs.size ∧ xs.size ≤ 2 * (suGo lt xs pos).2 + 1 ∧ HHeap r (suGo lt xs pos).1 (suGo lt xs pos).2 ∧
      ∀ x, ((suGo lt xs pos).1.setIfInBounds (suGo lt xs pos).2 x).Perm (xs.setIfInBounds pos x) := by
  intro k
  induction k using Nat.strongRecOn with
  | ind k ih =>
    intro pos xs hk hpos hH
    rw [suGo_eq]
    by_cases hc : 2 * pos + 1 < xs.size
    · rw [dif_pos hc]
      have hgt := suChild_gt lt xs pos
      have hcl := suChild_lt lt xs pos hc
      have hmin := suChild_min hlt xs pos
      generalize suChild lt xs pos = c at *
      have hcv : xs[c]? = some xs[c] := Array.getElem?_eq_getElem hcl
      rw [hcv]
      generalize xs[c] = v at hcv
      dsimp only
      obtain ⟨ha, hb⟩ := hH
      have hcp : (c - 1) / 2 = pos := by omega
      have hne : c ≠ pos := by omega
      have kc : rk r xs c = r v := rk_at hcv
      suffices hA2 : HHeap r (xs.setIfInBounds pos v) c by
        obtain ⟨g1, g2, g3, g4, g5⟩ := ih (xs.size - c) (by omega) c (xs.setIfInBounds pos v) (by simp) (by simpa using hcl) hA2
        rw [Array.size_setIfInBounds] at g1 g2 g3
        exact ⟨g1, g2, g3, g4, fun x => (g5 x).trans (moved_perm hpos hcv hne)⟩
      refine ⟨?_, ?_⟩
      · intro i hi0 hi hic hip
        rw [Array.size_setIfInBounds] at hi
        rw [rk_set hpos, rk_set hpos]
        by_cases e1 : (i - 1) / 2 = pos
        · rw [if_pos e1, if_neg (by omega), ← kc]; exact hmin i hi hi0 e1
        · rw [if_neg e1]
          by_cases e2 : i = pos
          · subst e2; rw [if_pos rfl, ← kc]
            exact hb hi0 c (by omega) hcl hcp
          · rw [if_neg e2]; exact ha i hi0 hi e2 e1
      · intro _ d hd0 hdn hdc
        rw [Array.size_setIfInBounds] at hdn
        rw [rk_set hpos, rk_set hpos, hcp, if_pos rfl, if_neg (by omega), ← kc]
        have := ha d hd0 hdn (by omega) (by omega)
        rw [hdc] at this; exact this
    · rw [dif_neg hc]
      exact ⟨rfl, hpos, by omega, hH, fun x => Array.Perm.refl _⟩

theorem su_spec {lt : α → α → Bool} (hlt : ∀ a b, lt a b = decide (r a < r b)) (new : α) {xs : Array α} (h0 : 0 < xs.size) (hH : HHeap r xs 0) :
    IsHeap r (su lt new xs) ∧ (su lt new xs).Perm (xs.setIfInBounds 0 new) := by
  obtain ⟨g1, g2, g3, g4, g5⟩ := suGo_spec hlt _ 0 xs rfl h0 hH
  unfold su
  generalize suGo lt xs 0 = z at *
  obtain ⟨ys, p⟩ := z
  dsimp only at *
  have hp : p < ys.size := by omega
  have hss : (ys.setIfInBounds p new).setIfInBounds p new = ys.setIfInBounds p new := by
    apply Array.ext_getElem?; intro i; simp only [Array.getElem?_setIfInBounds]; simp; split <;> simp_all
  suffices hA2 : AHeap r ((ys.setIfInBounds p new).setIfInBounds p new) p by
    obtain ⟨f1, f2⟩ := sd_spec hlt new p (ys.setIfInBounds p new) (by simpa using hp) hA2
    rw [hss] at f2
    exact ⟨f1, f2.trans (g5 new)⟩
  refine ⟨?_, ?_⟩
  · intro i hi0 hi hip
    simp only [Array.size_setIfInBounds] at hi
    rw [hss, rk_set hp, rk_set hp, if_neg hip, if_neg (by omega)]
    exact g4.1 i hi0 hi hip (by omega)
  · intro _ c hc0 hcn hcp
    simp only [Array.size_setIfInBounds] at hcn
    omega

theorem push_spec {lt : α → α → Bool} (hlt : ∀ a b, lt a b = decide (r a < r b)) (new : α) {xs : Array α} (hH : IsHeap r xs) :
    IsHeap r (sd lt new (xs.push new) xs.size) ∧ (sd lt new (xs.push new) xs.size).Perm (xs.push new) := by
  have hss : (xs.push new).setIfInBounds xs.size new = xs.push new := by
    apply Array.ext_getElem?; intro i; simp only [Array.getElem?_setIfInBounds, Array.getElem?_push, Array.size_push]
    split
    · rename_i h; subst h; simp
    · rfl
  suffices hA2 : AHeap r ((xs.push new).setIfInBounds xs.size new) xs.size by
    obtain ⟨f1, f2⟩ := sd_spec hlt new xs.size (xs.push new) (by simp) hA2
    rw [hss] at f2; exact ⟨f1, f2⟩
  refine ⟨?_, ?_⟩
  · rw [hss]
    intro i hi0 hi hip
    rw [Array.size_push] at hi
    have e : ∀ j, j < xs.size → rk r (xs.push new) j = rk r xs j := fun j hj => by unfold rk; rw [Array.getElem?_push, if_neg (by omega)]
    rw [e _ (by omega), e _ (by omega)]
    exact hH i hi0 (by omega)
  · rw [hss]
    intro _ c hc0 hcn hcp
    rw [Array.size_push] at hcn
    omega

theorem heap_min {xs : Array α} (hH : IsHeap r xs) : ∀ i, i < xs.size → rk r xs 0 ≤ rk r xs i := by
  intro i
  induction i using Nat.strongRecOn with
  | ind i ih =>
    intro hi
    by_cases h0 : 0 < i
    · exact Int.le_trans (ih ((i - 1) / 2) (by omega) (by omega)) (hH i h0 hi)
    · obtain rfl : i = 0 := by omega
      exact Int.le_refl _

theorem pop_spec {lt : α → α → Bool} (hlt : ∀ a b, lt a b = decide (r a < r b)) {ys : Array α} {last : α} (hH : IsHeap r (ys.push last)) :
    IsHeap r (popRest lt ys last) ∧ (popTop ys last :: (popRest lt ys last).toList).Perm (ys.push last).toList ∧ ∀ x ∈ (popRest lt ys last).toList, r (popTop ys last) ≤ r x := by
  have hmin : ∀ x ∈ (ys.push last).toList, rk r (ys.push last) 0 ≤ r x := by
    intro x hx
    obtain ⟨i, hi, rfl⟩ := List.mem_iff_getElem.mp hx
    have hi' : i < (ys.push last).size := by simpa using hi
    have := heap_min hH i hi'
    rw [rk_at (Array.getElem?_eq_getElem hi')] at this
    rw [Array.getElem_toList]
    exact this
  unfold popRest popTop
  by_cases h0 : ys.size = 0
  · obtain rfl : ys = #[] := Array.eq_empty_of_size_eq_zero h0
    simp
    intro i hi0 hi; simp at hi
  · rw [if_neg h0]
    have h0' : 0 < ys.size := by omega
    have hy0 : ys[0]? = some ys[0] := Array.getElem?_eq_getElem h0'
    rw [hy0]
    have e : ∀ j, j < ys.size → rk r (ys.push last) j = rk r ys j := fun j hj => by unfold rk; rw [Array.getElem?_push, if_neg (by omega)]
    have hHy : IsHeap r ys := by
      intro i hi0 hi
      have := hH i hi0 (by simp; omega)
      rw [e _ (by omega), e _ hi] at this; exact this
    have hHH : HHeap r (ys.setIfInBounds 0 last) 0 := by
      refine ⟨fun i hi0 hi hi' hip => ?_, fun h => absurd h (by omega)⟩
      rw [Array.size_setIfInBounds] at hi
      rw [rk_set h0', rk_set h0', if_neg hip, if_neg hi']
      exact hHy i hi0 hi
    obtain ⟨f1, f2⟩ := su_spec hlt last (by simpa using h0') hHH
    have hss : (ys.setIfInBounds 0 last).setIfInBounds 0 last = ys.setIfInBounds 0 last := by
      apply Array.ext_getElem?; intro i; simp only [Array.getElem?_setIfInBounds]; simp; split <;> simp_all
    rw [hss] at f2
    have f2' := Array.perm_iff_toList_perm.mp f2
    have hperm : (ys[0] :: (su lt last (ys.setIfInBounds 0 last)).toList).Perm (ys.push last).toList := by
      refine (f2'.cons _).trans ?_
      obtain ⟨l⟩ := ys
      cases l with
      | nil => simp at h0
      | cons a t =>
        simp
        exact (List.perm_append_singleton _ _).symm
    refine ⟨f1, hperm, fun x hx => ?_⟩
    have := hmin x (hperm.subset (List.mem_cons_of_mem _ hx))
    rw [e 0 h0', rk_at hy0] at this
    exact this
end
end Mine
end

section -- LE
open PySem PySem.W PyProof.Rows
set_option maxRecDepth 100000
set_option maxHeartbeats 2000000
namespace Mine

noncomputable abbrev recOf {q : Program} {loose : List Str} {XP : (Str → Option Value) → Heap → Prop} {YP : World → Heap → Prop} {r : RowW} {d : DefRec} {P : Prop} (_ : WalkC q loose XP YP r d → P) : DefRec := d
noncomputable abbrev lawRec : DefRec := recOf hd
/-- the law's statement -/
noncomputable abbrev lawSt (k : Nat) : Stmt := lawRec.body.getD k (.Pass default)
/-- the law's names -/
noncomputable abbrev lawEnv (L : Addr) (cd : Value) : Env :=
  { scope := lawRec.scope, locals := L, globals := 3, cells := [("text", L + 5), ("many", L + 4), ("turned", L + 3), ("numbers", L + 2), ("width", L + 1)], qual := "law.<locals>.", func := some 101, code := cd, frame := some L, builtins := 0 }

noncomputable def Keep (M : List Addr) (h h' : Heap) : Prop := ∀ b o, b ∉ M → h.get? b = some o → h'.get? b = some o
theorem Keep.of_ext {M : List Addr} {h h' : Heap} (x : Ext h h') : Keep M h h' := fun b o _ e => x b o e
theorem Keep.same {a : Addr} {h h' : Heap} (x : Heap.SameBut a h h') : Keep [a] h h' := fun b o hb e => x.extBut b o (by simpa using hb) e
theorem Keep.trans {M : List Addr} {h₁ h₂ h₃ : Heap} (x : Keep M h₁ h₂) (y : Keep M h₂ h₃) : Keep M h₁ h₃ := fun b o hb e => y b o hb (x b o hb e)
theorem Keep.mono {M M' : List Addr} {h h' : Heap} (x : Keep M h h') (hm : ∀ a ∈ M, a ∈ M') : Keep M' h h' := fun b o hb e => x b o (fun h => hb (hm b h)) e
theorem Ext.keep {G h h' : Heap} {M : List Addr} (x : Ext G h) (k : Keep M h h') (hM : ∀ a ∈ M, G.get? a = none) : Ext G h' := fun b o e => k b o (fun hb => by rw [hM b hb] at e; cases e) (x b o e)

section
variable {prog : Program} {w : World} {A : Around} {E : Value → Shared → Prop} {σ : Shared} {G h : Heap} {t : Nat} {L : Addr} {cd : Value}

theorem step1 {m : Str → Option Value} {sc : Addr} {vs : List Value} {ns : List Int} (hh : A.handled = none) (B : Base w h) (hN : h.Ns L m) (hs : m "script" = some (.ref sc)) (hl : h.IsList sc vs.toArray) (hi : IntsAre vs ns) (hlen : ns.length ≤ 63) (hc : h.IsCell (L + 1) none) :
    wpAny (model prog w) A (exec (lawSt 0) (lawEnv L cd)) (fun f s' => f = .next ∧ ∃ h' t' wd u, s' = S σ h' t' ∧ (wd = 3 ∨ wd = 6) ∧ h'.IsCell (L + 1) (some (.int (wd : Nat) u)) ∧ Keep [L + 1] h h') (fun _ _ => False) (S σ h t) := by
  refine rSt <| wpAny_BinOp <| rInt fun _ _ => wpAny_BinOp <| rInt fun _ _ => wpAny_BinOp <| Call_ <| rBuilt B (by kernel_rfl) boot_sum <| cwB <| args_cons <| Subscript_ <| rLoc hN hs <| rSliceN <| rInt fun u t₁ => ?_
  refine rSliceL (k := 6) hl hi (by omega) fun h₁ vs₁ hl₁ hi₁ x₁ _ => args_nil <| rSum hh hl₁.isList hi₁ fun z h₂ t₂ u₂ x₂ => ?_
  refine rInt fun _ _ => rMod (by decide) fun _ _ => rMul ?_ fun _ _ => rAdd fun u₃ t₃ => ?_
  · exact IntMulOk.of_left (intBits_le_64 (by decide) (by decide))
  have hz : ∃ wd : Nat, (wd = 3 ∨ wd = 6) ∧ (3 : Int) + 3 * z.fmod 2 = ((wd : Nat) : Int) := by
    rw [Int.fmod_eq_emod_of_nonneg _ (by omega)]
    rcases Int.emod_two_eq z with e | e
    · exact ⟨3, .inl rfl, by rw [e]; rfl⟩
    · exact ⟨6, .inr rfl, by rw [e]; rfl⟩
  obtain ⟨wd, hw, e⟩ := hz
  rw [e]
  refine rStoreC (c := L + 1) (hc.keeps (x₁.trans x₂)) fun h₃ hc₃ hs₃ => ⟨rfl, h₃, _, wd, u₃, rfl, hw, hc₃, ?_⟩
  exact (Keep.of_ext (x₁.trans x₂)).trans (Keep.same hs₃)
end
end Mine
end

section -- LS2
open PySem PySem.W PyProof.Rows
set_option maxRecDepth 100000
set_option maxHeartbeats 2000000
namespace Mine
/-- the numbers of the law -/
noncomputable def numsOf (ns : List Int) (wd : Nat) : List Int := (ns.take 6 ++ [1, 66051, 16777215, 197121, 1]).map fun x : Int => x.fmod (256 ^ wd)
section
variable {prog : Program} {w : World} {A : Around} {E : Value → Shared → Prop} {σ : Shared} {G h : Heap} {t : Nat} {L : Addr} {cd : Value} {env : Env} {Q : Value → Shared → Prop}

theorem rList {e : Expr} {es : List Expr} {pos : Pos}
    (H : wpAny (model prog w) A (spliced (backTo pos (starEach (e :: es) env))) (fun vs s₁ => vs.length < 1000 ∧ ∃ h t, s₁ = S σ h t ∧ ∀ h', PlainL h' h.objs.size vs.toArray → Ext h h' → h'.objs.size = h.objs.size + 1 → Q (.ref h.objs.size) (S σ h' t)) E (S σ h t)) :
    wpAny (model prog w) A (eval (.List (e :: es) pos) env) Q E (S σ h t) := by
  refine wpAny_List (wpAny_mono H ?_ fun _ _ x => x)
  rintro vs s₁ ⟨hv, h₁, t₁, rfl, h⟩
  exact ⟨by rw [sizeLine_eq]; omega, h _ ⟨_, _, Heap.get?_push_size _ rfl, rfl, rfl, rfl⟩ (Ext.push _ _) (Heap.size_push _ _)⟩

theorem step2 {m : Str → Option Value} {sc : Addr} {vs : List Value} {ns : List Int} {wd : Nat} {u : Tok} (hh : A.handled = none) (B : Base w h) (hN : h.Ns L m) (hs : m "script" = some (.ref sc)) (hl : h.IsList sc vs.toArray) (hi : IntsAre vs ns) (hlen : ns.length ≤ 63)
    (hw : wd = 3 ∨ wd = 6) (hc1 : h.IsCell (L + 1) (some (.int (wd : Nat) u))) (hc : h.IsCell (L + 2) none) :
    wpAny (model prog w) A (exec (lawSt 1) (lawEnv L cd)) (fun f s' => f = .next ∧ ∃ h' t' N ws, s' = S σ h' t' ∧ h'.IsCell (L + 2) (some (.ref N)) ∧ h.objs.size ≤ N ∧ PlainL h' N ws.toArray ∧ IntsAre ws (numsOf ns wd) ∧ Keep [L + 2] h h') (fun _ _ => False) (S σ h t) := by
  refine rSt <| rComp (cl := [("width", L + 1)]) <| wpAny_BinOp <| Subscript_ <| rLoc hN hs <| rSliceN <| rInt fun u t₁ => ?_
  refine rSliceL (k := 6) hl hi (by omega) fun h₁ vs₁ hl₁ hi₁ x₁ hz₁ => ?_
  refine rList <| args_cons <| rInt fun u1 _ => args_cons <| rInt fun u2 _ => args_cons <| rInt fun u3 _ => args_cons <| rInt fun u4 _ => args_cons <| rInt fun u5 t₂ => args_nil ⟨by simp, h₁, t₂, rfl, fun h₂ hl₂ x₂ hz₂ => ?_⟩
  have hv1 : vs₁.length ≤ 6 := by rw [hi₁.length, List.length_take]; omega
  refine rAddL (hl₁.keeps x₂) hl₂ (by simp; omega) fun h₃ hl₃ x₃ hz₃ => ?_
  have hi₃ : IntsAre (vs₁ ++ [Value.int 1 u1, Value.int 66051 u2, Value.int 16777215 u3, Value.int 197121 u4, Value.int 1 u5]) (ns.take 6 ++ [1, 66051, 16777215, 197121, 1]) := hi₁.append (.cons _ _ (.cons _ _ (.cons _ _ (.cons _ _ (.cons _ _ .nil)))))
  generalize vs₁ ++ [Value.int 1 u1, Value.int 66051 u2, Value.int 16777215 u3, Value.int 197121 u4, Value.int 1 u5] = ws at *
  have x03 := (x₁.trans x₂).trans x₃
  have hwl : ws.length ≤ 11 := by rw [hi₃.length, List.length_append, List.length_take]; simp; omega
  generalize hNI : h₂.objs.size = N at *
  refine itList (fun i y _ => ∃ (x : Int) (u : Tok), (ns.take 6 ++ [1, 66051, 16777215, 197121, 1])[i]? = some x ∧ y = .int (x.fmod (256 ^ wd)) u) hh hl₃.isList (by simp; omega) ⟨fun _ _ _ _ _ _ x => x, ?_⟩ ?_
  · intro i v C h' t' m' hi' hv hG hlo hN' hm
    obtain ⟨x, ux, hx, rfl⟩ := ints_at hi₃ (by simpa using hv)
    refine wpAny_BinOp <| rLoc hN' hm <| wpAny_BinOp <| rInt fun _ _ => rCell ((hc1.keeps x03).keeps hG) <| rPow (by omega) (by omega) (by decide) fun _ _ => rMod (by rw [Int.toNat_natCast]; exact Int.pow_ne_zero (by decide)) fun u' t'' => ?_
    exact ⟨h', t'', rfl, Ext.refl _, x, u', hx, by rw [Int.toNat_natCast]⟩
  · intro D h' t' ys hG hD hlD hsz hel
    refine rStoreC (c := L + 2) ((hc.keeps x03).keeps hG) fun h'' hc'' hs'' => ⟨rfl, h'', t', D, ys.toList, rfl, hc'', ?_, ?_, ?_, ?_⟩
    · have : h.objs.size ≤ h₃.objs.size := by rw [hz₃, hz₂, hz₁]; exact Nat.le_trans (Nat.le_add_right _ 2) (Nat.le_trans (Nat.le_succ _) (Nat.le_succ _))
      exact Nat.le_trans this hD
    · have hne : D ≠ L + 2 := by
        rintro rfl
        obtain ⟨o, ho, hd⟩ := (hc.keeps x03).keeps hG
        obtain ⟨o', n', ho', _, _, hd'⟩ := hlD
        rw [ho] at ho'; cases ho'; rw [hd] at hd'; cases hd'
      simpa using hlD.extBut hs''.extBut hne
    · have hwe : ws.length = (ns.take 6 ++ [(1 : Int), 66051, 16777215, 197121, 1]).length := hi₃.length
      refine ints_of (by rw [hsz, numsOf, List.length_map, ← hwe]; simp) fun i y e => ?_
      obtain ⟨x, u', hx, rfl⟩ := hel i y e
      exact ⟨_, u', by rw [numsOf, List.getElem?_map, hx]; rfl, rfl⟩
    · exact ((Keep.of_ext x03).trans (Keep.of_ext hG)).trans (Keep.same hs'')
end
end Mine
end

section -- LS3
open PySem PySem.W PyProof.Rows
set_option maxRecDepth 100000
set_option maxHeartbeats 2000000
namespace Mine
/-- the tape of the law, as bytes -/
noncomputable def tapeB (ns : List Int) (wd : Nat) : List UInt8 := (tapeInts ns wd).map fun n => n.toNat.toUInt8
theorem tapeB_length (ns : List Int) (wd : Nat) : (tapeB ns wd).length = wd * ns.length := by unfold tapeB; rw [List.length_map, tapeInts_length, Nat.mul_comm]
section
variable {prog : Program} {w : World} {A : Around} {E : Value → Shared → Prop} {σ : Shared} {G h : Heap} {t : Nat} {L : Addr} {cd : Value} {env : Env} {Q : Value → Shared → Prop}

theorem cwDC {M : Model} {s : Shared} {pos : Pos} {f : Addr} {h' : Heap} {o : Obj} {fd : FuncData} {e : Expr} {rest : List Expr} {Q : Value → Shared → Prop} (_ : h'.get? f = some o) (hdat : o.data = .func fd)
    (h : wpAny M A (spliced (backTo pos (starEach (e :: rest) env))) (fun vs s₁ => s₁.heap.get? f = some o ∧ wpC M A (call (.ref f) vs) Q E s₁) E s)
    (he : starEach (e :: rest) env = (false, eval e env) :: starEach rest env := by rfl) :
    wpC M A (callWith pos (.ref f) [] (backTo pos (starEach (e :: rest) env)) []) Q E s := callWithC_def hdat h he

theorem step3 {N : Addr} {ws : List Value} {ns : List Int} {wd : Nat} {u : Tok} (hh : A.handled = none) (hd : A.depth + 100 < recursionLimit) (B : Base w h)
    (hl : h.IsList N ws.toArray) (hi : IntsAre ws ns) (hlen : ns.length < 20) (hw : wd = 3 ∨ wd = 6) (hc1 : h.IsCell (L + 1) (some (.int (wd : Nat) u))) (hc2 : h.IsCell (L + 2) (some (.ref N))) (hc3 : h.IsCell (L + 3) none) (hc4 : h.IsCell (L + 4) none) :
    wpC (model prog w) A (exec (lawSt 2) (lawEnv L cd)) (fun f s' => f = .next ∧ ∃ h' t' u₃ u₄, s' = S σ h' t' ∧ h'.IsCell (L + 3) (some (.bytes (swapped (tapeB ns wd) wd).toArray u₃)) ∧ h'.IsCell (L + 4) (some (.int ((wd / 3 * 4 : Nat) : Int) u₄)) ∧ Keep [L + 3, L + 4] h h') (fun _ _ => False) (S σ h t) := by
  have hw0 : 0 < wd ∧ wd < 100 := by omega
  refine assignC_Tuple <| tupleC <| argsC_cons <| callC_Expr <| rGlob B (by kernel_rfl) <| cwDC (B.X 28 _ rfl) rfl <| args_cons <| Call_ <| rGlob B (by kernel_rfl) <| cwD (B.X 91 _ rfl) rfl <| args_cons <| rCell hc2 <| args_cons <| rCell hc1 <| args_nil ⟨B.X 91 _ rfl, ?_⟩
  refine tape_call hh B hl hi hw0.2 (by omega) (by omega) fun h₁ t₁ u₁ x₁ => args_cons <| rCell (hc1.keeps x₁) <| args_nil ⟨(B.ext x₁).X 28 _ rfl, ?_⟩
  have hL := tapeB_length ns wd
  have hb : wd * ns.length ≤ 6 * 20 := Nat.mul_le_mul (by omega) (by omega)
  refine byteswap_call (d := tapeB ns wd) (q := ns.length) hh (B.ext x₁) hw0.1 hw0.2 hL (by omega) (by omega) fun h₂ t₂ u₂ x₂ => ?_
  have x02 := x₁.trans x₂
  refine args_cons <| wpAny_BinOp <| wpAny_BinOp <| rCell (hc1.keeps x02) <| rInt fun _ _ => rDiv (by decide) (Nat.lt_of_lt_of_le (show (3 : Nat) < 2 ^ 2 by decide) (Nat.pow_le_pow_right (by decide) (by decide))) fun _ _ => rInt fun _ _ => rMul ?_ fun u₃ t₃ => args_nil ⟨by simp [sizeLine_eq], ?_⟩
  · exact IntMulOk.of_right (intBits_le_64 (by decide) (by decide))
  rw [show ((wd : Nat) : Int).fdiv 3 * 4 = ((wd / 3 * 4 : Nat) : Int) by rcases hw with rfl | rfl <;> rfl]
  refine rUnpack2 (h := h₂.push { cls := .type "tuple", data := .seq [Value.bytes (swapped (tapeB ns wd) wd).toArray u₂, Value.int ((wd / 3 * 4 : Nat) : Int) u₃].toArray }) (t := t₃) hh ⟨_, Heap.get?_push_size _ rfl, rfl, _, rfl⟩ fun h₃ x₃ => ?_
  have x03 := x02.trans ((Ext.push _ _).trans x₃)
  have hne : (L + 3 : Nat) ≠ L + 4 := Nat.ne_of_lt (Nat.lt_succ_self _)
  refine rStoreC (c := L + 3) (hc3.keeps x03) fun h₄ hc₄ hs₄ => ?_
  refine rStoreC (c := L + 4) ((hc4.keeps x03).sameBut hs₄ (Ne.symm hne)) fun h₅ hc₅ hs₅ => ⟨rfl, h₅, _, u₂, u₃, rfl, hc₄.sameBut hs₅ hne, hc₅, ?_⟩
  exact ((Keep.of_ext x03).trans ((Keep.same hs₄).mono (by simp))).trans ((Keep.same hs₅).mono (by simp))
end
end Mine
end

section -- LS4
open PySem PySem.W PyProof.Rows
set_option maxRecDepth 100000
set_option maxHeartbeats 2000000
namespace Mine
theorem text_of (ds : List Nat) (hds : ∀ x ∈ ds, x < 64) : (byteArr (ds.map fun x : Nat => (code x : Int))).map UInt8.toNat = (ds.map code).toArray := by
  unfold byteArr
  apply Array.toList_inj.mp
  simp only [Array.toList_map, List.map_map]
  refine List.map_congr_left fun x hx => ?_
  have := code_lt x (hds x hx)
  simp only [Function.comp]
  rw [Int.toNat_natCast]
  exact UInt8.toNat_ofNat_of_lt' (by show code x < 256; omega)
section
variable {prog : Program} {w : World} {A : Around} {E : Value → Shared → Prop} {σ : Shared} {G h : Heap} {t : Nat} {L : Addr} {cd : Value} {env : Env} {Q : Value → Shared → Prop}

theorem step4 {T : List UInt8} {q : Nat} {u : Tok} {m : Str → Option Value} (hh : A.handled = none) (hd : A.depth + 100 < recursionLimit) (B : Base w h) (hN : h.Ns L m)
    (hT : T.length = 3 * q) (hq0 : 0 < q) (hq : q < 100) (hc3 : h.IsCell (L + 3) (some (.bytes T.toArray u))) (hc5 : h.IsCell (L + 5) none) :
    wpAny (model prog w) A (exec (lawSt 3) (lawEnv L cd)) (fun f s' => f = .next ∧ ∃ h' t' u₅ ds Hp O m', s' = S σ h' t' ∧ (∀ x ∈ ds, x < 64) ∧ ds.length = 4 * q ∧ val 64 ds = val 256 (T.map UInt8.toNat) ∧
        h'.IsCell (L + 5) (some (.str ⟨(ds.map code).toArray⟩ u₅)) ∧ PlainL h' Hp #[] ∧ PlainL h' O #[] ∧ Hp ≠ O ∧ h.get? Hp = none ∧ h.get? O = none ∧ h'.Ns L m' ∧ m' "heap" = some (.ref Hp) ∧ m' "order" = some (.ref O) ∧ Keep [L, L + 5] h h') (fun _ _ => False) (S σ h t) := by
  refine Assign_Tuple <| wpAny_Tuple <| args_cons <| MethodCall_ <| Call_ <| rGlob B (by kernel_rfl) <| cwD (B.X 58 _ rfl) rfl <| args_cons <| rCell hc3 <| args_nil ⟨B.X 58 _ rfl, ?_⟩
  refine b64_call hh B hT (by omega) (by omega) fun h₁ t₁ u₁ ds x₁ hds hdl hdv => ?_
  have hsz : (byteArr (ds.map fun x : Nat => (code x : Int))).size = 4 * q := by rw [byteArr_size, List.length_map, hdl]
  refine rDecodeM <| cwM <| args_cons <| rStr fun _ _ => args_nil <| rDecode (by omega) ?_ (by omega) fun u₂ t₂ => ?_
  · intro c hc
    unfold byteArr at hc
    obtain ⟨n, hn, rfl⟩ := List.mem_map.mp (List.mem_toArray.mp hc)
    obtain ⟨x, hx, rfl⟩ := List.mem_map.mp hn
    have := code_lt x (hds x hx)
    rw [Int.toNat_natCast]
    rw [UInt8.toNat_ofNat_of_lt' (by show code x < 256; omega)]
    exact this
  rw [text_of ds hds]
  refine args_cons <| rNil fun h₃ l₃ x₃ => args_cons <| rNil fun h₄ l₄ x₄ => args_nil ⟨by simp [sizeLine_eq], ?_⟩
  have hH0 : h.get? h₁.objs.size = none := x₁.fresh
  have hO0 : h.get? h₃.objs.size = none := (x₁.trans x₃).fresh
  have hne : h₁.objs.size ≠ h₃.objs.size := Nat.ne_of_lt l₃.lt
  generalize h₁.objs.size = Hp at *
  generalize h₃.objs.size = O at *
  refine rUnpack3 (h := h₄.push { cls := .type "tuple", data := .seq [Value.str ⟨(ds.map code).toArray⟩ u₂, .ref Hp, .ref O].toArray }) (t := t₂) hh ⟨_, Heap.get?_push_size _ rfl, rfl, _, rfl⟩ fun h₅ x₅ => ?_
  have x45 := (Ext.push h₄ { cls := .type "tuple", data := .seq [Value.str ⟨(ds.map code).toArray⟩ u₂, .ref Hp, .ref O].toArray }).trans x₅
  have x05 := ((x₁.trans x₃).trans x₄).trans x45
  have hLH : L ≠ Hp := by rintro rfl; obtain ⟨_, _, _, e, _⟩ := hN; rw [hH0] at e; cases e
  have hLO : L ≠ O := by rintro rfl; obtain ⟨_, _, _, e, _⟩ := hN; rw [hO0] at e; cases e
  have h5H : L + 5 ≠ Hp := by rintro rfl; obtain ⟨_, e, _⟩ := hc5; rw [hH0] at e; cases e
  have h5O : L + 5 ≠ O := by rintro rfl; obtain ⟨_, e, _⟩ := hc5; rw [hO0] at e; cases e
  have hL5 : (L : Nat) ≠ L + 5 := Nat.ne_of_lt (Nat.lt_add_of_pos_right (by decide))
  refine rStoreC (c := L + 5) (hc5.keeps x05) fun h₆ hc₆ hs₆ => ?_
  refine rStore (m := m) ((hN.keeps x05).sameBut hs₆ hL5) fun h₇ t₇ hN₇ hs₇ => ?_
  refine rStore hN₇ fun h₈ t₈ hN₈ hs₈ => ⟨rfl, h₈, t₈, u₂, ds, Hp, O, _, rfl, hds, hdl, hdv, (hc₆.sameBut hs₇ (Ne.symm hL5)).sameBut hs₈ (Ne.symm hL5), ?_, ?_, hne, hH0, hO0, hN₈, st_ne st_eq, st_eq, ?_⟩
  · exact (((((l₃.keeps x₄).keeps x45).extBut hs₆.extBut (Ne.symm h5H)).extBut hs₇.extBut (Ne.symm hLH)).extBut hs₈.extBut (Ne.symm hLH))
  · exact ((((l₄.keeps x45).extBut hs₆.extBut (Ne.symm h5O)).extBut hs₇.extBut (Ne.symm hLO)).extBut hs₈.extBut (Ne.symm hLO))
  · exact (((Keep.of_ext x05).trans ((Keep.same hs₆).mono (by simp))).trans ((Keep.same hs₇).mono (by simp))).trans ((Keep.same hs₈).mono (by simp))
end
end Mine
end

section -- LS5
open PySem PySem.W PyProof.Rows
set_option maxRecDepth 100000
set_option maxHeartbeats 2000000
namespace Mine
/-- a list of numbers at a place -/
noncomputable def NumsAt (lo : Nat) (h : Heap) (v : Value) (ns : List Int) : Prop := ∃ a vs, v = .ref a ∧ lo ≤ a ∧ PlainL h a vs.toArray ∧ IntsAre vs ns
theorem NumsAt.up {lo : Nat} {h h' : Heap} {v : Value} {ns : List Int} (x : NumsAt lo h v ns) (k : ∀ b o, lo ≤ b → h.get? b = some o → h'.get? b = some o) : NumsAt lo h' v ns :=
  let ⟨a, vs, e, hl, p, i⟩ := x; ⟨a, vs, e, hl, p.at fun o e => k a o hl e, i⟩
theorem NumsAt.lower {lo lo' : Nat} {h : Heap} {v : Value} {ns : List Int} (x : NumsAt lo h v ns) (hl : lo' ≤ lo) : NumsAt lo' h v ns :=
  let ⟨a, vs, e, h1, p, i⟩ := x; ⟨a, vs, e, Nat.le_trans hl h1, p, i⟩
section
variable {prog : Program} {w : World} {A : Around} {E : Value → Shared → Prop} {σ : Shared} {G h : Heap} {t : Nat} {L : Addr} {cd : Value} {env : Env} {Q : Value → Shared → Prop}

theorem rLenS {x : Str} {v : Tok} (hz : x.cps.size < 100000) (H : ∀ u t', Q (.int (x.cps.size : Nat) u) (S σ h t')) :
    wpAny (model prog w) A (call (.builtin "len") [.str x v]) Q E (S σ h t) := len_str (s := S σ h t) (by show ¬ ((x.cps.size : Nat) : Int) ≥ _; omega) (H _ _)

theorem rRange3' {a b c : Int} {u v x : Tok} (hc : c ≠ 0) (hc2 : c.natAbs < 2 ^ 29) (H : ∀ h', Ext h h' → h'.objs.size = h.objs.size + 1 → IsRange h' h.objs.size a b c u v x → Q (.ref h.objs.size) (S σ h' t)) :
    wpAny (model prog w) A (call (.type "range") [.int a u, .int b v, .int c x]) Q E (S σ h t) :=
  rRange3 hc hc2 fun hR => H _ (Ext.push _ _) (Heap.size_push _ _) hR

theorem step5 {ds : List Nat} {mn K : Nat} {u₄ u₅ : Tok} {m : Str → Option Value} (hh : A.handled = none) (hd : A.depth + 100 < recursionLimit) (B : Base w h) (hN : h.Ns L m)
    (hds : ∀ x ∈ ds, x < 64) (hdl : ds.length = mn * K) (hmn : mn = 4 ∨ mn = 8) (hK : K < 100) (hc4 : h.IsCell (L + 4) (some (.int (mn : Nat) u₄))) (hc5 : h.IsCell (L + 5) (some (.str ⟨(ds.map code).toArray⟩ u₅))) :
    wpAny (model prog w) A (exec (lawSt 4) (lawEnv L cd)) (fun f s' => f = .next ∧ ∃ h' t' P ps, s' = S σ h' t' ∧ h'.Ns L (upd m "pieces" (.ref P)) ∧ h.objs.size ≤ P ∧ PlainL h' P ps ∧ ps.size = K ∧
        (∀ i y, ps[i]? = some y → NumsAt h.objs.size h' y (((ds.drop (mn * i)).take mn).map fun d : Nat => (d : Int))) ∧ Keep [L] h h') (fun _ _ => False) (S σ h t) := by
  have hb : mn * K ≤ 8 * 100 := Nat.mul_le_mul (by omega) (by omega)
  have hlen : (⟨(ds.map code).toArray⟩ : Str).cps.size = mn * K := by simp [hdl]
  refine rAssignComp (cl := [("text", L + 5), ("many", L + 4)]) <| Call_ <| rBuilt B (by kernel_rfl) boot_range <| cwT <| args_cons <| rInt fun _ _ => args_cons <| Call_ <| rBuilt B (by kernel_rfl) boot_len <| cwB <| args_cons <| rCell hc5 <| args_nil <| rLenS (by omega) fun _ t₂ => args_cons <| rCell hc4 <| args_nil ?_
  rw [hlen]
  refine rRange3' (by omega) (by omega) fun h₁ x₁ hz₁ hR => ?_
  have hle : h.objs.size ≤ h₁.objs.size + 3 := by rw [hz₁]; exact Nat.le_trans (Nat.le_succ _) (Nat.le_add_right _ _)
  refine asRange (fun i y h' => NumsAt (h₁.objs.size + 3) h' y (((ds.drop (mn * i)).take mn).map fun d : Nat => (d : Int))) hh hR (small_mul (by omega) (by omega) (by omega)) (rangeSize_mul (by omega)) (by omega) (hN.keeps x₁) ⟨fun i y h₂ h₃ _ k x => x.up k, ?_⟩ ?_
  · rintro i v C h₂ t₂ m₂ hi ⟨uv, rfl⟩ hG hlo hN₂ hm₂
    have x02 := x₁.trans hG
    have B2 := B.ext x02
    have hib : mn * i + mn ≤ mn * K := by rw [← Nat.mul_succ]; exact Nat.mul_le_mul_left mn hi
    rw [show (0 : Int) + (i : Nat) * ((mn : Nat) : Int) = ((mn * i : Nat) : Int) by rw [Nat.mul_comm]; simp] at hm₂
    refine Call_ <| rGlob B2 (by kernel_rfl) <| cwD (B2.X 96 _ rfl) rfl <| args_cons <| Subscript_ <| rCell (hc5.keeps x02) <| rSliceE <| rLoc hN₂ hm₂ <| wpAny_BinOp <| rLoc hN₂ hm₂ <| rCell (hc4.keeps x02) <| rAdd fun _ t₃ => ?_
    rw [show ((mn * i : Nat) : Int) + ((mn : Nat) : Int) = ((mn * i + mn : Nat) : Int) by omega]
    refine rStrSlice (h := h₂) (by omega) (by rw [hlen]; exact hib) (by omega) fun h₃ t₃ u₃ x₃ hz₃ => args_nil ⟨(B2.ext x₃).X 96 _ rfl, ?_⟩
    have hsz₃ : h₁.objs.size + 3 ≤ h₃.objs.size := Nat.le_trans hlo hz₃
    refine figures_call (ds := (ds.drop (mn * i)).take mn) hh (B2.ext x₃) ?_ (fun x hx => hds x (List.mem_of_mem_drop (List.mem_of_mem_take hx))) (by simp; omega) (by omega) fun D h₄ t₄ vs x₄ hD hl₄ hi₄ => ?_
    · rw [List.map_take, List.map_drop, Nat.add_sub_cancel_left]
    · exact ⟨h₄, t₄, rfl, x₃.trans x₄, D, vs, rfl, Nat.le_trans hsz₃ hD, hl₄, hi₄⟩
  · rintro P h' t' ps hk hN' hP hl' hsz ⟨h₂, hx₂, hel, hup⟩
    refine ⟨rfl, h', t', P, ps, rfl, hN', Nat.le_trans (by rw [hz₁]; exact Nat.le_succ _) hP, hl', hsz, fun i y e => ((hel i y e).up fun b o hb e => hup b o hb e).lower hle, fun b o hb e => hk b o (by simpa using hb) (x₁ b o e)⟩
end
end Mine
end

section -- PL1
open PySem PySem.W PyProof.Rows
set_option maxRecDepth 100000
set_option maxHeartbeats 2000000
namespace Mine
open PySem.SeqAt PySem.MeetsSeq PySem.MeetsSeq2 PySem.MeetsSeq3

/-- the figure of n at place j of mn, to the base 64 -/
noncomputable def dg (mn n j : Nat) : Int := ((n / 64 ^ (mn - 1 - j) % 64 : Nat) : Int)
noncomputable def figs (mn n : Nat) : List Int := (List.range mn).map (dg mn n)
theorem figs_length (mn n : Nat) : (figs mn n).length = mn := by simp [figs]
theorem figs_at {mn n j : Nat} (h : j < mn) : (figs mn n)[j]? = some (dg mn n j) := by simp [figs, h]

theorem div_step (n k : Nat) : n / 64 ^ (k + 1) = n / 64 ^ k / 64 := by rw [Nat.pow_succ, Nat.div_div_eq_div_mul]

theorem lex_spec {mn n n' : Nat} : ∀ k i, i + k = mn → n / 64 ^ k = n' / 64 ^ k →
    ltFrom (fun j => dg mn n j == dg mn n' j) (fun j => decide (dg mn n j < dg mn n' j)) mn i k = decide (n < n') := by
  intro k
  induction k with
  | zero =>
    intro i hi he
    simp only [Nat.pow_zero, Nat.div_one] at he
    subst he
    simp [ltFrom]
  | succ k ih =>
    intro i hi he
    rw [div_step, div_step] at he
    rw [ltFrom]
    have hk : mn - 1 - i = k := by omega
    have e1 : dg mn n i = ((n / 64 ^ k % 64 : Nat) : Int) := by unfold dg; rw [hk]
    have e2 : dg mn n' i = ((n' / 64 ^ k % 64 : Nat) : Int) := by unfold dg; rw [hk]
    by_cases hd : n / 64 ^ k % 64 = n' / 64 ^ k % 64
    · rw [if_pos (by rw [e1, e2, hd]; simp)]
      exact ih (i + 1) (by omega) (by omega)
    · rw [if_neg (by rw [e1, e2, beq_iff_eq]; exact fun h => hd (Int.ofNat.inj h))]
      have hpos : 0 < 64 ^ k := Nat.pow_pos (by omega)
      have key : ∀ q q' : Nat, q / 64 = q' / 64 → q % 64 ≠ q' % 64 → (((q % 64 : Nat) : Int) < ((q' % 64 : Nat) : Int) ↔ q < q') := by intro q q' h1 h2; omega
      have key' := key _ _ he hd
      rw [e1, e2]
      refine decide_eq_decide.mpr ⟨fun h => ?_, fun h => ?_⟩
      · have := key'.mp h
        exact Nat.lt_of_not_le fun hle => absurd (Nat.div_le_div_right (c := 64 ^ k) hle) (by omega)
      · have := Nat.div_le_div_right (c := 64 ^ k) (Nat.le_of_lt h)
        have hne : n / 64 ^ k ≠ n' / 64 ^ k := fun h => hd (by rw [h])
        exact key'.mpr (by omega)

theorem figs_inj {mn n n' : Nat} (h : n < 64 ^ mn) (h' : n' < 64 ^ mn) (he : ∀ j, j < mn → dg mn n j = dg mn n' j) : n = n' := by
  have : ∀ k, k ≤ mn → n / 64 ^ (mn - k) = n' / 64 ^ (mn - k) := by
    intro k
    induction k with
    | zero => intro _; rw [Nat.sub_zero, Nat.div_eq_of_lt h, Nat.div_eq_of_lt h']
    | succ k ih =>
      intro hk
      have i1 := ih (by omega)
      have e := he k (by omega)
      unfold dg at e
      rw [show mn - k = (mn - (k + 1)) + 1 by omega, div_step, div_step] at i1
      rw [show mn - 1 - k = mn - (k + 1) by omega] at e
      omega
  have := this mn (Nat.le_refl _)
  simpa using this

theorem figs_all {mn n n' : Nat} (h : n < 64 ^ mn) (h' : n' < 64 ^ mn) : ((List.range mn).all fun j => dg mn n j == dg mn n' j) = decide (n = n') := by
  by_cases e : n = n'
  · subst e; simp
  · rw [decide_eq_false e]
    cases hq : (List.range mn).all fun j => dg mn n j == dg mn n' j with
    | false => rfl
    | true =>
      rw [List.all_eq_true] at hq
      exact absurd (figs_inj h h' fun j hj => by simpa using hq j (by simpa using hj)) e

theorem ints_item {vs : List Value} {ns : List Int} (hi : IntsAre vs ns) {j : Nat} (hj : j < vs.length) {n : Int} (hn : ns[j]? = some n) : ∃ u, vs[j] = .int n u := by
  obtain ⟨n', u, e, hv⟩ := ints_at hi (List.getElem?_eq_getElem hj)
  rw [hn] at e; cases e
  exact ⟨u, hv⟩

section
variable {A : Around} {s : Shared} {a b : Addr} {vs ws : List Value} {mn n n' : Nat}

theorem figEq (la : s.heap.IsList a vs.toArray) (lb : s.heap.IsList b ws.toArray) (ia : IntsAre vs (figs mn n)) (ib : IntsAre ws (figs mn n')) (h : n < 64 ^ mn) (h' : n' < 64 ^ mn) (hu : A.units < cLine) :
    EqAt A s (.ref a) (.ref b) (decide (n = n')) := by
  have hv : vs.length = mn := by rw [ia.length, figs_length]
  have hw : ws.length = mn := by rw [ib.length, figs_length]
  by_cases hab : a = b
  · subst hab
    obtain ⟨o, ho, _, k, hd⟩ := la
    obtain ⟨o', ho', _, k', hd'⟩ := lb
    rw [ho] at ho'; cases ho'; rw [hd] at hd'
    have e : vs = ws := by injection hd' with e1 _; simpa using e1
    subst e
    have : n = n' := figs_inj h h' fun j hj => by
      obtain ⟨u, e1⟩ := ints_item ia (by omega) (figs_at hj)
      obtain ⟨u', e2⟩ := ints_item ib (by omega) (figs_at hj)
      rw [e1] at e2; injection e2
    rw [decide_eq_true this]
    exact EqAt.same _
  · refine EqAt.of_refs hab ?_
    rw [← figs_all h h']
    have := RcAt.lists (A := A) (s := s) (e := fun j => dg mn n j == dg mn n' j) la lb (by simp; omega) hu (fun j h1 h2 => by
      have h1' : j < vs.length := by simpa using h1
      have h2' : j < ws.length := by simpa using h2
      obtain ⟨u, e1⟩ := ints_item ia h1' (figs_at (by omega))
      obtain ⟨u', e2⟩ := ints_item ib h2' (figs_at (by omega))
      simp only [List.getElem_toArray, e1, e2]
      exact EqAt.int_int _ _ _ _)
    have hs : vs.toArray.size = mn := by simpa using hv
    rw [hs] at this
    exact this

theorem figLt (la : s.heap.IsList a vs.toArray) (lb : s.heap.IsList b ws.toArray) (ia : IntsAre vs (figs mn n)) (ib : IntsAre ws (figs mn n')) (h : n < 64 ^ mn) (h' : n' < 64 ^ mn) (hu : A.units < cLine) :
    RcLtAt A s (.ref a) (.ref b) (decide (n < n')) := by
  have hv : vs.length = mn := by rw [ia.length, figs_length]
  have hw : ws.length = mn := by rw [ib.length, figs_length]
  rw [← lex_spec (mn := mn) mn 0 (by omega) (by rw [Nat.div_eq_of_lt h, Nat.div_eq_of_lt h'])]
  have item : ∀ j (h1 : j < vs.toArray.size) (h2 : j < ws.toArray.size), ∃ u u', vs.toArray[j] = .int (dg mn n j) u ∧ ws.toArray[j] = .int (dg mn n' j) u' := fun j h1 h2 => by
    have h1' : j < vs.length := by simpa using h1
    have h2' : j < ws.length := by simpa using h2
    obtain ⟨u, e1⟩ := ints_item ia h1' (figs_at (by omega))
    obtain ⟨u', e2⟩ := ints_item ib h2' (figs_at (by omega))
    exact ⟨u, u', by simpa using e1, by simpa using e2⟩
  have := RcLtAt.lists (A := A) (s := s) (e := fun j => dg mn n j == dg mn n' j) (r := fun j => decide (dg mn n j < dg mn n' j)) la lb (by simp; omega) hu
    (fun j h1 h2 => by
      obtain ⟨u, u', e1, e2⟩ := item j h1 h2
      rw [e1, e2]; exact EqAt.int_int _ _ _ _)
    (fun j h1 h2 _ => by
      obtain ⟨u, u', e1, e2⟩ := item j h1 h2
      rw [e1, e2]; exact RcLtAt.int _ _ _ _)
  have hs : vs.toArray.size = mn := by simpa using hv
  rw [hs] at this
  exact this
end

/-- a heap's thing: [figures of number k, k] -/
noncomputable def ElemAt (G : Heap) (xs : List Nat) (mn : Nat) (v : Value) (k : Nat) : Prop :=
  k < xs.length ∧ ∃ e p u vs, v = .ref e ∧ G.IsList e #[.ref p, .int (k : Nat) u] ∧ G.IsList p vs.toArray ∧ IntsAre vs (figs mn (xs.getD k 0))
theorem ElemAt.ext {G G' : Heap} {xs : List Nat} {mn k : Nat} {v : Value} (x : ElemAt G xs mn v k) (h : Ext G G') : ElemAt G' xs mn v k :=
  let ⟨hk, e, p, u, vs, hv, l1, l2, i⟩ := x; ⟨hk, e, p, u, vs, hv, l1.at fun o e => h _ o e, l2.at fun o e => h _ o e, i⟩

noncomputable def rankN (xs : List Nat) (i : Nat) : Int := ((xs.getD i 0 * 64 + i : Nat) : Int)
noncomputable def ekey (xs : List Nat) (G : Heap) : Value → Int
  | .ref e => match G.get? e with
    | some o => (match o.data with
      | .seq items _ => (match items[1]? with
        | some (Value.int k _) => rankN xs k.toNat
        | _ => 0)
      | _ => 0)
    | none => 0
  | _ => 0
theorem ekey_of {G : Heap} {xs : List Nat} {mn k : Nat} {v : Value} (x : ElemAt G xs mn v k) : ekey xs G v = rankN xs k := by
  obtain ⟨_, e, p, u, vs, rfl, ⟨o, ho, _, n, hd⟩, _⟩ := x
  simp only [ekey, ho, hd]
  simp

theorem elem_cmp {G : Heap} {xs : List Nat} {mn : Nat} (hx : ∀ x ∈ xs, x < 64 ^ mn) (h64 : xs.length < 64) :
    CmpOn G (fun v v' => decide (ekey xs G v < ekey xs G v')) (fun v => ∃ k, ElemAt G xs mn v k) := by
  rintro v v' ⟨k, x⟩ ⟨k', x'⟩ h eh A σ t hu
  show RcLtAt A (S σ h t) v v' (decide (ekey xs G v < ekey xs G v'))
  rw [ekey_of x, ekey_of x']
  obtain ⟨hk, e, p, u, vs, rfl, l1, l2, i⟩ := x.ext eh
  obtain ⟨hk', e', p', u', vs', rfl, l1', l2', i'⟩ := x'.ext eh
  have hm : xs.getD k 0 < 64 ^ mn := by rw [show xs.getD k 0 = xs[k] by simp [hk]]; exact hx _ (List.getElem_mem hk)
  have hm' : xs.getD k' 0 < 64 ^ mn := by rw [show xs.getD k' 0 = xs[k'] by simp [hk']]; exact hx _ (List.getElem_mem hk')
  have := RcLtAt.lists (A := A) (s := S σ h t) (e := fun j => if j = 0 then decide (xs.getD k 0 = xs.getD k' 0) else ((k : Int) == (k' : Int)))
    (r := fun j => if j = 0 then decide (xs.getD k 0 < xs.getD k' 0) else decide ((k : Int) < (k' : Int))) l1 l1' rfl (by omega)
    (fun j h1 h2 => by
      match j, h1 with
      | 0, _ => exact figEq l2 l2' i i' hm hm' (by show A.units + _ < _; omega)
      | 1, _ => exact EqAt.int_int _ _ _ _)
    (fun j h1 h2 _ => by
      match j, h1 with
      | 0, _ => exact figLt l2 l2' i i' hm hm' (by show A.units + _ < _; omega)
      | 1, _ => exact RcLtAt.int _ _ _ _)
  have hb : ltFrom (fun j => if j = 0 then decide (xs.getD k 0 = xs.getD k' 0) else ((k : Int) == (k' : Int))) (fun j => if j = 0 then decide (xs.getD k 0 < xs.getD k' 0) else decide ((k : Int) < (k' : Int))) 2 0 2 = decide (rankN xs k < rankN xs k') := by
    unfold rankN
    generalize xs.getD k 0 = X
    generalize xs.getD k' 0 = Y
    simp only [ltFrom, if_true]
    by_cases e1 : X = Y
    · subst e1
      simp only [decide_true, if_true]
      by_cases e2 : k = k'
      · subst e2; simp
      · have : ((k : Int) == (k' : Int)) = false := by simpa using fun h => e2 (by omega)
        simp only [this]
        exact decide_eq_decide.mpr (by omega)
    · simp only [decide_eq_false e1, Bool.false_eq_true, if_false]
      exact decide_eq_decide.mpr (by omega)
  rw [← hb]
  exact this
end Mine
end

section -- LS6
open PySem PySem.W PyProof.Rows
set_option maxRecDepth 100000
set_option maxHeartbeats 2000000
namespace Mine
section
variable {prog : Program} {w : World} {A : Around} {E : Value → Shared → Prop} {σ : Shared} {G h : Heap} {t : Nat} {L : Addr} {cd : Value} {env : Env} {Q : Value → Shared → Prop}

/-- a for loop over a range; the invariant may speak of all but the iterator -/
theorem rIterRange2 {x : Str} {px : Pos} {body : List Stmt} {r : Addr} {a b c : Int} {u₁ u₂ u₃ : Tok} {n : Nat} {R : Result → Shared → Prop}
    (M : List Addr) (Inv : Nat → Heap → Prop) (hh : A.handled = none) (hr : IsRange h r a b c u₁ u₂ u₃) (hsm : Builtin.Range.small a b c = true) (hn : Builtin.Range.rangeSize a b c = n)
    (hM : h.objs.size ∉ M)
    (stab : ∀ i h₁ h₂, (∀ b o, b ≠ h.objs.size → h₁.get? b = some o → h₂.get? b = some o) → Inv i h₁ → Inv i h₂) (hI : Inv 0 h)
    (turn : ∀ i u h₁ t, i < n → h.objs.size < h₁.objs.size → Inv i h₁ →
      wpAny (model prog w) A (storeName env x (.int (a + i * c) u)) (fun _ s₁ => wpAny (model prog w) A (execs body env)
        (fun f s' => (f = .next ∨ f = .cont) ∧ ∃ h' t', s' = S σ h' t' ∧ Keep M h₁ h' ∧ Inv (i + 1) h') (fun _ _ => False) s₁) (fun _ _ => False) (S σ h₁ t))
    (fin : ∀ h t, Inv n h → R (.ok .next) (S σ h t)) :
    wpAny (model prog w) A (pyIter (.ref r)) (fun it s₂ => codeAny (model prog w) A (.forLoop (.Name x px) it body [] env) R s₂) E (S σ h t) := by
  refine wpAny_pyIter_range (s := S σ h t) hr hsm ?_
  have W := Walks.range (prog := prog) (w := w) hh h.objs.size a c n
  generalize hIe : h.objs.size = I at *
  refine codeAny_forLoop_any (fun k s => ∃ h t i, s = S σ h t ∧ i ≤ n ∧ k = n - i ∧ IsRangeIter h I (a + (i : Nat) * c) ((n : Int) - ((i : Nat) : Int)) c ∧ Inv i h) ?_ (n - 0) ⟨_, t, 0, rfl, Nat.zero_le _, rfl, ?_, ?_⟩
  · rintro k s ⟨h₁, t₁, i, rfl, hi, rfl, hst, hI₁⟩
    by_cases hin : i < n
    · refine W.item i (S σ h₁ t₁) _ _ hin hst ?_
      rintro v h₂ t₂ ⟨u, rfl⟩ hst₂ hk
      refine wpAny_of_eq (a := ()) rfl (wpAny_assign_Name ?_)
      have hI₂ : Inv i h₂ := stab i h₁ h₂ (fun b o hb e => hk b o (by simpa using hb) e) hI₁
      refine wpAny_mono (turn i u h₂ t₂ hin (Heap.lt_size hst₂) hI₂) (fun _ s₁ hs₁ => wpAny_mono hs₁ ?_ (fun _ _ x => x.elim)) (fun _ _ x => x.elim)
      rintro f s' ⟨hf, h₃, t₃, rfl, hk₃, hI₃⟩
      have hst₃ := W.frame (i + 1) h₂ h₃ hst₂ fun b hb o e => hk₃ b o (by rw [List.mem_singleton] at hb; subst hb; exact hM) e
      rcases hf with rfl | rfl
      · exact ⟨n - (i + 1), by omega, h₃, t₃, i + 1, rfl, by omega, rfl, hst₃, hI₃⟩
      · exact ⟨n - (i + 1), by omega, h₃, t₃, i + 1, rfl, by omega, rfl, hst₃, hI₃⟩
    · obtain rfl : i = n := by omega
      refine W.done (S σ h₁ t₁) _ _ hst (fun h₂ t₂ hk => wpAny_execs_nil (fin h₂ t₂ ?_))
      exact stab i h₁ h₂ (fun b o hb e => hk b o (by simpa using hb) e) hI₁
  · have := Heap.get?_push_size h (o := { cls := .type "range_iterator", data := .fields #[rawInt a, rawInt (Builtin.Range.rangeSize a b c), rawInt c] }) rfl
    rw [hn, hIe] at this
    rw [hn]
    simpa using this
  · exact stab 0 h _ (fun b o _ e => Heap.get?_push_of_some _ e) hI
end

/-- a heap's thing that was made above I; its figures stand in G -/
noncomputable def ElemUp (G h : Heap) (xs : List Nat) (mn I : Nat) (v : Value) (k : Nat) : Prop :=
  k < xs.length ∧ ∃ e p u vs, v = .ref e ∧ I < e ∧ h.IsList e #[.ref p, .int (k : Nat) u] ∧ G.IsList p vs.toArray ∧ IntsAre vs (figs mn (xs.getD k 0))
theorem ElemUp.at {G h : Heap} {xs : List Nat} {mn I k : Nat} {v : Value} (x : ElemUp G h xs mn I v k) (hG : Ext G h) : ElemAt h xs mn v k :=
  let ⟨hk, e, p, u, vs, hv, _, l1, l2, i⟩ := x; ⟨hk, e, p, u, vs, hv, l1, l2.at fun o e => hG _ o e, i⟩
theorem ElemUp.up {G h h' : Heap} {xs : List Nat} {mn I k : Nat} {v : Value} (x : ElemUp G h xs mn I v k) (hk : ∀ b o, I < b → h.get? b = some o → h'.get? b = some o) : ElemUp G h' xs mn I v k :=
  let ⟨hk', e, p, u, vs, hv, hI, l1, l2, i⟩ := x; ⟨hk', e, p, u, vs, hv, hI, l1.at fun o e => hk _ o hI e, l2, i⟩
noncomputable def eidx (h : Heap) : Value → Nat
  | .ref e => match h.get? e with
    | some o => (match o.data with
      | .seq items _ => (match items[1]? with
        | some (Value.int k _) => k.toNat
        | _ => 0)
      | _ => 0)
    | none => 0
  | _ => 0
theorem eidx_of {G : Heap} {xs : List Nat} {mn k : Nat} {v : Value} (x : ElemAt G xs mn v k) : eidx G v = k := by
  obtain ⟨_, e, p, u, vs, rfl, ⟨o, ho, _, n, hd⟩, _⟩ := x
  simp only [eidx, ho, hd]
  simp
theorem IsHeap.congr {α : Type} {r r' : α → Int} {xs : Array α} (h : IsHeap r xs) (e : ∀ v ∈ xs, r v = r' v) : IsHeap r' xs := by
  have key : ∀ i, i < xs.size → rk r xs i = rk r' xs i := fun i hi => by
    rw [rk_at (Array.getElem?_eq_getElem hi), rk_at (Array.getElem?_eq_getElem hi)]; exact e _ (Array.getElem_mem hi)
  intro i h0 hi
  rw [← key i hi, ← key _ (by omega)]
  exact h i h0 hi
/-- the heap's list: all its things are such, it is a heap, and it holds the places ks -/
structure HeapIs (G h : Heap) (xs : List Nat) (mn I : Nat) (hs : Array Value) : Prop where
  all : ∀ v ∈ hs, ∃ k, ElemUp G h xs mn I v k
  heap : IsHeap (ekey xs h) hs
theorem HeapIs.up {G h h' : Heap} {xs : List Nat} {mn I : Nat} {hs : Array Value} (x : HeapIs G h xs mn I hs) (hG : Ext G h) (hG' : Ext G h') (hk : ∀ b o, I < b → h.get? b = some o → h'.get? b = some o) :
    HeapIs G h' xs mn I hs ∧ ∀ v ∈ hs, eidx h' v = eidx h v := by
  have key : ∀ v ∈ hs, ekey xs h v = ekey xs h' v ∧ eidx h' v = eidx h v := fun v hv => by
    obtain ⟨k, y⟩ := x.all v hv
    have y' := y.up hk
    exact ⟨(ekey_of (y.at hG)).trans (ekey_of (y'.at hG')).symm, (eidx_of (y'.at hG')).trans (eidx_of (y.at hG)).symm⟩
  exact ⟨⟨fun v hv => let ⟨k, y⟩ := x.all v hv; ⟨k, y.up hk⟩, x.heap.congr fun v hv => (key v hv).1⟩, fun v hv => (key v hv).2⟩

section
variable {prog : Program} {w : World} {A : Around} {E : Value → Shared → Prop} {σ : Shared} {G h : Heap} {t : Nat} {L : Addr} {cd : Value} {env : Env} {Q : Value → Shared → Prop}

theorem step6 {m : Str → Option Value} {P Hp O : Addr} {ps : Array Value} {xs : List Nat} {mn lo : Nat} (hh : A.handled = none) (hd : A.depth + 100 < recursionLimit) (hu : A.units + 200 < cLine) (B : Base w G) (hG : Ext G h) (hGL : G.get? L = none) (hGH : G.get? Hp = none) (hN : h.Ns L m)
    (hm1 : m "pieces" = some (.ref P)) (hm2 : m "heap" = some (.ref Hp)) (hm3 : m "order" = some (.ref O)) (hP : G.IsList P ps) (hps : ps.size = xs.length) (hxl : xs.length < 64) (hxs : ∀ x ∈ xs, x < 64 ^ mn)
    (hfig : ∀ i y, ps[i]? = some y → NumsAt lo G y (figs mn (xs.getD i 0))) (hHp : PlainL h Hp #[]) :
    wpAny (model prog w) A (exec (lawSt 5) (lawEnv L cd)) (fun f s' => f = .next ∧ ∃ h' t' m' hs I, s' = S σ h' t' ∧ Ext G h' ∧ h'.Ns L m' ∧ m' "pieces" = some (.ref P) ∧ m' "heap" = some (.ref Hp) ∧ m' "order" = some (.ref O) ∧ PlainL h' Hp hs ∧ h.objs.size ≤ I ∧
        HeapIs G h' xs mn I hs ∧ (hs.toList.map (eidx h')).Perm (List.range xs.length) ∧ (∀ b o, b ≠ L → b ≠ Hp → h.get? b = some o → h'.get? b = some o)) (fun _ _ => False) (S σ h t) := by
  have hLH : L ≠ Hp := by rintro rfl; obtain ⟨o, _, _, e, hd, _⟩ := hN; obtain ⟨o', _, e', _, _, hd'⟩ := hHp; rw [e] at e'; cases e'; rw [hd] at hd'; cases hd'
  have B0 := B.ext hG
  refine wpAny_For <| Call_ <| rBuilt B0 (by kernel_rfl) boot_range <| cwT <| args_cons <| Call_ <| rBuilt B0 (by kernel_rfl) boot_len <| cwB <| args_cons <| rLoc hN hm1 <| args_nil <| rLen (hP.at fun o e => hG _ o e) (by omega) fun _ _ => args_nil <| rRange1 fun h₁ t₁ v₁ v₂ he hR => ?_
  have x₁ : Ext h h₁ := he ▸ Ext.push _ _
  have hz₁ : h₁.objs.size = h.objs.size + 1 := by rw [he, Heap.size_push]
  clear he
  rw [hps] at hR
  have hLI : L < h₁.objs.size := by rw [hz₁]; exact Nat.lt_succ_of_lt hN.lt
  have hHI : Hp < h₁.objs.size := by rw [hz₁]; exact Nat.lt_succ_of_lt hHp.lt
  refine rIterRange2 (n := xs.length) [L, Hp] (fun i h₂ => Ext G h₂ ∧ (∀ b o, b ≠ L → b ≠ Hp → h.get? b = some o → h₂.get? b = some o) ∧ ∃ m hs, h₂.Ns L m ∧ m "pieces" = some (.ref P) ∧ m "heap" = some (.ref Hp) ∧ m "order" = some (.ref O) ∧ PlainL h₂ Hp hs ∧ hs.size = i ∧
      HeapIs G h₂ xs mn h₁.objs.size hs ∧ (hs.toList.map (eidx h₂)).Perm (List.range i)) hh hR (small_one (by omega) (by omega) (by omega) (by omega)) (by rw [rangeSize_one]; split <;> omega) ?_ ?_ ?_ ?turn ?fin
  · intro hm
    rcases List.mem_cons.mp hm with hm | hm
    · exact absurd hLI (hm ▸ Nat.lt_irrefl _)
    · rw [List.mem_singleton] at hm; exact absurd hHI (hm ▸ Nat.lt_irrefl _)
  · rintro i h₂ h₃ hk ⟨e1, e2, m', hs, e3, e4, e5, e6, e7, e8, e9, e10⟩
    have e1' : Ext G h₃ := fun b o e => hk b o (Nat.ne_of_lt (Nat.lt_trans (Heap.lt_size (hG b o e)) (by rw [hz₁]; exact Nat.lt_succ_self _))) (e1 b o e)
    obtain ⟨f1, f2⟩ := e9.up e1 e1' fun b o hb e => hk b o (Nat.ne_of_gt hb) e
    refine ⟨e1', fun b o n1 n2 e => hk b o (Nat.ne_of_lt (Nat.lt_trans (Heap.lt_size e) (by rw [hz₁]; exact Nat.lt_succ_self _))) (e2 b o n1 n2 e), m', hs, e3.at' fun o e => hk L o (Nat.ne_of_lt hLI) e, e4, e5, e6, e7.at fun o e => hk Hp o (Nat.ne_of_lt hHI) e, e8, f1, ?_⟩
    rw [List.map_congr_left (g := eidx h₂) fun v hv => f2 v (by simpa using hv)]
    exact e10
  · exact ⟨hG.trans x₁, fun b o _ _ e => x₁ b o e, m, #[], hN.keeps x₁, hm1, hm2, hm3, hHp.keeps x₁, rfl, ⟨fun v hv => by simp at hv, fun i h0 hi => by simp at hi⟩, by simp⟩
  case turn =>
    rintro i ui h₂ t₂ hi hIz ⟨e1, e2, m', hs, e3, e4, e5, e6, e7, e8, e9, e10⟩
    rw [show (0 : Int) + (i : Nat) * 1 = ((i : Nat) : Int) by simp]
    refine rStore e3 fun h₃ t₃ hN₃ hs₃ => ?_
    have g3 : Ext G h₃ := e1.but hs₃ hGL
    have B3 := B.ext g3
    have hIz₃ : h₁.objs.size < h₃.objs.size := by rw [hs₃.1]; exact hIz
    have hy : ps[i]? = some ps[i] := Array.getElem?_eq_getElem (by omega)
    refine wpAny_execs_cons <| wpAny_Expr <| Call_ <| rGlob B3 (by kernel_rfl) <| cwD (B3.X 65 _ rfl) rfl <| args_cons <| rLoc hN₃ (st_ne e5) <| args_cons <| rList <| args_cons <| Subscript_ <| rLoc hN₃ (st_ne e4) <| rLoc hN₃ st_eq <| rItem (hP.at fun o e => g3 _ o e) (by omega) (by omega) (by rw [Int.toNat_natCast]; exact hy) <| args_cons <| rLoc hN₃ st_eq <| args_nil ⟨by simp, h₃, t₃, rfl, fun h₄ l₄ x₄ hz₄ => args_nil ⟨(B3.ext x₄).X 65 _ rfl, ?_⟩⟩
    obtain ⟨p, pv, hpe, _, hpl, hpi⟩ := hfig i _ hy
    rw [hpe] at l₄
    have l7 : PlainL h₄ Hp hs := (e7.extBut hs₃.extBut (Ne.symm hLH)).keeps x₄
    have g4 := g3.trans x₄
    have hgd : Ext G (dropAt h₄ Hp) := g4.drop hGH
    have hIne : ∀ b : Nat, h₁.objs.size < b → b ≠ L ∧ b ≠ Hp := fun b hb => ⟨Nat.ne_of_gt (Nat.lt_trans hLI hb), Nat.ne_of_gt (Nat.lt_trans hHI hb)⟩
    obtain ⟨f1, f2⟩ := e9.up e1 g4 fun b o hb e => x₄ b o (hs₃.extBut b o (hIne b hb).1 e)
    have hnew : ElemUp G h₄ xs mn h₁.objs.size (.ref h₃.objs.size) i := ⟨hi, h₃.objs.size, p, ui, pv, rfl, hIz₃, l₄.isList, hpl.isList, hpi⟩
    have toG : ∀ v k, ElemUp G h₄ xs mn h₁.objs.size v k → ElemAt (dropAt h₄ Hp) xs mn v k := fun v k x => (x.up fun b o hb e => ((dropAt_same h₄ Hp).2 b (hIne b hb).2).trans e).at hgd
    have hdrop : ∀ v k, ElemUp G h₄ xs mn h₁.objs.size v k → ekey xs h₄ v = ekey xs (dropAt h₄ Hp) v := fun v k x => (ekey_of (x.at g4)).trans (ekey_of (toG v k x)).symm
    have hheap : IsHeap (ekey xs (dropAt h₄ Hp)) hs := f1.heap.congr fun v hv => let ⟨k, x⟩ := f1.all v hv; hdrop v k x
    obtain ⟨p1, p2⟩ := push_spec (r := ekey xs (dropAt h₄ Hp)) (lt := fun v v' => decide (ekey xs (dropAt h₄ Hp) v < ekey xs (dropAt h₄ Hp) v')) (fun _ _ => rfl) (.ref h₃.objs.size) hheap
    refine heappush_call (lt := fun v v' => decide (ekey xs (dropAt h₄ Hp) v < ekey xs (dropAt h₄ Hp) v')) (P := fun v => ∃ k, ElemAt (dropAt h₄ Hp) xs mn v k) (B.ext hgd) (dropAt_ext h₄ Hp) (dropAt_self h₄ Hp) l7 (by omega) (elem_cmp hxs hxl) (fun v hv => let ⟨k, x⟩ := f1.all v hv; ⟨k, toG v k x⟩) ⟨i, toG _ _ hnew⟩ (by omega) (by omega) fun h₅ t₅ g5 l₅ => ?_
    have k45 : ∀ b o, b ≠ Hp → h₄.get? b = some o → h₅.get? b = some o := fun b o hb e => g5 b o (((dropAt_same h₄ Hp).2 b hb).trans e)
    have g5' : Ext G h₅ := hgd.trans g5
    have p2' := Array.perm_iff_toList_perm.mp p2
    have up45 : ∀ b o, h₁.objs.size < b → h₄.get? b = some o → h₅.get? b = some o := fun b o hb e => k45 b o (hIne b hb).2 e
    have mem : ∀ v, v ∈ sd (fun v v' => decide (ekey xs (dropAt h₄ Hp) v < ekey xs (dropAt h₄ Hp) v')) (.ref h₃.objs.size) (hs.push (.ref h₃.objs.size)) hs.size → ∃ k, ElemUp G h₄ xs mn h₁.objs.size v k := fun v hv => by
      have hv' : v ∈ (hs.push (.ref h₃.objs.size)).toList := p2'.subset (by simpa using hv)
      simp at hv'
      rcases hv' with hv' | rfl
      · exact f1.all v hv'
      · exact ⟨i, hnew⟩
    generalize sd (fun v v' => decide (ekey xs (dropAt h₄ Hp) v < ekey xs (dropAt h₄ Hp) v')) (.ref h₃.objs.size) (hs.push (.ref h₃.objs.size)) hs.size = hs' at *
    have H4 : HeapIs G h₄ xs mn h₁.objs.size hs' := ⟨mem, p1.congr fun v hv => let ⟨k, x⟩ := mem v hv; (hdrop v k x).symm⟩
    obtain ⟨q1, q2⟩ := H4.up g4 g5' up45
    refine wpAny_execs_nil ⟨.inl rfl, h₅, t₅, rfl, ?_, g5', ?_, _, hs', ((hN₃.keeps x₄).at' fun o e => k45 L o hLH e), st_ne e4, st_ne e5, st_ne e6, l₅, ?_, q1, ?_⟩
    · intro b o hb e
      simp at hb
      exact k45 b o hb.2 (x₄ b o (hs₃.extBut b o hb.1 e))
    · intro b o n1 n2 e
      exact k45 b o n2 (x₄ b o (hs₃.extBut b o n1 (e2 b o n1 n2 e)))
    · have := p2'.length_eq; simp at this; omega
    · rw [List.map_congr_left (g := eidx h₄) fun v hv => q2 v (by simpa using hv)]
      refine (p2'.map (eidx h₄)).trans ?_
      rw [Array.toList_push, List.map_append, List.range_succ]
      refine List.Perm.append ?_ ?_
      · rw [List.map_congr_left (g := eidx h₂) fun v hv => f2 v (by simpa using hv)]
        exact e10
      · simp only [List.map_cons, List.map_nil]
        rw [eidx_of (hnew.at g4)]
  case fin =>
    rintro h₂ t₂ ⟨e1, e2, m', hs, e3, e4, e5, e6, e7, e8, e9, e10⟩
    exact ⟨rfl, h₂, t₂, m', hs, _, rfl, e1, e3, e4, e5, e6, e7, (by rw [hz₁]; exact Nat.le_succ _), e9, e10, e2⟩
end
end Mine
end

section -- LS7
open PySem PySem.W PyProof.Rows
set_option maxRecDepth 100000
set_option maxHeartbeats 2000000
namespace Mine
section
variable {prog : Program} {w : World} {A : Around} {E : Value → Shared → Prop} {σ : Shared} {G h : Heap} {t : Nat} {L : Addr} {cd : Value} {env : Env} {Q : Value → Shared → Prop}

theorem rNeNil {l b : Addr} {items : Array Value} (hl : h.IsList l items) (hb : h.IsList b #[]) (hu : A.units < cLine) (H : Q (.bool (!(items.size == 0))) (S σ h t)) :
    wpAny (model prog w) A (compareOp .NotEq (.ref l) (.ref b)) Q E (S σ h t) := by
  by_cases h0 : items.size = 0
  · refine PySem.SeqAt.RcNeAt.lists (e := fun _ => true) hl hb (by simpa using h0) hu (fun j h1 h2 => by omega) prog w E Q ?_
    simpa [h0] using H
  · refine PySem.SeqAt.RcNeAt.lists_lengths hl hb (by simpa using h0) hu prog w E Q ?_
    have : (!(items.size == 0)) = true := by simpa using h0
    rw [this] at H
    exact H

theorem step7 {m : Str → Option Value} {Hp O I : Addr} {hs : Array Value} {xs : List Nat} {mn : Nat} (hd : A.depth + 100 < recursionLimit) (hu : A.units + 200 < cLine) (B : Base w G) (hG : Ext G h) (hGL : G.get? L = none) (hGH : G.get? Hp = none) (hGO : G.get? O = none) (hN : h.Ns L m)
    (hm2 : m "heap" = some (.ref Hp)) (hm3 : m "order" = some (.ref O)) (hxl : xs.length < 64) (hxs : ∀ x ∈ xs, x < 64 ^ mn) (hHI : Hp < I) (hOI : O < I) (hHO : Hp ≠ O)
    (hHp : PlainL h Hp hs) (hO : PlainL h O #[]) (hH : HeapIs G h xs mn I hs) (hperm : (hs.toList.map (eidx h)).Perm (List.range xs.length)) :
    wpAny (model prog w) A (exec (lawSt 6) (lawEnv L cd)) (fun f s' => f = .next ∧ ∃ (h' : Heap) (t' : Nat) (out : List Nat) (os : List Value), s' = S σ h' t' ∧ PlainL h' O os.toArray ∧ IntsAre os (out.map fun k : Nat => (k : Int)) ∧ out.Perm (List.range xs.length) ∧ (out.Pairwise fun i j => rankN xs i ≤ rankN xs j) ∧
        (∀ b o, b ≠ Hp → b ≠ O → h.get? b = some o → h'.get? b = some o)) (fun _ _ => False) (S σ h t) := by
  have hLH : L ≠ Hp := by rintro rfl; obtain ⟨o, _, _, e, hd, _⟩ := hN; obtain ⟨o', _, e', _, _, hd'⟩ := hHp; rw [e] at e'; cases e'; rw [hd] at hd'; cases hd'
  have hLO : L ≠ O := by rintro rfl; obtain ⟨o, _, _, e, hd, _⟩ := hN; obtain ⟨o', _, e', _, _, hd'⟩ := hO; rw [e] at e'; cases e'; rw [hd] at hd'; cases hd'
  let J : Nat → Shared → Prop := fun n s => ∃ (h₁ : Heap) (t₁ : Nat) (hs : Array Value) (out : List Nat) (os : List Value), s = S σ h₁ t₁ ∧ Ext G h₁ ∧ (∀ b o, b ≠ Hp → b ≠ O → h.get? b = some o → h₁.get? b = some o) ∧ PlainL h₁ Hp hs ∧ hs.size = n ∧ PlainL h₁ O os.toArray ∧ IntsAre os (out.map fun k : Nat => (k : Int)) ∧ HeapIs G h₁ xs mn I hs ∧
    (out ++ hs.toList.map (eidx h₁)).Perm (List.range xs.length) ∧ (out.Pairwise fun i j => rankN xs i ≤ rankN xs j) ∧ (∀ k ∈ out, ∀ v ∈ hs, rankN xs k ≤ ekey xs h₁ v)
  refine wpAny_While (codeAny_mono (R := fun r s' => r = .ok .next ∧ J 0 s') (codeAny_whileLoop J ?turn hs.size ?init) ?after)
  case init => exact ⟨h, t, hs, [], [], rfl, hG, fun b o _ _ e => e, hHp, rfl, hO, IntsAre.nil, hH, by simpa using hperm, List.Pairwise.nil, by simp⟩
  case after =>
    rintro r s' ⟨rfl, h₁, t₁, hs₁, out, os, rfl, _, e2, e3, e4, e5, e6, e7, e8, e9, e10⟩
    refine ⟨rfl, h₁, t₁, out, os, rfl, e5, e6, ?_, e9, e2⟩
    have : hs₁ = #[] := Array.eq_empty_of_size_eq_zero e4
    subst this
    simpa using e8
  case turn =>
    rintro n s ⟨h₁, t₁, hs₁, out, os, rfl, e1, e2, e3, e4, e5, e6, e7, e8, e9, e10⟩
    have hN₁ : h₁.Ns L m := hN.at' fun o e => e2 L o hLH hLO e
    refine wpAny_isTrue_Compare1 <| rLoc hN₁ hm2 <| rNil fun h₂ l₂ x₂ => rNeNil (e3.keeps x₂).isList l₂.isList (by omega) <| wpAny_truthy_bool ?_
    by_cases h0 : n = 0
    · subst h0
      rw [e4]
      simp only [beq_self_eq_true, Bool.not_true, Bool.false_eq_true, if_false]
      obtain ⟨f1, f2⟩ := e7.up e1 (e1.trans x₂) fun b o _ e => x₂ b o e
      have hemp : hs₁ = #[] := Array.eq_empty_of_size_eq_zero e4
      subst hemp
      exact wpAny_execs_nil ⟨by first | rfl | trivial, h₂, t₁, #[], out, os, rfl, e1.trans x₂, fun b o n1 n2 e => x₂ b o (e2 b o n1 n2 e), e3.keeps x₂, rfl, e5.keeps x₂, e6, f1, by simpa using e8, e9, by simp⟩
    · have hb : (!(hs₁.size == 0)) = true := by rw [e4]; simpa using h0
      rw [hb]
      simp only [if_true]
      obtain ⟨ys, last, rfl⟩ : ∃ ys last, hs₁ = Array.push ys last := ⟨hs₁.pop, hs₁.back!, Array.eq_push_pop_back!_of_size_ne_zero (by omega)⟩
      have hsz : ys.size + 1 = n := by rw [← e4]; simp
      have g2 := e1.trans x₂
      have B2 := B.ext g2
      have hN₂ := hN₁.keeps x₂
      obtain ⟨f1, f2⟩ := e7.up e1 g2 fun b o _ e => x₂ b o e
      have f3 : ∀ v ∈ ys.push last, ekey xs h₂ v = ekey xs h₁ v := fun v hv => by
        obtain ⟨k, y⟩ := e7.all v hv
        exact (ekey_of ((y.up fun b o _ e => x₂ b o e).at g2)).trans (ekey_of (y.at e1)).symm
      have hgd : Ext G (dropAt h₂ Hp) := g2.drop hGH
      have hIne : ∀ b : Nat, I < b → b ≠ O ∧ b ≠ Hp := fun b hb => ⟨Nat.ne_of_gt (Nat.lt_trans hOI hb), Nat.ne_of_gt (Nat.lt_trans hHI hb)⟩
      have toG : ∀ v k, ElemUp G h₂ xs mn I v k → ElemAt (dropAt h₂ Hp) xs mn v k := fun v k x => (x.up fun b o hb e => ((dropAt_same h₂ Hp).2 b (hIne b hb).2).trans e).at hgd
      have hdrop : ∀ v k, ElemUp G h₂ xs mn I v k → ekey xs h₂ v = ekey xs (dropAt h₂ Hp) v := fun v k x => (ekey_of (x.at g2)).trans (ekey_of (toG v k x)).symm
      have hheap : IsHeap (ekey xs (dropAt h₂ Hp)) (ys.push last) := f1.heap.congr fun v hv => let ⟨k, x⟩ := f1.all v hv; hdrop v k x
      obtain ⟨p1, p2, p3⟩ := pop_spec (r := ekey xs (dropAt h₂ Hp)) (lt := fun v v' => decide (ekey xs (dropAt h₂ Hp) v < ekey xs (dropAt h₂ Hp) v')) (fun _ _ => rfl) hheap
      refine wpAny_execs_cons <| wpAny_Expr <| MethodCall_ <| rLoc hN₂ hm3 <| rMethod (e5.keeps x₂) F.slot_list_append F.type_list_append <| cwM <| args_cons <| Subscript_ <| Call_ <| rGlob B2 (by kernel_rfl) <| cwD (B2.X 72 _ rfl) rfl <| args_cons <| rLoc hN₂ hm2 <| args_nil ⟨B2.X 72 _ rfl, ?_⟩
      refine heappop_call (lt := fun v v' => decide (ekey xs (dropAt h₂ Hp) v < ekey xs (dropAt h₂ Hp) v')) (P := fun v => ∃ k, ElemAt (dropAt h₂ Hp) xs mn v k) (B.ext hgd) (dropAt_ext h₂ Hp) (dropAt_self h₂ Hp) (e3.keeps x₂) (by have := e8.length_eq; simp at this; omega) (elem_cmp hxs hxl) (fun v hv => let ⟨k, x⟩ := f1.all v hv; ⟨k, toG v k x⟩) (by omega) (by omega) fun h₃ t₃ g3 l₃ => ?_
      have k23 : ∀ b o, b ≠ Hp → h₂.get? b = some o → h₃.get? b = some o := fun b o hb e => g3 b o (((dropAt_same h₂ Hp).2 b hb).trans e)
      have htop : popTop ys last ∈ ys.push last := by have := p2.subset (List.mem_cons_self ..); simpa using this
      have hrest : ∀ v ∈ popRest (fun v v' => decide (ekey xs (dropAt h₂ Hp) v < ekey xs (dropAt h₂ Hp) v')) ys last, v ∈ ys.push last := fun v hv => by have := p2.subset (List.mem_cons_of_mem _ (by simpa using hv)); simpa using this
      obtain ⟨k0, y0⟩ := f1.all _ htop
      have y0k := ekey_of (toG _ _ y0)
      have y0i := eidx_of (y0.at g2)
      have y0e := f3 _ htop
      have y0e2 := ekey_of (y0.at g2)
      generalize popRest (fun v v' => decide (ekey xs (dropAt h₂ Hp) v < ekey xs (dropAt h₂ Hp) v')) ys last = rest at *
      generalize popTop ys last = top at *
      have y0' := y0
      obtain ⟨hk0, e0, pp, u0, vv, rfl, hIe, l0, _, _⟩ := y0
      refine rInt fun _ _ => rItem (l0.at fun o e => k23 _ o (hIne _ hIe).2 e) (by omega) (by omega) rfl <| args_nil <| rAppend ((e5.keeps x₂).at fun o e => k23 O o (Ne.symm hHO) e) (by have := e6.length; have := e8.length_eq; simp at *; omega) fun h₄ l₄ hs₄ => ?_
      have k24 : ∀ b o, b ≠ Hp → b ≠ O → h₂.get? b = some o → h₄.get? b = some o := fun b o n1 n2 e => hs₄.extBut b o n2 (k23 b o n1 e)
      have g4 : Ext G h₄ := (hgd.trans g3).but hs₄ hGO
      have H2 : HeapIs G h₂ xs mn I rest := ⟨fun v hv => f1.all v (hrest v hv), p1.congr fun v hv => let ⟨k, x⟩ := f1.all v (hrest v hv); (hdrop v k x).symm⟩
      obtain ⟨q1, q2⟩ := H2.up g2 g4 fun b o hb e => k24 b o (hIne b hb).2 (hIne b hb).1 e
      have q3 : ∀ v ∈ rest, ekey xs h₄ v = ekey xs h₁ v := fun v hv => by
        obtain ⟨k, y⟩ := q1.all v hv
        obtain ⟨k', y'⟩ := f1.all v (hrest v hv)
        have i1 := q2 v hv
        rw [eidx_of (y.at g4), eidx_of (y'.at g2)] at i1
        rw [ekey_of (y.at g4), i1, ← ekey_of (y'.at g2)]
        exact f3 v (hrest v hv)
      have hpl := p2.length_eq
      simp at hpl
      refine wpAny_execs_nil ⟨rest.size, by omega, h₄, _, rest, out ++ [k0], os ++ [.int (k0 : Nat) u0], rfl, g4, fun b o n1 n2 e => k24 b o n1 n2 (x₂ b o (e2 b o n1 n2 e)), l₃.extBut hs₄.extBut hHO, rfl, by simpa using l₄, ?_, q1, ?_, ?_, ?_⟩
      · rw [List.map_append]; exact ksk_snoc e6
      · rw [List.map_congr_left (g := eidx h₂) fun v hv => q2 v (by simpa using hv), List.append_assoc]
        refine (List.Perm.append_left out ?_).trans e8
        have := p2.map (eidx h₂)
        rw [List.map_cons, y0i] at this
        rw [List.map_congr_left (g := eidx h₂) (f := eidx h₁) fun v hv => (f2 v (by simpa using hv)).symm]
        exact this
      · rw [List.pairwise_append]
        refine ⟨e9, List.pairwise_singleton _ _, fun a ha b hb => ?_⟩
        rw [List.mem_singleton] at hb; subst hb
        have := e10 a ha _ htop
        rw [← y0e, y0e2] at this; exact this
      · intro k hk v hv
        rw [q3 v hv]
        rcases List.mem_append.mp hk with hk | hk
        · exact e10 k hk v (hrest v hv)
        · rw [List.mem_singleton] at hk; subst hk
          have := p3 v (by simpa using hv)
          obtain ⟨k', y'⟩ := f1.all v (hrest v hv)
          rw [y0k, ← hdrop v k' y', f3 v (hrest v hv)] at this
          exact this
end
end Mine
end

section -- LS8
open PySem PySem.W PyProof.Rows
set_option maxRecDepth 100000
set_option maxHeartbeats 2000000
namespace Mine
theorem bytes_of {f : Nat → Array UInt8} : ∀ {n : Nat} {ys : List Value}, ys.length = n → (∀ i y, ys[i]? = some y → ∃ u, y = Value.bytes (f i) u) → ∃ bs : List (Array UInt8 × Tok), ys = (bs.map fun p => Value.bytes p.1 p.2) ∧ bs.map (·.1) = (List.range n).map f := by
  intro n
  induction n with
  | zero => intro ys h _; obtain rfl : ys = [] := by simpa using h
            exact ⟨[], rfl, rfl⟩
  | succ n ih =>
    intro ys h hy
    have hn : n < ys.length := by omega
    obtain ⟨bs, e1, e2⟩ := ih (ys := ys.take n) (by simp; omega) fun i y e => hy i y (by
      rw [List.getElem?_take] at e
      split at e
      · exact e
      · cases e)
    obtain ⟨u, hu⟩ := hy n ys[n] (List.getElem?_eq_getElem hn)
    refine ⟨bs ++ [(f n, u)], ?_, ?_⟩
    · rw [List.map_append, ← e1]
      have : ys = ys.take n ++ [ys[n]] := by
        have h1 : ys.take (n + 1) = ys := List.take_of_length_le (by omega)
        rw [List.take_add_one, List.getElem?_eq_getElem hn] at h1
        exact h1.symm
      rw [hu] at this
      exact this
    · rw [List.map_append, e2, List.range_succ, List.map_append]; rfl

/-- the parts of the tape, in the order ks -/
noncomputable def partsOf (T : List UInt8) (wd : Nat) (ks : List Nat) : List UInt8 := (ks.map fun k => (T.drop (wd * k)).take wd).flatten
theorem partsOf_length {T : List UInt8} {wd n : Nat} : ∀ {ks : List Nat}, (∀ k ∈ ks, k < n) → T.length = wd * n → (partsOf T wd ks).length = wd * ks.length := by
  intro ks hk hT
  induction ks with
  | nil => simp [partsOf]
  | cons k r ih =>
    have h1 := ih fun k hk' => hk k (by simp [hk'])
    have h2 := hk k (by simp)
    have h3 : wd * k + wd ≤ wd * n := by rw [← Nat.mul_succ]; exact Nat.mul_le_mul_left wd h2
    unfold partsOf at h1 ⊢
    rw [List.map_cons, List.flatten_cons, List.length_append, h1, List.length_take, List.length_drop, List.length_cons, Nat.mul_add, Nat.mul_one]
    omega

section
variable {prog : Program} {w : World} {A : Around} {E : Value → Shared → Prop} {σ : Shared} {G h : Heap} {t : Nat} {L : Addr} {cd : Value} {env : Env} {Q : Value → Shared → Prop}

theorem rBytesC {x : List UInt8} {k : Nat} {pos : Pos} (H : ∀ u t', Q (.bytes x.toArray u) (S σ h t')) : wpAny (model prog w) A (eval (.Constant (.bytes x) k pos) env) Q E (S σ h t) := Constant_bytes (H _ _)

theorem step8 {m : Str → Option Value} {O : Addr} {os : List Value} {out : List Nat} {T : List UInt8} {wd n : Nat} {u₁ u₃ : Tok} (hh : A.handled = none) (hd : A.depth + 100 < recursionLimit) (B : Base w h) (hN : h.Ns L m)
    (hm : m "order" = some (.ref O)) (hO : PlainL h O os.toArray) (hi : IntsAre os (out.map fun k : Nat => (k : Int))) (hout : ∀ k ∈ out, k < n) (hlo : out.length = n) (hn2 : 2 ≤ n) (hn : n < 20) (hT : T.length = wd * n) (hw : wd = 3 ∨ wd = 6)
    (hc1 : h.IsCell (L + 1) (some (.int (wd : Nat) u₁))) (hc3 : h.IsCell (L + 3) (some (.bytes T.toArray u₃))) :
    wpC (model prog w) A (exec (lawSt 7) (lawEnv L cd)) (fun f s' => f = .next ∧ ∃ h' t' u, s' = S σ h' t' ∧ h'.Ns L (upd m "tape" (.bytes (swapped (partsOf T wd out) wd).toArray u)) ∧ Keep [L] h h') (fun _ _ => False) (S σ h t) := by
  have hb : wd * n ≤ 6 * 20 := Nat.mul_le_mul (by omega) (by omega)
  have hpl := partsOf_length hout hT
  refine assignC_Name <| callC_Expr <| rGlob B (by kernel_rfl) <| cwDC (B.X 28 _ rfl) rfl <| args_cons <| MethodCall_ <| rBytesC fun u₀ t₀ => rJoinM <| cwM <| args_cons <| rComp (cl := [("width", L + 1), ("turned", L + 3)]) <| rLoc hN hm <| itList (fun i y _ => ∃ u, y = Value.bytes ((T.drop (wd * out.getD i 0)).take wd).toArray u) hh hO.isList (by simp; have := hi.length; simp at this; omega) ⟨fun _ _ _ _ _ _ x => x, ?_⟩ ?_
  · intro i v C h₁ t₁ m₁ hil hv hG hlo' hN₁ hm₁
    obtain ⟨k', uk, hk', rfl⟩ := ints_at hi (by simpa using hv)
    rw [List.getElem?_map] at hk'
    obtain ⟨k, hk, rfl⟩ := Option.map_eq_some_iff.mp hk'
    have hkn := hout k (List.mem_of_getElem? hk)
    have h3 : wd * k + wd ≤ wd * n := by rw [← Nat.mul_succ]; exact Nat.mul_le_mul_left wd hkn
    have hmk : ((wd : Nat) : Int) * ((k : Nat) : Int) = ((wd * k : Nat) : Int) := by simp
    have hok : ∀ b, IntMulOk ((wd : Nat) : Int) b := fun b => IntMulOk.of_left (intBits_le_64 (by omega) (by omega))
    refine Subscript_ <| rCell (hc3.keeps hG) <| rSliceE <| wpAny_BinOp <| rCell (hc1.keeps hG) <| rLoc hN₁ hm₁ <| rMul (hok _) fun _ _ => wpAny_BinOp <| wpAny_BinOp <| rCell (hc1.keeps hG) <| rLoc hN₁ hm₁ <| rMul (hok _) fun _ _ => rCell (hc1.keeps hG) <| rAdd fun _ t₂ => ?_
    rw [hmk, show ((wd * k : Nat) : Int) + ((wd : Nat) : Int) = ((wd * k + wd : Nat) : Int) by omega]
    refine rBytesSlice (h := h₁) (by omega) (by simp; omega) (by simp; omega) fun h₂ t₃ u' x₂ => ⟨h₂, t₃, rfl, x₂, u', ?_⟩
    rw [Nat.add_sub_cancel_left, show out.getD i 0 = k by simp [hk]]
  · intro D h₁ t₁ ys hG hD hlD hsz hel
    have hysl : ys.toList.length = n := by have h1 := hi.length; simp at h1 hsz ⊢; omega
    obtain ⟨bs, e1, e2⟩ := bytes_of (f := fun i => ((T.drop (wd * out.getD i 0)).take wd).toArray) hysl fun i y e => hel i y (by simpa using e)
    have e1' : ys = (bs.map fun p => Value.bytes p.1 p.2).toArray := by rw [← e1]
    rw [e1'] at hlD
    have hbl : bs.length = n := by have := congrArg List.length e2; simpa using this
    have hfl : (bs.map (·.1.toList)).flatten = partsOf T wd out := by
      have : bs.map (·.1.toList) = (bs.map (·.1)).map Array.toList := by simp
      rw [this, e2]
      unfold partsOf
      congr 1
      rw [List.map_map]
      apply List.ext_getElem?
      intro i
      simp only [List.getElem?_map]
      by_cases hi' : i < n
      · rw [List.getElem?_range hi', List.getElem?_eq_getElem (by omega : i < out.length)]
        simp [show i < out.length by omega]
      · rw [List.getElem?_eq_none (by simp; omega), List.getElem?_eq_none (by omega)]; rfl
    refine args_nil <| rJoin hlD.isList (by omega) ?_ fun u₂ t₂ => ?_
    · have : (bs.map (·.1.size)).sum = ((bs.map (·.1.toList)).flatten).length := by simp [List.length_flatten, List.map_map, Function.comp_def]
      rw [this, hfl, hpl, hlo]; omega
    rw [hfl]
    refine args_cons <| rCell (hc1.keeps hG) <| args_nil ⟨(B.ext hG).X 28 _ rfl, ?_⟩
    refine byteswap_call (q := n) hh (B.ext hG) (by omega) (by omega) (by rw [hpl, hlo]) (by rw [hpl, hlo]; omega) (by omega) fun h₂ t₃ u' x₂ => ?_
    exact rStore ((hN.keeps hG).keeps x₂) fun h₃ t₄ hN₃ hs₃ => ⟨rfl, h₃, t₄, u', rfl, hN₃, (Keep.of_ext (hG.trans x₂)).trans (Keep.same hs₃)⟩
end
end Mine
end

section -- LS9
open PySem PySem.W PyProof.Rows
set_option maxRecDepth 100000
set_option maxHeartbeats 2000000
namespace Mine
section
variable {prog : Program} {w : World} {A : Around} {E : Value → Shared → Prop} {σ : Shared} {h : Heap} {t : Nat} {env : Env} {Q : Value → Shared → Prop}

theorem nfeCell {scope : Scope} {globals : Addr} {cl : List (Str × Addr)} {x : Str} {qual : Str} {QE : Env → Shared → Prop}
    (hc1 : ∀ n, cellsFrom n scope.names cl = (x, n) :: cl) (hc2 : ∀ g : Heap, pushCells g scope.names = g.push { cls := .type "cell", data := .cell none })
    (H : ∀ h' m, Ext h h' → h'.objs.size = h.objs.size + 2 → h'.Ns h.objs.size m → h'.IsCell (h.objs.size + 1) none → QE (newEnv scope h.objs.size globals ((x, h.objs.size + 1) :: cl) qual none .none (some env) builtinsNs) (S σ h' t)) :
    wpAny (model prog w) A (newFunctionEnv scope globals cl [] qual none .none (some env)) QE E (S σ h t) := by
  simp only [newFunctionEnv, Option.isSome_some, if_true]
  refine wpAny_bind (wpAny_alloc ?_)
  refine wpAny_bind (wpAny_layCells _ (fun name kind cells => by cases hkc : kind == NameKind.cell <;> simp [hkc]) _ _ _ _ ?_)
  rw [hc1, hc2]
  simp only [List.forIn_nil]
  refine wpAny_bind (wpAny_pure (wpAny_pure ?_))
  have e : (h.push { cls := .type "dict", data := .dict #[] }).objs.size = h.objs.size + 1 := Heap.size_push _ _
  have := H ((h.push { cls := .type "dict", data := .dict #[] }).push { cls := .type "cell", data := .cell none }) _ ((Ext.push _ _).trans (Ext.push _ _)) (by rw [Heap.size_push, e]) ((Heap.Ns.new h (.type "dict")).push _) (by rw [← e]; exact ⟨_, Heap.get?_push_size _ rfl, rfl⟩)
  rw [← e] at this
  exact this

theorem compBlockCell {elt iter : Expr} {scope : Scope} {cl : List (Str × Addr)} {pos px : Pos} {x : Str} {I : Addr} {fp wr : List Addr} {n : Nat} {P : Nat → Value → Prop} {St : Nat → Heap → Prop}
    {RR : Value → Addr → Result → Shared → Prop} {G : Heap} (Elt : Nat → Value → Heap → Prop)
    (W : Walks prog w A I fp wr n P St) (hn : n < 100000) (hc1 : ∀ n, cellsFrom n scope.names cl = (x, n) :: cl) (hc2 : ∀ g : Heap, pushCells g scope.names = g.push { cls := .type "cell", data := .cell none }) (hkind : scope.kind = .function)
    (hxk : ∀ c C, (compEnvC scope ((x, c) :: cl) C env).kindOf x = some .cell)
    (hst : St 0 h) (hfp : ∀ b ∈ fp, b < h.objs.size) (hG : Ext G h) (hGwr : ∀ b ∈ wr, G.get? b = none)
    (hE : ∀ i y h₁ h₂, Ext G h₂ → (∀ b o, h.objs.size + 3 ≤ b → h₁.get? b = some o → h₂.get? b = some o) → Elt i y h₁ → Elt i y h₂)
    (turn : ∀ i v C c h' t', i < n → P i v → Ext G h' → h.objs.size + 3 ≤ h'.objs.size → h'.IsCell c (some v) → wpAny (model prog w) A (eval elt (compEnvC scope ((x, c) :: cl) C env))
      (fun y s' => ∃ h'' t'', s' = S σ h'' t'' ∧ Ext h' h'' ∧ Elt i y h'') (fun _ _ => False) (S σ h' t'))
    (fin : ∀ D C h' t' ys m, Ext G h' → h.objs.size ≤ D → D ≠ C → G.get? C = none → C < h.objs.size + 3 → h'.Ns C m → PlainL h' D ys → ys.size = n → (∀ i y, ys[i]? = some y → Elt i y h') → RR (.ref D) C (.ok .next) (S σ h' t')) :
    wpAny (model prog w) A (newList []) (fun acc s₃ => wpAny (model prog w) A (newFunctionEnv scope env.globals cl [] env.qual none .none (some env)) (fun cenv s₄ =>
      codeAny (model prog w) A (.compStart (.ListComp elt [⟨.Name x px, iter, [], 0⟩] scope pos) 0 (.ref I) acc { cenv with scope := relabel scope env }) (RR acc cenv.locals) s₄) E s₃) E (S σ h t) := by
  refine wpAny_newObj_type ?_
  show wpAny _ _ _ _ _ (S σ (h.push { cls := .type "list", dict := none, data := .seq ([] : List Value).toArray }) t)
  have hacc0 : PlainL (h.push { cls := .type "list", dict := none, data := .seq ([] : List Value).toArray }) h.objs.size #[] := ⟨_, _, Heap.get?_push_size _ rfl, rfl, rfl, rfl⟩
  have hx0 := Ext.push h { cls := .type "list", dict := none, data := .seq ([] : List Value).toArray }
  have hz0 : (h.push { cls := .type "list", dict := none, data := .seq ([] : List Value).toArray }).objs.size = h.objs.size + 1 := Heap.size_push _ _
  generalize h.push { cls := .type "list", dict := none, data := .seq ([] : List Value).toArray } = H2 at *
  refine nfeCell hc1 hc2 fun h₁ m x₁ hz₁ hN₁ hcl₁ => ?_
  rw [hz0] at hz₁ hN₁ hcl₁ ⊢
  generalize hDe : h.objs.size = D at *
  have x01 := hx0.trans x₁
  have hacc : PlainL h₁ D #[] := hacc0.keeps x₁
  have hst₁ : St 0 h₁ := W.frame _ _ _ hst fun b _ o e => x01 b o e
  have fresh : ∀ a, D ≤ a → G.get? a = none := fun a ha => by
    cases e : G.get? a with
    | none => rfl
    | some o' => exact absurd (Heap.lt_size (hG _ _ e)) (Nat.not_lt.mpr (hDe ▸ ha))
  have loop : ∀ tk, codeAny (model prog w) A (.compLoop (.ListComp elt [⟨.Name x px, iter, [], 0⟩] scope pos) 0 (.ref I) (.ref D) (compEnvC scope ((x, D + 1 + 1) :: cl) (D + 1) env)) (RR (.ref D) (D + 1)) (S σ h₁ tk) := by
    intro tk
    have hCc : (D + 1 : Nat) ≠ D + 1 + 1 := Nat.ne_of_lt (Nat.lt_succ_self _)
    refine compLoop1 (G := G) (lo := D + 3) [D + 1, D + 1 + 1] (fun h' => (∃ m, h'.Ns (D + 1) m) ∧ ∃ v, h'.IsCell (D + 1 + 1) v) Elt W hn ?_ ?_ (fresh _ (Nat.le_refl _)) (Nat.lt_add_of_pos_right (by decide)) hGwr ?_ ?_ ?_ hE (hG.trans x01) hst₁ hacc ⟨⟨_, hN₁⟩, _, hcl₁⟩ ?_ ?_
    · intro a ha
      have hfpD : ∀ b ∈ fp, b < D := hfp
      rcases List.mem_cons.mp ha with rfl | ha
      · exact ⟨fun hf => absurd (hfpD _ hf) (Nat.not_lt.mpr (Nat.le_succ _)), Nat.ne_of_gt (Nat.lt_succ_self _), fresh _ (Nat.le_succ _), Nat.add_lt_add_left (by decide) _⟩
      · rw [List.mem_singleton] at ha; subst ha
        exact ⟨fun hf => absurd (hfpD _ hf) (Nat.not_lt.mpr (Nat.le_add_right _ 2)), Nat.ne_of_gt (Nat.lt_succ_of_lt (Nat.lt_succ_self _)), fresh _ (Nat.le_add_right _ 2), Nat.lt_succ_self _⟩
    · exact fun hf => absurd (hfp _ hf) (Nat.lt_irrefl _)
    · exact fun b hb => Nat.lt_of_lt_of_le (hfp b (W.sub b hb)) (Nat.le_add_right _ 3)
    · rintro h₂ h₃ hk ⟨⟨m, hm⟩, v, hv⟩
      exact ⟨⟨m, hm.at' (hk _ (by simp))⟩, v, let ⟨o, ho, r⟩ := hv; ⟨o, hk _ (by simp) o ho, r⟩⟩
    · rintro h₂ ⟨_, v, ⟨o, ho, _⟩⟩
      exact Heap.lt_size ho
    · rintro i v h₂ t₂ hi hP hG₂ hlo ⟨⟨m, hm⟩, v₀, hv₀⟩
      refine wpAny_assign_Name (rStoreC (env := compEnvC scope ((x, D + 1 + 1) :: cl) (D + 1) env) (c := D + 1 + 1) hv₀ (fun h₃ hv₃ hs₃ => ?_) (by simp [compEnvC, relabel, hkind]) (hxk _ _) (by simp [compEnvC]))
      have hlo₃ : D + 3 ≤ h₃.objs.size := by rw [hs₃.1]; exact hlo
      refine wpAny_mono (turn i v (D + 1) (D + 1 + 1) h₃ t₂ hi hP (hG₂.but hs₃ (fresh _ (Nat.le_add_right _ 2))) hlo₃ hv₃) ?_ (fun _ _ x => x)
      rintro y s' ⟨h₄, t₄, rfl, x₄, hy⟩
      refine ⟨h₄, t₄, rfl, fun b o hb e => x₄ b o (hs₃.extBut b o (fun h => hb (by simp [h])) e), ⟨⟨m, (hm.sameBut hs₃ hCc).keeps x₄⟩, _, hv₃.keeps x₄⟩, hy⟩
    · rintro h₂ t₂ ys hG₂ ⟨⟨m, hm⟩, _⟩ hl hsz hel
      exact fin D (D + 1) h₂ t₂ ys m hG₂ (Nat.le_refl _) (Nat.ne_of_lt (Nat.lt_succ_self _)) (fresh _ (Nat.le_succ _)) (Nat.add_lt_add_left (by decide) _) hm hl hsz hel
  exact codeAny_compStart_list (loop _) (W.self 0 (S σ h₁ _) _ _ hst₁ (loop _))
end
end Mine
end

section -- LS9b
open PySem PySem.W PyProof.Rows
set_option maxRecDepth 100000
set_option maxHeartbeats 2000000
namespace Mine
theorem dg_int (mn x i : Nat) (hi : i < mn) : ((x : Int).fdiv (64 ^ (((mn : Nat) : Int) - 1 + (i : Nat) * (-1)).toNat)).fmod 64 = dg mn x i := by
  rw [show (((mn : Nat) : Int) - 1 + (i : Nat) * (-1)).toNat = mn - 1 - i by omega]
  unfold dg
  rw [Int.fdiv_eq_ediv_of_nonneg _ (Int.le_of_lt (Int.pow_pos (by omega))), Int.fmod_eq_emod_of_nonneg _ (by omega)]
  generalize mn - 1 - i = k
  rw [Int.natCast_emod, Int.natCast_ediv, Int.natCast_pow]; rfl
section
variable {prog : Program} {w : World} {A : Around} {E : Value → Shared → Prop} {σ : Shared} {G h : Heap} {t : Nat} {L : Addr} {cd : Value} {env : Env} {Q : Value → Shared → Prop}

theorem rNegI {i : Int} {k : Nat} {p pos : Pos} (H : ∀ u t', Q (.int (-i) u) (S σ h t')) : wpAny (model prog w) A (eval (.UnaryOp .USub (.Constant (.int i) k p) pos) env) Q E (S σ h t) :=
  UnaryOp_ (rInt fun _ _ => PyProof.Rows.neg_int (H _ _))

noncomputable def AsgItC (prog : Program) (w : World) (A : Around) (σ : Shared) (env : Env) (scope : Scope) (cl : List (Str × Addr)) (x z : Str) (elt : Expr) (QF : Flow → Shared → Prop) (it : Value) (s₂ : Shared) : Prop :=
  ∃ (h : Heap) (t : Nat) (I : Addr) (fp wr : List Addr) (n : Nat) (P : Nat → Value → Prop) (St : Nat → Heap → Prop) (G : Heap) (Elt : Nat → Value → Heap → Prop) (m : Str → Option Value), it = .ref I ∧ s₂ = S σ h t ∧ Walks prog w A I fp wr n P St ∧ n < 100000 ∧ St 0 h ∧ (∀ b ∈ fp, b < h.objs.size) ∧ Ext G h ∧ (∀ b ∈ wr, G.get? b = none) ∧ G.Ns env.locals m ∧
      (∀ i y h₁ h₂, Ext G h₂ → (∀ b o, h.objs.size + 3 ≤ b → h₁.get? b = some o → h₂.get? b = some o) → Elt i y h₁ → Elt i y h₂) ∧
      (∀ i v C c h' t', i < n → P i v → Ext G h' → h.objs.size + 3 ≤ h'.objs.size → h'.IsCell c (some v) → wpAny (model prog w) A (eval elt (compEnvC scope ((x, c) :: cl) C env))
        (fun y s' => ∃ h'' t'', s' = S σ h'' t'' ∧ Ext h' h'' ∧ Elt i y h'') (fun _ _ => False) (S σ h' t')) ∧
      (∀ D h' t' ys, Heap.ExtBut env.locals G h' → h'.Ns env.locals (upd m z (.ref D)) → h.objs.size ≤ D → PlainL h' D ys → ys.size = n →
        (∃ h₁, Ext G h₁ ∧ (∀ i y, ys[i]? = some y → Elt i y h₁) ∧ ∀ b o, h.objs.size + 3 ≤ b → h₁.get? b = some o → h'.get? b = some o) → QF .next (S σ h' t'))

theorem rAssignCompCell {elt iter : Expr} {x z : Str} {px pz spos : Pos} {scope : Scope} {cl : List (Str × Addr)} {pos : Pos} {QF : Flow → Shared → Prop}
    (H : wpAny (model prog w) A (eval iter env) (fun xv s₁ => wpAny (model prog w) A (pyIter xv) (AsgItC prog w A σ env scope cl x z elt QF) E s₁) E (S σ h t))
    (hsw : swapsWith (.ListComp elt [⟨.Name x px, iter, [], 0⟩] scope pos) (some (.Name z pz)) spos.line env = pure true := by rfl)
    (hz : env.kindOf z = some .local := by rfl) (hek : env.scope.kind = .function := by rfl)
    (hclos : closureFor scope env = pure cl := by rfl) (hc1 : ∀ n, cellsFrom n scope.names cl = (x, n) :: cl := by intro _; rfl) (hc2 : ∀ g : Heap, pushCells g scope.names = g.push { cls := .type "cell", data := .cell none } := by intro _; rfl) (hkind : scope.kind = .function := by rfl)
    (hxk : ∀ c C, (compEnvC scope ((x, c) :: cl) C env).kindOf x = some .cell := by intro _ _; rfl)
    (hnames : ∀ y ∈ scope.names, y.2 = .local → scope.names.lookup y.1 = some .local := by decide)
    (hs : ∀ x, foldedSetIterable iter env x = pure x := by intro _; rfl) :
    wpAny (model prog w) A (exec (.Assign [.Name z pz] (.ListComp elt [⟨.Name x px, iter, [], 0⟩] scope pos) spos) env) QF E (S σ h t) := by
  rw [exec_Assign_Name_used _ _ _ _ hsw]
  refine wpAny_bind (wpAny_standAt (wpAny_bind ?_))
  show wpAny _ A (do let _ ← comprehension (.ListComp elt [⟨.Name x px, iter, [], 0⟩] scope pos) scope env _ (newList []) false (eval iter env) (some (assign (.Name z pz) env))) _ _ (S σ h t)
  refine wpAny_bind (wpAny_mono (wpAny_comprehension_free (use := some (assign (.Name z pz) env)) (Q := fun _ s' => QF .next s') rfl hs hclos hkind hnames
    (wpAny_mono H (fun xv s₁ h₁ => wpAny_mono h₁ (fun it s₂ h₂ => ?_) fun _ _ e => e) fun _ _ e => e)) (fun _ s' hq => wpAny_pure (wpAny_pure hq)) fun _ _ e => e)
  obtain ⟨h, t, I, fp, wr, n, P, St, G, Elt, m, rfl, rfl, W, hn, hst, hfp, hG, hGwr, hGL, hE, turn, hQ⟩ := h₂
  refine compBlockCell (RR := fun acc C => compPost (model prog w) A E (some (assign (.Name z pz) env)) (fun _ s' => QF .next s') acc C) Elt W hn hc1 hc2 hkind hxk hst hfp hG hGwr hE turn ?_
  intro D C h' t' ys mC hG' hD hDC hGC hC hm hl hsz hel
  have hLC : env.locals ≠ C := by rintro rfl; obtain ⟨o, _, _, ho, _⟩ := hGL; rw [hGC] at ho; cases ho
  have hLh : env.locals < h.objs.size := by obtain ⟨o, _, _, ho, _⟩ := hGL; exact Heap.lt_size (hG _ _ ho)
  have hLD : env.locals ≠ D := Nat.ne_of_lt (Nat.lt_of_lt_of_le hLh hD)
  show wpAny _ A (assign (.Name z pz) env (.ref D)) _ _ _
  refine wpAny_assign_Name (rStore (hGL.keeps hG') (fun h₂ t₂ hn₂ hs₂ => ?_) hek hz)
  refine ⟨mC, hm.sameBut hs₂ (Ne.symm hLC), fun h₃ hs₃ => ?_⟩
  refine hQ D h₃ _ ys (fun b o hb e => hs₃.extBut b o (by rintro rfl; rw [hGC] at e; cases e) (hs₂.extBut b o hb (hG' b o e))) (hn₂.sameBut hs₃ hLC) hD ((hl.extBut hs₂.extBut (Ne.symm hLD)).extBut hs₃.extBut hDC) hsz
    ⟨h', hG', hel, fun b o hb e => hs₃.extBut b o (Nat.ne_of_gt (Nat.lt_of_lt_of_le hC hb)) (hs₂.extBut b o (Nat.ne_of_gt (Nat.lt_of_lt_of_le hLh (Nat.le_trans (Nat.le_add_right _ 3) hb))) e)⟩

theorem step9 {m : Str → Option Value} {N : Addr} {ws : List Value} {xs : List Nat} {mn : Nat} {u₄ : Tok} (hh : A.handled = none) (hd : A.depth + 100 < recursionLimit) (B : Base w h) (hN : h.Ns L m)
    (hl : h.IsList N ws.toArray) (hi : IntsAre ws (xs.map fun x : Nat => (x : Int))) (hxl : xs.length < 64) (hmn : mn = 4 ∨ mn = 8) (hc2 : h.IsCell (L + 2) (some (.ref N))) (hc4 : h.IsCell (L + 4) (some (.int (mn : Nat) u₄))) :
    wpAny (model prog w) A (exec (lawSt 8) (lawEnv L cd)) (fun f s' => f = .next ∧ ∃ h' t' F fs, s' = S σ h' t' ∧ h'.Ns L (upd m "figures" (.ref F)) ∧ h.objs.size ≤ F ∧ PlainL h' F fs ∧ fs.size = xs.length ∧
        (∀ i y, fs[i]? = some y → NumsAt h.objs.size h' y (figs mn (xs.getD i 0))) ∧ Keep [L] h h') (fun _ _ => False) (S σ h t) := by
  have hlt : N < h.objs.size := by obtain ⟨o, ho, _⟩ := hl; exact Heap.lt_size ho
  have hwl : ws.length = xs.length := by have := hi.length; simpa using this
  refine rAssignCompCell (cl := [("many", L + 4)]) <| rCell hc2 <| wpAny_pyIter_list (s := S σ h t) hl ⟨_, t, h.objs.size, _, _, _, _, _, h, fun i y h' => NumsAt (h.objs.size + 4) h' y (figs mn (xs.getD i 0)), m, rfl, rfl, Walks.list hh h.objs.size N (Nat.ne_of_lt hlt) ws.toArray, by simp; omega, ⟨⟨_, Heap.get?_push_size _ rfl, rfl, rfl⟩, hl.push _⟩, ?_, Ext.push _ _, ?_, hN, ?_, ?_, ?_⟩
  · intro b hb
    show b < (h.push _).objs.size
    rw [Heap.size_push]
    rcases List.mem_cons.mp hb with rfl | hb
    · exact Nat.lt_succ_self _
    · rw [List.mem_singleton] at hb; subst hb; exact Nat.lt_succ_of_lt hlt
  · intro b hb
    rw [List.mem_singleton] at hb; subst hb; exact (Ext.refl h).fresh
  · intro i y h₁ h₂ _ k x
    show NumsAt _ _ _ _
    rw [Heap.size_push] at k
    exact NumsAt.up x k
  · intro i v C c h₁ t₁ hin hv hG hlo hcell
    rw [Heap.size_push] at hlo
    obtain ⟨x', ux, hx', rfl⟩ := ints_at hi (by simpa using hv)
    rw [List.getElem?_map] at hx'
    obtain ⟨x, hx, rfl⟩ := Option.map_eq_some_iff.mp hx'
    have hxe : xs.getD i 0 = x := by simp [hx]
    have B1 := B.ext hG
    refine rComp (cl := [("number", c)]) <| Call_ <| rBuilt B1 (by kernel_rfl) boot_range <| cwT <| args_cons <| wpAny_BinOp <| rCell (hc4.keeps hG) <| rInt fun _ _ => rSub fun _ _ => args_cons <| rNegI fun _ _ => args_cons <| rNegI fun _ _ => args_nil <| rRange3' (by decide) (by decide) fun h₂ x₂ hz₂ hR => ?_
    refine itRange (n := mn) (fun j y _ => ∃ u, y = .int (dg mn x j) u) hh hR (by rcases hmn with rfl | rfl <;> decide) (by rcases hmn with rfl | rfl <;> decide) (by omega) ⟨fun _ _ _ _ _ _ x => x, ?_⟩ ?_
    · rintro j v C' h₃ t₃ m₃ hj ⟨uj, rfl⟩ hG₃ hlo₃ hN₃ hm₃
      refine wpAny_BinOp <| wpAny_BinOp <| rCell ((hcell.keeps x₂).keeps hG₃) <| wpAny_BinOp <| rInt fun _ _ => rLoc hN₃ hm₃ <| rPow (by omega) (by omega) (by decide) fun _ _ => rDiv (Int.pow_ne_zero (by decide)) (pow_nat_lt (b := 64) (by omega) (by omega)) fun _ _ => rInt fun _ _ => rMod (by decide) fun u' t' => ?_
      exact ⟨h₃, t', rfl, Ext.refl _, u', by rw [dg_int mn x j hj]⟩
    · intro D h₃ t₃ ys hG₃ hD hl₃ hsz hel
      refine ⟨h₃, t₃, rfl, x₂.trans hG₃, D, ys.toList, rfl, ?_, by simpa using hl₃, ?_⟩
      · exact Nat.le_trans hlo (Nat.le_trans (by rw [hz₂]; exact Nat.le_succ _) hD)
      · rw [hxe]
        refine ints_of (by rw [figs_length]; exact hsz) fun j y e => ?_
        obtain ⟨u, rfl⟩ := hel j y e
        have hj : j < mn := by have := (Array.getElem?_eq_some_iff.mp e).1; omega
        exact ⟨_, u, figs_at hj, rfl⟩
  · rintro F h' t' fs hk hN' hF hl' hsz ⟨h₂, hx₂, hel, hup⟩
    rw [Heap.size_push] at hF hup
    refine ⟨rfl, h', t', F, fs, rfl, hN', Nat.le_of_succ_le hF, hl', by rw [hsz]; simpa using hwl, fun i y e => (NumsAt.up (hel i y e) fun b o hb e => hup b o hb e).lower (Nat.le_add_right _ 4), fun b o hb e => hk b o (by simpa using hb) e⟩
end
end Mine
end

section -- LS10
open PySem PySem.W PyProof.Rows
set_option maxRecDepth 100000
set_option maxHeartbeats 2000000
namespace Mine
theorem rank_eq (xs : List Nat) (i : Nat) : rank (xs.map fun x : Nat => (x : Int)) i = rankN xs i := by
  unfold rank rankN
  have : (xs.map fun x : Nat => (x : Int)).getD i 0 = ((xs.getD i 0 : Nat) : Int) := by
    simp only [List.getD_eq_getElem?_getD, List.getElem?_map]
    cases xs[i]? <;> simp
  rw [this]; omega
theorem getD_cast (xs : List Nat) (i : Nat) : (xs.map fun x : Nat => (x : Int)).getD i 0 = ((xs.getD i 0 : Nat) : Int) := by
  simp only [List.getD_eq_getElem?_getD, List.getElem?_map]
  cases xs[i]? <;> simp
section
variable {prog : Program} {w : World} {A : Around} {E : Value → Shared → Prop} {σ : Shared} {G h : Heap} {t : Nat} {L : Addr} {cd : Value} {env : Env} {Q : Value → Shared → Prop}

theorem step10 {m : Str → Option Value} {N : Addr} {ws : List Value} {xs : List Nat} (hh : A.handled = none) (hu : A.units + 100 < cLine) (B : Base w h) (hN : h.Ns L m)
    (hl : h.IsList N ws.toArray) (hi : IntsAre ws (xs.map fun x : Nat => (x : Int))) (hx2 : 2 ≤ xs.length) (hxl : xs.length < 64) (hc2 : h.IsCell (L + 2) (some (.ref N))) :
    wpAny (model prog w) A (exec (lawSt 9) (lawEnv L cd)) (fun f s' => f = .next ∧ ∃ (h' : Heap) (t' : Nat) (R : Addr) (rs : List Value) (p : List Nat), s' = S σ h' t' ∧ h'.Ns L (upd m "row" (.ref R)) ∧ PlainL h' R rs.toArray ∧ rs.length = xs.length ∧
        (∀ i v, rs[i]? = some v → PairAt h' v ((xs.getD (p.getD i 0) 0 : Nat) : Int) ((p.getD i 0 : Nat) : Int)) ∧ p.Perm (List.range xs.length) ∧ (p.Pairwise fun i j => rankN xs i < rankN xs j) ∧ Keep [L] h h') (fun _ _ => False) (S σ h t) := by
  have hwl : ws.length = xs.length := by have := hi.length; simpa using this
  refine rSt <| Call_ <| rBuilt B (by kernel_rfl) boot_sorted <| cwB <| args_cons <| rComp (cl := [("numbers", L + 2)]) <| Call_ <| rBuilt B (by kernel_rfl) boot_range <| cwT <| args_cons <| Call_ <| rBuilt B (by kernel_rfl) boot_len <| cwB <| args_cons <| rCell hc2 <| args_nil <| rLen hl (by simp; omega) fun _ _ => args_nil <| rRange1 fun h₁ t₁ v₁ v₂ he hR => ?_
  have x₁ : Ext h h₁ := he ▸ Ext.push _ _
  clear he
  have hsz : (ws.toArray.size : Int) = ((xs.length : Nat) : Int) := by simp [hwl]
  rw [hsz] at hR
  refine itRange (n := xs.length) (fun i y h' => ∃ a u₁ u₂, y = .ref a ∧ h₁.objs.size + 3 ≤ a ∧ h'.IsList a #[.int ((xs.getD i 0 : Nat) : Int) u₁, .int (i : Nat) u₂]) hh hR (small_one (by omega) (by omega) (by omega) (by omega)) (by rw [rangeSize_one]; split <;> omega) (by omega) ⟨?_, ?_⟩ ?_
  · rintro i y h₂ h₃ _ k ⟨a, u₁, u₂, rfl, ha, l⟩
    exact ⟨a, u₁, u₂, rfl, ha, l.at fun o e => k a o ha e⟩
  · rintro i v C h₂ t₂ m₂ hin ⟨uv, rfl⟩ hG hlo hN₂ hm₂
    have x02 := x₁.trans hG
    rw [show (0 : Int) + (i : Nat) * 1 = ((i : Nat) : Int) by simp] at hm₂
    obtain ⟨u, e⟩ := ints_item hi (j := i) (by omega) (n := ((xs.getD i 0 : Nat) : Int)) (by simp [hin])
    refine rList <| args_cons <| Subscript_ <| rCell (hc2.keeps x02) <| rLoc hN₂ hm₂ <| rItem (hl.at fun o e => x02 _ o e) (by omega) (by omega) (v := .int ((xs.getD i 0 : Nat) : Int) u) (by rw [Int.toNat_natCast, List.getElem?_toArray, List.getElem?_eq_getElem (by omega), e]) <| args_cons <| rLoc hN₂ hm₂ <| args_nil ⟨by simp, h₂, _, rfl, fun h₃ l₃ x₃ hz₃ => ?_⟩
    exact ⟨h₃, _, rfl, x₃, _, u, uv, rfl, hlo, l₃.isList⟩
  · intro D h₂ t₂ ys hG hD hl₂ hys hel
    have x02 := x₁.trans hG
    have hN₂ := hN.keeps x02
    have hl₂' : h₂.IsList D ys.toList.toArray := by simpa using hl₂.isList
    refine args_nil <| sorted_call (ns := xs.map fun x : Nat => (x : Int)) hN₂ hl₂' (by simp [hys]) (by simpa using hx2) (by simpa using hxl) (fun i v e => ?_) (by omega) fun R h₃ p k₃ hN₃ hR₃ l₃ hp hs => ?_
    · obtain ⟨a, u₁, u₂, rfl, _, l⟩ := hel i v (by simpa using e)
      rw [getD_cast]
      exact ⟨a, u₁, u₂, rfl, l⟩
    · have hRL : R ≠ L := by rintro rfl; obtain ⟨o, _, _, e, _⟩ := hN₂; rw [hR₃] at e; cases e
      rw [List.length_map] at hp
      have hpl : p.length = xs.length := by simpa using hp.length_eq
      refine rStore hN₃ fun h₄ t₄ hN₄ hs₄ => ⟨rfl, h₄, t₄, R, _, p, rfl, hN₄, l₃.extBut hs₄.extBut hRL, by simp [hpl], ?_, hp, hs.imp fun {i j} h => by rw [rank_eq, rank_eq] at h; exact h, ?_⟩
      · intro i v e
        rw [List.getElem?_map] at e
        obtain ⟨k, hk, rfl⟩ := Option.map_eq_some_iff.mp e
        have hkn : k < xs.length := by have := hp.subset (List.mem_of_getElem? hk); simpa using this
        have hke : p.getD i 0 = k := by simp [hk]
        rw [hke]
        have hky : ys.toList.getD k .none = ys[k]'(by omega) := by simp [show k < ys.size by omega]
        rw [hky]
        obtain ⟨a, u₁, u₂, ea, _, l⟩ := hel k _ (Array.getElem?_eq_getElem (by omega))
        rw [ea]
        have haL : a ≠ L := by
          rintro rfl
          obtain ⟨o, ho, _, n', hd⟩ := l
          obtain ⟨o', _, _, ho', hd', _⟩ := hN₂
          rw [ho] at ho'; cases ho'; rw [hd] at hd'; cases hd'
        exact ⟨a, u₁, u₂, rfl, l.at fun o e => hs₄.extBut a o haL (k₃ a o haL e)⟩
      · intro b o hb e
        have hb' : b ≠ L := by simpa using hb
        exact hs₄.extBut b o hb' (k₃ b o hb' (x02 b o e))
end
end Mine
end

section -- LS11
open PySem PySem.W PyProof.Rows
set_option maxRecDepth 100000
set_option maxHeartbeats 2000000
namespace Mine
open PySem.SeqAt PySem.MeetsSeq PySem.MeetsSeq2 PySem.MeetsSeq3

section
variable {A : Around} {s : Shared} {a b : Addr} {vs ws : List Value}
theorem all_true (n : Nat) : ((List.range n).all fun _ => true) = true := by rw [List.all_eq_true]; intros; rfl
theorem intsEq {ns : List Int} (la : s.heap.IsList a vs.toArray) (lb : s.heap.IsList b ws.toArray) (ia : IntsAre vs ns) (ib : IntsAre ws ns) (hu : A.units < cLine) : EqAt A s (.ref a) (.ref b) true := by
  by_cases hab : a = b
  · subst hab; exact EqAt.same _
  · refine EqAt.of_refs hab ?_
    have hv := ia.length
    have hw := ib.length
    have := RcAt.lists (A := A) (s := s) (e := fun _ => true) la lb (by simp; omega) hu (fun j h1 h2 => by
      have h1' : j < vs.length := by simpa using h1
      have h2' : j < ws.length := by simpa using h2
      have hn : ns[j]? = some ns[j] := List.getElem?_eq_getElem (by omega)
      obtain ⟨u, e1⟩ := ints_item ia h1' hn
      obtain ⟨u', e2⟩ := ints_item ib h2' hn
      simp only [List.getElem_toArray, e1, e2]
      have := EqAt.int_int (A := A.in1) (s := s) ns[j] u ns[j] u'
      rwa [beq_self_eq_true] at this)
    rw [all_true] at this
    exact this
theorem listsEq {ps fs : Array Value} (la : s.heap.IsList a ps) (lb : s.heap.IsList b fs) (hsz : ps.size = fs.size) (hu : A.units + 20 < cLine)
    (he : ∀ (i : Nat) (y z : Value), ps[i]? = some y → fs[i]? = some z → ∃ p q vs ws ns, y = Value.ref p ∧ z = Value.ref q ∧ s.heap.IsList p (List.toArray vs) ∧ s.heap.IsList q (List.toArray ws) ∧ IntsAre vs ns ∧ IntsAre ws ns) : EqAt A s (.ref a) (.ref b) true := by
  by_cases hab : a = b
  · subst hab; exact EqAt.same _
  · refine EqAt.of_refs hab ?_
    have := RcAt.lists (A := A) (s := s) (e := fun _ => true) la lb hsz (by omega) (fun j h1 h2 => by
      obtain ⟨p, q, vs, ws, ns, e1, e2, l1, l2, i1, i2⟩ := he j _ _ (Array.getElem?_eq_getElem h1) (Array.getElem?_eq_getElem h2)
      rw [e1, e2]
      exact intsEq l1 l2 i1 i2 (by show A.units + _ < _; omega))
    rw [all_true] at this
    exact this
end

section
variable {prog : Program} {w : World} {A : Around} {E : Value → Shared → Prop} {σ : Shared} {G h : Heap} {t : Nat} {L : Addr} {cd : Value} {env : Env} {Q : Value → Shared → Prop}

theorem step11 {m : Str → Option Value} {P O F R : Addr} {ps fs : Array Value} {os rs : List Value} {xs p : List Nat} {T : List UInt8} {wd mn lo₁ lo₂ : Nat} {uT u₁ : Tok} (hh : A.handled = none) (hd : A.depth + 100 < recursionLimit) (hu : A.units + 200 < cLine) (B : Base w h) (hN : h.Ns L m)
    (hm1 : m "pieces" = some (.ref P)) (hm2 : m "order" = some (.ref O)) (hm3 : m "tape" = some (.bytes T.toArray uT)) (hm4 : m "figures" = some (.ref F)) (hm5 : m "row" = some (.ref R))
    (hP : h.IsList P ps) (hF : h.IsList F fs) (hps : ps.size = xs.length) (hfs : fs.size = xs.length) (hpf : ∀ i y, ps[i]? = some y → NumsAt lo₁ h y (figs mn (xs.getD i 0))) (hff : ∀ i y, fs[i]? = some y → NumsAt lo₂ h y (figs mn (xs.getD i 0)))
    (hO : h.IsList O os.toArray) (hoi : IntsAre os (p.map fun k : Nat => (k : Int))) (hR : h.IsList R rs.toArray) (hrs : rs.length = xs.length) (hpl : p.length = xs.length) (hxl : xs.length < 64)
    (hrp : ∀ i v, rs[i]? = some v → PairAt h v ((xs.getD (p.getD i 0) 0 : Nat) : Int) ((p.getD i 0 : Nat) : Int)) (hc1 : h.IsCell (L + 1) (some (.int (wd : Nat) u₁))) (hw : wd = 3 ∨ wd = 6)
    (hT : T = tapeB (p.map fun k => ((xs.getD k 0 : Nat) : Int)) wd) :
    wpAny (model prog w) A (exec (lawSt 10) (lawEnv L cd)) (fun f s' => f = .ret (.bool true) ∧ ∃ h' t', s' = S σ h' t' ∧ Ext h h') (fun _ _ => False) (S σ h t) := by
  refine wpAny_Return_some <| wpAny_Compare1 <| rList <| args_cons <| rLoc hN hm1 <| args_cons <| rLoc hN hm2 <| args_cons <| rLoc hN hm3 <| args_nil ⟨by simp, h, t, rfl, fun h₁ l₁ x₁ hz₁ => ?_⟩
  have hN₁ := hN.keeps x₁
  have nsl : (p.map fun k => ((xs.getD k 0 : Nat) : Int)).length = rs.length := by simp; omega
  have ksl : (p.map fun k : Nat => (k : Int)).length = rs.length := by simp; omega
  have pair : ∀ {h' : Heap}, Ext h h' → ∀ i v, rs[i]? = some v → PairAt h' v ((p.map fun k => ((xs.getD k 0 : Nat) : Int)).getD i 0) ((p.map fun k : Nat => (k : Int)).getD i 0) := fun {h'} x i v e => by
    have hi : i < p.length := by have := (List.getElem?_eq_some_iff.mp e).1; omega
    obtain ⟨a, v₁, v₂, rfl, l⟩ := hrp i v e
    refine ⟨a, v₁, v₂, rfl, ?_⟩
    have e1 : (p.map fun k => ((xs.getD k 0 : Nat) : Int)).getD i 0 = ((xs.getD (p.getD i 0) 0 : Nat) : Int) := by simp [hi]
    have e2 : (p.map fun k : Nat => (k : Int)).getD i 0 = ((p.getD i 0 : Nat) : Int) := by simp [hi]
    rw [e1, e2]
    exact l.at fun o e => x _ o e
  generalize h.objs.size = X₁ at *
  refine rList <| args_cons <| rLoc hN₁ hm4 <| args_cons <| rUnpackComp (cl := []) (ns := p.map fun k => ((xs.getD k 0 : Nat) : Int)) (ks := p.map fun k : Nat => (k : Int)) false hh (hR.at fun o e => x₁ _ o e) (pair x₁) nsl ksl (by omega) (fun Q' hq => rLoc hN₁ hm5 hq) (fun m v₁ v₂ => st_eq) fun D₂ h₂ t₂ ys₂ x₂ hD₂ l₂ i₂ => ?_
  have x02 := x₁.trans x₂
  have B2 := B.ext x02
  have hN₂ := hN₁.keeps x₂
  refine args_cons <| Call_ <| rGlob B2 (by kernel_rfl) <| cwD (B2.X 91 _ rfl) rfl <| args_cons <| rUnpackComp (cl := []) (ns := p.map fun k => ((xs.getD k 0 : Nat) : Int)) (ks := p.map fun k : Nat => (k : Int)) true hh (hR.at fun o e => x02 _ o e) (pair x02) nsl ksl (by omega) (fun Q' hq => rLoc hN₂ hm5 hq) (fun m v₁ v₂ => st_ne st_eq) fun D₃ h₃ t₃ ys₃ x₃ hD₃ l₃ i₃ => ?_
  have x03 := x02.trans x₃
  have B3 := B.ext x03
  refine args_cons <| rCell (hc1.keeps x03) <| args_nil ⟨B3.X 91 _ rfl, tape_call hh B3 l₃.isList i₃ (by omega) (by simp; omega) (by omega) fun h₄ t₄ u₄ x₄ => args_nil ⟨by simp, h₄, t₄, rfl, fun h₅ l₅ x₅ hz₅ => ?_⟩⟩
  have x24 := (x₃.trans x₄).trans x₅
  have x05 := x02.trans x24
  refine eq_listAt (s := S σ h₅ t₄) (e := fun _ => true) (l₁.keeps (x₂.trans x24)).isList l₅.isList rfl (by omega) ?_ ⟨by simp, h₅, t₄, rfl, x05⟩
  intro j h1 h2
  match j, h1 with
  | 0, _ =>
    refine listsEq (hP.at fun o e => x05 _ o e) (hF.at fun o e => x05 _ o e) (by omega) (by show A.units + _ + _ < _; omega) fun i y z ey ez => ?_
    obtain ⟨p₁, v₁, rfl, _, pl₁, in₁⟩ := hpf i y ey
    obtain ⟨p₂, v₂, rfl, _, pl₂, in₂⟩ := hff i z ez
    exact ⟨p₁, p₂, v₁, v₂, _, rfl, rfl, (pl₁.keeps x05).isList, (pl₂.keeps x05).isList, in₁, in₂⟩
  | 1, _ => exact intsEq (hO.at fun o e => x05 _ o e) (l₂.keeps x24).isList hoi i₂ (by show A.units + _ < _; omega)
  | 2, _ =>
    intro prog w E Q hq
    refine eqBool_bytes ?_
    have : decide (T.toArray.toList = (byteArr (tapeInts (p.map fun k => ((xs.getD k 0 : Nat) : Int)) wd)).toList) = true := decide_eq_true (by rw [hT]; rfl)
    simp only [if_true] at *
    rw [this]; exact hq
end
end Mine
end

section -- PL2
open PySem PySem.W PyProof.Rows
set_option maxRecDepth 100000
set_option maxHeartbeats 2000000
namespace Mine

theorem foldl_val (b : Nat) : ∀ (l : List Nat) (a : Nat), l.foldl (fun a x => a * b + x) a = a * b ^ l.length + val b l
  | [], a => by simp [val]
  | x :: l, a => by
    rw [List.foldl_cons, foldl_val b l]
    have : val b (x :: l) = x * b ^ l.length + val b l := by
      show l.foldl (fun a x => a * b + x) (0 * b + x) = _
      rw [foldl_val b l]; simp
    rw [this, List.length_cons, Nat.pow_succ, Nat.add_mul, Nat.mul_assoc, Nat.mul_comm b, Nat.add_assoc]
theorem val_cons (b x : Nat) (l : List Nat) : val b (x :: l) = x * b ^ l.length + val b l := by
  show l.foldl (fun a x => a * b + x) (0 * b + x) = _
  rw [foldl_val b l]; simp
theorem val_append (b : Nat) (l₁ l₂ : List Nat) : val b (l₁ ++ l₂) = val b l₁ * b ^ l₂.length + val b l₂ := by
  show (l₁ ++ l₂).foldl (fun a x => a * b + x) 0 = _
  rw [List.foldl_append, foldl_val b l₂]; rfl
theorem val_lt {b : Nat} : ∀ {l : List Nat}, (∀ x ∈ l, x < b) → val b l < b ^ l.length
  | [], _ => by simp [val]
  | x :: l, h => by
    rw [val_cons, List.length_cons, Nat.pow_succ]
    have h1 := val_lt (l := l) fun y hy => h y (by simp [hy])
    have h2 : x + 1 ≤ b := h x (by simp)
    have : (x + 1) * b ^ l.length ≤ b * b ^ l.length := Nat.mul_le_mul_right _ h2
    rw [Nat.add_mul, Nat.one_mul] at this
    rw [Nat.mul_comm (b ^ l.length)]
    omega

/-- the figures of a number are its digits -/
theorem digits_at {b : Nat} : ∀ {l : List Nat}, (∀ x ∈ l, x < b) → ∀ j, j < l.length → l[j]? = some (val b l / b ^ (l.length - 1 - j) % b)
  | x :: l, h, 0, _ => by
    have h1 := val_lt (l := l) fun y hy => h y (by simp [hy])
    have hx : x < b := h x (by simp)
    rw [val_cons, List.length_cons, Nat.add_sub_cancel, Nat.sub_zero, List.getElem?_cons_zero]
    have hp : 0 < b ^ l.length := by omega
    rw [Nat.add_comm, Nat.add_mul_div_right _ _ hp, Nat.div_eq_of_lt h1, Nat.zero_add, Nat.mod_eq_of_lt hx]
  | x :: l, h, j + 1, hj => by
    have hj' : j < l.length := by simpa using hj
    have hx : x < b := h x (by simp)
    rw [List.getElem?_cons_succ, digits_at (l := l) (fun y hy => h y (by simp [hy])) j hj', val_cons, List.length_cons]
    congr 1
    obtain ⟨k, hk⟩ : ∃ k, l.length = k + (j + 1) := ⟨l.length - (j + 1), by omega⟩
    rw [show l.length + 1 - 1 - (j + 1) = k by omega, show l.length - 1 - j = k by omega]
    rw [hk, Nat.pow_add, Nat.pow_succ, show x * (b ^ k * (b ^ j * b)) = (x * b ^ j * b) * b ^ k by
      rw [Nat.mul_comm (b ^ k), ← Nat.mul_assoc, ← Nat.mul_assoc]]
    rw [Nat.add_comm (x * b ^ j * b * b ^ k), Nat.add_mul_div_right _ _ (Nat.pow_pos (by omega)), Nat.add_mul_mod_self_right]

/-- chunks of one length -/
theorem flatten_part {α : Type} {wd : Nat} : ∀ {ls : List (List α)}, (∀ l ∈ ls, l.length = wd) → ∀ k, k < ls.length → (ls.flatten.drop (wd * k)).take wd = ls.getD k []
  | l :: r, h, 0, _ => by
    have hl := h l (by simp)
    rw [Nat.mul_zero, List.drop_zero, List.flatten_cons, List.take_append_of_le_length (by omega), List.take_of_length_le (by omega)]
    rfl
  | l :: r, h, k + 1, hk => by
    have hl := h l (by simp)
    rw [List.flatten_cons, Nat.mul_succ, Nat.add_comm, ← hl, ← List.drop_drop, List.drop_left, hl]
    have := flatten_part (ls := r) (fun l hl => h l (by simp [hl])) k (by simpa using hk)
    rw [this]; rfl
theorem flatten_length {α : Type} {wd : Nat} : ∀ {ls : List (List α)}, (∀ l ∈ ls, l.length = wd) → ls.flatten.length = wd * ls.length
  | [], _ => by simp
  | l :: r, h => by
    rw [List.flatten_cons, List.length_append, flatten_length (ls := r) (fun l hl => h l (by simp [hl])), h l (by simp), List.length_cons, Nat.mul_succ, Nat.add_comm]

theorem swapped_cons {wd : Nat} (hw : 0 < wd) {c d : List UInt8} (hc : c.length = wd) : swapped (c ++ d) wd = c.reverse ++ swapped d wd := by
  apply List.ext_getElem?
  intro p
  unfold swapped
  by_cases hp : p < c.length + d.length
  · rw [List.getElem?_map, List.getElem?_range (by simpa using hp)]
    by_cases h1 : p < wd
    · rw [List.getElem?_append_left (by simp; omega), List.getElem?_reverse (by omega)]
      simp only [Option.map_some]
      unfold swapAt
      rw [Nat.div_eq_of_lt h1, Nat.mod_eq_of_lt h1, Nat.zero_mul, Nat.zero_add]
      rw [List.getD_eq_getElem?_getD, List.getElem?_append_left (by omega), hc, List.getElem?_eq_getElem (by omega)]
      rfl
    · rw [List.getElem?_append_right (by simp; omega)]
      simp only [List.length_reverse, hc]
      rw [List.getElem?_map, List.getElem?_range (by omega)]
      simp only [Option.map_some]
      unfold swapAt
      obtain ⟨q, rfl⟩ : ∃ q, p = q + wd := ⟨p - wd, by omega⟩
      rw [Nat.add_sub_cancel, Nat.add_div_right _ hw, Nat.add_mod_right, Nat.succ_mul]
      rw [show q / wd * wd + wd + (wd - 1 - q % wd) = c.length + (q / wd * wd + (wd - 1 - q % wd)) by omega]
      rw [List.getD_eq_getElem?_getD, List.getD_eq_getElem?_getD, List.getElem?_append_right (by omega), Nat.add_sub_cancel_left]
  · rw [List.getElem?_eq_none (by simp; omega), List.getElem?_eq_none (by simp; omega)]
theorem swapped_flatten {wd : Nat} (hw : 0 < wd) : ∀ {ls : List (List UInt8)}, (∀ l ∈ ls, l.length = wd) → swapped ls.flatten wd = (ls.map List.reverse).flatten
  | [], _ => by simp [swapped]
  | l :: r, h => by
    rw [List.flatten_cons, swapped_cons hw (h l (by simp)), swapped_flatten hw (ls := r) (fun l hl => h l (by simp [hl])), List.map_cons, List.flatten_cons]

/-- a number's bytes, the low one first -/
noncomputable def le8 (wd x : Nat) : List UInt8 := (List.range wd).map fun r => (x / 256 ^ r % 256).toUInt8
theorem le8_length (wd x : Nat) : (le8 wd x).length = wd := by simp [le8]
theorem tapeB_eq (xs : List Nat) (wd : Nat) : tapeB (xs.map fun x : Nat => (x : Int)) wd = (xs.map (le8 wd)).flatten := by
  unfold tapeB tapeInts
  induction xs with
  | nil => rfl
  | cons x r ih =>
    rw [List.map_cons, List.flatMap_cons, List.map_append, ih, List.map_cons, List.flatten_cons]
    congr 1
    unfold le8
    rw [List.map_map]
    refine List.map_congr_left fun p _ => ?_
    simp only [Function.comp]
    rw [Int.fdiv_eq_ediv_of_nonneg _ (Int.le_of_lt (Int.pow_pos (by omega))), Int.fmod_eq_emod_of_nonneg _ (by omega)]
    congr 1

theorem tape_back {xs out : List Nat} {wd : Nat} (hw : 0 < wd) (hout : ∀ k ∈ out, k < xs.length) :
    swapped (partsOf (swapped (tapeB (xs.map fun x : Nat => (x : Int)) wd) wd) wd out) wd = tapeB (out.map fun k => ((xs.getD k 0 : Nat) : Int)) wd := by
  have h1 : ∀ l ∈ xs.map (le8 wd), l.length = wd := fun l hl => by obtain ⟨x, _, rfl⟩ := List.mem_map.mp hl; exact le8_length wd x
  have h2 : ∀ l ∈ (xs.map (le8 wd)).map List.reverse, l.length = wd := fun l hl => by obtain ⟨c, hc, rfl⟩ := List.mem_map.mp hl; rw [List.length_reverse]; exact h1 c hc
  rw [tapeB_eq, swapped_flatten hw h1]
  have e : (out.map fun k => ((xs.getD k 0 : Nat) : Int)) = (out.map fun k => xs.getD k 0).map fun x : Nat => (x : Int) := by rw [List.map_map]; rfl
  rw [e, tapeB_eq]
  unfold partsOf
  have hp : (out.map fun k => (((xs.map (le8 wd)).map List.reverse).flatten.drop (wd * k)).take wd) = out.map fun k => (le8 wd (xs.getD k 0)).reverse := by
    refine List.map_congr_left fun k hk => ?_
    have hkx := hout k hk
    rw [flatten_part h2 k (by simpa using hkx)]
    simp [hkx]
  rw [hp, swapped_flatten hw (fun l hl => by obtain ⟨k, _, rfl⟩ := List.mem_map.mp hl; rw [List.length_reverse, le8_length])]
  congr 1
  rw [List.map_map, List.map_map]
  refine List.map_congr_left fun k _ => ?_
  simp

/-- a number's bytes, the high one first, as numbers -/
theorem val_be {wd x : Nat} (hx : x < 256 ^ wd) : val 256 ((le8 wd x).reverse.map UInt8.toNat) = x := by
  have key : ∀ wd, val 256 ((le8 wd x).reverse.map UInt8.toNat) = x % 256 ^ wd := by
    intro wd
    induction wd with
    | zero => simp [le8, val, Nat.mod_one]
    | succ wd ih =>
      have : (le8 (wd + 1) x).reverse = (x / 256 ^ wd % 256).toUInt8 :: (le8 wd x).reverse := by
        unfold le8; rw [List.range_succ, List.map_append, List.reverse_append]; rfl
      rw [this, List.map_cons, val_cons, ih]
      have hl : ((le8 wd x).reverse.map UInt8.toNat).length = wd := by simp [le8]
      have hb : (x / 256 ^ wd % 256).toUInt8.toNat = x / 256 ^ wd % 256 := UInt8.toNat_ofNat_of_lt' (by show _ < 256; omega)
      rw [hl, hb, Nat.pow_succ, Nat.mod_mul, Nat.mul_comm]; omega
  rw [key, Nat.mod_eq_of_lt hx]

theorem parts_val {wd mn : Nat} (hB : 64 ^ mn = 256 ^ wd) : ∀ {xs : List Nat} {ds : List Nat}, (∀ x ∈ xs, x < 256 ^ wd) → (∀ d ∈ ds, d < 64) → ds.length = mn * xs.length →
    val 64 ds = val 256 (((xs.map (le8 wd)).map List.reverse).flatten.map UInt8.toNat) → ∀ i, i < xs.length → val 64 ((ds.drop (mn * i)).take mn) = xs.getD i 0
  | x :: r, ds, hx, hds, hl, hv, i, hi => by
    have hlen : ds.length = mn + mn * r.length := by rw [hl, List.length_cons, Nat.mul_succ, Nat.add_comm]
    have hsplit : ds = ds.take mn ++ ds.drop mn := (List.take_append_drop mn ds).symm
    have hd2l : (ds.drop mn).length = mn * r.length := by rw [List.length_drop]; omega
    have hd1l : (ds.take mn).length = mn := by rw [List.length_take]; omega
    have hrl : ∀ l ∈ (r.map (le8 wd)).map List.reverse, l.length = wd := fun l hl => by
      obtain ⟨c, hc, rfl⟩ := List.mem_map.mp hl
      obtain ⟨y, _, rfl⟩ := List.mem_map.mp hc
      rw [List.length_reverse, le8_length]
    have hfl : (((r.map (le8 wd)).map List.reverse).flatten.map UInt8.toNat).length = wd * r.length := by rw [List.length_map, flatten_length hrl]; simp
    have hvd : val 64 ds = val 64 (ds.take mn) * 64 ^ (mn * r.length) + val 64 (ds.drop mn) := by
      conv => lhs; rw [hsplit]
      rw [val_append, hd2l]
    have hvx : val 256 ((((x :: r).map (le8 wd)).map List.reverse).flatten.map UInt8.toNat) = x * 256 ^ (wd * r.length) + val 256 (((r.map (le8 wd)).map List.reverse).flatten.map UInt8.toNat) := by
      rw [List.map_cons, List.map_cons, List.flatten_cons, List.map_append, val_append, hfl, val_be (hx x (by simp))]
    have hpw : (64 : Nat) ^ (mn * r.length) = 256 ^ (wd * r.length) := by rw [Nat.pow_mul, Nat.pow_mul, hB]
    have b1 : val 64 (ds.drop mn) < 256 ^ (wd * r.length) := by
      rw [← hpw, ← hd2l]; exact val_lt fun d hd => hds d (List.mem_of_mem_drop hd)
    have b2 : val 256 (((r.map (le8 wd)).map List.reverse).flatten.map UInt8.toNat) < 256 ^ (wd * r.length) := by
      conv => rhs; rw [← hfl]
      refine val_lt fun y hy => ?_
      obtain ⟨c, _, rfl⟩ := List.mem_map.mp hy
      exact c.toNat_lt
    rw [hvd, hvx, hpw] at hv
    have hpos : 0 < 256 ^ (wd * r.length) := by omega
    have e1 : val 64 (ds.take mn) = x := by
      have := congrArg (· / 256 ^ (wd * r.length)) hv
      rw [Nat.add_comm, Nat.add_mul_div_right _ _ hpos, Nat.div_eq_of_lt b1, Nat.zero_add, Nat.add_comm, Nat.add_mul_div_right _ _ hpos, Nat.div_eq_of_lt b2, Nat.zero_add] at this
      exact this
    rw [e1] at hv
    have e2 := Nat.add_left_cancel hv
    cases i with
    | zero => rw [Nat.mul_zero, List.drop_zero, e1]; rfl
    | succ i =>
      have := parts_val hB (xs := r) (ds := ds.drop mn) (fun y hy => hx y (by simp [hy])) (fun d hd => hds d (List.mem_of_mem_drop hd)) hd2l e2 i (by simpa using hi)
      rw [List.drop_drop, Nat.add_comm mn, ← Nat.mul_succ] at this
      rw [this]; rfl

theorem pieces_figs {wd mn : Nat} (hB : 64 ^ mn = 256 ^ wd) {xs ds : List Nat} (hx : ∀ x ∈ xs, x < 256 ^ wd) (hds : ∀ d ∈ ds, d < 64) (hl : ds.length = mn * xs.length) (hw : 0 < wd)
    (hv : val 64 ds = val 256 ((swapped (tapeB (xs.map fun x : Nat => (x : Int)) wd) wd).map UInt8.toNat)) (i : Nat) (hi : i < xs.length) :
    ((ds.drop (mn * i)).take mn).map (fun d : Nat => (d : Int)) = figs mn (xs.getD i 0) := by
  have h1 : ∀ l ∈ xs.map (le8 wd), l.length = wd := fun l hl => by obtain ⟨x, _, rfl⟩ := List.mem_map.mp hl; exact le8_length wd x
  rw [tapeB_eq, swapped_flatten hw h1] at hv
  have hp := parts_val hB hx hds hl hv i hi
  have hib : mn * i + mn ≤ mn * xs.length := by rw [← Nat.mul_succ]; exact Nat.mul_le_mul_left mn hi
  have hcl : ((ds.drop (mn * i)).take mn).length = mn := by rw [List.length_take, List.length_drop]; omega
  have hcd : ∀ d ∈ (ds.drop (mn * i)).take mn, d < 64 := fun d hd => hds d (List.mem_of_mem_drop (List.mem_of_mem_take hd))
  apply List.ext_getElem?
  intro j
  by_cases hj : j < mn
  · rw [List.getElem?_map, digits_at hcd j (by omega), hp, hcl, figs_at hj]
    rfl
  · rw [List.getElem?_eq_none (by rw [List.length_map]; omega), List.getElem?_eq_none (by rw [figs_length]; omega)]

/-- two orders by the same ranks are one -/
theorem order_one {r : Nat → Int} : ∀ {a b : List Nat}, a.Perm b → (a.Pairwise fun i j => r i ≤ r j) → (b.Pairwise fun i j => r i < r j) → a = b := by
  intro a b hp ha hb
  have ha' : a.Pairwise fun i j => r i < r j := by
    have hne : a.Pairwise fun i j => r i ≠ r j := (hp.pairwise_iff (fun {_ _} h => Ne.symm h)).mpr (hb.imp fun {_ _} h => by omega)
    exact (ha.and hne).imp fun {_ _} h => by omega
  exact hp.eq_of_pairwise (le := fun i j => r i < r j) (fun i j _ _ h1 h2 => by omega) ha' hb
end Mine
end

section -- LM
open PySem PySem.W PyProof.Rows
set_option maxRecDepth 100000
set_option maxHeartbeats 4000000
namespace Mine

theorem nats_of {b : Int} (hb : 0 < b) : ∀ l : List Int, ∃ xs : List Nat, l.map (fun x => x.fmod b) = xs.map (fun x : Nat => (x : Int)) ∧ ∀ x ∈ xs, (x : Int) < b
  | [] => ⟨[], rfl, by simp⟩
  | a :: l => by
    obtain ⟨xs, e, h⟩ := nats_of hb l
    have h1 : 0 ≤ a.fmod b := by rw [Int.fmod_eq_emod_of_nonneg _ (by omega)]; exact Int.emod_nonneg _ (by omega)
    have h2 : a.fmod b < b := by rw [Int.fmod_eq_emod_of_nonneg _ (by omega)]; exact Int.emod_lt_of_pos _ hb
    refine ⟨(a.fmod b).toNat :: xs, ?_, ?_⟩
    · rw [List.map_cons, List.map_cons, e, Int.toNat_of_nonneg h1]
    · intro x hx
      rcases List.mem_cons.mp hx with rfl | hx
      · rw [Int.toNat_of_nonneg h1]; exact h2
      · exact h x hx
theorem numsOf_nats (ns : List Int) (wd : Nat) : ∃ xs : List Nat, numsOf ns wd = xs.map (fun x : Nat => (x : Int)) ∧ (∀ x ∈ xs, x < 256 ^ wd) ∧ 5 ≤ xs.length ∧ xs.length ≤ 11 := by
  obtain ⟨xs, e, h⟩ := nats_of (b := 256 ^ wd) (Int.pow_pos (by omega)) (ns.take 6 ++ [1, 66051, 16777215, 197121, 1])
  have hl : xs.length = (ns.take 6).length + 5 := by have := congrArg List.length e; simpa using this.symm
  refine ⟨xs, e, fun x hx => ?_, by omega, by rw [hl, List.length_take]; omega⟩
  have h1 := h x hx
  have h2 : (256 : Int) ^ wd = ((256 ^ wd : Nat) : Int) := by rw [Int.natCast_pow]; rfl
  rw [h2] at h1
  omega

theorem off {a s b : Nat} (h1 : a < s) (h2 : s ≤ b) : b ≠ a := Nat.ne_of_gt (Nat.lt_of_lt_of_le h1 h2)

section
variable {prog : Program} {w : World} {A : Around} {σ : Shared} {h h₁ : Heap} {t₁ : Nat} {L : Addr} {cd : Value}

theorem law_body {m0 : Str → Option Value} {sc : Addr} {vs : List Value} {ns : List Int} (hh : A.handled = none) (hd : A.depth + 200 < recursionLimit) (hu : A.units + 300 < cLine) (B : Base w h) (hX : Ext h h₁)
    (fr : ∀ k, h.get? (L + k) = none) (hN : h₁.Ns L m0) (hs : m0 "script" = some (.ref sc)) (hl : h.IsList sc vs.toArray) (hi : IntsAre vs ns) (hlen : ns.length ≤ 63)
    (c1 : h₁.IsCell (L + 1) none) (c2 : h₁.IsCell (L + 2) none) (c3 : h₁.IsCell (L + 3) none) (c4 : h₁.IsCell (L + 4) none) (c5 : h₁.IsCell (L + 5) none) :
    wpC (model prog w) A (execs [lawSt 0, lawSt 1, lawSt 2, lawSt 3, lawSt 4, lawSt 5, lawSt 6, lawSt 7, lawSt 8, lawSt 9, lawSt 10] (lawEnv L cd))
      (fun f s' => f = .ret (.bool true) ∧ ∃ h' t', s' = S σ h' t' ∧ Ext h h') (fun _ _ => False) (S σ h₁ t₁) := by
  have f0 : h.get? L = none := fr 0
  have ne : ∀ {i j : Nat}, i ≠ j → (L + i : Nat) ≠ L + j := fun hij e => hij (Nat.add_left_cancel e)
  have ne0 : ∀ {j : Nat}, 0 ≠ j → (L : Nat) ≠ L + j := fun {j} hij e => hij (by have := Nat.add_left_cancel (n := L) (m := 0) (k := j) e; exact this)
  have cellK : ∀ {M : List Addr} {g g' : Heap} {i : Nat} {v : Option Value}, Keep M g g' → (L + i) ∉ M → g.IsCell (L + i) v → g'.IsCell (L + i) v := fun k hm ⟨o, ho, r⟩ => ⟨o, k _ o hm ho, r⟩
  -- 1
  refine execsC_consA (wpAny_mono (step1 hh (B.ext hX) hN hs (hl.at fun o e => hX _ o e) hi hlen c1) ?_ fun _ _ x => x)
  rintro f s' ⟨rfl, h₂, t₂, wd, u₁, rfl, hw, c1, k1⟩
  show wpC _ _ (execs _ _) _ _ _
  have e2 : Ext h h₂ := hX.keep k1 (by simpa using fr 1)
  have n2 : h₂.Ns L m0 := hN.at' fun o e => k1 L o (by simp) e
  have c2 := cellK k1 (by simp) c2
  have c3 := cellK k1 (by simp) c3
  have c4 := cellK k1 (by simp) c4
  have c5 := cellK k1 (by simp) c5
  have c5₂ := c5
  -- 2
  refine execsC_consA (wpAny_mono (step2 hh (B.ext e2) n2 hs (hl.at fun o e => e2 _ o e) hi hlen hw c1 c2) ?_ fun _ _ x => x)
  rintro f s' ⟨rfl, h₃, t₃, N, ws, rfl, c2, hN2, lN, iN, k2⟩
  show wpC _ _ (execs _ _) _ _ _
  obtain ⟨xs, exs, hxs, hx5, hx11⟩ := numsOf_nats ns wd
  rw [exs] at iN
  have e3 : Ext h h₃ := e2.keep k2 (by simpa using fr 2)
  have n3 : h₃.Ns L m0 := n2.at' fun o e => k2 L o (by simp) e
  have c1 := cellK k2 (by simp) c1
  have c3 := cellK k2 (by simp) c3
  have c4 := cellK k2 (by simp) c4
  have c5 := cellK k2 (by simp) c5
  have b5 : L + 5 < h₂.objs.size := by obtain ⟨o, ho, _⟩ := c5₂; exact Heap.lt_size ho
  have nL : ∀ {i : Nat}, i ≤ 5 → N ≠ L + i := fun hi => off (Nat.lt_of_le_of_lt (Nat.add_le_add_left hi L) b5) hN2
  have nL0 : N ≠ L := nL (i := 0) (by decide)
  -- 3
  have hwn : wd * xs.length ≤ 6 * 11 := Nat.mul_le_mul (by omega) hx11
  refine execsC_cons (wpC_mono (step3 hh (by omega) (B.ext e3) lN.isList iN (by simp; omega) hw c1 c2 c3 c4) ?_ fun _ _ x => x)
  rintro f s' ⟨rfl, h₄, t₄, u₃, u₄, rfl, c3, c4, k3⟩
  show wpC _ _ (execs _ _) _ _ _
  have mem34 : ∀ {i : Nat}, i ≠ 3 → i ≠ 4 → (L + i : Nat) ∉ [L + 3, L + 4] := fun h1 h2 hm => by
    rcases List.mem_cons.mp hm with hm | hm
    · exact ne h1 hm
    · rw [List.mem_singleton] at hm; exact ne h2 hm
  have e4 : Ext h h₄ := e3.keep k3 (by intro a ha; rcases List.mem_cons.mp ha with rfl | ha; exact fr 3; rw [List.mem_singleton] at ha; subst ha; exact fr 4)
  have n4 : h₄.Ns L m0 := n3.at' fun o e => k3 L o (mem34 (i := 0) (by decide) (by decide)) e
  have c1 := cellK k3 (mem34 (by decide) (by decide)) c1
  have c2 := cellK k3 (mem34 (by decide) (by decide)) c2
  have c5 := cellK k3 (mem34 (by decide) (by decide)) c5
  have lN : PlainL h₄ N ws.toArray := lN.at fun o e => k3 N o (fun hm => by
    rcases List.mem_cons.mp hm with hm | hm
    · exact nL (by decide) hm
    · rw [List.mem_singleton] at hm; exact nL (by decide) hm) e
  have hN4 : h₄.get? N ≠ none := by obtain ⟨o, _, q, _⟩ := lN; rw [q]; exact fun x => nomatch x
  -- 4
  have hTl : (swapped (tapeB (xs.map fun x : Nat => (x : Int)) wd) wd).length = wd * xs.length := by unfold swapped; rw [List.length_map, List.length_range, tapeB_length, List.length_map]
  have hq : wd * xs.length = 3 * (wd / 3 * xs.length) := by rcases hw with rfl | rfl <;> omega
  have hq2 : 0 < wd / 3 * xs.length ∧ wd / 3 * xs.length < 100 := by rcases hw with rfl | rfl <;> omega
  refine execsC_consA (wpAny_mono (step4 (q := wd / 3 * xs.length) hh (by omega) (B.ext e4) n4 (by rw [hTl, hq]) hq2.1 hq2.2 c3 c5) ?_ fun _ _ x => x)
  rintro f s' ⟨rfl, h₅, t₅, u₅, ds, Hp, O, m5, rfl, hds, hdl, hdv, c5, lH, lO, hHO, hH4, hO4, n5, m5h, m5o, k4⟩
  show wpC _ _ (execs _ _) _ _ _
  have mem05 : ∀ {a : Addr}, a ≠ L → a ≠ L + 5 → a ∉ [L, L + 5] := fun h1 h2 hm => by
    rcases List.mem_cons.mp hm with hm | hm
    · exact h1 hm
    · rw [List.mem_singleton] at hm; exact h2 hm
  have e5 : Ext h h₅ := e4.keep k4 (by intro a ha; rcases List.mem_cons.mp ha with rfl | ha; exact f0; rw [List.mem_singleton] at ha; subst ha; exact fr 5)
  have c1 := cellK k4 (mem05 (Ne.symm (ne0 (by decide))) (ne (by decide))) c1
  have c2 := cellK k4 (mem05 (Ne.symm (ne0 (by decide))) (ne (by decide))) c2
  have c3 := cellK k4 (mem05 (Ne.symm (ne0 (by decide))) (ne (by decide))) c3
  have c4 := cellK k4 (mem05 (Ne.symm (ne0 (by decide))) (ne (by decide))) c4
  have lN : PlainL h₅ N ws.toArray := lN.at fun o e => k4 N o (mem05 nL0 (nL (by decide))) e
  have hHh : h.get? Hp = none := by cases q : h.get? Hp with
    | none => rfl
    | some o => exact absurd (e4 _ _ q) (by rw [hH4]; exact fun x => nomatch x)
  have hOh : h.get? O = none := by cases q : h.get? O with
    | none => rfl
    | some o => exact absurd (e4 _ _ q) (by rw [hO4]; exact fun x => nomatch x)
  -- 5
  have hmn : wd / 3 * 4 = 4 ∨ wd / 3 * 4 = 8 := by rcases hw with rfl | rfl <;> simp
  have hB : (64 : Nat) ^ (wd / 3 * 4) = 256 ^ wd := by rcases hw with rfl | rfl <;> rfl
  have hdl : ds.length = wd / 3 * 4 * xs.length := by rw [hdl]; rcases hw with rfl | rfl <;> omega
  generalize wd / 3 * 4 = mn at *
  have hxs64 : ∀ x ∈ xs, x < 64 ^ mn := fun x hx => by rw [hB]; exact hxs x hx
  have hfig := pieces_figs hB hxs hds hdl (by omega) hdv
  refine execsC_consA (wpAny_mono (step5 (K := xs.length) hh (by omega) (B.ext e5) n5 hds hdl hmn (by omega) c4 c5) ?_ fun _ _ x => x)
  rintro f s' ⟨rfl, h₆, t₆, P, ps, rfl, n6, hP5, lP, hps, hpn, k5⟩
  show wpC _ _ (execs _ _) _ _ _
  have b5L : L < h₅.objs.size := n5.lt
  have b5H : Hp < h₅.objs.size := lH.lt
  have b5O : O < h₅.objs.size := lO.lt
  have b5N : N < h₅.objs.size := lN.lt
  have hLH : L ≠ Hp := by rintro rfl; obtain ⟨o, _, _, q, dd, _⟩ := n5; obtain ⟨o', _, q', _, _, dd'⟩ := lH; rw [q] at q'; cases q'; rw [dd] at dd'; cases dd'
  have hLO : L ≠ O := by rintro rfl; obtain ⟨o, _, _, q, dd, _⟩ := n5; obtain ⟨o', _, q', _, _, dd'⟩ := lO; rw [q] at q'; cases q'; rw [dd] at dd'; cases dd'
  have one : ∀ {a : Addr}, a ≠ L → a ∉ [L] := fun h1 hm => h1 (by simpa using hm)
  have e6 : Ext h h₆ := e5.keep k5 (by simpa using f0)
  have c1 := cellK k5 (one (Ne.symm (ne0 (by decide)))) c1
  have c2 := cellK k5 (one (Ne.symm (ne0 (by decide)))) c2
  have c3 := cellK k5 (one (Ne.symm (ne0 (by decide)))) c3
  have c4 := cellK k5 (one (Ne.symm (ne0 (by decide)))) c4
  have lN : PlainL h₆ N ws.toArray := lN.at fun o e => k5 N o (one nL0) e
  have lH : PlainL h₆ Hp #[] := lH.at fun o e => k5 Hp o (one (Ne.symm hLH)) e
  have lO : PlainL h₆ O #[] := lO.at fun o e => k5 O o (one (Ne.symm hLO)) e
  have b6H : Hp < h₆.objs.size := lH.lt
  have b6O : O < h₆.objs.size := lO.lt
  -- what is frozen
  obtain ⟨G, hG⟩ : ∃ G, G = drops h₆ [L, Hp, O] := ⟨_, rfl⟩
  have gx : Ext G h₆ := hG ▸ drops_ext _ _
  have gh : Ext h G := hG ▸ e6.drops _ (by intro a ha; simp at ha; rcases ha with rfl | rfl | rfl <;> assumption)
  have gL : G.get? L = none := hG ▸ drops_none _ _ _ (by simp)
  have gH : G.get? Hp = none := hG ▸ drops_none _ _ _ (by simp)
  have gO : G.get? O = none := hG ▸ drops_none _ _ _ (by simp)
  have gk : ∀ b o, h₅.objs.size ≤ b → h₆.get? b = some o → G.get? b = some o := fun b o hb q => hG ▸ drops_keep _ _ _ _ (by
    intro hm
    simp at hm
    rcases hm with rfl | rfl | rfl
    · exact absurd b5L (Nat.not_lt.mpr hb)
    · exact absurd b5H (Nat.not_lt.mpr hb)
    · exact absurd b5O (Nat.not_lt.mpr hb)) q
  have gP : G.IsList P ps := lP.isList.at fun o q => gk P o hP5 q
  have gF : ∀ i y, ps[i]? = some y → NumsAt h₅.objs.size G y (figs mn (xs.getD i 0)) := fun i y q => by
    have hix : i < xs.length := by have := (Array.getElem?_eq_some_iff.mp q).1; omega
    rw [← hfig i hix]
    exact (hpn i y q).up gk
  have gc : ∀ {i : Nat} {v : Option Value}, i ≠ 0 → h₆.IsCell (L + i) v → G.IsCell (L + i) v := fun {i v} hi0 ⟨o, ho, r⟩ => ⟨o, hG ▸ drops_keep _ _ _ _ (by
    intro hm
    simp at hm
    rcases hm with hm | hm | hm
    · exact hi0 hm
    · rw [hm] at ho; obtain ⟨o', _, q', _, _, dd'⟩ := lH; rw [ho] at q'; cases q'; rw [r] at dd'; cases dd'
    · rw [hm] at ho; obtain ⟨o', _, q', _, _, dd'⟩ := lO; rw [ho] at q'; cases q'; rw [r] at dd'; cases dd') ho, r⟩
  have c1 := gc (by decide) c1
  have c2 := gc (by decide) c2
  have c3 := gc (by decide) c3
  have c4 := gc (by decide) c4
  have gN : G.IsList N ws.toArray := lN.isList.at fun o q => hG ▸ drops_keep _ _ _ _ (by
    intro hm
    simp at hm
    rcases hm with rfl | rfl | rfl
    · exact nL0 rfl
    · exact hN4 hH4
    · exact hN4 hO4) q
  have BG := B.ext gh
  -- 6
  refine execsC_consA (wpAny_mono (step6 (G := G) hh (by omega) (by omega) BG gx gL gH n6 st_eq (st_ne m5h) (st_ne m5o) gP hps (by omega) hxs64 gF lH) ?_ fun _ _ x => x)
  rintro f s' ⟨rfl, h₇, t₇, m7, hs, I, rfl, x7, n7, m7p, m7h, m7o, lH, hI, hHI, hperm, k6⟩
  show wpC _ _ (execs _ _) _ _ _
  have lO : PlainL h₇ O #[] := lO.at fun o e => k6 O o (Ne.symm hLO) (Ne.symm hHO) e
  -- 7
  refine execsC_consA (wpAny_mono (step7 (G := G) (by omega) (by omega) BG x7 gL gH gO n7 m7h m7o (by omega) hxs64 ?_ ?_ hHO lH lO hHI hperm) ?_ fun _ _ x => x)
  · exact Nat.lt_of_lt_of_le b6H hI
  · exact Nat.lt_of_lt_of_le b6O hI
  rintro f s' ⟨rfl, h₈, t₈, out, os, rfl, lO, iO, hout, hsrt, k7⟩
  show wpC _ _ (execs _ _) _ _ _
  have x8 : Ext G h₈ := fun b o q => k7 b o (fun hb => by subst hb; rw [gH] at q; cases q) (fun hb => by subst hb; rw [gO] at q; cases q) (x7 b o q)
  have n8 : h₈.Ns L m7 := n7.at' fun o q => k7 L o hLH hLO q
  have houtl : ∀ k ∈ out, k < xs.length := fun k hk => by have := hout.subset hk; simpa using this
  have hol : out.length = xs.length := by have := hout.length_eq; simpa using this
  -- 8
  refine execsC_cons (wpC_mono (step8 (n := xs.length) hh (by omega) (BG.ext x8) n8 m7o lO iO houtl hol (by omega) (by omega) hTl hw (c1.keeps x8) (c3.keeps x8)) ?_ fun _ _ x => x)
  rintro f s' ⟨rfl, h₉, t₉, uT, rfl, n9, k8⟩
  show wpC _ _ (execs _ _) _ _ _
  have x9 : Ext G h₉ := x8.keep k8 (by simpa using gL)
  have lO : PlainL h₉ O os.toArray := lO.at fun o q => k8 O o (one (Ne.symm hLO)) q
  -- 9
  refine execsC_consA (wpAny_mono (step9 hh (by omega) (BG.ext x9) n9 (gN.at fun o q => x9 _ o q) iN (by omega) hmn (c2.keeps x9) (c4.keeps x9)) ?_ fun _ _ x => x)
  rintro f s' ⟨rfl, h₁₀, t₁₀, F, fs, rfl, n10, hF9, lF, hfs, hfn, k9⟩
  show wpC _ _ (execs _ _) _ _ _
  have x10 : Ext G h₁₀ := x9.keep k9 (by simpa using gL)
  have lO : PlainL h₁₀ O os.toArray := lO.at fun o q => k9 O o (one (Ne.symm hLO)) q
  have b9L : L < h₉.objs.size := n9.lt
  -- 10
  refine execsC_consA (wpAny_mono (step10 hh (by omega) (BG.ext x10) n10 (gN.at fun o q => x10 _ o q) iN (by omega) (by omega) (c2.keeps x10)) ?_ fun _ _ x => x)
  rintro f s' ⟨rfl, h₁₁, t₁₁, R, rs, p, rfl, n11, lR, hrl, hrp, hp, hps', k10⟩
  show wpC _ _ (execs _ _) _ _ _
  have x11 : Ext G h₁₁ := x10.keep k10 (by simpa using gL)
  have lO : PlainL h₁₁ O os.toArray := lO.at fun o q => k10 O o (one (Ne.symm hLO)) q
  have lF : PlainL h₁₁ F fs := lF.at fun o q => k10 F o (one (off b9L hF9)) q
  have hfn' : ∀ i y, fs[i]? = some y → NumsAt h₉.objs.size h₁₁ y (figs mn (xs.getD i 0)) := fun i y q => (hfn i y q).up fun b o hb q => k10 b o (one (off b9L hb)) q
  obtain rfl : out = p := order_one (hout.trans hp.symm) hsrt hps'
  -- 11
  refine execsC_consA (wpAny_mono (step11 (F := F) hh (by omega) (by omega) (BG.ext x11) n11 (st_ne (st_ne (st_ne m7p))) (st_ne (st_ne (st_ne m7o))) (st_ne (st_ne st_eq)) (st_ne st_eq) st_eq (gP.at fun o q => x11 _ o q) lF.isList hps hfs
    (fun i y q => let ⟨a, v, e1, e2, pl, e3⟩ := gF i y q; ⟨a, v, e1, e2, pl.keeps x11, e3⟩) hfn' lO.isList iO lR.isList hrl hol (by omega) hrp (c1.keeps x11) hw (tape_back (by omega) houtl)) ?_ fun _ _ x => x)
  rintro f s' ⟨rfl, h', t', rfl, x'⟩
  exact ⟨rfl, h', t', rfl, (gh.trans x11).trans x'⟩
end

theorem law_holds : _root_.PySem.Challenge.rw_ny0057_01.Holds := by
  refine law_head fun w σ h t sc vs ns B hl hi hlen => ?_
  refine enterCellsC (binds := [("script", .ref sc)]) (by decide) B (B.X 101 _ rfl) rfl ⟨100, _, _, _, rfl, B.X 100 _ rfl, rfl, rfl⟩ rfl rfl rfl ?_ ?_
  · intro x hx
    rw [List.mem_singleton] at hx; subst hx; exact .inl rfl
  intro h₁ t₁ hN hX hcl
  have fr : ∀ k, h.get? (h.objs.size + k) = none := fun k => by
    cases e : h.get? (h.objs.size + k) with
    | none => rfl
    | some o => exact absurd (Heap.lt_size e) (Nat.not_lt.mpr (Nat.le_add_right _ _))
  refine wpC_mono (law_body (L := h.objs.size) (cd := _) rfl (by show callerA.depth + 1 + 200 < recursionLimit; decide) (by show callerA.units + 3 + 300 < cLine; decide) B hX fr hN rfl hl hi hlen (hcl "width" (h.objs.size + 1) rfl) (hcl "numbers" (h.objs.size + 2) rfl) (hcl "turned" (h.objs.size + 3) rfl) (hcl "many" (h.objs.size + 4) rfl) (hcl "text" (h.objs.size + 5) rfl)) ?_ fun _ _ x => x
  rintro f s' ⟨rfl, h', t', rfl, x⟩
  exact ⟨rfl, h', t', rfl, x⟩
end Mine
end

theorem PySem.Challenge.cw_ny0057_01_holds : PySem.Challenge.rw_ny0057_01.Holds :=
  Mine.law_holds
