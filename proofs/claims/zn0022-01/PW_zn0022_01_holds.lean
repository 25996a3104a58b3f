import PyProof.Rows.All
import Wide.All
import OpenK.AllK
import Wide.FinOn
import Lean
import PySem.Challenge.RW_zn0022_01
open PySem PySem.W PySem.Calls PyProof.Rows
set_option Elab.async false
set_option maxRecDepth 100000
set_option maxHeartbeats 8000000
set_option linter.unusedVariables false
set_option linter.unusedSimpArgs false
namespace Zn
/-! ZGG -/
/-! contexts without a frame that could hold a bytearray's buffer -/
noncomputable def holdIds : List String := ["bytearray.__contains__", "bytearray.__mod__", "bytearray.__rmod__", "_struct.pack_into.held", "bytearray.find.held"] ++ Builtin.Bytes.decodersThatHold
noncomputable def noDec : Code → Bool
  | .builtin id _ => !holdIds.contains id
  | _ => true
noncomputable def Clean (Γ : PySem.Ctx) : Prop := noDec Γ.code = true ∧ ∀ q ∈ Γ.below, noDec q.1 = true
noncomputable def wpG {α : Type} (M : Model) (A : Around) (t : Sem α) (Q : α → Shared → Prop) (E : Value → Shared → Prop) (s : Shared) : Prop :=
  ∀ Γ p, Γ.In A → Clean Γ → Sem.wp M Γ t (fun a _ s' => Q a s') (fun e _ s' => E e s') p s
noncomputable def codeG (M : Model) (A : Around) (c : Code) (R : Result → Shared → Prop) (s : Shared) : Prop :=
  ∀ Γ p, Γ.code = c → Γ.Below A → Clean Γ → wpCode M Γ R p s
section
variable {α β : Type} {M : Model} {A : Around} {E : Value → Shared → Prop} {s : Shared}
theorem wpG_of {t : Sem α} {Q : α → Shared → Prop} (h : wpAny M A t Q E s) : wpG M A t Q E s := fun Γ p hΓ _ => h Γ p hΓ
theorem codeG_of {c : Code} {R : Result → Shared → Prop} (h : codeAny M A c R s) : codeG M A c R s := fun Γ p hc hΓ _ => h Γ p hc hΓ
theorem wpG_mono {t : Sem α} {Q Q' : α → Shared → Prop} {E' : Value → Shared → Prop} (h : wpG M A t Q E s) (hQ : ∀ a s, Q a s → Q' a s) (hE : ∀ e s, E e s → E' e s) : wpG M A t Q' E' s :=
  fun Γ p hΓ hc => Sem.wp_mono M Γ t (fun a _ s => hQ a s) (fun e _ s => hE e s) p s (h Γ p hΓ hc)
theorem wpG_bind {m : Sem α} {f : α → Sem β} {Q : β → Shared → Prop} (h : wpG M A m (fun a s' => wpG M A (f a) Q E s') E s) : wpG M A (m >>= f) Q E s := fun Γ p hΓ hc => by
  rw [Sem.wp_bind']
  exact Sem.wp_mono M Γ m (fun a p' s' h' => h' Γ p' hΓ hc) (fun _ _ _ h' => h') p s (h Γ p hΓ hc)
theorem wpG_pure {a : α} {Q : α → Shared → Prop} (h : Q a s) : wpG M A (pure a) Q E s := wpG_of (wpAny_pure h)
/-- the first part by the kit's rules -/
theorem wpG_step {m : Sem α} {f : α → Sem β} {Q : β → Shared → Prop} (h : wpAny M A m (fun a s' => wpG M A (f a) Q E s') E s) : wpG M A (m >>= f) Q E s := wpG_bind (wpG_of h)
theorem wpG_runValue {c : Code} {Q : Value → Shared → Prop} (hn : noDec c = true) (hc : codeG M A c (fun r s' => match r with | .ok (.ret v) => Q v s' | .ok _ => False | .error e => E e s') s) : wpG M A (runValue c) Q E s :=
  fun Γ p hΓ hcl => by
    rw [Sem.wp_runValue]
    refine hc _ p rfl (hΓ.enter c none p (by intro x; cases x)) ⟨hn, fun q hq => ?_⟩
    rcases List.mem_cons.mp hq with rfl | hq
    · exact hcl.1
    · exact hcl.2 q hq
theorem wpG_call {f : Value} {pos : List Value} {kw : List (Str × Value)} {Q : Value → Shared → Prop}
    (hc : codeG M A (.call f ⟨pos, kw⟩) (fun r s' => match r with | .ok (.ret v) => Q v s' | .ok _ => False | .error e => E e s') s) : wpG M A (call f pos kw) Q E s := wpG_runValue rfl hc
theorem codeG_of_tree {c : Code} {R : Result → Shared → Prop}
    (h : wpG M (A.under c) (M.den c) (fun fin s' => match fin with | .done f => R (.ok f) s' | .again c' => (c'.quiet = true ∧ noDec c' = true) ∧ codeG M A c' R s') (fun e s' => R (.error e) s') s) : codeG M A c R s := fun Γ p hc hΓ hcl => by
  rw [wpCode_iff_wp, hc]
  refine Sem.wp_mono M Γ _ (fun fin p' s' h' => ?_) (fun _ _ _ h' => h') p s (h Γ p (hc ▸ hΓ.in) hcl)
  cases fin with
  | done f => exact h'
  | again c' => exact ⟨h'.1.1, h'.2 (Γ.goto c') p' rfl (hΓ.goto c') ⟨h'.1.2, hcl.2⟩⟩
end

theorem caller_clean : Clean (⟨.builtin "claim.caller" {}, none, none, [], none⟩ : PySem.Ctx) := ⟨by decide +kernel, fun q hq => nomatch hq⟩
theorem wp_doneG {M : Model} {A : Around} {Γ : PySem.Ctx} {t : Sem Fin} {R : Result → Shared → Prop} {s : Shared} (hin : Γ.In A) (hcl : Clean Γ)
    (h : wpG M A t (fun fin s' => ∃ f, fin = .done f ∧ R (.ok f) s') (fun e s' => R (.error e) s') s) (p : Pos) : Sem.wp M Γ t (Sem.finPost M Γ R) (fun e _ s' => R (.error e) s') p s := by
  refine Sem.wp_mono M Γ t (fun fin p' s' h' => ?_) (fun _ _ _ h' => h') p s (h Γ p hin hcl)
  obtain ⟨f, rfl, hf⟩ := h'
  exact hf
theorem thread_endsG {prog : Program} {w : World} {t : Sem Fin} {s : Shared} {R : Result → Shared → Prop} (hreg : s.asleep)
    (h : wpG (model prog w) callerA t (fun fin s' => ∃ f, fin = .done f ∧ (R (.ok f) s' ∧ leftWithCleanup s'.gens = false)) (fun e s' => R (.error e) s' ∧ leftWithCleanup s'.gens = false) s) :
    ∃ n r s' s'', runN (denote table) prog w n s ⟨t, .builtin "claim.caller" {}, default, []⟩ = .halted (outcomeOf r) s' ∧
      schedN (denote table) prog w n (.single s ⟨t, .builtin "claim.caller" {}, default, []⟩) = .halted (outcomeOf r) s' ∧ s'.forget = s''.forget ∧ R r s'' := by
  obtain ⟨n, r, s₁, s₂, hs, hn, hfo, hR⟩ := wp_halts_full (M := model prog w) (R := R) hreg (wp_doneG (R := fun r s' => R r s' ∧ leftWithCleanup s'.gens = false) caller_in caller_clean h default)
  exact ⟨n, r, s₂, s₁, hn, hs, hfo, hR⟩
theorem callFromG {c : ClaimW} {tree : List Value → Sem Fin} {w : World} {s : Shared} {free : Addr → Prop} {gens : Prop} {kept : Heap → Prop} (hz : s.asleep) (hgens : s.gens = #[])
    (hspec : ∀ args, c.pre args = true → WData.layableAll args = true →
      ∀ ord : List DictEntry → List DictEntry, (∀ l, (ord l).Perm l) →
      ∃ vs s₁, layAllW c.records (classAt s.heap) w.params ord args s = some (vs, s₁) ∧
        wpG (model c.prog w) callerA (tree vs) (fun fin s' => ∃ f, fin = .done f ∧ (c.Ends s args vs s₁ (.ok f) s' ∧ s'.os = s.os ∧ AllBare s'.gens ∧ kept s'.heap))
          (fun e s' => c.Ends s args vs s₁ (.error e) s' ∧ s'.os = s.os ∧ AllBare s'.gens ∧ kept s'.heap) s₁) :
    c.CallFrom (fun vs => ⟨tree vs, .builtin "claim.caller" {}, default, []⟩) w free gens kept s := by
  intro args hpre hlay ord hord
  obtain ⟨vs, s₁, hlaid, hcode⟩ := hspec args hpre hlay ord hord
  have hal := layAllW_rest _ _ _ hlaid
  obtain ⟨k, r, s', s'', hrun, hsched, hfo, hcase, hos, hkp⟩ := thread_endsG (prog := c.prog) (w := w) (t := tree vs) (s := s₁)
    (R := fun r s' => c.Ends s args vs s₁ r s' ∧ s'.os = s.os ∧ kept s'.heap) (Shared.asleep_of_life hal.2.2.2 hz)
    (wpG_mono hcode (by
      rintro fin s' ⟨f, e, h1, h2, h3, h4⟩
      exact ⟨f, e, ⟨h1, h2, h4⟩, leftWithCleanup_false_of_bare h3⟩) (by
      rintro e s' ⟨h1, h2, h3, h4⟩
      exact ⟨⟨h1, h2, h4⟩, leftWithCleanup_false_of_bare h3⟩))
  obtain ⟨eh, _, _, eo, _⟩ := Shared.forget_eq hfo
  have hcase := hcase.congr eh
  have hkp : kept s'.heap := by first | exact eh ▸ hkp | (rw [eh] at hkp; exact hkp) | (rw [← eh] at hkp; exact hkp)
  rw [← eo] at hos
  have hlife : s'.heap.life = s.heap.life := (runN_life _ _ _ hrun).trans hal.2.2.2
  refine ⟨vs, s₁, hlaid, k, _, s', hsched, ?_, (fun _ i x hx => by rw [hgens] at hx; simp at hx), hkp, by rw [hlife], Shared.rest_eq hos⟩
  rcases hcase with ⟨v, rfl, d1, d2, d3, d4, d5⟩ | ⟨e, ob, cls, rfl, d1, d2, d3, d4, d5⟩
  · exact .inl ⟨v, rfl, d1, d2, d3, fun b o y _ => d4 b o y, d5⟩
  · exact .inr ⟨e, ob, cls, rfl, d1, d2, d3, d4, fun b o y _ => d5 b o y⟩
/-! ZHG -/

theorem open_any {r : RowW} {run : Value → List Value → Sem Value} {tree : List Value → Sem Fin} {q : Program} {loose defs kps : List Str} {writes : Bool} {Xt : Shared → Bool} {XP : (Str → Option Value) → Heap → Prop} {α : Type} {Yf : Shared → α} {Ya : World → α} {YP : World → Heap → Prop} {N : Nat}
    (left : LeftO r.prog q loose Xt Yf Ya N) (hY : ∀ w s, Yf s = Ya w → YP w s.heap) (hYk : ∀ w h h', YP w h → (∀ b o, h.get? b = some o → h'.get? b = some o) → YP w h') (hX : ∀ s, Xt s = true → XP (s.heap.nsMap mainGlobals) s.heap) (hXk : ∀ mg h h', XP mg h → (∀ b o, h.get? b = some o → h'.get? b = some o) → XP mg h')
    (hRf : ∀ s, Xt s = true → RecFacts r.records s.heap) (hwr : (!writes || r.records.isEmpty) = true) (ok : (chainsOk q && opensWell r.prog && (frees r && r.within.isEmpty)) = true) (hb : r.prog.bare) (hw : r.promised)
    (ht : ∀ vs (w : World) (s : Shared) mg f (Q : Fin → Shared → Prop) (E : Value → Shared → Prop), s.heap.Ns mainGlobals mg → mg r.name = some f → wpG (model r.prog w) callerA (run f vs) (fun v s' => Q (.done (.ret v)) s') E s → wpG (model r.prog w) callerA (tree vs) Q E s)
    (pin : ∀ w s, s.heap.isNs mainGlobals = true → Ground q loose [] XP w s (s.heap.nsMap mainGlobals) (s.heap.nsMap builtinsNs) s.heap → ∀ n ∈ defs, isTheDefsW r.prog s.heap n)
    (call : ∀ (w : World) (s₀ s₁ : Shared) (mg mb : Str → Option Value), Ground q loose r.records XP w s₀ mg mb s₁.heap → YP w s₁.heap → ∀ (args : List WData) (vs : List Value) (as : List Addr),
      r.claim.pre args = true → WData.layableAll args = true → Laid r.records w s₀ s₁ args vs as → sysModules < s₀.heap.objs.size → ∃ f, mg r.name = some f ∧
        wpG (model r.prog w) callerA (run f vs) (fun v s' => GoodWG r.claim (classAt s₀.heap) (ExcName.means s₀.heap) args s₁ (.ok (.ret v)) s')
          (fun e s' => GoodWG r.claim (classAt s₀.heap) (ExcName.means s₀.heap) args s₁ (.error e) s') s₁) : r.claim.HoldsOpenBy (fun vs => ⟨tree vs, .builtin "claim.caller" {}, default, []⟩) defs kps writes := by
  obtain ⟨ok, k5⟩ := Bool.and_eq_true_iff.mp ok
  obtain ⟨hch, o1⟩ := Bool.and_eq_true_iff.mp ok
  obtain ⟨k5, k6⟩ := Bool.and_eq_true_iff.mp k5
  obtain ⟨hsame, hu, ha, hap, hm⟩ := frees_parts k5
  refine ⟨⟨hb, o1, by show r.makers.map _ = []; rw [hm]; rfl⟩, hw.witness, fun w => ⟨(left.behind hX hch w).1, fun s' hs' => ?_⟩⟩
  obtain ⟨s₀, hf, hg0, s, hT, hz, hgens, hg, G00, y⟩ := (left.behind (XP := fun mg h => XP mg h ∧ RecFacts r.records h) (fun s hs => ⟨hX s hs, hRf s hs⟩) hch w).2 s' hs'
  have G0 : Ground q loose [] XP w s (s.heap.nsMap mainGlobals) (s.heap.nsMap builtinsNs) s.heap := ⟨G00.T, G00.B, G00.D, G00.TE, G00.TD, G00.W, G00.X.1, G00.cls, G00.has, G00.apart, G00.once, G00.K⟩
  have RF := G00.X.2
  have hT' := hT
  refine ⟨s₀, hf, hg0, s, hT, pin w s hg G0, RF.1, RF.2.1, ?_⟩
  have hgens : s.gens = #[] := Array.eq_empty_of_size_eq_zero (beq_iff_eq.mp hgens)
  have G : Ground q loose r.records XP w s _ _ s.heap := RF.ground G0
  refine callFromG (c := r.claim) hz hgens fun args hpre hlay ord hord => ?_
  obtain ⟨⟨vs, s₁⟩, hlaid⟩ := Option.isSome_iff_exists.mp (layAllW_isSome (P := w.params) (ord := ord) G.has args r.args s (pre_splitW hpre).1)
  have keeps := layAllW_keeps _ _ _ hlaid
  have hal := layAllW_rest _ _ _ hlaid
  obtain ⟨as, hrd, hin, hold⟩ := reads_layAllW hord _ _ _ hlaid hlay s₁.heap (fun _ _ e => e)
  have L : Laid r.records w s s₁ args vs as := ⟨⟨ord, hord, hlaid⟩, hrd, hin, hold, keeps, hal.1.trans hgens, hal.2.2.1⟩
  have G₁ := G.keeps hXk keeps
  obtain ⟨f, hf, h⟩ := call w s s₁ _ _ G₁ (hYk _ _ _ (hY w s y) keeps) args vs as hpre hlay L G.low
  have hi := ident_freeW hu ha hap
  have hwi : r.claim.within = [] := List.isEmpty_iff.mp k6
  exact ⟨vs, s₁, hlaid, ht vs w s₁ _ f _ _ G₁.T.g hf (wpG_mono h (fun v s' g => ⟨_, rfl, have z := g.laid (c := r.claim) hsame hwi hi L; ⟨z.1, z.2.1, z.2.2, fun q => ⟨namesKept_of hT' hg kps keeps g.2.1.old, noTable hwr q⟩⟩⟩) fun e s' g => have z := g.laid (c := r.claim) hsame hwi hi L; ⟨z.1, z.2.1, z.2.2, fun q => ⟨namesKept_of hT' hg kps keeps g.2.1.old, noTable hwr q⟩⟩)⟩

noncomputable abbrev WalkG (q : Program) (loose : List Str) (XP : (Str → Option Value) → Heap → Prop) (YP : World → Heap → Prop) (r : RowW) (d : DefRec) (kwd : List (Str × Expr)) (run : Value → List Value → Sem Value) : Prop :=
  ∀ (w : World) (s₀ s₁ : Shared) (mg mb : Str → Option Value), Ground q loose r.records XP w s₀ mg mb s₁.heap → YP w s₁.heap → ∀ (a : Addr) (o : Obj) (pm cd doc dV kV : Value), s₁.heap.get? a = some o →
    o.data = .func { docDef d.name d.params d.body d.scope pm cd doc with defaults := dV, kwdefaults := kV } → s₁.heap.CodeRec cd d.name → Dflts mg s₁.heap d.params kwd dV kV → mg d.name = some (.ref a) → s₁.gens = #[] →
    ∀ (args : List WData) (vals : List Value) (as : List Addr), r.claim.pre args = true → WData.layableAll args = true → ReadsAllW r.records (classAt s₀.heap) s₁.heap vals args as → WellAll w.params s₁.heap vals args → (∀ a ∈ as, (a == sysModules) = false) →
      wpG (model r.prog w) callerA (run (.ref a) vals) (fun v s' => GoodWG r.claim (classAt s₀.heap) (ExcName.means s₀.heap) args s₁ (.ok (.ret v)) s')
        (fun e s' => GoodWG r.claim (classAt s₀.heap) (ExcName.means s₀.heap) args s₁ (.error e) s') s₁

/-- the opening is the plain one: the top is run from behind it -/
theorem left_of_top {p q : Program} {loose : List Str} {Xt : Shared → Bool} {α : Type} {Yf : Shared → α} {Ya : World → α} {N : Nat} (e : opening p = plainProg p.main.scope.names) (hN : Nat.ble 600 N = true) (f : ∀ s, fenceModules? p s = some s)
    (left : ∀ w : World, (fun os : OsState => (topFrom treeTable p w N ⟨boot_heap w.params, Array.mk [], boot_drawn, boot_toks, os⟩).map (fun s => (openSeen q loose (importedModules p.main.body) Xt true s, Yf s))) = fun _ => some (openGood q loose, Ya w)) :
    LeftO p q loose Xt Yf Ya N := fun w => by
  obtain ⟨s₀, hs, hv⟩ := Option.map_eq_some_iff.mp (boot_open e hN f w)
  obtain ⟨h, g, d, t, os⟩ := s₀
  obtain ⟨e1, e2⟩ := Prod.mk.inj hv
  obtain ⟨e3, e4⟩ := Prod.mk.inj e2
  obtain ⟨e5, e6⟩ := Prod.mk.inj e4
  clear e2 e4 hv
  dsimp only at e1 e3 e5 e6
  subst e1 e3 e5 e6
  unfold openEnds
  rw [hs]
  exact congrFun (left w) os
/-- the kit's head, with a call in clean contexts alone -/
theorem holds_openG {r : OpenRow} {q : Program} {loose : List Str} {Xt : Shared → Bool} {XP : (Str → Option Value) → Heap → Prop} {α : Type} {Yf : Shared → α} {Ya : World → α} {YP : World → Heap → Prop} {d : DefRec} {kwd : List (Str × Expr)} {N : Nat}
    (left : ∀ w : World, (fun os : OsState => (topFrom treeTable r.prog w N ⟨boot_heap w.params, Array.mk [], boot_drawn, boot_toks, os⟩).map (fun s => (openSeen q loose (importedModules r.prog.main.body) Xt true s, Yf s))) = fun _ => some (openGood q loose, Ya w)) (hY : ∀ w s, Yf s = Ya w → YP w s.heap) (hYk : ∀ w h h', YP w h → (∀ b o, h.get? b = some o → h'.get? b = some o) → YP w h')
    (hX : ∀ s, Xt s = true → XP (s.heap.nsMap mainGlobals) s.heap) (hXk : ∀ mg h h', XP mg h → (∀ b o, h.get? b = some o → h'.get? b = some o) → XP mg h')
    (hdef : defOf q r.name = some (d, kwd)) (hp : r.prog.theDef r.name = some (d.params, d.body, d.scope)) (hk : kwWritten? d.params.kwonlyargs d.params.kw_defaults = some kwd) (hRf : ∀ s, Xt s = true → RecFacts r.records s.heap) (hwr : (!r.writes || r.records.isEmpty) = true)
    (k1 : r.wellSaid = true) (ok : (chainsOk q && opensWell r.prog && (frees r.toRowW && r.within.isEmpty)) = true) (hb : r.prog.bare) (hw : r.toRowW.promised)
    (call : WalkG q loose XP YP r.toRowW d kwd fun f vs => PySem.call f vs) (e : opening r.prog = plainProg r.prog.main.scope.names := by rfl) (hN : Nat.ble 600 N = true := by rfl) (f : ∀ s, fenceModules? r.prog s = some s := by intro s; rfl) : r.Holds := by
  refine ⟨k1, hw, open_any (r := r.toRowW) (run := fun f vs => PySem.call f vs) (tree := fun vs => do match ← nsGet mainNs r.name with
      | some f => do ret (← PySem.call f vs)
      | none => unsupported "claim.caller:no-such-global") (left_of_top e hN f left) hY hYk hX hXk hRf hwr ok hb hw
    (fun vs w s mg f Q E hg hf h => wpG_step (wpAny_nsGet hg (by rw [hf]; exact wpG_bind (wpG_mono h (fun _ _ x => wpG_pure x) fun _ _ x => x))))
    (fun w s hg G n hn => ?_) fun w s₀ s₁ mg mb G Y args vs as hpre hlay L low => ?_⟩
  · obtain rfl : n = r.name := by split at hn <;> simp_all
    exact pinned_of_view hg G hdef hp hk
  · obtain ⟨a, o, pm, cd, doc, dV, kV, h1, h2, h3, h4, h5⟩ := G.fn hdef
    exact ⟨.ref a, h1, call w s₀ s₁ mg mb G Y a o pm cd doc dV kV h2 h3 h4 h5 (defOf_name hdef ▸ h1) L.gens args vs as hpre hlay L.reads L.well (L.low low)⟩
/-! ZHd -/
theorem said_looks : looksOpen PySem.Challenge.rw_zn0022_01.row.prog = true := by
  unfold looksOpen
  iterate 5 (refine look_both ?_ ?_)
  all_goals decide +kernel
theorem said_part : PySem.Challenge.rw_zn0022_01.row.partSaid = true := by
  unfold OpenRow.partSaid
  iterate 13 (refine look_both ?_ ?_)
  · exact said_looks
  all_goals decide +kernel
theorem said_row : PySem.Challenge.rw_zn0022_01.row.wellSaid = true := by
  unfold OpenRow.wellSaid
  refine look_both (look_both said_part ?_) ?_ <;> decide +kernel
theorem said : PySem.Challenge.rw_zn0022_01.wellSaid = true := by
  unfold OpenLaw.wellSaid
  iterate 18 (refine look_both ?_ ?_)
  · exact said_row
  all_goals decide +kernel
/-- the head of this row: that the row is well said stands already -/
theorem PySem.W.holds_open {q : Program} {loose : List Str} {Xt : Shared → Bool} {XP : (Str → Option Value) → Heap → Prop} {α : Type} {Yf : Shared → α} {Ya : World → α} {YP : World → Heap → Prop} {d : DefRec} {kwd : List (Str × Expr)} {N : Nat}
    (left : ∀ w : World, (fun os : OsState => (topFrom treeTable PySem.Challenge.rw_zn0022_01.row.prog w N ⟨boot_heap w.params, Array.mk [], boot_drawn, boot_toks, os⟩).map (fun s => (openSeen q loose (importedModules PySem.Challenge.rw_zn0022_01.row.prog.main.body) Xt true s, Yf s))) = fun _ => some (openGood q loose, Ya w)) (hY : ∀ w s, Yf s = Ya w → YP w s.heap) (hYk : ∀ w h h', YP w h → (∀ b o, h.get? b = some o → h'.get? b = some o) → YP w h')
    (hX : ∀ s, Xt s = true → XP (s.heap.nsMap mainGlobals) s.heap) (hXk : ∀ mg h h', XP mg h → (∀ b o, h.get? b = some o → h'.get? b = some o) → XP mg h')
    (hdef : defOf q PySem.Challenge.rw_zn0022_01.row.name = some (d, kwd)) (hp : PySem.Challenge.rw_zn0022_01.row.prog.theDef PySem.Challenge.rw_zn0022_01.row.name = some (d.params, d.body, d.scope)) (hk : kwWritten? d.params.kwonlyargs d.params.kw_defaults = some kwd) (hRf : ∀ s, Xt s = true → RecFacts PySem.Challenge.rw_zn0022_01.row.records s.heap) (hwr : (!PySem.Challenge.rw_zn0022_01.row.writes || PySem.Challenge.rw_zn0022_01.row.records.isEmpty) = true)
    (k1 : True) (ok : (chainsOk q && opensWell PySem.Challenge.rw_zn0022_01.row.prog && (frees PySem.Challenge.rw_zn0022_01.row.toRowW && PySem.Challenge.rw_zn0022_01.row.within.isEmpty)) = true) (hb : PySem.Challenge.rw_zn0022_01.row.prog.bare) (hw : PySem.Challenge.rw_zn0022_01.row.toRowW.promised)
    (call : WalkG q loose XP YP PySem.Challenge.rw_zn0022_01.row.toRowW d kwd fun f vs => PySem.call f vs) (hN : Nat.ble 600 N = true := by rfl) : PySem.Challenge.rw_zn0022_01.row.Holds :=
  holds_openG left hY hYk hX hXk hdef hp hk hRf hwr said_row ok hb hw call rfl hN
open_top hd for PySem.Challenge.rw_zn0022_01.row
/-! ZF -/

noncomputable abbrev GH := Addr → Option Obj

/-- data -/
inductive D where
  | lit (v : Value)
  | int (i : Int)
  | byt (b : Array UInt8)
  | tup (ds : List D)
  | lst (ds : List D)
  | lsi (ds : List D)
  | dic (es : List (Int × Int))
  | obj (o : Obj)

noncomputable abbrev pw : Program := PySem.Challenge.pw_zn0022_01

/-- pairs of ints, as they stand in a dict -/
inductive IKs : List (Int × Value) → List (Int × Int) → Prop
  | nil : IKs [] []
  | cons (k x : Int) (t : Tok) {r : List (Int × Value)} {q : List (Int × Int)} : IKs r q → IKs ((k, .int x t) :: r) ((k, x) :: q)
/-- an int dict's object -/
noncomputable def IntObj (w : World) (o : Obj) (es : List (Int × Int)) : Prop := ∃ kvs : List (Int × Value), o.IsDictOf (intKind pw w) kvs ∧ IKs kvs es

inductive Rep (w : World) (g : GH) : Value → D → Prop
  | lit (v : Value) : Rep w g v (.lit v)
  | int (i : Int) (t : Tok) : Rep w g (.int i t) (.int i)
  | byt (b : Array UInt8) (t : Tok) : Rep w g (.bytes b t) (.byt b)
  | tup {a : Addr} {o : Obj} {vs : List Value} {n : Nat} {ds : List D} : g a = some o → o.cls = .type "tuple" → o.data = .seq vs.toArray n → vs.length = ds.length →
      (∀ (i : Nat) v d, vs[i]? = some v → ds[i]? = some d → Rep w g v d) → Rep w g (.ref a) (.tup ds)
  | lst {a : Addr} {vs : List Value} {n : Nat} {ds : List D} : g a = some (listOf vs.toArray n) → vs.length = ds.length →
      (∀ (i : Nat) v d, vs[i]? = some v → ds[i]? = some d → Rep w g v d) → Rep w g (.ref a) (.lst ds)
  | lsi {a : Addr} {o : Obj} {vs : List Value} {n : Nat} {ds : List D} : g a = some o → o.cls = .type "list" → o.data = .seq vs.toArray n → vs.length = ds.length →
      (∀ (i : Nat) v d, vs[i]? = some v → ds[i]? = some d → Rep w g v d) → Rep w g (.ref a) (.lsi ds)
  | obj {a : Addr} {o : Obj} : g a = some o → Rep w g (.ref a) (.obj o)
  | dic {a : Addr} {o : Obj} {es : List (Int × Int)} : g a = some o → IntObj w o es → (a == sysModules) = false → Rep w g (.ref a) (.dic es)

noncomputable def RepAll (w : World) (g : GH) (vs : List Value) (ds : List D) : Prop := vs.length = ds.length ∧ ∀ (i : Nat) v d, vs[i]? = some v → ds[i]? = some d → Rep w g v d

noncomputable def GLe (g g' : GH) : Prop := ∀ b o, g b = some o → g' b = some o
theorem GLe.refl (g : GH) : GLe g g := fun _ _ e => e
theorem GLe.trans {a b c : GH} (x : GLe a b) (y : GLe b c) : GLe a c := fun _ _ e => y _ _ (x _ _ e)

theorem Rep.mono {w : World} {g g' : GH} (hg : GLe g g') {v : Value} {d : D} (h : Rep w g v d) : Rep w g' v d := by
  induction h with
  | lit v => exact .lit v
  | int i t => exact .int i t
  | byt b t => exact .byt b t
  | tup a b c d _ ih => exact .tup (hg _ _ a) b c d ih
  | lst a d _ ih => exact .lst (hg _ _ a) d ih
  | lsi a b c d _ ih => exact .lsi (hg _ _ a) b c d ih
  | obj a => exact .obj (hg _ _ a)
  | dic a b c => exact .dic (hg _ _ a) b c
theorem RepAll.mono {w : World} {g g' : GH} (hg : GLe g g') {vs : List Value} {ds : List D} (h : RepAll w g vs ds) : RepAll w g' vs ds := ⟨h.1, fun i v d a b => (h.2 i v d a b).mono hg⟩
theorem RepAll.nil {w : World} {g : GH} : RepAll w g [] [] := ⟨rfl, fun _ _ _ h => by simp at h⟩
theorem RepAll.cons {w : World} {g : GH} {v : Value} {d : D} {vs : List Value} {ds : List D} (h : Rep w g v d) (r : RepAll w g vs ds) : RepAll w g (v :: vs) (d :: ds) := by
  refine ⟨by simp [r.1], fun i u e hu he => ?_⟩
  cases i with
  | zero => simp at hu he; subst hu; subst he; exact h
  | succ i => simp at hu he; exact r.2 i u e hu he
theorem RepAll.append {w : World} {g : GH} {vs us : List Value} {ds es : List D} (h : RepAll w g vs ds) (r : RepAll w g us es) : RepAll w g (vs ++ us) (ds ++ es) := by
  refine ⟨by simp [h.1, r.1], fun i u e hu he => ?_⟩
  by_cases hi : i < vs.length
  · rw [List.getElem?_append_left hi] at hu
    rw [List.getElem?_append_left (h.1 ▸ hi)] at he
    exact h.2 i u e hu he
  · rw [List.getElem?_append_right (Nat.le_of_not_lt hi)] at hu
    rw [List.getElem?_append_right (by rw [← h.1]; exact Nat.le_of_not_lt hi), ← h.1] at he
    exact r.2 _ u e hu he
theorem RepAll.get {w : World} {g : GH} {vs : List Value} {ds : List D} (h : RepAll w g vs ds) {i : Nat} {d : D} (hd : ds[i]? = some d) : ∃ v, vs[i]? = some v ∧ Rep w g v d := by
  have hi : i < ds.length := (List.getElem?_eq_some_iff.mp hd).1
  have hv : i < vs.length := by rw [h.1]; exact hi
  exact ⟨vs[i], List.getElem?_eq_getElem hv, h.2 i _ d (List.getElem?_eq_getElem hv) hd⟩

/-- what stands at an address that may change -/
inductive MD where
  | ns (σ : List (Str × D))
  | lst (ds : List D)
  | cell (d : Option D)
  | obj (o : Obj)
  | dic (es : List (Int × Int))
  | bar (b : Array UInt8)
  | fl (cls : String) (fs : List Value)
  | prd (P : Obj → Prop)
  | tpl (ds : List D)

noncomputable def cellOk (w : World) (g : GH) (h : Heap) (a : Addr) : Option D → Prop
  | none => h.IsCell a none
  | some d => ∃ v, h.IsCell a (some v) ∧ Rep w g v d

noncomputable def MRep (w : World) (g : GH) (h : Heap) (a : Addr) : MD → Prop
  | .ns σ => ∃ m, h.Ns a m ∧ ∀ p ∈ σ, ∃ v, m p.1 = some v ∧ Rep w g v p.2
  | .lst ds => ∃ vs n, h.get? a = some (listOf vs.toArray n) ∧ RepAll w g vs ds
  | .cell d => cellOk w g h a d
  | .obj o => h.get? a = some o
  | .dic es => ∃ o, h.get? a = some o ∧ IntObj w o es ∧ (a == sysModules) = false
  | .prd P => ∃ o, h.get? a = some o ∧ P o
  | .tpl ds => ∃ vs : List Value, h.get? a = some { cls := .type "tuple", data := .seq vs.toArray } ∧ RepAll w g vs ds
  | .fl cls fs => ∃ o, h.get? a = some o ∧ o.cls = .type cls ∧ o.data = .fields fs.toArray
  | .bar b => h.get? a = some { cls := .type "bytearray", data := .bytearray b 0 }

/-- only the object at a is looked at -/
theorem MRep.at' {w : World} {g g' : GH} {h h' : Heap} {a : Addr} {md : MD} (hg : GLe g g') (e : ∀ o, h.get? a = some o → h'.get? a = some o) (x : MRep w g h a md) : MRep w g' h' a md := by
  cases md with
  | ns σ => obtain ⟨m, hn, hs⟩ := x; exact ⟨m, let ⟨o, es, ep, y, r⟩ := hn; ⟨o, es, ep, e _ y, r⟩, fun p hp => let ⟨v, hv, hr⟩ := hs p hp; ⟨v, hv, hr.mono hg⟩⟩
  | lst ds => obtain ⟨vs, n, ho, hr⟩ := x; exact ⟨vs, n, e _ ho, hr.mono hg⟩
  | cell d =>
    cases d with
    | none => obtain ⟨o, ho, hd⟩ := x; exact ⟨o, e _ ho, hd⟩
    | some d => obtain ⟨v, ⟨o, ho, hd⟩, hr⟩ := x; exact ⟨v, ⟨o, e _ ho, hd⟩, hr.mono hg⟩
  | obj o => exact e _ x
  | dic es => obtain ⟨o, ho, r⟩ := x; exact ⟨o, e _ ho, r⟩
  | bar b => exact e _ x
  | fl cls fs => obtain ⟨o, ho, r⟩ := x; exact ⟨o, e _ ho, r⟩
  | prd P => obtain ⟨o, ho, r⟩ := x; exact ⟨o, e _ ho, r⟩
  | tpl ds => obtain ⟨vs, ho, r⟩ := x; exact ⟨vs, e _ ho, r.mono hg⟩
theorem MRep.alive {w : World} {g : GH} {h : Heap} {a : Addr} {md : MD} (x : MRep w g h a md) : ∃ o, h.get? a = some o := by
  cases md with
  | ns σ => obtain ⟨m, ⟨o, _, _, y, _⟩, _⟩ := x; exact ⟨o, y⟩
  | lst ds => obtain ⟨vs, n, ho, hr⟩ := x; exact ⟨_, ho⟩
  | cell d =>
    cases d with
    | none => obtain ⟨o, ho, hd⟩ := x; exact ⟨o, ho⟩
    | some d => obtain ⟨v, ⟨o, ho, hd⟩, hr⟩ := x; exact ⟨o, ho⟩
  | obj o => exact ⟨o, x⟩
  | dic es => obtain ⟨o, ho, r⟩ := x; exact ⟨o, ho⟩
  | bar b => exact ⟨_, x⟩
  | fl cls fs => obtain ⟨o, ho, r⟩ := x; exact ⟨o, ho⟩
  | prd P => obtain ⟨o, ho, r⟩ := x; exact ⟨o, ho⟩
  | tpl ds => obtain ⟨vs, ho, r⟩ := x; exact ⟨_, ho⟩

noncomputable abbrev KH (w : World) : Frag := Zn.hd.heap_1 w.params

theorem len2 {α : Type} : ∀ {vs : List α}, vs.length = 2 → ∃ x y, vs = [x, y]
  | [x, y], _ => ⟨x, y, rfl⟩
theorem len3 {α : Type} : ∀ {vs : List α}, vs.length = 3 → ∃ x y z, vs = [x, y, z]
  | [x, y, z], _ => ⟨x, y, z, rfl⟩
/-- the top's ground -/
noncomputable def Gd (w : World) (g : GH) : Prop := ∀ h : Heap, (∀ b o, g b = some o → h.get? b = some o) →
  (KH w).In h ∧ CodeHd h 124 120 ∧ ∃ p loose mean mg mb, Top p loose mean mg mb h

structure Cx where
  w : World
  gens : Array GenState
  os : OsState
  g₀ : GH
  fr : GH

structure Core (w : World) (T : List (Value × D)) (mu : List (Addr × MD)) (g fr : GH) (h : Heap) : Prop where
  gd : Gd w g
  kg : ∀ b o, g b = some o → h.get? b = some o
  kf : ∀ b o, fr b = some o → h.get? b = some o
  gf : ∀ b o, fr b = some o → g b = none
  tm : ∀ p ∈ T, Rep w g p.1 p.2
  mr : ∀ p ∈ mu, MRep w g h p.1 p.2
  gm : ∀ p ∈ mu, g p.1 = none ∧ fr p.1 = none
  nd : (mu.map (·.1)).Nodup

noncomputable def St (c : Cx) (T : List (Value × D)) (mu : List (Addr × MD)) (s : Shared) : Prop :=
  s.gens = c.gens ∧ s.os = c.os ∧ ∃ g, GLe c.g₀ g ∧ Core c.w T mu g c.fr s.heap

theorem Gd.mono {w : World} {g g' : GH} (hg : GLe g g') (x : Gd w g) : Gd w g' := fun h hh => x h fun b o e => hh b o (hg b o e)

/-- pairwise apart addresses -/
theorem nodup_ne {mu : List (Addr × MD)} (nd : (mu.map (·.1)).Nodup) {i j : Nat} {p q : Addr × MD} (hi : mu[i]? = some p) (hj : mu[j]? = some q) (ne : i ≠ j) : p.1 ≠ q.1 := by
  intro e
  have a : (mu.map (·.1))[i]? = some p.1 := by rw [List.getElem?_map, hi]; rfl
  have b : (mu.map (·.1))[j]? = some p.1 := by rw [List.getElem?_map, hj, e]; rfl
  have hi' := (List.getElem?_eq_some_iff.mp a)
  exact ne ((List.getElem?_inj hi'.1 nd).mp (a.trans b.symm))

section
variable {c : Cx} {T : List (Value × D)} {mu : List (Addr × MD)} {s : Shared}

theorem St.sub {T' : List (Value × D)} (H : St c T mu s) (h : ∀ p ∈ T', p ∈ T) : St c T' mu s :=
  let ⟨a, b, g, l, C⟩ := H; ⟨a, b, g, l, { C with tm := fun p hp => C.tm p (h p hp) }⟩
theorem St.drop (H : St c T mu s) : St c [] mu s := H.sub fun _ h => nomatch h
theorem St.toks {k : Nat} (H : St c T mu s) : St c T mu { s with toks := k } := H
/-- more is known of values -/
theorem St.know {v : Value} {d : D} (H : St c T mu s) (h : ∀ g, Rep c.w g v d) : St c ((v, d) :: T) mu s :=
  let ⟨a, b, g, l, C⟩ := H; ⟨a, b, g, l, { C with tm := fun p hp => by rcases List.mem_cons.mp hp with rfl | hp; exact h g; exact C.tm p hp }⟩
theorem St.lit (v : Value) (H : St c T mu s) : St c ((v, .lit v) :: T) mu s := H.know fun _ => .lit v
theorem St.intv (i : Int) (t : Tok) (H : St c T mu s) : St c ((.int i t, .int i) :: T) mu s := H.know fun _ => .int i t

theorem St.isInt {v : Value} {i : Int} (H : St c T mu s) (h : (v, .int i) ∈ T) : ∃ t, v = .int i t := by
  obtain ⟨_, _, g, _, C⟩ := H
  cases C.tm _ h with
  | int i t => exact ⟨t, rfl⟩
theorem St.isLit {v u : Value} (H : St c T mu s) (h : (v, .lit u) ∈ T) : v = u := by
  obtain ⟨_, _, g, _, C⟩ := H
  have := C.tm _ h
  dsimp only at this
  cases this; rfl
theorem St.isByt {v : Value} {b : Array UInt8} (H : St c T mu s) (h : (v, .byt b) ∈ T) : ∃ t, v = .bytes b t := by
  obtain ⟨_, _, g, _, C⟩ := H
  cases C.tm _ h with
  | byt i t => exact ⟨t, rfl⟩
theorem St.isLst {v : Value} {ds : List D} (H : St c T mu s) (h : (v, .lst ds) ∈ T) : ∃ (a : Addr) (vs : List Value), v = .ref a ∧ s.heap.IsList a vs.toArray ∧ vs.length = ds.length ∧
    ∀ (i : Nat) d, ds[i]? = some d → ∃ x, vs[i]? = some x ∧ St c ((x, d) :: T) mu s := by
  obtain ⟨ge, os, g, l, C⟩ := H
  cases C.tm _ h with
  | lst ho hl he =>
    rename_i a vs n
    refine ⟨a, vs, rfl, ⟨_, C.kg _ _ ho, rfl, n, rfl⟩, hl, fun i d hi => ?_⟩
    obtain ⟨x, hx, hr⟩ := RepAll.get (w := c.w) (g := g) ⟨hl, he⟩ hi
    exact ⟨x, hx, ge, os, g, l, { C with tm := fun p hp => by rcases List.mem_cons.mp hp with rfl | hp; exact hr; exact C.tm p hp }⟩
theorem St.isTup {v : Value} {ds : List D} (H : St c T mu s) (h : (v, .tup ds) ∈ T) : ∃ (a : Addr) (vs : List Value), v = .ref a ∧ IsTup s.heap a vs.toArray ∧ vs.length = ds.length ∧
    ∀ (i : Nat) d, ds[i]? = some d → ∃ x, vs[i]? = some x ∧ St c ((x, d) :: T) mu s := by
  obtain ⟨ge, os, g, l, C⟩ := H
  cases C.tm _ h with
  | tup ho hc hd hl he =>
    rename_i a o vs n
    refine ⟨a, vs, rfl, ⟨o, C.kg _ _ ho, hc, n, hd⟩, hl, fun i d hi => ?_⟩
    obtain ⟨x, hx, hr⟩ := RepAll.get (w := c.w) (g := g) ⟨hl, he⟩ hi
    exact ⟨x, hx, ge, os, g, l, { C with tm := fun p hp => by rcases List.mem_cons.mp hp with rfl | hp; exact hr; exact C.tm p hp }⟩

/-- a chunk's object is written anew -/
theorem St.set {i : Nat} {a : Addr} {md md' : MD} {h' : Heap} {k : Nat} (H : St c T mu s) (hi : mu[i]? = some (a, md)) (hs : ∀ b o, b ≠ a → s.heap.get? b = some o → h'.get? b = some o)
    (hm : ∀ g, (∀ p ∈ T, Rep c.w g p.1 p.2) → MRep c.w g s.heap a md → MRep c.w g h' a md') : St c T (mu.set i (a, md')) { s with heap := h', toks := k } := by
  obtain ⟨ge, os, g, l, C⟩ := H
  have hin : (a, md) ∈ mu := List.mem_of_getElem? hi
  have hlt : i < mu.length := (List.getElem?_eq_some_iff.mp hi).1
  have mem : ∀ j p, (mu.set i (a, md'))[j]? = some p → (p = (a, md') ∧ j = i) ∨ (j ≠ i ∧ mu[j]? = some p) := fun j p hj => by
    by_cases e : i = j
    · subst e; rw [List.getElem?_set_self hlt] at hj; exact .inl ⟨(Option.some.inj hj).symm, rfl⟩
    · rw [List.getElem?_set_ne e] at hj; exact .inr ⟨fun q => e q.symm, hj⟩
  refine ⟨ge, os, g, l, ⟨C.gd, fun b o e => hs b o (fun q => ?_) (C.kg b o e), fun b o e => hs b o (fun q => ?_) (C.kf b o e), C.gf, C.tm, fun p hp => ?_, fun p hp => ?_, ?_⟩⟩
  · subst q; rw [(C.gm _ hin).1] at e; cases e
  · subst q; rw [(C.gm _ hin).2] at e; cases e
  · obtain ⟨j, hj⟩ := List.mem_iff_getElem?.mp hp
    rcases mem j p hj with ⟨rfl, _⟩ | ⟨ne, hj⟩
    · exact hm g C.tm (C.mr _ hin)
    · exact (C.mr p (List.mem_of_getElem? hj)).at' (GLe.refl g) fun o e => hs _ o (nodup_ne C.nd hj hi ne) e
  · obtain ⟨j, hj⟩ := List.mem_iff_getElem?.mp hp
    rcases mem j p hj with ⟨rfl, _⟩ | ⟨ne, hj⟩
    · exact (C.gm _ hin : g a = none ∧ c.fr a = none)
    · exact C.gm p (List.mem_of_getElem? hj)
  · have e : (mu.set i (a, md')).map (·.1) = mu.map (·.1) := by
      rw [List.map_set]
      refine List.ext_getElem? fun j => ?_
      by_cases q : i = j
      · subst q; rw [List.getElem?_set_self (by simpa using hlt), List.getElem?_map, hi]; rfl
      · rw [List.getElem?_set_ne q]
    rw [e]; exact C.nd

/-- nothing that is known is touched -/
theorem St.ext {h' : Heap} {k : Nat} (H : St c T mu s) (hs : ∀ b o, s.heap.get? b = some o → h'.get? b = some o) : St c T mu { s with heap := h', toks := k } := by
  obtain ⟨ge, os, g, l, C⟩ := H
  exact ⟨ge, os, g, l, ⟨C.gd, fun b o e => hs b o (C.kg b o e), fun b o e => hs b o (C.kf b o e), C.gf, C.tm, fun p hp => (C.mr p hp).at' (GLe.refl g) fun o e => hs _ o e, C.gm, C.nd⟩⟩

/-- a new object, as a chunk -/
theorem St.push {o : Obj} {h' : Heap} {a : Addr} {k : Nat} (md : MD) (H : St c T mu s) (hn : s.heap.get? a = none) (hs : ∀ b o, s.heap.get? b = some o → h'.get? b = some o)
    (hm : ∀ g, (∀ p ∈ T, Rep c.w g p.1 p.2) → MRep c.w g h' a md) : St c T ((a, md) :: mu) { s with heap := h', toks := k } := by
  obtain ⟨ge, os, g, l, C⟩ := H
  have gn : g a = none := by
    cases e : g a with
    | none => rfl
    | some o => rw [C.kg _ _ e] at hn; cases hn
  have fn : c.fr a = none := by
    cases e : c.fr a with
    | none => rfl
    | some o => rw [C.kf _ _ e] at hn; cases hn
  refine ⟨ge, os, g, l, ⟨C.gd, fun b o e => hs b o (C.kg b o e), fun b o e => hs b o (C.kf b o e), C.gf, C.tm, fun p hp => ?_, fun p hp => ?_, ?_⟩⟩
  · rcases List.mem_cons.mp hp with rfl | hp
    · exact hm g C.tm
    · exact (C.mr p hp).at' (GLe.refl g) fun o e => hs _ o e
  · rcases List.mem_cons.mp hp with rfl | hp
    · exact ⟨gn, fn⟩
    · exact C.gm p hp
  · refine List.nodup_cons.mpr ⟨fun q => ?_, C.nd⟩
    obtain ⟨p, hp, e⟩ := List.mem_map.mp q
    obtain ⟨o, ho⟩ := (C.mr p hp).alive
    rw [e, hn] at ho; cases ho

noncomputable def gAdd (g : GH) (a : Addr) (o : Obj) : GH := fun b => if b = a then some o else g b

/-- the first chunk goes to the ground -/
theorem St.freeze {a : Addr} {md : MD} {d : D} (H : St c T ((a, md) :: mu) s)
    (hr : ∀ g o, (∀ p ∈ T, Rep c.w g p.1 p.2) → MRep c.w g s.heap a md → s.heap.get? a = some o → g a = some o → Rep c.w g (.ref a) d) : St c ((.ref a, d) :: T) mu s := by
  obtain ⟨ge, os, g, l, C⟩ := H
  obtain ⟨o, ho⟩ := (C.mr _ (.head _)).alive
  have gn := (C.gm _ (.head _)).1
  have fn := (C.gm _ (.head _)).2
  have le : GLe g (gAdd g a o) := fun b o' e => by
    unfold gAdd
    rw [if_neg (fun q => by subst q; dsimp only at gn; rw [gn] at e; cases e)]; exact e
  refine ⟨ge, os, gAdd g a o, l.trans le, ⟨C.gd.mono le, fun b o' e => ?_, C.kf, fun b o' e => ?_, fun p hp => ?_, fun p hp => (C.mr p (.tail _ hp)).at' le fun _ e => e, fun p hp => ?_, (List.nodup_cons.mp C.nd).2⟩⟩
  · unfold gAdd at e; split at e
    · rename_i q; subst q; rw [← Option.some.inj e]; exact ho
    · exact C.kg b o' e
  · unfold gAdd
    rw [if_neg (fun q => by subst q; dsimp only at fn; rw [fn] at e; cases e)]; exact C.gf b o' e
  · rcases List.mem_cons.mp hp with rfl | hp
    · exact hr _ o (fun p hp => (C.tm p hp).mono le) ((C.mr _ (.head _)).at' le fun _ e => e) ho (by unfold gAdd; rw [if_pos rfl])
    · exact (C.tm p hp).mono le
  · have := C.gm p (.tail _ hp)
    refine ⟨?_, this.2⟩
    unfold gAdd
    rw [if_neg (fun q => ?_)]; exact this.1
    exact (List.nodup_cons.mp C.nd).1 (List.mem_map.mpr ⟨p, hp, q⟩)

/-- a chunk let go -/
theorem St.forget {p : Addr × MD} (H : St c T (p :: mu) s) : St c T mu s :=
  let ⟨a, b, g, l, C⟩ := H; ⟨a, b, g, l, { C with mr := fun p hp => C.mr p (.tail _ hp), gm := fun p hp => C.gm p (.tail _ hp), nd := (List.nodup_cons.mp C.nd).2 }⟩
theorem St.perm {mu' : List (Addr × MD)} (H : St c T mu s) (h : mu'.Perm mu) : St c T mu' s :=
  let ⟨a, b, g, l, C⟩ := H; ⟨a, b, g, l, { C with mr := fun p hp => C.mr p (h.subset hp), gm := fun p hp => C.gm p (h.subset hp), nd := (h.map _).nodup_iff.mpr C.nd }⟩
theorem St.swap {p q : Addr × MD} (H : St c T (p :: q :: mu) s) : St c T (q :: p :: mu) s := H.perm (List.Perm.swap ..)
end
/-! ZR -/

inductive Look (x : Str) (d : D) : List (Str × D) → Prop where
  | here {r : List (Str × D)} : Look x d ((x, d) :: r)
  | there {p : Str × D} {r : List (Str × D)} : Look x d r → Look x d (p :: r)
theorem Look.mem {x : Str} {d : D} {σ : List (Str × D)} (h : Look x d σ) : (x, d) ∈ σ := by
  induction h with
  | here => exact .head _
  | there _ ih => exact .tail _ ih

noncomputable abbrev Mo (c : Cx) : Model := model pw c.w

section
variable {c : Cx} {A : Around} {E : Value → Shared → Prop} {s : Shared} {env : Env} {T : List (Value × D)} {mu : List (Addr × MD)} {L : Addr} {σ : List (Str × D)} {d : D}

theorem St.gd (H : St c T mu s) : (KH c.w).In s.heap ∧ CodeHd s.heap 124 120 ∧ ∃ p loose mean mg mb, Top p loose mean mg mb s.heap := by
  obtain ⟨_, _, g, _, C⟩ := H
  exact C.gd _ C.kg
theorem St.top (H : St c T mu s) : (KH c.w).In s.heap ∧ ∃ p loose mg mb, TopRead p loose mg mb s.heap := by
  obtain ⟨X, _, p, l, m, mg, mb, t⟩ := H.gd
  exact ⟨X, p, l, mg, mb, topRead_of t⟩
theorem St.noLimit (H : St c T mu s) : s.heap.NoLimit := let ⟨_, _, _, _, _, h⟩ := H.top; h.nolimit

/-- a local's value -/
theorem St.loc {x : Str} (H : St c T ((L, .ns σ) :: mu) s) (hx : (x, d) ∈ σ) : ∃ m v, s.heap.Ns L m ∧ m x = some v ∧ St c ((v, d) :: T) ((L, .ns σ) :: mu) s := by
  obtain ⟨a, b, g, l, C⟩ := H
  obtain ⟨m, hn, hs⟩ := C.mr _ (.head _)
  obtain ⟨v, hv, hr⟩ := hs _ hx
  exact ⟨m, v, hn, hv, a, b, g, l, { C with tm := fun p hp => by rcases List.mem_cons.mp hp with rfl | hp; exact hr; exact C.tm p hp }⟩

theorem nm_loc {x : Str} {pos : Pos} {Q : Value → Shared → Prop} (H : St c T ((L, .ns σ) :: mu) s) (hx : Look x d σ)
    (k : ∀ v, St c ((v, d) :: T) ((L, .ns σ) :: mu) s → Q v s) (hL : env.locals = L := by rfl) (hk : env.scope.kind = .function := by rfl)
    (hl : env.kindOf x = some .local := by rfl) (hd : (x == ("__debug__" : Str)) = false := by decide) : wpAny (Mo c) A (eval (.Name x pos) env) Q E s := by
  obtain ⟨m, v, hn, hv, H'⟩ := H.loc hx.mem
  exact wpAny_Name (wpAny_loadName_local hk hl (hL ▸ hn) hv (k v H')) hd

theorem ld_loc {x : Str} {Q : Value → Shared → Prop} (H : St c T ((L, .ns σ) :: mu) s) (hx : Look x d σ)
    (k : ∀ v, St c ((v, d) :: T) ((L, .ns σ) :: mu) s → Q v s) (hL : env.locals = L := by rfl) (hk : env.scope.kind = .function := by rfl)
    (hl : env.kindOf x = some .local := by rfl) : wpAny (Mo c) A (loadName env x) Q E s := by
  obtain ⟨m, v, hn, hv, H'⟩ := H.loc hx.mem
  exact wpAny_loadName_local hk hl (hL ▸ hn) hv (k v H')

theorem nm_glob {x : Str} {pos : Pos} {f : Value} {Q : Value → Shared → Prop} (H : St c T mu s) (e : nsIn (KH c.w) mainGlobals x = some (some f)) (k : Q f s)
    (hg : env.globals = mainGlobals := by rfl) (hk : env.scope.kind = .function := by rfl) (hl : env.kindOf x = some .globalImplicit := by rfl)
    (hd : (x == ("__debug__" : Str)) = false := by decide) : wpAny (Mo c) A (eval (.Name x pos) env) Q E s := by
  obtain ⟨X, p, loose, mg, mb, Tr⟩ := H.top
  exact Name_function_global hk hl (loadGlobal_global (hg ▸ Tr.g) (mg_of X Tr.g e) k) hd

theorem nm_built {x : Str} {pos : Pos} {f : Value} {Q : Value → Shared → Prop} (H : St c T mu s) (e : nsIn (KH c.w) mainGlobals x = some none) (hv : bootBuiltins x = some f) (hn : x ≠ "__name__") (k : Q f s)
    (hg : env.globals = mainGlobals := by rfl) (hb : env.builtins = builtinsNs := by rfl) (hk : env.scope.kind = .function := by rfl) (hl : env.kindOf x = some .globalImplicit := by rfl)
    (hd : (x == ("__debug__" : Str)) = false := by decide) : wpAny (Mo c) A (eval (.Name x pos) env) Q E s := by
  obtain ⟨X, p, loose, mg, mb, Tr⟩ := H.top
  exact Name_function_global hk hl (loadGlobal_builtin (hg ▸ Tr.g) (mg_none_of X Tr.g e) (hb ▸ Tr.b) ((Tr.builtins x hn).trans hv) k) hd

/-- a cell's value -/
theorem St.cel {a : Addr} (H : St c T mu s) (hm : (a, .cell (some d)) ∈ mu) : ∃ v, s.heap.IsCell a (some v) ∧ St c ((v, d) :: T) mu s := by
  obtain ⟨x, b, g, l, C⟩ := H
  obtain ⟨v, hc, hr⟩ := C.mr _ hm
  exact ⟨v, hc, x, b, g, l, { C with tm := fun p hp => by rcases List.mem_cons.mp hp with rfl | hp; exact hr; exact C.tm p hp }⟩
theorem nm_cell {x : Str} {pos : Pos} {a : Addr} {Q : Value → Shared → Prop} (H : St c T mu s) (hm : (a, .cell (some d)) ∈ mu)
    (k : ∀ v, St c ((v, d) :: T) mu s → Q v s) (hc : env.cells.lookup x = some a := by rfl) (hk : env.scope.kind = .function := by rfl)
    (hl : env.kindOf x = some .cell := by rfl) (hd : (x == ("__debug__" : Str)) = false := by decide) : wpAny (Mo c) A (eval (.Name x pos) env) Q E s := by
  obtain ⟨v, hv, H'⟩ := H.cel hm
  exact wpAny_Name (wpAny_loadName_cell hk hl hc hv (k v H')) hd
theorem nm_free {x : Str} {pos : Pos} {a : Addr} {Q : Value → Shared → Prop} (H : St c T mu s) (hm : (a, .cell (some d)) ∈ mu)
    (k : ∀ v, St c ((v, d) :: T) mu s → Q v s) (hc : env.cells.lookup x = some a := by rfl) (hk : env.scope.kind = .function := by rfl)
    (hl : env.kindOf x = some .free := by rfl) (hd : (x == ("__debug__" : Str)) = false := by decide) (hn : (x == ("__classdict__" : Str)) = false := by decide) :
    wpAny (Mo c) A (eval (.Name x pos) env) Q E s := by
  obtain ⟨v, hv, H'⟩ := H.cel hm
  exact wpAny_Name (wpAny_loadName_free hk hl hc hv (k v H') hn) hd

/-- constants -/
theorem ct_int {i : Int} {n : Nat} {pos : Pos} {Q : Value → Shared → Prop} (H : St c T mu s) (k : ∀ v s', St c ((v, .int i) :: T) mu s' → Q v s') :
    wpAny (Mo c) A (eval (.Constant (.int i) n pos) env) Q E s := wpAny_Constant_int (k _ _ (H.toks.intv i _))
theorem ct_none {n : Nat} {pos : Pos} {Q : Value → Shared → Prop} (k : Q .none s) : wpAny (Mo c) A (eval (.Constant .none n pos) env) Q E s := wpAny_Constant_none k
theorem ct_bool {n : Nat} {b : Bool} {pos : Pos} {Q : Value → Shared → Prop} (k : Q (.bool b) s) : wpAny (Mo c) A (eval (.Constant (.bool b) n pos) env) Q E s := wpAny_Constant_bool k

/-- the locals after a store: x is d now, others stand or are forgotten -/
inductive Upto (x : Str) (d : D) (σ : List (Str × D)) : List (Str × D) → Prop where
  | nil : Upto x d σ []
  | new {d' : D} {r : List (Str × D)} : d = d' → Upto x d σ r → Upto x d σ ((x, d') :: r)
  | old {y : Str} {e : D} {r : List (Str × D)} : Look y e σ → y ≠ x → Upto x d σ r → Upto x d σ ((y, e) :: r)
theorem Upto.all {x : Str} {d : D} {σ σ' : List (Str × D)} (h : Upto x d σ σ') : ∀ p ∈ σ', p = (x, d) ∨ (p ∈ σ ∧ p.1 ≠ x) := by
  induction h with
  | nil => intro p hp; cases hp
  | new e _ ih => intro p hp; rcases List.mem_cons.mp hp with rfl | hp; exact .inl (by rw [e]); exact ih p hp
  | old hl hn _ ih => intro p hp; rcases List.mem_cons.mp hp with rfl | hp; exact .inr ⟨hl.mem, hn⟩; exact ih p hp

/-- a store into a local -/
theorem sto {x : Str} {v : Value} {σ' : List (Str × D)} {Q : Unit → Shared → Prop} (H : St c T ((L, .ns σ) :: mu) s) (hv : (v, d) ∈ T) (hu : Upto x d σ σ')
    (k : ∀ s', St c T ((L, .ns σ') :: mu) s' → Q () s') (hL : env.locals = L := by rfl) (hl : env.kindOf x = some .local := by rfl)
    (hp : (env.scope.kind == .class || (env.scope.kind == .module && env.locals != env.globals)) = false := by rfl) : wpAny (Mo c) A (storeName env x v) Q E s := by
  have hs := hu.all
  obtain ⟨m, _⟩ : ∃ m, s.heap.Ns L m := by
    obtain ⟨_, _, g, _, C⟩ := H
    obtain ⟨m, hn, _⟩ := C.mr _ (.head _)
    exact ⟨m, hn⟩
  have H0 := H
  obtain ⟨_, _, g₀, _, C⟩ := H0
  obtain ⟨m, hn, hh⟩ := C.mr _ (.head _)
  refine wpAny_storeName_local hl (hL ▸ hn) (fun h' hn' hs' => k _ ?_) hp
  rw [hL] at hn' hs'
  refine St.set (i := 0) (md := .ns σ) H rfl (fun b o hb e => (hs'.2 b hb).trans e) fun g ht ⟨m₁, hn₁, hh₁⟩ => ⟨_, hn', fun p hp => ?_⟩
  rcases hs p hp with rfl | ⟨hin, hne⟩
  · exact ⟨v, by simp, ht _ hv⟩
  · obtain ⟨u, hu, hr⟩ := hh₁ p hin
    refine ⟨u, ?_, hr⟩
    rw [if_neg hne]
    obtain ⟨o, es, ep, ho, hd, _, hf⟩ := hn
    obtain ⟨o', es', ep', ho', hd', _, hf'⟩ := hn₁
    rw [ho] at ho'
    cases ho'
    rw [hd] at hd'
    cases hd'
    rw [← hf, hf', hu]
theorem sto_end {x : Str} {v : Value} {σ' : List (Str × D)} (H : St c T ((L, .ns σ) :: mu) s) (hv : (v, d) ∈ T) (hu : Upto x d σ σ')
    (hL : env.locals = L := by rfl) (hl : env.kindOf x = some .local := by rfl)
    (hp : (env.scope.kind == .class || (env.scope.kind == .module && env.locals != env.globals)) = false := by rfl) :
    wpAny (Mo c) A (storeName env x v) (fun _ s' => Flow.next = Flow.next ∧ St c [] ((L, .ns σ') :: mu) s') E s :=
  sto H hv hu (fun s' H' => ⟨rfl, H'.drop⟩) hL hl hp
end
/-! ZA -/
section
variable {c : Cx} {A : Around} {E : Value → Shared → Prop} {s : Shared} {env : Env} {T : List (Value × D)} {mu : List (Addr × MD)} {L : Addr} {σ : List (Str × D)} {d : D} {x y : Value} {a b : Int} {Q : Value → Shared → Prop}

theorem op_add (H : St c T mu s) (ha : (x, .int a) ∈ T) (hb : (y, .int b) ∈ T) (k : ∀ v s', St c ((v, .int (a + b)) :: T) mu s' → Q v s') : wpAny (Mo c) A (binaryOp .Add x y) Q E s := by
  obtain ⟨t, rfl⟩ := H.isInt ha; obtain ⟨u, rfl⟩ := H.isInt hb
  exact add_int (k _ _ (H.toks.intv _ _))
theorem op_sub (H : St c T mu s) (ha : (x, .int a) ∈ T) (hb : (y, .int b) ∈ T) (k : ∀ v s', St c ((v, .int (a - b)) :: T) mu s' → Q v s') : wpAny (Mo c) A (binaryOp .Sub x y) Q E s := by
  obtain ⟨t, rfl⟩ := H.isInt ha; obtain ⟨u, rfl⟩ := H.isInt hb
  exact sub_int (k _ _ (H.toks.intv _ _))
theorem op_isub (H : St c T mu s) (ha : (x, .int a) ∈ T) (hb : (y, .int b) ∈ T) (k : ∀ v s', St c ((v, .int (a - b)) :: T) mu s' → Q v s') : wpAny (Mo c) A (inplaceOp .Sub x y) Q E s := by
  obtain ⟨t, rfl⟩ := H.isInt ha; obtain ⟨u, rfl⟩ := H.isInt hb
  exact isub_int (k _ _ (H.toks.intv _ _))
theorem op_iadd (H : St c T mu s) (ha : (x, .int a) ∈ T) (hb : (y, .int b) ∈ T) (k : ∀ v s', St c ((v, .int (a + b)) :: T) mu s' → Q v s') : wpAny (Mo c) A (inplaceOp .Add x y) Q E s := by
  obtain ⟨t, rfl⟩ := H.isInt ha; obtain ⟨u, rfl⟩ := H.isInt hb
  exact wpAny_iadd_int (k _ _ (H.toks.intv _ _))
theorem op_mul (H : St c T mu s) (ha : (x, .int a) ∈ T) (hb : (y, .int b) ∈ T) (hm : IntMulOk a b) (k : ∀ v s', St c ((v, .int (a * b)) :: T) mu s' → Q v s') : wpAny (Mo c) A (binaryOp .Mult x y) Q E s := by
  obtain ⟨t, rfl⟩ := H.isInt ha; obtain ⟨u, rfl⟩ := H.isInt hb
  exact mul_int (k _ _ (H.toks.intv _ _)) hm
theorem op_fdiv (H : St c T mu s) (ha : (x, .int a) ∈ T) (hb : (y, .int b) ∈ T) (h0 : b ≠ 0) (hs : b.natAbs < 1073741824) (k : ∀ v s', St c ((v, .int (a.fdiv b)) :: T) mu s' → Q v s') : wpAny (Mo c) A (binaryOp .FloorDiv x y) Q E s := by
  obtain ⟨t, rfl⟩ := H.isInt ha; obtain ⟨u, rfl⟩ := H.isInt hb
  exact floordiv_int h0 (k _ _ (H.toks.intv _ _)) (.inl (PyProof.noPylong_small hs))
theorem op_fmod (H : St c T mu s) (ha : (x, .int a) ∈ T) (hb : (y, .int b) ∈ T) (h0 : b ≠ 0) (k : ∀ v s', St c ((v, .int (a.fmod b)) :: T) mu s' → Q v s') : wpAny (Mo c) A (binaryOp .Mod x y) Q E s := by
  obtain ⟨t, rfl⟩ := H.isInt ha; obtain ⟨u, rfl⟩ := H.isInt hb
  exact mod_int' h0 (k _ _ (H.toks.intv _ _))
theorem op_neg (H : St c T mu s) (ha : (x, .int a) ∈ T) (k : ∀ v s', St c ((v, .int (-a)) :: T) mu s' → Q v s') : wpAny (Mo c) A (unaryOp .USub x) Q E s := by
  obtain ⟨t, rfl⟩ := H.isInt ha
  exact neg_int (k _ _ (H.toks.intv _ _))
theorem op_lt (H : St c T mu s) (ha : (x, .int a) ∈ T) (hb : (y, .int b) ∈ T) (k : Q (.bool (decide (a < b))) s) : wpAny (Mo c) A (compareOp .Lt x y) Q E s := by
  obtain ⟨t, rfl⟩ := H.isInt ha; obtain ⟨u, rfl⟩ := H.isInt hb
  exact lt_int k
theorem op_gt (H : St c T mu s) (ha : (x, .int a) ∈ T) (hb : (y, .int b) ∈ T) (k : Q (.bool (decide (b < a))) s) : wpAny (Mo c) A (compareOp .Gt x y) Q E s := by
  obtain ⟨t, rfl⟩ := H.isInt ha; obtain ⟨u, rfl⟩ := H.isInt hb
  exact PyProof.Rows.gt_int k
theorem op_eq (H : St c T mu s) (ha : (x, .int a) ∈ T) (hb : (y, .int b) ∈ T) (k : Q (.bool (a == b)) s) : wpAny (Mo c) A (compareOp .Eq x y) Q E s := by
  obtain ⟨t, rfl⟩ := H.isInt ha; obtain ⟨u, rfl⟩ := H.isInt hb
  exact PyProof.Rows.eq_int k
theorem op_ne (H : St c T mu s) (ha : (x, .int a) ∈ T) (hb : (y, .int b) ∈ T) (k : Q (.bool (a != b)) s) : wpAny (Mo c) A (compareOp .NotEq x y) Q E s := by
  obtain ⟨t, rfl⟩ := H.isInt ha; obtain ⟨u, rfl⟩ := H.isInt hb
  exact PyProof.Rows.ne_int k

theorem op_isNone (H : St c T mu s) (ha : (x, .lit .none) ∈ T) (k : Q (.bool true) s) : wpAny (Mo c) A (compareOp .Is x .none) Q E s := by
  cases H.isLit ha
  exact wpAny_is_self rfl k
theorem op_isNoneN (hp : plainIs x .none = true) (hn : x ≠ .none) (k : Q (.bool false) s) : wpAny (Mo c) A (compareOp .Is x .none) Q E s := wpAny_is_other hp hn k
theorem op_isNoneR {a : Addr} (H : St c T mu s) (ha : (x, .lit (.ref a)) ∈ T) (k : Q (.bool false) s) : wpAny (Mo c) A (compareOp .Is x .none) Q E s := by
  cases H.isLit ha
  exact wpAny_is_other rfl (by intro e; cases e) k

/-- v is a list of these data: on the ground, or a chunk -/
noncomputable def LstV (T : List (Value × D)) (mu : List (Addr × MD)) (v : Value) (ds : List D) : Prop := (v, .lst ds) ∈ T ∨ ∃ a, v = .ref a ∧ (a, .lst ds) ∈ mu
theorem St.isLsi {v : Value} {ds : List D} (H : St c T mu s) (h : (v, .lsi ds) ∈ T) : ∃ (a : Addr) (vs : List Value), v = .ref a ∧ s.heap.IsList a vs.toArray ∧ vs.length = ds.length ∧
    ∀ (i : Nat) d, ds[i]? = some d → ∃ x, vs[i]? = some x ∧ St c ((x, d) :: T) mu s := by
  obtain ⟨ge, os, g, l, C⟩ := H
  cases C.tm _ h with
  | lsi ho hc hd hl he =>
    rename_i a o vs n
    refine ⟨a, vs, rfl, ⟨o, C.kg _ _ ho, hc, n, hd⟩, hl, fun i d hi => ?_⟩
    obtain ⟨x, hx, hr⟩ := RepAll.get (w := c.w) (g := g) ⟨hl, he⟩ hi
    exact ⟨x, hx, ge, os, g, l, { C with tm := fun p hp => by rcases List.mem_cons.mp hp with rfl | hp; exact hr; exact C.tm p hp }⟩
theorem LstV.g {v : Value} {ds : List D} (h : (v, .lst ds) ∈ T) : LstV T mu v ds := .inl h
theorem LstV.m {l : Addr} {ds : List D} (h : (l, .lst ds) ∈ mu) : LstV T mu (.ref l) ds := .inr ⟨l, rfl, h⟩
theorem St.list {v : Value} {ds : List D} (H : St c T mu s) (h : LstV T mu v ds) : ∃ (a : Addr) (vs : List Value), v = .ref a ∧ s.heap.IsList a vs.toArray ∧ vs.length = ds.length ∧
    ∀ (i : Nat) d, ds[i]? = some d → ∃ x, vs[i]? = some x ∧ St c ((x, d) :: T) mu s := by
  rcases h with h | ⟨l, rfl, h⟩
  · exact H.isLst h
  · obtain ⟨ge, os, g, le, C⟩ := H
    obtain ⟨vs, n, ho, hr⟩ := C.mr _ h
    refine ⟨l, vs, rfl, ⟨_, ho, rfl, n, rfl⟩, hr.1, fun i d hi => ?_⟩
    obtain ⟨x, hx, hx'⟩ := hr.get hi
    exact ⟨x, hx, ge, os, g, le, { C with tm := fun p hp => by rcases List.mem_cons.mp hp with rfl | hp; exact hx'; exact C.tm p hp }⟩
/-- the object itself -/
theorem St.exact {v : Value} {ds : List D} (H : St c T mu s) (h : LstV T mu v ds) : ∃ (a : Addr) (vs : List Value) (n : Nat), v = .ref a ∧ s.heap.get? a = some (listOf vs.toArray n) ∧ vs.length = ds.length ∧ St c (vs.zip ds ++ T) mu s := by
  have key : ∀ (ge : s.gens = c.gens) (os : s.os = c.os) (g : GH) (le : GLe c.g₀ g) (C : Core c.w T mu g c.fr s.heap) (vs : List Value), RepAll c.w g vs ds → St c (vs.zip ds ++ T) mu s := by
    intro ge os g le C vs hr
    refine ⟨ge, os, g, le, C.gd, C.kg, C.kf, C.gf, fun p hp => ?_, C.mr, C.gm, C.nd⟩
    rcases List.mem_append.mp hp with hp | hp
    · obtain ⟨i, hi⟩ := List.mem_iff_getElem?.mp hp
      rw [List.getElem?_zip_eq_some] at hi
      exact hr.2 i _ _ hi.1 hi.2
    · exact C.tm p hp
  rcases h with h | ⟨l, rfl, h⟩
  · obtain ⟨ge, os, g, le, C⟩ := H
    cases C.tm _ h with
    | lst ho hl he =>
      rename_i a vs n
      exact ⟨a, vs, n, rfl, C.kg _ _ ho, hl, key ge os g le C vs ⟨hl, he⟩⟩
  · obtain ⟨ge, os, g, le, C⟩ := H
    obtain ⟨vs, n, ho, hr⟩ := C.mr _ h
    exact ⟨l, vs, n, rfl, ho, hr.1, key ge os g le C vs hr⟩
/-- all items at once -/
theorem op_len {v : Value} {ds : List D} (H : St c T mu s) (hv : LstV T mu v ds) (hn : ds.length ≤ 1048576) (k : ∀ v s', St c ((v, .int ds.length) :: T) mu s' → Q v s') :
    wpAny (Mo c) A (call (.builtin "len") [v]) Q E s := by
  obtain ⟨l, vs, rfl, hl, e, _⟩ := H.list hv
  refine call_len_list hl (by simp only [List.size_toArray]; omega) ?_
  have : ((vs.toArray.size : Nat) : Int) = (ds.length : Int) := by simp [e]
  rw [this]
  exact k _ _ (H.toks.intv _ _)

/-- v[i] -/
theorem op_item {value slice : Expr} {v : Value} {ds : List D} {i : Int} {y : Value} (H : St c T mu s) (hv : LstV T mu v ds) (hi : (y, .int i) ∈ T) (h0 : 0 ≤ i) (hd : ds[i.toNat]? = some d) (hn : i < 2 ^ 63)
    (k : ∀ v, St c ((v, d) :: T) mu s → Q v s)
    (hs : ∀ l u, subscripted slice false (.ref l) (.int i u) = operate [.ref l, .int i u] (getItem (.ref l) (.int i u)) := by intro _ _; with_unfolding_all rfl) :
    wpAny (Mo c) A (subscriptTail value slice v y) Q E s := by
  obtain ⟨u, rfl⟩ := H.isInt hi
  obtain ⟨l, vs, rfl, hl, e, he⟩ := H.list hv
  obtain ⟨x, hx, H'⟩ := he _ _ hd
  exact tail_any hl.typeIs slot_list_getitem.lookup (wpAny_getItem_list hl h0 hn (by simpa using hx) (k x H')) (hs l u)
/-- v[-1] -/
theorem op_last {value slice : Expr} {v : Value} {ds : List D} {y : Value} (H : St c T mu s) (hv : LstV T mu v ds) (hi : (y, .int (-1)) ∈ T) (hd : ds[ds.length - 1]? = some d) 
    (k : ∀ v, St c ((v, d) :: T) mu s → Q v s)
    (hs : ∀ l u, subscripted slice false (.ref l) (.int (-1) u) = operate [.ref l, .int (-1) u] (getItem (.ref l) (.int (-1) u)) := by intro _ _; with_unfolding_all rfl) :
    wpAny (Mo c) A (subscriptTail value slice v y) Q E s := by
  obtain ⟨u, rfl⟩ := H.isInt hi
  obtain ⟨l, vs, rfl, hl, e, he⟩ := H.list hv
  obtain ⟨x, hx, H'⟩ := he _ _ hd
  have hp : ds.length - 1 < ds.length := (List.getElem?_eq_some_iff.mp hd).1
  refine tail_any hl.typeIs slot_list_getitem.lookup (wpAny_getItem_list_neg hl (by decide) (by simp; omega) (by decide) (x := x) ?_ (k x H')) (hs l u)
  have : (-1 + (vs.toArray.size : Int)).toNat = ds.length - 1 := by simp; omega
  rw [this]; simpa using hx
/-- t[i] of a tuple -/
theorem op_itemT {value slice : Expr} {v : Value} {ds : List D} {i : Int} {y : Value} (H : St c T mu s) (hv : (v, .tup ds) ∈ T) (hi : (y, .int i) ∈ T) (h0 : 0 ≤ i) (hd : ds[i.toNat]? = some d) (hn : i < 2 ^ 63)
    (k : ∀ v, St c ((v, d) :: T) mu s → Q v s)
    (hs : ∀ l u, subscripted slice false (.ref l) (.int i u) = operate [.ref l, .int i u] (getItem (.ref l) (.int i u)) := by intro _ _; with_unfolding_all rfl) :
    wpAny (Mo c) A (subscriptTail value slice v y) Q E s := by
  obtain ⟨u, rfl⟩ := H.isInt hi
  obtain ⟨l, vs, rfl, hl, e, he⟩ := H.isTup hv
  obtain ⟨x, hx, H'⟩ := he _ _ hd
  have hp : i.toNat < vs.length := by have := (List.getElem?_eq_some_iff.mp hx).1; exact this
  refine item_tupleT (j := i.toNat) hl (by omega) hn ?_ hx (k x H') (hs l u)
  have e1 : ¬ i < 0 := by omega
  have e2 : (0 ≤ i && i < (vs.length : Int)) = true := by simp; omega
  unfold seqIndex?
  simp only [e1, if_false, e2, if_true]

/-- a new list -/
theorem St.newList {vs : List Value} {ds : List D} (H : St c T mu s) (h : ∀ p ∈ vs.zip ds, p ∈ T) (hl : vs.length = ds.length) :
    St c T ((s.heap.objs.size, .lst ds) :: mu) { s with heap := s.heap.push { cls := .type "list", data := .seq vs.toArray } } := by
  refine H.push (o := { cls := .type "list", data := .seq vs.toArray }) _ ?_ (fun b o e => Heap.get?_push_of_some _ e) fun g ht => ⟨vs, 0, Heap.get?_push_size _ rfl, hl, fun i v d hv hd => ?_⟩
  · cases e : s.heap.get? s.heap.objs.size with
    | none => rfl
    | some o => exact absurd (Heap.lt_size e) (Nat.lt_irrefl _)
  · exact ht (v, d) (h (v, d) (List.mem_iff_getElem?.mpr ⟨i, by rw [List.getElem?_zip_eq_some]; exact ⟨hv, hd⟩⟩))
/-- the first chunk, a list, comes to rest -/
theorem St.frzL {a : Addr} {ds : List D} (H : St c T ((a, .lst ds) :: mu) s) : St c ((.ref a, .lst ds) :: T) mu s :=
  H.freeze fun g o ht ⟨vs, n, ho, hr⟩ ho' hg => by
    rw [ho] at ho'; cases ho'
    exact .lst hg hr.1 hr.2
theorem op_newList {vs : List Value} {ds : List D} (H : St c T mu s) (h : ∀ p ∈ vs.zip ds, p ∈ T) (hl : vs.length = ds.length) (hn : ds.length ≤ 1048576)
    (k : ∀ v s', St c ((v, .lst ds) :: T) mu s' → Q v s') : wpAny (Mo c) A (newList vs) Q E s :=
  wpAny_newList (k _ _ (H.newList h hl).frzL) (hsz := by rw [sizeLine_eq]; omega)
theorem op_newListM {vs : List Value} {ds : List D} (H : St c T mu s) (h : ∀ p ∈ vs.zip ds, p ∈ T) (hl : vs.length = ds.length) (hn : ds.length ≤ 1048576)
    (k : ∀ l s', St c T ((l, .lst ds) :: mu) s' → Q (.ref l) s') : wpAny (Mo c) A (newList vs) Q E s :=
  wpAny_newList (k _ _ (H.newList h hl)) (hsz := by rw [sizeLine_eq]; omega)
theorem op_newTup {vs : List Value} {ds : List D} (H : St c T mu s) (h : ∀ p ∈ vs.zip ds, p ∈ T) (hl : vs.length = ds.length) (hn : ds.length ≤ 1048576)
    (k : ∀ v s', St c ((v, .tup ds) :: T) mu s' → Q v s') : wpAny (Mo c) A (newTuple vs) Q E s := by
  refine wpAny_newTuple (k _ _ ?_) (hsz := by rw [sizeLine_eq]; omega)
  have H1 := H.push (o := { cls := .type "tuple", data := .seq vs.toArray }) (k := s.toks) (.obj { cls := .type "tuple", data := .seq vs.toArray }) (a := s.heap.objs.size) (h' := s.heap.push { cls := .type "tuple", data := .seq vs.toArray }) (by
    cases e : s.heap.get? s.heap.objs.size with
    | none => rfl
    | some o => exact absurd (Heap.lt_size e) (Nat.lt_irrefl _)) (fun b o e => Heap.get?_push_of_some _ e) fun g ht => Heap.get?_push_size _ rfl
  refine H1.freeze fun g o ht ho ho' hg => ?_
  rw [ho] at ho'; cases ho'
  exact .tup hg rfl rfl hl fun i v d hv hd => ht (v, d) (h (v, d) (List.mem_iff_getElem?.mpr ⟨i, by rw [List.getElem?_zip_eq_some]; exact ⟨hv, hd⟩⟩))
theorem mem1 {v : Value} {d : D} {T : List (Value × D)} (h : (v, d) ∈ T) : ∀ p ∈ [v].zip [d], p ∈ T := by
  show ∀ p ∈ [(v, d)], p ∈ T
  exact List.forall_mem_cons.mpr ⟨h, fun p hp => nomatch hp⟩
theorem mem2 {v w : Value} {d e : D} {T : List (Value × D)} (h : (v, d) ∈ T) (h' : (w, e) ∈ T) : ∀ p ∈ [v, w].zip [d, e], p ∈ T := by
  show ∀ p ∈ [(v, d), (w, e)], p ∈ T
  exact List.forall_mem_cons.mpr ⟨h, mem1 h'⟩
theorem mem3 {v w x : Value} {d e f : D} {T : List (Value × D)} (h : (v, d) ∈ T) (h' : (w, e) ∈ T) (h2 : (x, f) ∈ T) : ∀ p ∈ [v, w, x].zip [d, e, f], p ∈ T := by
  show ∀ p ∈ [(v, d), (w, e), (x, f)], p ∈ T
  exact List.forall_mem_cons.mpr ⟨h, mem2 h' h2⟩
theorem mem4 {v w x y : Value} {d e f g : D} {T : List (Value × D)} (h : (v, d) ∈ T) (h' : (w, e) ∈ T) (h2 : (x, f) ∈ T) (h3 : (y, g) ∈ T) : ∀ p ∈ [v, w, x, y].zip [d, e, f, g], p ∈ T := by
  show ∀ p ∈ [(v, d), (w, e), (x, f), (y, g)], p ∈ T
  exact List.forall_mem_cons.mpr ⟨h, mem3 h' h2 h3⟩
end
/-! ZB -/
section
variable {c : Cx} {A : Around} {E : Value → Shared → Prop} {s : Shared} {env : Env} {T : List (Value × D)} {mu : List (Addr × MD)} {L : Addr} {σ : List (Str × D)} {d : D}

noncomputable def frAdd (fr : GH) (mr : List (Addr × MD)) (h : Heap) : GH := fun b => if b ∈ mr.map (·.1) then h.get? b else fr b

theorem frAdd_in {fr : GH} {mr : List (Addr × MD)} {h : Heap} {p : Addr × MD} (hp : p ∈ mr) : frAdd fr mr h p.1 = h.get? p.1 := if_pos (List.mem_map_of_mem hp)
theorem frAdd_out {fr : GH} {mr : List (Addr × MD)} {h : Heap} {b : Addr} (hb : b ∉ mr.map (·.1)) : frAdd fr mr h b = fr b := if_neg hb
theorem frAdd_or {fr : GH} {mr : List (Addr × MD)} {h : Heap} {b : Addr} {o : Obj} (e : frAdd fr mr h b = some o) : (∃ p ∈ mr, p.1 = b ∧ h.get? b = some o) ∨ fr b = some o := by
  unfold frAdd at e
  split at e
  · rename_i q
    obtain ⟨p, hp, rfl⟩ := List.mem_map.mp q
    exact .inl ⟨p, hp, rfl, e⟩
  · exact .inr e
theorem frAdd_none {fr : GH} {mr : List (Addr × MD)} {h : Heap} {b : Addr} (e : frAdd fr mr h b = none) (hb : ∀ p ∈ mr, fr p.1 = none) : fr b = none := by
  unfold frAdd at e
  split at e
  · rename_i q
    obtain ⟨p, hp, rfl⟩ := List.mem_map.mp q
    exact hb p hp
  · exact e

/-- a part of the chunks is put aside -/
theorem St.aside {mp mr : List (Addr × MD)} (H : St c T (mp ++ mr) s) : ∃ c' : Cx, c'.w = c.w ∧ St c' T mp s ∧
    ∀ T' mp' s'', St c' T' mp' s'' → St c (T' ++ T) (mp' ++ mr) s'' := by
  obtain ⟨ge, os, g, le, C⟩ := H
  have hmr : ∀ p ∈ mr, ∃ o, frAdd c.fr mr s.heap p.1 = some o := fun p hp => by
    obtain ⟨o, ho⟩ := (C.mr p (List.mem_append_right _ hp)).alive
    exact ⟨o, (frAdd_in hp).trans ho⟩
  have nd := C.nd
  rw [List.map_append, List.nodup_append] at nd
  refine ⟨{ c with g₀ := g, fr := frAdd c.fr mr s.heap }, rfl, ⟨ge, os, g, GLe.refl g, C.gd, C.kg, fun b o e => ?_, fun b o e => ?_, C.tm, fun p hp => C.mr p (List.mem_append_left _ hp), fun p hp => ?_, nd.1⟩, fun T' mp' s'' H' => ?_⟩
  · rcases frAdd_or e with ⟨p, hp, rfl, e⟩ | e
    · exact e
    · exact C.kf b o e
  · rcases frAdd_or e with ⟨p, hp, rfl, e⟩ | e
    · exact (C.gm p (List.mem_append_right _ hp)).1
    · exact C.gf b o e
  · have := C.gm p (List.mem_append_left _ hp)
    refine ⟨this.1, ?_⟩
    show frAdd c.fr mr s.heap p.1 = none
    rw [frAdd_out (fun q => nd.2.2 p.1 (List.mem_map_of_mem hp) p.1 q rfl)]; exact this.2
  · obtain ⟨ge', os', g'', le', C'⟩ := H'
    dsimp only at ge' os' le' C'
    have out : ∀ b o, c.fr b = some o → frAdd c.fr mr s.heap b = some o := fun b o e => by
      rw [frAdd_out (fun q => ?_)]; exact e
      obtain ⟨p, hp, rfl⟩ := List.mem_map.mp q
      rw [(C.gm p (List.mem_append_right _ hp)).2] at e; cases e
    refine ⟨ge', os', g'', le.trans le', C'.gd, C'.kg, fun b o e => C'.kf b o (out b o e), fun b o e => C'.gf b o (out b o e), fun p hp => (List.mem_append.mp hp).elim (C'.tm p) fun hp => (C.tm p hp).mono le', fun p hp => ?_, fun p hp => ?_, ?_⟩
    · rcases List.mem_append.mp hp with hp | hp
      · exact C'.mr p hp
      · refine (C.mr p (List.mem_append_right _ hp)).at' le' fun o e => C'.kf _ o ?_
        rw [frAdd_in hp]; exact e
    · rcases List.mem_append.mp hp with hp | hp
      · exact ⟨(C'.gm p hp).1, frAdd_none (C'.gm p hp).2 fun p hp => (C.gm p (List.mem_append_right _ hp)).2⟩
      · obtain ⟨o, ho⟩ := hmr p hp
        exact ⟨C'.gf _ o ho, (C.gm p (List.mem_append_right _ hp)).2⟩
    · rw [List.map_append, List.nodup_append]
      refine ⟨C'.nd, nd.2.1, fun a ha b hb e => ?_⟩
      obtain ⟨p, hp, rfl⟩ := List.mem_map.mp ha
      obtain ⟨q, hq, rfl⟩ := List.mem_map.mp hb
      obtain ⟨o, ho⟩ := hmr q hq
      have := (C'.gm p hp).2

      rw [e, ho] at this; cases this

/-- binds of an entry, one by one -/
inductive Binds (binds : List (Str × Value)) (T : List (Value × D)) : List (Str × D) → Prop where
  | nil : Binds binds T []
  | cons {x : Str} {d : D} {v : Value} {r : List (Str × D)} : binds.reverse.lookup x = some v → (v, d) ∈ T → Binds binds T r → Binds binds T ((x, d) :: r)
theorem Binds.all {binds : List (Str × Value)} {T : List (Value × D)} {σ : List (Str × D)} (h : Binds binds T σ) : ∀ p ∈ σ, ∃ v, binds.reverse.lookup p.1 = some v ∧ (v, p.2) ∈ T := by
  induction h with
  | nil => intro p hp; cases hp
  | cons a b _ ih => intro p hp; rcases List.mem_cons.mp hp with rfl | hp; exact ⟨_, a, b⟩; exact ih p hp
/-- a def of the text's is entered -/
theorem fn_enter {f : Addr} {oc : Value} {od : Option Addr} {fd : FuncData} {osl : Array (Option Value)} {body : List Stmt} {args : List Value} {kw : List (Str × Value)} {binds : List (Str × Value)} {mp mr : List (Addr × MD)} {Q : Value → Shared → Prop}
    (σ : List (Str × D)) (H : St c T (mp ++ mr) s) (hroom : A.depth < recursionLimit) (ho : (KH c.w).lookup f = some ⟨oc, od, .func fd, osl⟩) (hbody : fd.body = .stmts body)
    (hcd : codeIn (KH c.w) fd.code fd.qualname = true) (hbind : BindsTo s fd ⟨args, kw⟩ binds) (hloc : (binds.all fun x => decide (fd.scope.names.lookup x.1 = some .local)) = true)
    (hcell : fd.scope.names.all (fun x => x.2 != .cell) = true) (hb : Binds binds T σ)
    (k : ∀ (c' : Cx) L s', c'.w = c.w → St c' T ((L, .ns σ) :: mp) s' → (∀ v d T' p mp' s'', (v, d) ∈ T' → St c' T' (p :: mp') s'' → St c ((v, d) :: T) (mp' ++ mr) s'') →
      wpAny (Mo c') (A.deeper (callEnv fd L f)) (execs body (callEnv fd L f)) (fun fl s'' => Q (match fl with | .ret v => v | _ => .none) s'') (fun _ _ => False) s')
    (hco : fd.scope.isCoroutine = false := by rfl) (hgen : fd.scope.isGenerator = false := by rfl) (hk : fd.scope.kind = .function := by rfl) :
    wpAny (Mo c) A (call (.ref f) args kw) Q E s := by
  have X := H.top.1
  have hl := H.noLimit
  obtain ⟨c', hw, H1, back⟩ := H.aside
  refine wpAny_call (codeAny_call_def (fd := fd) (body := body) (binds := binds) hroom (X _ _ ho) rfl hl (codeRec_of X hcd) hbody hbind (fun x hx => by simpa using List.all_eq_true.mp hcell x hx) (locs hloc) (fun h₀ hns hk₀ => ?_) hco hgen hk)
  have Hs : St c' T ((s.heap.objs.size, .ns σ) :: mp) { s with heap := h₀, toks := s.toks + binds.length } := by
    refine H1.push (o := default) _ ?_ hk₀ fun g ht => ⟨_, hns, fun p hp => ?_⟩
    · cases e : s.heap.get? s.heap.objs.size with
      | none => rfl
      | some o => exact absurd (Heap.lt_size e) (Nat.lt_irrefl _)
    · obtain ⟨v, hv, hm⟩ := hb.all p hp
      exact ⟨v, hv, ht _ hm⟩
  have := k c' _ _ hw Hs fun v d T' p mp' s'' hm h => back [(v, d)] mp' s'' ((h.sub (T' := [(v, d)]) fun q hq => by rw [List.mem_singleton.mp hq]; exact hm).forget)
  rw [show Mo c' = Mo c from congrArg (model pw) hw] at this
  exact wpAny_mono this (fun fl s' h => h) fun _ _ h => h.elim

/-- statements, one by one -/
theorem seq {st : Stmt} {rest : List Stmt} {Q : Flow → Shared → Prop} {P : Shared → Prop} (h : wpAny (Mo c) A (exec st env) (fun f s' => f = .next ∧ P s') E s)
    (k : ∀ s', P s' → wpAny (Mo c) A (execs rest env) Q E s') : wpAny (Mo c) A (execs (st :: rest) env) Q E s :=
  wpAny_execs_cons (wpAny_mono h (fun f s' ⟨e, p⟩ => by subst e; exact k s' p) fun _ _ e => e)
theorem one {st : Stmt} {P : Shared → Prop} (h : wpAny (Mo c) A (exec st env) (fun f s' => f = .next ∧ P s') E s) : wpAny (Mo c) A (execs [st] env) (fun f s' => f = .next ∧ P s') E s :=
  seq h fun s' p => wpAny_execs_nil ⟨rfl, p⟩
theorem nil_next {P : Shared → Prop} (h : P s) : wpAny (Mo c) A (execs [] env) (fun f s' => f = .next ∧ P s') E s := wpAny_execs_nil ⟨rfl, h⟩
theorem St.nsSub {σ' : List (Str × D)} (H : St c T ((L, .ns σ) :: mu) s) (h : ∀ p ∈ σ', p ∈ σ) : St c T ((L, .ns σ') :: mu) s := by
  have := H.set (i := 0) (a := L) (md := .ns σ) (md' := .ns σ') (h' := s.heap) (k := s.toks) rfl (fun _ _ _ e => e) fun g ht ⟨m, hn, hh⟩ => ⟨m, hn, fun p hp => hh p (h p hp)⟩
  exact this
theorem St.rot3 {p q r : Addr × MD} (H : St c T (p :: q :: r :: mu) s) : St c T (q :: r :: p :: mu) s := H.perm (by
  have h1 : (q :: p :: r :: mu).Perm (p :: q :: r :: mu) := List.Perm.swap ..
  exact (List.Perm.cons q (List.Perm.swap p r mu)).trans h1)
theorem St.swap2 {p q r : Addr × MD} (H : St c T (p :: q :: r :: mu) s) : St c T (p :: r :: q :: mu) s := H.perm (List.Perm.cons p (List.Perm.swap ..))
/-- a method of a builtin type's, called on v -/
theorem cw_self0 {pos : Pos} {id : String} {v : Value} {Q : Value → Shared → Prop} (h : wpAny (Mo c) A (call (.builtin id) [v]) Q E s) : wpAny (Mo c) A (callWith pos (.builtin id) [v] (backTo pos (starEach [] env)) []) Q E s :=
  Calls.callWith_builtin (args := []) rfl (PySem.evalArgs_none h)
theorem cw_self {pos : Pos} {id : String} {v : Value} {e : Expr} {rest : List Expr} {Q : Value → Shared → Prop}
    (h : wpAny (Mo c) A (spliced (backTo pos (starEach (e :: rest) env))) (fun vs s₁ => wpAny (Mo c) A (call (.builtin id) (v :: vs)) Q E s₁) E s)
    (he : starEach (e :: rest) env = (false, eval e env) :: starEach rest env := by rfl) (hplain : (backTo pos (starEach rest env)).any (·.1) = false := by rfl) :
    wpAny (Mo c) A (callWith pos (.builtin id) [v] (backTo pos (starEach (e :: rest) env)) []) Q E s := by
  rw [he] at h ⊢
  exact Calls.callWith_builtin (by show (false || (backTo pos (starEach rest env)).any (·.1)) = false; rw [hplain]; rfl) (Calls.evalArgs_plain h)
theorem one' {st : Stmt} {Q : Flow → Shared → Prop} (h : wpAny (Mo c) A (exec st env) (fun f s' => f = .next ∧ Q .next s') E s) : wpAny (Mo c) A (execs [st] env) Q E s :=
  wpAny_execs_cons (wpAny_mono h (fun f s' ⟨e, q⟩ => by subst e; exact wpAny_execs_nil q) fun _ _ e => e)
end
/-! ZL -/

/-- room to call n deep -/
structure Rm (A : Around) (n : Nat) : Prop where
  handled : A.handled = none
  depth : A.depth + n < recursionLimit
  units : A.units + 5 * n + 100 < cLine
theorem Rm.deeper {A : Around} {n : Nat} {env : Env} (r : Rm A (n + 1)) : Rm (A.deeper env) n :=
  ⟨r.handled, by have := r.depth; show A.depth + 1 + n < _; omega, by have := r.units; show A.units + 3 + 5 * n + 100 < _; omega⟩
theorem Rm.rm {A : Around} {n : Nat} (r : Rm A n) : A.depth < recursionLimit := Nat.lt_of_le_of_lt (Nat.le_add_right _ _) r.depth
theorem Rm.less {A : Around} {n m : Nat} (r : Rm A n) (h : m ≤ n) : Rm A m := ⟨r.handled, by have := r.depth; omega, by have := r.units; omega⟩

section
variable {c : Cx} {A : Around} {E : Value → Shared → Prop} {s : Shared} {env : Env} {T : List (Value × D)} {mu : List (Addr × MD)} {L : Addr} {σ : List (Str × D)} {d : D}

theorem get?_size_none (h : Heap) : h.get? h.objs.size = none := by
  cases e : h.get? h.objs.size with
  | none => rfl
  | some o => exact absurd (Heap.lt_size e) (Nat.lt_irrefl _)
theorem St.setT {a : Addr} {md md' : MD} {h' : Heap} {k : Nat} (H : St c T (mu ++ [(a, md)]) s) (hs : ∀ b o, b ≠ a → s.heap.get? b = some o → h'.get? b = some o)
    (hm : ∀ g, (∀ p ∈ T, Rep c.w g p.1 p.2) → MRep c.w g s.heap a md → MRep c.w g h' a md') : St c T (mu ++ [(a, md')]) { s with heap := h', toks := k } := by
  have := H.set (i := mu.length) (a := a) (md := md) (md' := md') (h' := h') (k := k) (by simp) hs hm
  simpa using this
theorem St.dropT {p : Addr × MD} (H : St c T (mu ++ [p]) s) : St c T mu s := (H.perm (mu' := p :: mu) (List.perm_append_comm (l₁ := [p]) (l₂ := mu))).forget
theorem St.toT {p : Addr × MD} (H : St c T (p :: mu) s) : St c T (mu ++ [p]) s := H.perm (List.perm_append_comm (l₁ := mu) (l₂ := [p]))
theorem St.atT {a : Addr} {md : MD} (H : St c T (mu ++ [(a, md)]) s) : ∃ g, (∀ p ∈ T, Rep c.w g p.1 p.2) ∧ MRep c.w g s.heap a md :=
  let ⟨_, _, g, _, C⟩ := H; ⟨g, C.tm, C.mr (a, md) (by simp)⟩
theorem St.at0 {a : Addr} {md : MD} (H : St c T mu s) (hm : (a, md) ∈ mu) : ∃ g, (∀ p ∈ T, Rep c.w g p.1 p.2) ∧ MRep c.w g s.heap a md :=
  let ⟨_, _, g, _, C⟩ := H; ⟨g, C.tm, C.mr _ hm⟩
/-- an iterator that ends may be lost -/
theorem St.lostT {a : Addr} {md : MD} {h' : Heap} {k : Nat} (H : St c T (mu ++ [(a, md)]) s) (hs : Heap.ExtBut a s.heap h') : St c T mu { s with heap := h', toks := k } := by
  obtain ⟨ge, os, g, l, C⟩ := H
  have hin : (a, md) ∈ mu ++ [(a, md)] := by simp
  have nd := C.nd
  rw [List.map_append, List.nodup_append] at nd
  refine ⟨ge, os, g, l, ⟨C.gd, fun b o e => hs b o (fun q => ?_) (C.kg b o e), fun b o e => hs b o (fun q => ?_) (C.kf b o e), C.gf, C.tm, fun p hp => ?_, fun p hp => C.gm p (List.mem_append_left _ hp), nd.1⟩⟩
  · subst q; rw [(C.gm _ hin).1] at e; cases e
  · subst q; rw [(C.gm _ hin).2] at e; cases e
  · exact (C.mr p (List.mem_append_left _ hp)).at' (GLe.refl g) fun o e => hs _ o (nd.2.2 p.1 (List.mem_map_of_mem hp) a (by simp)) e

/-! iterators -/
noncomputable abbrev itL (l : Addr) (k : Nat) : MD := .fl "list_iterator" [.ref l, .int k 0]
theorem it_list {l : Addr} {ds : List D} {Q : Value → Shared → Prop} (H : St c T mu s) (hl : LstV T mu (.ref l) ds) (k : ∀ it s', St c T (mu ++ [(it, itL l 0)]) s' → Q (.ref it) s') :
    wpAny (Mo c) A (pyIter (.ref l)) Q E s := by
  obtain ⟨_, vs, e, hL, _, _⟩ := H.list hl
  cases e
  refine wpAny_pyIter_list hL (k _ _ ?_)
  exact (H.push (o := default) (k := s.toks) (itL l 0) (get?_size_none _) (fun b o e => Heap.get?_push_of_some _ e) fun g ht => ⟨_, Heap.get?_push_size _ rfl, rfl, rfl⟩).toT
theorem nx_list {l it : Addr} {ds : List D} {i : Nat} {Q : Option Value → Shared → Prop} (H : St c T (mu ++ [(it, itL l i)]) s) (hl : LstV T mu (.ref l) ds) (hd : ds[i]? = some d)
    (k : ∀ v s', St c ((v, d) :: T) (mu ++ [(it, itL l (i + 1))]) s' → Q (some v) s') : wpAny (Mo c) A (pyNext (.ref it)) Q E s := by
  have hl' : LstV T (mu ++ [(it, itL l i)]) (.ref l) ds := hl.imp id fun ⟨a, e, h⟩ => ⟨a, e, List.mem_append_left _ h⟩
  obtain ⟨_, vs, e, hL, _, he⟩ := H.list hl'
  cases e
  obtain ⟨x, hx, H'⟩ := he i d hd
  obtain ⟨g, _, hit⟩ := H.atT
  refine wpAny_pyNext_list_item (i := i) hit hL (x := x) (by simpa using hx) fun h' hi' hs' => k x _ ?_
  exact H'.setT (k := s.toks) (fun b o hb e => (hs'.2 b hb).trans e) fun g ht _ => hi'
theorem nx_list_end {l it : Addr} {ds : List D} {i : Nat} {Q : Option Value → Shared → Prop} (hh : A.handled = none) (H : St c T (mu ++ [(it, itL l i)]) s) (hl : LstV T mu (.ref l) ds) (hd : ds[i]? = none)
    (k : ∀ s', St c T mu s' → Q none s') : wpAny (Mo c) A (pyNext (.ref it)) Q E s := by
  have hl' : LstV T (mu ++ [(it, itL l i)]) (.ref l) ds := hl.imp id fun ⟨a, e, h⟩ => ⟨a, e, List.mem_append_left _ h⟩
  obtain ⟨_, vs, e, hL, hlen, he⟩ := H.list hl'
  cases e
  obtain ⟨g, _, hit⟩ := H.atT
  refine wpAny_pyNext_list_end (i := i) hh hit hL ?_ fun h' hs' => k _ (H.lostT (k := s.toks) hs')
  rw [List.getElem?_eq_none_iff] at hd
  simp; omega

noncomputable abbrev itR (x left step : Int) : MD := .obj { cls := .type "range_iterator", dict := none, data := .fields #[rawInt x, rawInt left, rawInt step], slots := #[] }
theorem nx_range {it : Addr} {x left step : Int} {Q : Option Value → Shared → Prop} (H : St c T (mu ++ [(it, itR x left step)]) s) (hleft : 0 < left)
    (k : ∀ v s', St c ((v, .int x) :: T) (mu ++ [(it, itR (x + step) (left - 1) step)]) s' → Q (some v) s') : wpAny (Mo c) A (pyNext (.ref it)) Q E s := by
  obtain ⟨g, _, hit⟩ := H.atT
  refine wpAny_pyNext_range_item hit hleft fun h' hi' hs' => k _ _ ?_
  exact (H.setT (md' := itR (x + step) (left - 1) step) (k := s.toks + 1) (fun b o hb e => (hs'.2 b hb).trans e) fun g ht _ => hi').intv _ _
theorem nx_range_end {it : Addr} {x left step : Int} {Q : Option Value → Shared → Prop} (hh : A.handled = none) (H : St c T (mu ++ [(it, itR x left step)]) s) (hleft : left ≤ 0)
    (k : ∀ s', St c T mu s' → Q none s') : wpAny (Mo c) A (pyNext (.ref it)) Q E s := by
  obtain ⟨g, _, hit⟩ := H.atT
  exact wpAny_pyNext_range_end hh hit hleft fun h' hs' => k _ (H.lostT (k := s.toks) hs')

/-- what an iterator hands out: datum by datum; tl i are its chunks ahead of the i-th, to i behind it (a tuple of its own may be out) -/
structure Itf (c : Cx) (A : Around) (T : List (Value × D)) (it : Addr) (tl : Nat → List (Addr × MD)) (to : Nat → Value → List (Addr × MD)) (ds : List D) : Prop where
  item : ∀ {mu s d E Q} (i : Nat), St c T (mu ++ tl i) s → ds[i]? = some d → (∀ v s', St c ((v, d) :: T) (mu ++ to i v) s' → Q (some v) s') → wpAny (Mo c) A (pyNext (.ref it)) Q E s
  done : ∀ {mu s E Q}, St c T (mu ++ tl ds.length) s → (∀ s', St c T mu s' → Q none s') → wpAny (Mo c) A (pyNext (.ref it)) Q E s
structure Its (c : Cx) (A : Around) (T : List (Value × D)) (it : Addr) (tl : Nat → List (Addr × MD)) (to : Nat → Value → List (Addr × MD)) (ds : List D) : Prop extends Itf c A T it tl to ds where
  self : ∀ {mu s E Q}, St c T (mu ++ tl 0) s → (Q (.ref it) s) → wpAny (Mo c) A (pyIter (.ref it)) Q E s
noncomputable abbrev tlL (it l : Addr) (i : Nat) : List (Addr × MD) := [(it, itL l i)]
theorem its_list {l it : Addr} {ds : List D} (hh : A.handled = none) (hl : (Value.ref l, D.lst ds) ∈ T) : Its c A T it (tlL it l) (fun i _ => tlL it l (i + 1)) ds where
  item i H hd k := nx_list H (.inl hl) hd k
  done H k := nx_list_end hh H (.inl hl) (by simp) k
  self H k := by
    obtain ⟨g, _, hit⟩ := H.atT
    exact wpAny_pyIter_listiter (i := 0) hit k
noncomputable abbrev tlR (it : Addr) (a b : Int) (n : Nat) (i : Nat) : List (Addr × MD) := [(it, itR (a + i * b) (n - i) b)]
theorem its_range {it : Addr} {a b : Int} {n : Nat} (hh : A.handled = none) : Its c A T it (tlR it a b n) (fun i _ => tlR it a b n (i + 1)) ((List.range n).map fun (i : Nat) => .int (a + i * b)) where
  item i H hd k := by
    have hi : i < n := by have := (List.getElem?_eq_some_iff.mp hd).1; simpa using this
    rw [List.getElem?_map, List.getElem?_range hi] at hd
    cases hd
    refine nx_range H (by omega) fun v s' H' => k v s' ?_
    have e1 : a + (i : Int) * b + b = a + ((i + 1 : Nat) : Int) * b := by push_cast; rw [Int.add_mul]; omega
    have e2 : (n : Int) - i - 1 = (n : Int) - ((i + 1 : Nat) : Int) := by push_cast; omega
    rw [e1, e2] at H'; exact H'
  done H k := nx_range_end hh H (by simp) k
  self H k := by
    obtain ⟨g, _, hit⟩ := H.atT
    exact wpAny_pyIter_rangeiter hit k

/-- what is known of values stays known -/
theorem St.fix (H : St c T mu s) : ∃ c' : Cx, c'.w = c.w ∧ St c' T mu s ∧ (∀ T' mu' s', St c' T' mu' s' → St c T' mu' s') ∧ (∀ T' mu' s', St c' T' mu' s' → St c' (T' ++ T) mu' s') := by
  obtain ⟨ge, os, g, le, C⟩ := H
  refine ⟨{ c with g₀ := g }, rfl, ⟨ge, os, g, GLe.refl g, C⟩, fun T' mu' s' ⟨ge', os', g', le', C'⟩ => ⟨ge', os', g', le.trans le', C'⟩, fun T' mu' s' ⟨ge', os', g', le', C'⟩ => ⟨ge', os', g', le', { C' with tm := fun p hp => ?_ }⟩⟩
  rcases List.mem_append.mp hp with hp | hp
  · exact C'.tm p hp
  · exact (C.tm p hp).mono le'

/-- a for over an iterator -/
theorem for_itf {target : Expr} {it : Addr} {tl : Nat → List (Addr × MD)} {to : Nat → Value → List (Addr × MD)} {ds : List D} {body : List Stmt} {R : Result → Shared → Prop} (I : Nat → List (Addr × MD) → Prop) (W : ∀ c' : Cx, c'.w = c.w → Itf c' A T it tl to ds)
    (h0 : I 0 mu) (H : St c T (mu ++ tl 0) s)
    (turn : ∀ (c' : Cx) i d mu v s E, c'.w = c.w → (∀ T' mu' s', St c' T' mu' s' → St c T' mu' s') → ds[i]? = some d → I i mu → St c' ((v, d) :: T) (mu ++ to i v) s →
      wpAny (Mo c') A (letOwnedTupleGo target (.ref it) v) (fun _ s₁ => wpAny (Mo c') A (assign target env v) (fun _ s₂ => wpAny (Mo c') A (execs body env)
      (fun f s₃ => match f with
        | .next | .cont => ∃ mu' T', I (i + 1) mu' ∧ St c' T' (mu' ++ tl (i + 1)) s₃
        | .brk => False
        | .ret v => R (.ok (.ret v)) s₃) E s₂) E s₁) E s)
    (done : ∀ mu s, I ds.length mu → St c T mu s → R (.ok .next) s) :
    codeAny (Mo c) A (.forLoop target (.ref it) body [] env) R s := by
  obtain ⟨c', hw, H', up, more⟩ := H.fix
  rw [show Mo c = Mo c' from congrArg (model pw) hw.symm]
  refine codeAny_forLoop_any (fun n s => ∃ i mu, n = ds.length - i ∧ i ≤ ds.length ∧ I i mu ∧ St c' T (mu ++ tl i) s) ?_ ds.length ⟨0, mu, rfl, Nat.zero_le _, h0, H'⟩
  rintro n s ⟨i, mu, rfl, hi, hI, H⟩
  by_cases hlt : i < ds.length
  · refine (W c' hw).item i H (List.getElem?_eq_getElem hlt) fun v s' H' => ?_
    refine wpAny_mono (turn c' i _ mu v s' _ hw up (List.getElem?_eq_getElem hlt) hI H') (fun _ s₁ h₁ => wpAny_mono h₁ (fun _ s₂ h₂ => wpAny_mono h₂ (fun f s₃ h₃ => ?_) fun _ _ e => e) fun _ _ e => e) fun _ _ e => e
    have fin : (∃ mu' T', I (i + 1) mu' ∧ St c' T' (mu' ++ tl (i + 1)) s₃) → ∃ m, m < ds.length - i ∧ ∃ j mu, m = ds.length - j ∧ j ≤ ds.length ∧ I j mu ∧ St c' T (mu ++ tl j) s₃ := fun ⟨mu', T', hI', H3⟩ =>
      ⟨_, by omega, i + 1, mu', rfl, hlt, hI', (more _ _ _ H3).sub fun p hp => List.mem_append_right _ hp⟩
    cases f with
    | next => exact fin h₃
    | cont => exact fin h₃
    | brk => exact h₃.elim
    | ret v => exact h₃
  · have e : i = ds.length := by omega
    subst e
    exact (W c' hw).done H fun s' H' => wpAny_execs_nil (done mu s' hI (up _ _ _ H'))
/-- a for over an iterator -/
theorem for_its {target : Expr} {it : Addr} {tl : Nat → List (Addr × MD)} {to : Nat → Value → List (Addr × MD)} {ds : List D} {body : List Stmt} {R : Result → Shared → Prop} (I : Nat → List (Addr × MD) → Prop) (W : ∀ c' : Cx, c'.w = c.w → Its c' A T it tl to ds)
    (h0 : I 0 mu) (H : St c T (mu ++ tl 0) s)
    (turn : ∀ (c' : Cx) i d mu v s E, c'.w = c.w → (∀ T' mu' s', St c' T' mu' s' → St c T' mu' s') → ds[i]? = some d → I i mu → St c' ((v, d) :: T) (mu ++ to i v) s →
      wpAny (Mo c') A (letOwnedTupleGo target (.ref it) v) (fun _ s₁ => wpAny (Mo c') A (assign target env v) (fun _ s₂ => wpAny (Mo c') A (execs body env)
      (fun f s₃ => match f with
        | .next | .cont => ∃ mu' T', I (i + 1) mu' ∧ St c' T' (mu' ++ tl (i + 1)) s₃
        | .brk => False
        | .ret v => R (.ok (.ret v)) s₃) E s₂) E s₁) E s)
    (done : ∀ mu s, I ds.length mu → St c T mu s → R (.ok .next) s) :
    codeAny (Mo c) A (.forLoop target (.ref it) body [] env) R s := by
  exact for_itf I (fun c' h => (W c' h).toItf) h0 H turn done
/-- a name as a target -/
theorem own_name {x : Str} {pos : Pos} {it v : Value} {Q : Unit → Shared → Prop} (h : Q () s) : wpAny (Mo c) A (letOwnedTupleGo (.Name x pos) it v) Q E s := by
  have e : letOwnedTupleGo (.Name x pos) it v = pure () := rfl
  rw [e]; exact wpAny_pure h

/-- while -/
theorem while_st {test : Expr} {body : List Stmt} {pos : Pos} {P : Shared → Prop} (I : Nat → Shared → Prop) (n : Nat) (h : I n s)
    (turn : ∀ n s E', I n s → wpAny (Mo c) A (isTrue test env (eval test env)) (fun b s₂ => if b then wpAny (Mo c) A (execs body env) (fun f s₃ => f = .next ∧ ∃ m, m < n ∧ I m s₃) E' s₂ else P s₂) E' s) :
    wpAny (Mo c) A (exec (.While test body [] pos) env) (fun f s' => f = .next ∧ P s') E s := by
  refine wpAny_While (codeAny_whileLoop I (fun n s hI => ?_) n h)
  refine wpAny_mono (turn n s _ hI) (fun b s₂ h₂ => ?_) fun _ _ e => e
  cases b with
  | true =>
    simp only [if_true] at h₂ ⊢
    exact wpAny_mono h₂ (fun f s₃ ⟨e, h₃⟩ => by subst e; exact h₃) fun _ _ e => e
  | false =>
    simp only [Bool.false_eq_true, if_false] at h₂ ⊢
    exact wpAny_execs_nil ⟨rfl, h₂⟩
end
/-! ZC -/
section
variable {c : Cx} {A : Around} {E : Value → Shared → Prop} {s : Shared} {env : Env} {T : List (Value × D)} {mu : List (Addr × MD)} {L : Addr} {σ : List (Str × D)} {d : D}

theorem mapSeq_listOf (f : Array Value → Array Value) (xs : Array Value) (n : Nat) : Obj.mapSeq f (listOf xs n) = listOf (f xs) (if (f xs).size == xs.size then n else n + 1) := rfl

theorem St.updL {i : Nat} {l : Addr} {ds ds' : List D} {k : Nat} (H : St c T mu s) (hi : mu[i]? = some (l, .lst ds)) (f : Array Value → Array Value)
    (hf : ∀ g vs, (∀ p ∈ T, Rep c.w g p.1 p.2) → RepAll c.w g vs ds → ∃ vs' : List Value, f vs.toArray = vs'.toArray ∧ RepAll c.w g vs' ds') :
    St c T (mu.set i (l, .lst ds')) { s with heap := s.heap.update l (Obj.mapSeq f), toks := k } := by
  refine H.set hi (fun b o hb e => (Heap.get?_update_other _ _ (Ne.symm hb)).trans e) fun g ht ⟨vs, n, ho, hr⟩ => ?_
  obtain ⟨vs', e, hr'⟩ := hf g vs ht hr
  refine ⟨vs', if (f vs.toArray).size == vs.toArray.size then n else n + 1, ?_, hr'⟩
  rw [Heap.get?_update_self _ ho rfl, mapSeq_listOf, e]
theorem St.lobj {l : Addr} {ds : List D} (H : St c T mu s) (hi : (l, .lst ds) ∈ mu) : ∃ (vs : List Value) (n : Nat), s.heap.get? l = some (listOf vs.toArray n) ∧ vs.length = ds.length := by
  obtain ⟨_, _, g, _, C⟩ := H
  obtain ⟨vs, n, ho, hr⟩ := C.mr _ hi
  exact ⟨vs, n, ho, hr.1⟩
theorem listOf_is {h : Heap} {l : Addr} {xs : Array Value} {n : Nat} (e : h.get? l = some (listOf xs n)) : h.IsList l xs := ⟨_, e, rfl, n, rfl⟩

theorem repAll_push {w : World} {g : GH} {vs : List Value} {ds : List D} {v : Value} (h : RepAll w g vs ds) (hv : Rep w g v d) : RepAll w g (vs ++ [v]) (ds ++ [d]) := h.append (.cons hv .nil)

/-- l.append(v) -/
theorem op_append {i : Nat} {l : Addr} {ds : List D} {v : Value} {Q : Value → Shared → Prop} (H : St c T mu s) (hi : mu[i]? = some (l, .lst ds)) (hv : (v, d) ∈ T) (hn : ds.length ≤ 1048576)
    (k : ∀ s', St c T (mu.set i (l, .lst (ds ++ [d]))) s' → Q .none s') : wpAny (Mo c) A (call (.builtin "list.append") [.ref l, v]) Q E s := by
  obtain ⟨vs, n, ho, hl⟩ := H.lobj (List.mem_of_getElem? hi)
  refine call_meets slot_list_append (listOf_is ho).typeIs entry_list_append (args_list_append _ _) (AutoListH.list_append_list_val_0 l vs.toArray n v (by simp only [List.size_toArray, sizeLine_eq]; omega)) ⟨ho, k _ ?_⟩
  exact H.updL hi _ fun g vs ht hr => ⟨vs ++ [v], by simp, repAll_push hr (ht _ hv)⟩

theorem repAll_insert {w : World} {g : GH} {vs : List Value} {ds : List D} {v : Value} (h : RepAll w g vs ds) (hv : Rep w g v d) (k : Nat) : RepAll w g (vs.take k ++ v :: vs.drop k) (ds.take k ++ d :: ds.drop k) := by
  refine RepAll.append ⟨by simp [h.1], fun i u e hu he => ?_⟩ (.cons hv ⟨by simp [h.1], fun i u e hu he => ?_⟩)
  · rw [List.getElem?_take] at hu he
    split at hu
    · rename_i hlt; rw [if_pos hlt] at he; exact h.2 i u e hu he
    · cases hu
  · rw [List.getElem?_drop] at hu he
    exact h.2 _ u e hu he
/-- l.insert(k, v) -/
theorem op_insert {i : Nat} {l : Addr} {ds : List D} {v x : Value} {p : Nat} {Q : Value → Shared → Prop} (H : St c T mu s) (hi : mu[i]? = some (l, .lst ds)) (hx : (x, .int p) ∈ T) (hv : (v, d) ∈ T) (hp : p ≤ ds.length) (hn : ds.length ≤ 1048576)
    (k : ∀ s', St c T (mu.set i (l, .lst (ds.take p ++ d :: ds.drop p))) s' → Q .none s') : wpAny (Mo c) A (call (.builtin "list.insert") [.ref l, x, v]) Q E s := by
  obtain ⟨vs, n, ho, hl⟩ := H.lobj (List.mem_of_getElem? hi)
  obtain ⟨t, rfl⟩ := H.isInt hx
  have hf : Builtin.List.listFitsIndex (p : Int) = true := by simp [Builtin.List.listFitsIndex]; omega
  have hz : vs.length ≤ sizeLine := by rw [sizeLine_eq]; omega
  obtain ⟨y, hy⟩ : ∃ y : Int, y = (p : Int) := ⟨_, rfl⟩
  rw [← hy] at hf ⊢
  refine call_meets PySem.F.slot_list_insert (listOf_is ho).typeIs PySem.F.entry_list_insert (PySem.F.args_list_insert_3 _ _ _) (PySem.AutoSeq1.list_insert_list_int_val_1 l _ n y t v (by simp [hf]) (by rw [List.size_toArray]; exact hz)) ⟨ho, k _ ?_⟩
  refine H.updL hi _ fun g vs ht hr => ⟨vs.take p ++ v :: vs.drop p, ?_, repAll_insert hr (ht _ hv) p⟩
  have hlen := hr.1
  have e0 : ¬ (y < 0) := by omega
  have e1 : min y.toNat vs.toArray.size = p := by simp; omega
  simp only [e0, if_false, e1]
  apply Array.ext'
  simp [List.take_of_length_le]

/-- l[k] = v -/
theorem op_setItem {i : Nat} {l : Addr} {ds : List D} {v x : Value} {p : Nat} {Q : Unit → Shared → Prop} (H : St c T mu s) (hi : mu[i]? = some (l, .lst ds)) (hx : (x, .int p) ∈ T) (hv : (v, d) ∈ T) (hp : p < ds.length) (hn : ds.length ≤ 1048576)
    (k : ∀ s', St c T (mu.set i (l, .lst (ds.set p d))) s' → Q () s') : wpAny (Mo c) A (setItem (.ref l) x v) Q E s := by
  obtain ⟨vs, n, ho, hl⟩ := H.lobj (List.mem_of_getElem? hi)
  obtain ⟨t, rfl⟩ := H.isInt hx
  have hL := listOf_is ho
  obtain ⟨y, hy⟩ : ∃ y : Int, y = (p : Int) := ⟨_, rfl⟩
  have h0 : 0 ≤ y := by omega
  have hfit : y < 2 ^ 63 := by omega
  rw [← hy]
  unfold setItem
  refine wpAny_holding (wpAny_bind (wpAny_sequenceKey hL.typeIs (by decide) ?_))
  refine wpAny_bind (wpAny_callSpecial?_slot (name := Str.ofString "__setitem__") hL.typeIs slot_list_setitem
    (wpAny_call_entry slot_list_setitem hL.typeIs entry_list_setitem ?_ (args_list_setitem _ _ _)))
  show wpAny _ _ (Builtin.List.listSubscript? (.int y t) >>= _) _ _ s
  refine wpAny_bind (wpAny_listSubscript_int (fitsIndex_of h0 hfit) ?_)
  clear hfit
  obtain ⟨j, rfl⟩ := Int.eq_ofNat_of_zero_le h0
  have : j = p := by omega
  subst this
  have hx' : vs.toArray[j]? = some (vs[j]'(by omega)) := by simp
  show wpAny _ _ ((seqItemAt l j >>= fun r => pure (r.map (j, ·))) >>= _) _ _ s
  refine wpAny_bind (wpAny_bind (wpAny_seqItemAt ho rfl (wpAny_pure ?_)))
  rw [hx']
  show wpAny _ _ (setSeqItemAt l j v >>= _) _ _ s
  refine wpAny_bind (wpAny_setSeqItemAt ho rfl ?_)
  have key : St c T (mu.set i (l, .lst (ds.set j d))) { s with heap := s.heap.update l (Obj.mapSeq (·.setIfInBounds j v)) } := by
    refine H.updL (k := s.toks) hi _ fun g vs ht hr => ⟨vs.set j v, ?_, by simp [hr.1], fun j' u e hu he => ?_⟩
    · simp
    · by_cases q : j = j'
      · subst q
        rw [List.getElem?_set_self (by rw [hr.1]; exact hp)] at hu
        rw [List.getElem?_set_self hp] at he
        cases hu; cases he; exact ht _ hv
      · rw [List.getElem?_set_ne q] at hu he
        exact hr.2 j' u e hu he
  exact wpAny_bind (wpAny_pure (wpAny_pure ⟨.none, rfl, wpAny_pure (k _ key)⟩))

/-! in place -/
theorem inplace_iadd {a b : Value} {Q : Value → Shared → Prop} (ha : s.TypeIs a "list") (hb : s.TypeIs b "list") (hc : wpAny (Mo c) A (call (.builtin "list.__iadd__") [a, b]) Q E s) : wpAny (Mo c) A (inplaceOp .Add a b) Q E s := by
  unfold inplaceOp
  refine wpAny_holding ?_
  have l1 := PySem.F.slot_list_iadd.lookup
  have hfi : fillsInplaceSlot (.type "list") "add" (Operator.Add == .Add) = pure false := by
    unfold fillsInplaceSlot
    show (typeLookup (.type "list") (dunderI "add") >>= fun fi => pure (fi.isSome && !isSeqSlot fi)) = pure false
    rw [l1, pure_bind]
    have : isSeqSlot (some (Value.builtin "list.__iadd__")) = true := by decide +kernel
    rw [this]; rfl
  have hsi : seqSlot? (.type "list") (dunderI "add") = pure (some (.builtin "list.__iadd__")) := PySem.seqSlot_of l1 (by decide +kernel)
  refine wpAny_bind (wpAny_typeOf ha (wpAny_bind (wpAny_of_eq hfi ?_)))
  show wpAny _ A (if false = true then _ else _) Q E s
  rw [if_neg Bool.false_ne_true]
  refine wpAny_bind (wpAny_binaryOp1_none (nm := "add") ha hb noFill_list_add ?_)
  refine wpAny_bind (wpAny_of_eq hsi ?_)
  exact wpAny_bind (wpAny_rule hc)

theorem op_iaddL {i : Nat} {l : Addr} {ds es : List D} {v : Value} {Q : Value → Shared → Prop} (H : St c T mu s) (hi : mu[i]? = some (l, .lst ds)) (hv : (v, .lst es) ∈ T) (hn : ds.length + es.length ≤ 1048576)
    (k : ∀ s', St c T (mu.set i (l, .lst (ds ++ es))) s' → Q (.ref l) s') : wpAny (Mo c) A (inplaceOp .Add (.ref l) v) Q E s := by
  obtain ⟨vs, n, ho, hl⟩ := H.lobj (List.mem_of_getElem? hi)
  obtain ⟨b, us, m, rfl, hb, hl', H'⟩ := H.exact (.inl hv)
  refine inplace_iadd (listOf_is ho).typeIs (listOf_is hb).typeIs ?_
  refine call_meets PySem.F.slot_list_iadd (listOf_is ho).typeIs PySem.F.entry_list_iadd (PySem.F.args_list_iadd_2 _ _)
    (PySem.AutoSeq1.list___iadd___list_list_0 l vs.toArray n b us.toArray m (by simp [Builtin.List.listTooLong, sizeLine_eq]; omega) (by simp only [List.size_toArray, sizeLine_eq]; omega) (by simp only [List.size_toArray, sizeLine_eq]; omega)) ⟨ho, hb, k _ ?_⟩
  refine St.sub (H'.updL (i := i) hi (fun x => x ++ us.toArray) fun g vs' ht hr => ⟨vs' ++ us, by simp, hr.append ⟨hl', fun j u e hu he => ?_⟩⟩) fun p hp => List.mem_append_right _ hp
  exact ht (u, e) (List.mem_append_left _ (List.mem_iff_getElem?.mpr ⟨j, by rw [List.getElem?_zip_eq_some]; exact ⟨hu, he⟩⟩))

theorem foldl_rep (v : Value) : ∀ (k : Nat) (acc : Array Value), List.foldl (fun x1 x2 => x1 ++ x2) acc (List.replicate k #[v]) = acc ++ (List.replicate k v).toArray
  | 0, acc => by simp
  | k + 1, acc => by
    rw [List.replicate_succ, List.foldl_cons, foldl_rep v k, List.replicate_succ]
    apply Array.ext'; simp

theorem inplace_imul {a : Addr} {xs : Array Value} {n : Nat} {x : Int} {t : Tok} {Q : Value → Shared → Prop} (ha : s.heap.get? a = some (listOf xs n)) (hc : wpAny (Mo c) A (call (.builtin "list.__imul__") [.ref a, .int x t]) Q E s) :
    wpAny (Mo c) A (inplaceOp .Mult (.ref a) (.int x t)) Q E s := by
  have hT : s.TypeIs (.ref a) "list" := (listOf_is ha).typeIs
  unfold inplaceOp
  refine wpAny_holding ?_
  have l1 := PySem.F.slot_list_imul.lookup
  have hfi : fillsInplaceSlot (.type "list") "mul" (Operator.Mult == .Add) = pure false := by
    unfold fillsInplaceSlot
    show (typeLookup (.type "list") (dunderI "mul") >>= fun fi => pure (fi.isSome && !isSeqSlot fi)) = pure false
    rw [l1, pure_bind]
    have : isSeqSlot (some (Value.builtin "list.__imul__")) = true := by decide +kernel
    rw [this]; rfl
  have hsi : seqSlot? (.type "list") (dunderI "mul") = pure (some (.builtin "list.__imul__")) := PySem.seqSlot_of l1 (by decide +kernel)
  refine wpAny_bind (wpAny_typeOf hT (wpAny_bind (wpAny_of_eq hfi ?_)))
  show wpAny _ A (if false = true then _ else _) Q E s
  rw [if_neg Bool.false_ne_true]
  refine wpAny_bind (wpAny_binaryOp1_right_declines (nm := "mul") (T := "list") (U := "int") (by decide) hT (typeIs_int s x t) noFill_list_mul PySem.F.fills_int_mul PySem.F.slot_int_rmul
    (call_meets PySem.F.slot_int_rmul (typeIs_int s x t) PySem.F.entry_int_rmul (PySem.F.args_int_rmul_2 _ _) (int___rmul___int_list x t a xs n) ⟨ha, rfl, ?_⟩))
  refine wpAny_bind (wpAny_of_eq hsi ?_)
  unfold sequenceRepeat
  refine wpAny_bind (wpAny_specialOf (typeIs_int s x t) PySem.F.slot_int_index.lookup ?_)
  exact wpAny_bind (wpAny_rule hc)

theorem rep_repl {w : World} {g : GH} {v : Value} {d : D} (h : Rep w g v d) (n : Nat) : RepAll w g (List.replicate n v) (List.replicate n d) :=
  ⟨by simp, fun i u e hu he => by
    rw [List.getElem?_replicate] at hu he
    split at hu
    · rename_i hlt; rw [if_pos hlt] at he; cases hu; cases he; exact h
    · cases hu⟩
/-- [v] *= n -/
theorem op_imulL {i : Nat} {l : Addr} {v : Value} {p : Nat} {Q : Value → Shared → Prop} (H : St c T mu s) (hi : mu[i]? = some (l, .lst [d])) (hv : (v, .int p) ∈ T) (hn : p ≤ 1000)
    (k : ∀ s', St c T (mu.set i (l, .lst (List.replicate p d))) s' → Q (.ref l) s') : wpAny (Mo c) A (inplaceOp .Mult (.ref l) v) Q E s := by
  obtain ⟨vs, n, ho, hl⟩ := H.lobj (List.mem_of_getElem? hi)
  obtain ⟨t, rfl⟩ := H.isInt hv
  obtain ⟨y, hy⟩ : ∃ y : Int, y = (p : Int) := ⟨_, rfl⟩
  rw [← hy]
  have hf : ¬ (!Builtin.List.listFitsIndex y) = true := by simp [Builtin.List.listFitsIndex]; omega
  have hsz : vs.toArray.size ≤ sizeLine := by simp only [List.size_toArray, sizeLine_eq, hl, List.length_cons, List.length_nil]; omega
  have hl1 : vs.toArray.size = 1 := by simpa using hl
  refine inplace_imul ho ?_
  have upd : ∀ (f : Array Value → Array Value), (∀ u : Value, f #[u] = (List.replicate p u).toArray) → St c T (mu.set i (l, .lst (List.replicate p d))) { s with heap := s.heap.update l (Obj.mapSeq f) } := fun f hf =>
    H.updL (k := s.toks) hi f fun g us ht hr => by
      obtain ⟨u, rfl⟩ : ∃ u, us = [u] := List.length_eq_one_iff.mp (by simpa using hr.1)
      exact ⟨List.replicate p u, hf u, rep_repl (hr.2 0 u d rfl rfl) p⟩
  by_cases h1 : p = 1
  · subst h1
    refine call_meets PySem.F.slot_list_imul (listOf_is ho).typeIs PySem.F.entry_list_imul (PySem.F.args_list_imul_2 _ _) (PySem.AutoSeq1.list___imul___list_int_1 l vs.toArray n y t hf (by simp [hy])) ⟨ho, k _ ?_⟩
    have e : mu.set i (l, .lst (List.replicate 1 d)) = mu := by
      refine List.ext_getElem? fun j => ?_
      by_cases q : i = j
      · subst q; rw [List.getElem?_set_self (List.getElem?_eq_some_iff.mp hi).1, hi]; rfl
      · rw [List.getElem?_set_ne q]
    rw [e]; exact H
  · have hne : ¬ (vs.toArray.size == 0 || y == 1) = true := by simp [hl]; omega
    by_cases h0 : p = 0
    · subst h0
      refine call_meets PySem.F.slot_list_imul (listOf_is ho).typeIs PySem.F.entry_list_imul (PySem.F.args_list_imul_2 _ _) (PySem.AutoSeq1.list___imul___list_int_2 l vs.toArray n y t hf hne (by omega) hsz) ⟨ho, k _ ?_⟩
      exact upd _ fun u => rfl
    · have hto : y.toNat = p := by omega
      refine call_meets PySem.F.slot_list_imul (listOf_is ho).typeIs PySem.F.entry_list_imul (PySem.F.args_list_imul_2 _ _)
        (PySem.AutoSeq1.list___imul___list_int_5 l vs.toArray n y t hf hne (by omega) (by rw [hl1, hto]; omega) (by rw [hl1, hto]; simp [Builtin.List.listTooLong, sizeLine_eq]; omega) hsz) ⟨ho, k _ ?_⟩
      refine upd _ fun u => ?_
      show List.foldl (fun x1 x2 => x1 ++ x2) #[] (List.replicate y.toNat #[u]) = _
      rw [foldl_rep, hto]; simp
/-- [v] * n -/
theorem op_mulL {l v : Value} {p : Nat} {Q : Value → Shared → Prop} (H : St c T mu s) (hi : (l, .lst [d]) ∈ T) (hv : (v, .int p) ∈ T) (hn : p ≤ 1000)
    (k : ∀ r s', St c ((r, .lst (List.replicate p d)) :: T) mu s' → Q r s') : wpAny (Mo c) A (binaryOp .Mult l v) Q E s := by
  obtain ⟨a, vs, n, rfl, ho, hl, H'⟩ := H.exact (.inl hi)
  obtain ⟨t, rfl⟩ := H.isInt hv
  obtain ⟨u, rfl⟩ : ∃ u, vs = [u] := List.length_eq_one_iff.mp (by simpa using hl)
  obtain ⟨y, hy⟩ : ∃ y : Int, y = (p : Int) := ⟨_, rfl⟩
  rw [← hy]
  have hto : y.toNat = p := by omega
  have hone : [u].toArray.size = 1 := rfl
  refine wpAny_binaryOp_repeat_ref (T := "list") (U := "int") (by decide) ⟨_, ho, rfl⟩ (fun s' => typeIs_int s' y t) noFill_list_mul PySem.F.fills_int_mul PySem.F.slot_int_rmul repeat_list PySem.F.slot_int_index.lookup
    (call_meets PySem.F.slot_int_rmul (typeIs_int s y t) PySem.F.entry_int_rmul (PySem.F.args_int_rmul_2 _ _) (int___rmul___int_list y t a [u].toArray n)
      ⟨ho, rfl, ⟨_, ho, rfl⟩, call_meets PySem.F.slot_list_mul ⟨_, ho, rfl⟩ PySem.F.entry_list_mul (PySem.F.args_list_mul_2 _ _)
        (AutoListH.list___mul___list_int_3 a [u].toArray n y t (by simp [Builtin.List.listFitsIndex]; omega) (by rw [hone, hto]; omega) (by rw [hone, hto]; simp [Builtin.List.listTooLong, sizeLine_eq]; omega)) ⟨ho, k _ _ ?_⟩⟩)
  have e : List.foldl (fun x1 x2 => x1 ++ x2) #[] (List.replicate (if [u].toArray.isEmpty = true then 0 else y.toNat) [u].toArray) = (List.replicate p u).toArray := by
    have : ([u].toArray.isEmpty = true) = False := by simp
    simp only [this, if_false, hto]
    rw [show [u].toArray = #[u] from rfl, foldl_rep]; simp
  rw [e]
  have := (H'.newList (vs := List.replicate p u) (ds := List.replicate p d) (fun q hq => ?_) (by simp)).frzL
  · exact this.sub fun q hq => by
      rcases List.mem_cons.mp hq with rfl | hq
      · exact .head _
      · exact .tail _ (List.mem_append_right _ hq)
  · obtain ⟨i, hi⟩ := List.mem_iff_getElem?.mp hq
    rw [List.getElem?_zip_eq_some] at hi
    have h1 := hi.1
    have h2 := hi.2
    rw [List.getElem?_replicate] at h1 h2
    split at h1
    · rename_i hlt
      rw [if_pos hlt] at h2
      have a1 := Option.some.inj h1
      have a2 := Option.some.inj h2
      obtain ⟨q1, q2⟩ := q
      dsimp only at a1 a2
      subst a1; subst a2
      exact List.mem_append_left _ (by simp)
    · cases h1
/-- two lists -/
theorem op_addL {x y : Value} {ds es : List D} {Q : Value → Shared → Prop} (H : St c T mu s) (hx : LstV T mu x ds) (hy : LstV T mu y es) (hn : ds.length + es.length ≤ 1048576)
    (k : ∀ r s', St c ((r, .lst (ds ++ es)) :: T) mu s' → Q r s') : wpAny (Mo c) A (binaryOp .Add x y) Q E s := by
  obtain ⟨a, vs, n, rfl, ha, hl, H1⟩ := H.exact hx
  have hy' : LstV (vs.zip ds ++ T) mu y es := hy.imp (fun h => List.mem_append_right _ h) id
  obtain ⟨b, us, m, rfl, hb, hl', H2⟩ := H1.exact hy'
  refine wpAny_binaryOp_concat (T := "list") (listOf_is ha).typeIs (listOf_is hb).typeIs noFill_list_add (PySem.seqSlot_of PySem.F.slot_list_add.lookup (by decide +kernel)) ?_
  refine call_meets PySem.F.slot_list_add (listOf_is ha).typeIs PySem.F.entry_list_add (PySem.F.args_list_add_2 _ _)
    (PySem.AutoSeq1.list___add___list_list_0 a vs.toArray n b us.toArray m (by simp only [List.size_toArray, sizeLine_eq]; omega)) ⟨ha, hb, k _ _ ?_⟩
  have e : vs.toArray ++ us.toArray = (vs ++ us).toArray := by simp
  rw [e]
  have hz : (vs ++ us).zip (ds ++ es) = vs.zip ds ++ us.zip es := List.zip_append hl
  have := (H2.newList (vs := vs ++ us) (ds := ds ++ es) (fun q hq => ?_) (by simp [hl, hl'])).frzL
  · exact this.sub fun q hq => by
      rcases List.mem_cons.mp hq with rfl | hq
      · exact .head _
      · exact .tail _ (List.mem_append_right _ (List.mem_append_right _ hq))
  · rw [hz] at hq
    rcases List.mem_append.mp hq with hq | hq
    · exact List.mem_append_right _ (List.mem_append_left _ hq)
    · exact List.mem_append_left _ hq

/-! the list by a value that is known to be it -/
variable {u : Value} {l : Addr} {ds : List D} {i : Nat}
theorem opv_append {v : Value} {Q : Value → Shared → Prop} (H : St c T mu s) (hu : (u, .lit (.ref l)) ∈ T) (hi : mu[i]? = some (l, .lst ds)) (hv : (v, d) ∈ T) (hn : ds.length ≤ 1048576)
    (k : ∀ s', St c T (mu.set i (l, .lst (ds ++ [d]))) s' → Q .none s') : wpAny (Mo c) A (call (.builtin "list.append") [u, v]) Q E s := by
  cases H.isLit hu; exact op_append H hi hv hn k
theorem opv_insert {v x : Value} {p : Nat} {Q : Value → Shared → Prop} (H : St c T mu s) (hu : (u, .lit (.ref l)) ∈ T) (hi : mu[i]? = some (l, .lst ds)) (hx : (x, .int p) ∈ T) (hv : (v, d) ∈ T) (hp : p ≤ ds.length) (hn : ds.length ≤ 1048576)
    (k : ∀ s', St c T (mu.set i (l, .lst (ds.take p ++ d :: ds.drop p))) s' → Q .none s') : wpAny (Mo c) A (call (.builtin "list.insert") [u, x, v]) Q E s := by
  cases H.isLit hu; exact op_insert H hi hx hv hp hn k
theorem opv_setItem {v x : Value} {p : Nat} {Q : Unit → Shared → Prop} (H : St c T mu s) (hu : (u, .lit (.ref l)) ∈ T) (hi : mu[i]? = some (l, .lst ds)) (hx : (x, .int p) ∈ T) (hv : (v, d) ∈ T) (hp : p < ds.length) (hn : ds.length ≤ 1048576)
    (k : ∀ s', St c T (mu.set i (l, .lst (ds.set p d))) s' → Q () s') : wpAny (Mo c) A (setItem u x v) Q E s := by
  cases H.isLit hu; exact op_setItem H hi hx hv hp hn k
theorem opv_iaddL {es : List D} {v : Value} {Q : Value → Shared → Prop} (H : St c T mu s) (hu : (u, .lit (.ref l)) ∈ T) (hi : mu[i]? = some (l, .lst ds)) (hv : (v, .lst es) ∈ T) (hn : ds.length + es.length ≤ 1048576)
    (k : ∀ s', St c T (mu.set i (l, .lst (ds ++ es))) s' → Q (.ref l) s') : wpAny (Mo c) A (inplaceOp .Add u v) Q E s := by
  cases H.isLit hu; exact op_iaddL H hi hv hn k
theorem opv_imulL {v : Value} {p : Nat} {Q : Value → Shared → Prop} (H : St c T mu s) (hu : (u, .lit (.ref l)) ∈ T) (hi : mu[i]? = some (l, .lst [d])) (hv : (v, .int p) ∈ T) (hn : p ≤ 1000)
    (k : ∀ s', St c T (mu.set i (l, .lst (List.replicate p d))) s' → Q (.ref l) s') : wpAny (Mo c) A (inplaceOp .Mult u v) Q E s := by
  cases H.isLit hu; exact op_imulL H hi hv hn k
theorem LstV.ck {T : List (Value × D)} (H : St c T mu s) (hu : (u, .lit (.ref l)) ∈ T) (hi : (l, .lst ds) ∈ mu) : LstV T mu u ds := by
  cases H.isLit hu; exact .m hi

/-- u.append(e) as an expression: what is left is the item -/
theorem ex_append {o elt : Expr} {apos pos : Pos} {Q : Value → Shared → Prop}
    (h : wpAny (Mo c) A (eval o env) (fun ov s₁ => ∃ l ds T' mu', (ov, .lit (.ref l)) ∈ T' ∧ (l, .lst ds) ∈ mu' ∧ St c T' mu' s₁ ∧ wpAny (Mo c) A (eval elt env) (fun y s₂ => wpAny (Mo c) A (call (.builtin "list.append") [.ref l, y]) Q E s₂) E s₁) E s)
    (hbase : attributeBase o "append" env (eval o env) = eval o env := by rfl)
    (hfew : ((backTo pos (starEach [elt] env)).all (fun x => !x.1) && (backToKw pos (keywordEach [] env)).all (fun x => x.1.isSome)
      && decide (([elt] : List Expr).length + ([] : List Keyword).length + (if ([] : List Keyword).isEmpty then 0 else 1) < 30)) = true := by rfl)
    (hline : (apos.endLine == pos.line) = true := by rfl) (htrees : backTo pos (starEach [elt] env) = [(false, eval elt env)] := by rfl) :
    wpAny (Mo c) A (eval (.Call (.Attribute o "append" apos) [elt] [] pos) env) Q E s :=
  wpAny_Call_append hbase hfew hline htrees (wpAny_mono h (fun ov s₁ ⟨l, ds, T', mu', hu, hl, H, k⟩ => by
    cases H.isLit hu
    obtain ⟨vs, n, ho, _⟩ := H.lobj hl
    exact ⟨l, vs.toArray, rfl, ⟨_, n, ho, rfl, rfl, rfl⟩, k⟩) fun _ _ e => e)
/-- u.m(..) of a list -/
theorem ex_insert {o : Expr} {args : List Expr} {apos pos : Pos} {Q : Value → Shared → Prop}
    (h : wpAny (Mo c) A (eval o env) (fun ov s₁ => ∃ l ds T' mu', (ov, .lit (.ref l)) ∈ T' ∧ (l, .lst ds) ∈ mu' ∧ St c T' mu' s₁ ∧ wpAny (Mo c) A (callWith pos (.builtin "list.insert") [.ref l] (backTo pos (starEach args env)) []) Q E s₁) E s)
    (hbase : attributeBase o "insert" env (eval o env) = eval o env := by rfl)
    (hfew : ((backTo pos (starEach args env)).all (fun x => !x.1) && (backToKw pos (keywordEach [] env)).all (fun x => x.1.isSome)
      && decide (args.length + ([] : List Keyword).length + (if ([] : List Keyword).isEmpty then 0 else 1) < 30)) = true := by rfl)
    (hline : (apos.endLine == pos.line) = true := by rfl) :
    wpAny (Mo c) A (eval (.Call (.Attribute o "insert" apos) args [] pos) env) Q E s :=
  wpAny_Call_method hbase hfew hline PySem.F.plainAttrs_list PySem.F.slot_list_insert PySem.F.type_list_insert (wpAny_mono h (fun ov s₁ ⟨l, ds, T', mu', hu, hl, H, k⟩ => by
    cases H.isLit hu
    obtain ⟨vs, n, ho, _⟩ := H.lobj hl
    exact ⟨(listOf_is ho).typeIs, fun a e => by cases e; exact ⟨_, ho, rfl⟩, k⟩) fun _ _ e => e)
end
/-! ZK -/
section
variable {c : Cx} {A : Around} {E : Value → Shared → Prop} {s : Shared} {env : Env} {T : List (Value × D)} {mu : List (Addr × MD)} {L : Addr} {σ : List (Str × D)} {d : D}

theorem St.lost0 {a : Addr} {md : MD} {h' : Heap} {k : Nat} (H : St c T ((a, md) :: mu) s) (hs : Heap.ExtBut a s.heap h') : St c T mu { s with heap := h', toks := k } := H.toT.lostT hs

noncomputable abbrev testsOf (ifs : List Expr) (cenv : Env) : Sem Bool := forIn ifs true fun c r => if r = true then do let ok ← isTrue c cenv (eval c cenv); pure (ForInStep.yield ok) else pure (ForInStep.yield r)

/-- the loop of a comprehension of one clause -/
theorem comp_loop {elt target iter : Expr} {ifs : List Expr} {scope : Scope} {pos : Pos} {cenv : Env} {C Dd it : Addr} {tl : Nat → List (Addr × MD)} {to : Nat → Value → List (Addr × MD)} {ds : List D} {R : Result → Shared → Prop} (sel : Nat → Option D)
    (W : ∀ c' : Cx, c'.w = c.w → Its c' A T it tl to ds) (hn : ds.length ≤ 100000)
    (H : St c T ((C, .ns []) :: (Dd, .lst []) :: (mu ++ tl 0)) s)
    (turn : ∀ (c' : Cx) i d v s E acc, c'.w = c.w → ds[i]? = some d → St c' ((v, d) :: T) ((C, .ns []) :: (Dd, .lst acc) :: (mu ++ to i v)) s →
      wpAny (Mo c') A (letOwnedTupleGo target (.ref it) v) (fun _ s₁ => wpAny (Mo c') A (assign target cenv v) (fun _ s₂ => wpAny (Mo c') A (testsOf ifs cenv)
        (fun ok s₃ => if ok = true then wpAny (Mo c') A (eval elt cenv) (fun y s₄ => ∃ T' dy σ', sel i = some dy ∧ (y, dy) ∈ T' ∧ St c' T' ((C, .ns σ') :: (Dd, .lst acc) :: (mu ++ tl (i + 1))) s₄) E s₃
          else ∃ T' σ', sel i = none ∧ St c' T' ((C, .ns σ') :: (Dd, .lst acc) :: (mu ++ tl (i + 1))) s₃) E s₂) E s₁) E s)
    (done : ∀ s, St c T ((C, .ns []) :: (Dd, .lst ((List.range ds.length).filterMap sel)) :: mu) s → R (.ok .next) s) :
    codeAny (Mo c) A (.compLoop (.ListComp elt [⟨target, iter, ifs, 0⟩] scope pos) 0 (.ref it) (.ref Dd) cenv) R s := by
  obtain ⟨c', hw, H', up, more⟩ := H.fix
  rw [show Mo c = Mo c' from congrArg (model pw) hw.symm]
  refine codeAny_loop rfl (fun n s => ∃ i, n = ds.length + 1 - i ∧ i ≤ ds.length ∧ St c' T ((C, .ns []) :: (Dd, .lst ((List.range i).filterMap sel)) :: (mu ++ tl i)) s) ?_ (ds.length + 1) ⟨0, rfl, Nat.zero_le _, H'⟩
  rintro n s ⟨i, rfl, hi, H⟩
  show wpAny _ A ((compTurn (.ListComp elt [⟨target, iter, ifs, 0⟩] scope pos) 0 (.ref it) (.ref Dd) cenv).onRaise (fun x => do noteFrame x cenv; theTreesLotGoes x)) _ _ s
  refine wpAny_noted ?_
  rw [compTurn_list]
  refine wpAny_bind (wpAny_standAt (wpAny_bind ?_))
  have hacc : ∀ i, ((List.range i).filterMap sel).length ≤ i := fun i => by have := List.length_filterMap_le sel (List.range i); simpa using this
  have snoc : ∀ i, (List.range (i + 1)).filterMap sel = (List.range i).filterMap sel ++ (sel i).toList := fun i => by rw [List.range_succ, List.filterMap_append]; cases hsel : sel i <;> simp [hsel]
  by_cases hlt : i < ds.length
  · refine (W c' hw).item (mu := (C, .ns []) :: (Dd, .lst ((List.range i).filterMap sel)) :: mu) i H (List.getElem?_eq_getElem hlt) fun v s' H' => ?_
    refine wpAny_bind (wpAny_mono (turn c' i _ v s' _ _ hw (List.getElem?_eq_getElem hlt) H') (fun _ s₁ h₁ => wpAny_bind (wpAny_mono h₁ (fun _ s₂ h₂ => wpAny_bind (wpAny_mono h₂ (fun ok s₃ h₃ => ?_) fun _ _ e => e)) fun _ _ e => e)) fun _ _ e => e)
    cases ok with
    | true =>
      simp only [if_true] at h₃ ⊢
      refine wpAny_bind (wpAny_bind (wpAny_mono h₃ (fun y s₄ ⟨T', dy, σ', hsel, hy, H4⟩ => ?_) fun _ _ e => e))
      refine wpAny_bind (op_append (i := 1) H4 rfl hy (by have := hacc i; omega) fun s₅ H5 => ?_)
      refine wpAny_pure (wpAny_pure (And.intro rfl ⟨ds.length + 1 - (i + 1), by omega, i + 1, rfl, hlt, ?_⟩))
      rw [snoc i, hsel]
      have H6 : St c' T' ((C, .ns σ') :: (Dd, .lst ((List.range i).filterMap sel ++ [dy])) :: (mu ++ tl (i + 1))) s₅ := H5
      exact (more _ _ _ (H6.nsSub (σ' := []) (by simp))).sub fun p hp => List.mem_append_right _ hp
    | false =>
      simp only [Bool.false_eq_true, if_false] at h₃ ⊢
      obtain ⟨T', σ', hsel, H4⟩ := h₃
      refine wpAny_bind (wpAny_pure (wpAny_pure (And.intro rfl ⟨ds.length + 1 - (i + 1), by omega, i + 1, rfl, hlt, ?_⟩)))
      rw [snoc i, hsel]
      simp only [Option.toList_none, List.append_nil]
      exact (more _ _ _ (H4.nsSub (σ' := []) (by simp))).sub fun p hp => List.mem_append_right _ hp
  · have e : i = ds.length := by omega
    subst e
    refine (W c' hw).done (mu := (C, .ns []) :: (Dd, .lst ((List.range ds.length).filterMap sel)) :: mu) H fun s' H' => ?_
    exact wpAny_pure (done s' (up _ _ _ H'))

/-- from the iterator on -/
theorem comp_rest {elt target iter : Expr} {ifs : List Expr} {scope : Scope} {pos : Pos} {cl : List (Str × Addr)} {it : Addr} {tl : Nat → List (Addr × MD)} {to : Nat → Value → List (Addr × MD)} {ds : List D} {use : Option (Value → Sem Unit)} {Q : Value → Shared → Prop} (sel : Nat → Option D)
    (W : ∀ c' : Cx, c'.w = c.w → Its c' A T it tl to ds) (hn : ds.length ≤ 100000) (H : St c T (mu ++ tl 0) s)
    (turn : ∀ (c' : Cx) C Dd i d v s E acc, c'.w = c.w → ds[i]? = some d → St c' ((v, d) :: T) ((C, .ns []) :: (Dd, .lst acc) :: (mu ++ to i v)) s →
      wpAny (Mo c') A (letOwnedTupleGo target (.ref it) v) (fun _ s₁ => wpAny (Mo c') A (assign target (compEnvC scope cl C env) v) (fun _ s₂ => wpAny (Mo c') A (testsOf ifs (compEnvC scope cl C env))
        (fun ok s₃ => if ok = true then wpAny (Mo c') A (eval elt (compEnvC scope cl C env)) (fun y s₄ => ∃ T' dy σ', sel i = some dy ∧ (y, dy) ∈ T' ∧ St c' T' ((C, .ns σ') :: (Dd, .lst acc) :: (mu ++ tl (i + 1))) s₄) E s₃
          else ∃ T' σ', sel i = none ∧ St c' T' ((C, .ns σ') :: (Dd, .lst acc) :: (mu ++ tl (i + 1))) s₃) E s₂) E s₁) E s)
    (k : ∀ C acc s', St c ((.ref acc, .lst ((List.range ds.length).filterMap sel)) :: T) ((C, .ns []) :: mu) s' → compPost (Mo c) A E use Q (.ref acc) C (.ok .next) s')
    (hcell : (scope.names.all fun y => y.2 != .cell) = true) (hkind : scope.kind = .function) :
    wpAny (Mo c) A (newList []) (fun acc s₃ => wpAny (Mo c) A (newFunctionEnv scope env.globals cl [] env.qual none .none (some env)) (fun cenv s₄ =>
      codeAny (Mo c) A (.compStart (.ListComp elt [⟨target, iter, ifs, 0⟩] scope pos) 0 (.ref it) acc { cenv with scope := relabel scope env }) (compPost (Mo c) A E use Q acc cenv.locals) s₄) E s₃) E s := by
  refine op_newListM (ds := []) H (fun p hp => nomatch hp) rfl (Nat.zero_le _) fun Dd s₁ H1 => ?_
  refine wpAny_newFunctionEnv (fun x hx => by simpa using List.all_eq_true.mp hcell x hx) (by intro x hx; simp at hx) (fun h₁ hns₁ hsb₁ => ?_) hkind
  have H2 : St c T ((s₁.heap.objs.size, .ns []) :: (Dd, .lst []) :: (mu ++ tl 0)) { s₁ with heap := h₁, toks := s₁.toks + ([] : List (Str × Value)).length } := by
    refine H1.push (o := default) _ (get?_size_none _) (fun b o e => hsb₁.extBut b o (Nat.ne_of_lt (Heap.lt_size e)) (Heap.get?_push_of_some _ e)) fun g ht => ⟨_, hns₁, fun p hp => nomatch hp⟩
  have loop : ∀ s₃, s₃ = { s₁ with heap := h₁, toks := s₁.toks + ([] : List (Str × Value)).length } → codeAny (Mo c) A (.compLoop (.ListComp elt [⟨target, iter, ifs, 0⟩] scope pos) 0 (.ref it) (.ref Dd) (compEnvC scope cl s₁.heap.objs.size env)) (compPost (Mo c) A E use Q (.ref Dd) s₁.heap.objs.size) s₃ := by
    rintro s₃ rfl
    exact comp_loop sel W hn H2 (fun c' i d v s E acc hw hd H => turn c' _ Dd i d v s E acc hw hd H) fun s' H' => k _ _ _ (H'.swap.frzL)
  exact codeAny_compStart_list (loop _ rfl) ((W c rfl).self (mu := (s₁.heap.objs.size, .ns []) :: (Dd, .lst []) :: mu) H2 (loop _ rfl))

/-- what a comprehension asks of its iterator -/
inductive EvC (c : Cx) (A : Around) (elt target : Expr) (ifs : List Expr) (scope : Scope) (cl : List (Str × Addr)) (env : Env) (Q : Value → Shared → Prop) (itv : Value) (s₂ : Shared) : Prop
  | mk (it : Addr) (T : List (Value × D)) (mu : List (Addr × MD)) (tl : Nat → List (Addr × MD)) (to : Nat → Value → List (Addr × MD)) (ds : List D) (sel : Nat → Option D) (e : itv = .ref it) (W : (∀ c' : Cx, c'.w = c.w → Its c' A T it tl to ds)) (hn : ds.length ≤ 100000) (H : St c T (mu ++ tl 0) s₂)
    (turn : ∀ (c' : Cx) C Dd i d v s E acc, c'.w = c.w → ds[i]? = some d → St c' ((v, d) :: T) ((C, .ns []) :: (Dd, .lst acc) :: (mu ++ to i v)) s →
        wpAny (Mo c') A (letOwnedTupleGo target (.ref it) v) (fun _ s₁ => wpAny (Mo c') A (assign target (compEnvC scope cl C env) v) (fun _ s₂ => wpAny (Mo c') A (testsOf ifs (compEnvC scope cl C env))
          (fun ok s₃ => if ok = true then wpAny (Mo c') A (eval elt (compEnvC scope cl C env)) (fun y s₄ => ∃ T' dy σ', sel i = some dy ∧ (y, dy) ∈ T' ∧ St c' T' ((C, .ns σ') :: (Dd, .lst acc) :: (mu ++ tl (i + 1))) s₄) E s₃
            else ∃ T' σ', sel i = none ∧ St c' T' ((C, .ns σ') :: (Dd, .lst acc) :: (mu ++ tl (i + 1))) s₃) E s₂) E s₁) E s)
    (k : ∀ v s', St c ((v, .lst ((List.range ds.length).filterMap sel)) :: T) mu s' → Q v s')
/-- a comprehension, its value -/
theorem ev_comp {elt target iter : Expr} {ifs : List Expr} {scope : Scope} {pos : Pos} {cl : List (Str × Addr)} {Q : Value → Shared → Prop} (hclos : closureFor scope env = pure cl)
    (h : wpAny (Mo c) A (eval iter env) (fun x s₁ => wpAny (Mo c) A (pyIter x) (fun itv s₂ => EvC c A elt target ifs scope cl env Q itv s₂) E s₁) E s)
    (hnames : (scope.names.all fun y => y.2 != .local || scope.names.lookup y.1 == some .local) = true := by rfl) (hcell : (scope.names.all fun y => y.2 != .cell) = true := by rfl) (hkind : scope.kind = .function := by rfl)
    (hs : ∀ x, foldedSetIterable iter env x = pure x := by intro _; rfl) : wpAny (Mo c) A (eval (.ListComp elt [⟨target, iter, ifs, 0⟩] scope pos) env) Q E s := by
  rw [eval_ListComp]
  refine wpAny_comprehension_free (use := none) rfl hs hclos hkind (fun x hx hl => ?_) (wpAny_mono h (fun x s₁ h₁ => wpAny_mono h₁ (fun itv s₂ hx => ?_) fun _ _ e => e) fun _ _ e => e)
  · have := List.all_eq_true.mp hnames x hx; rw [hl] at this; simpa using this
  · obtain ⟨it, T, mu, tl, to, ds, sel, e, W, hn, H, turn, k⟩ := hx
    subst e
    refine comp_rest sel W hn H turn (fun C acc s' H' => ?_) hcell hkind
    obtain ⟨g, _, m, hn, _⟩ := H'.at0 (.head _)
    exact ⟨m, hn, fun h' hs' => k _ _ (H'.lost0 hs'.extBut)⟩

/-- the same, a local takes it over -/
inductive StC (c : Cx) (A : Around) (elt target : Expr) (ifs : List Expr) (scope : Scope) (cl : List (Str × Addr)) (env : Env) (x : Str) (P : Shared → Prop) (itv : Value) (s₂ : Shared) : Prop
  | mk (it : Addr) (T : List (Value × D)) (σ σ' : List (Str × D)) (mu : List (Addr × MD)) (tl : Nat → List (Addr × MD)) (to : Nat → Value → List (Addr × MD)) (ds : List D) (sel : Nat → Option D) (e : itv = .ref it) (W : (∀ c' : Cx, c'.w = c.w → Its c' A T it tl to ds)) (hn : ds.length ≤ 100000) (H : St c T ((env.locals, .ns σ) :: (mu ++ tl 0)) s₂)
    (turn : ∀ (c' : Cx) C Dd i d v s E acc, c'.w = c.w → ds[i]? = some d → St c' ((v, d) :: T) ((C, .ns []) :: (Dd, .lst acc) :: (env.locals, .ns σ) :: (mu ++ to i v)) s →
        wpAny (Mo c') A (letOwnedTupleGo target (.ref it) v) (fun _ s₁ => wpAny (Mo c') A (assign target (compEnvC scope cl C env) v) (fun _ s₂ => wpAny (Mo c') A (testsOf ifs (compEnvC scope cl C env))
          (fun ok s₃ => if ok = true then wpAny (Mo c') A (eval elt (compEnvC scope cl C env)) (fun y s₄ => ∃ T' dy σ', sel i = some dy ∧ (y, dy) ∈ T' ∧ St c' T' ((C, .ns σ') :: (Dd, .lst acc) :: (env.locals, .ns σ) :: (mu ++ tl (i + 1))) s₄) E s₃
            else ∃ T' σ', sel i = none ∧ St c' T' ((C, .ns σ') :: (Dd, .lst acc) :: (env.locals, .ns σ) :: (mu ++ tl (i + 1))) s₃) E s₂) E s₁) E s)
    (hu : Upto x (.lst ((List.range ds.length).filterMap sel)) σ σ') (k : ∀ s', St c [] ((env.locals, .ns σ') :: mu) s' → P s')
/-- a comprehension that a local takes over -/
theorem st_comp {elt target iter : Expr} {ifs : List Expr} {scope : Scope} {pos spos py : Pos} {x : Str} {cl : List (Str × Addr)} {P : Shared → Prop} (hclos : closureFor scope env = pure cl)
    (h : wpAny (Mo c) A (eval iter env) (fun x' s₁ => wpAny (Mo c) A (pyIter x') (fun itv s₂ => StC c A elt target ifs scope cl env x P itv s₂) E s₁) E s)
    (hsw : swapsWith (.ListComp elt [⟨target, iter, ifs, 0⟩] scope pos) (some (.Name x py)) spos.line env = pure true := by rfl)
    (hl : env.kindOf x = some .local := by rfl) (hp : (env.scope.kind == .class || (env.scope.kind == .module && env.locals != env.globals)) = false := by rfl)
    (hnames : (scope.names.all fun y => y.2 != .local || scope.names.lookup y.1 == some .local) = true := by rfl) (hcell : (scope.names.all fun y => y.2 != .cell) = true := by rfl) (hkind : scope.kind = .function := by rfl)
    (hs : ∀ x, foldedSetIterable iter env x = pure x := by intro _; rfl) :
    wpAny (Mo c) A (exec (.Assign [.Name x py] (.ListComp elt [⟨target, iter, ifs, 0⟩] scope pos) spos) env) (fun f s' => f = .next ∧ P s') E s := by
  rw [exec_Assign_Name_used _ _ _ _ hsw]
  refine wpAny_bind (wpAny_standAt (wpAny_bind ?_))
  show wpAny _ A (do let _ ← comprehension (.ListComp elt [⟨target, iter, ifs, 0⟩] scope pos) scope env _ (newList []) false (eval iter env) (some (assign (.Name x py) env))) _ _ s
  refine wpAny_bind ?_
  refine wpAny_comprehension_free (use := some (assign (.Name x py) env)) rfl hs hclos hkind (fun x hx hl => ?_) (wpAny_mono h (fun x' s₁ h₁ => wpAny_mono h₁ (fun itv s₂ hx => ?_) fun _ _ e => e) fun _ _ e => e)
  · have := List.all_eq_true.mp hnames x hx; rw [hl] at this; simpa using this
  · obtain ⟨it, T, σ, σ', mu, tl, to, ds, sel, e, W, hn, H, turn, hu, k⟩ := hx
    subst e
    refine comp_rest (mu := (env.locals, .ns σ) :: mu) sel W hn H turn (fun C acc s' H' => ?_) hcell hkind
    refine wpAny_assign_Name (sto H'.swap (.head _) hu (fun s'' H'' => ?_) rfl hl hp)
    have H3 := H''.swap
    obtain ⟨g, _, m, hn, _⟩ := H3.at0 (.head _)
    exact ⟨m, hn, fun h' hs' => wpAny_pure (wpAny_pure ⟨rfl, k _ (H3.lost0 hs'.extBut).drop⟩)⟩
end
/-! ZK2 -/
section
variable {c : Cx} {A : Around} {E : Value → Shared → Prop} {s : Shared} {env : Env} {T : List (Value × D)} {mu : List (Addr × MD)} {L : Addr} {σ : List (Str × D)} {d : D}

theorem compTurn_two0 (elt t0 i0 t1 i1 : Expr) (ifs : List Expr) (scope : Scope) (pos : Pos) (it acc : Value) (env : Env) :
    compTurn (.ListComp elt [⟨t0, i0, [], 0⟩, ⟨t1, i1, ifs, 0⟩] scope pos) 0 it acc env = (do
      standAt i0.pos
      match ← pyNext it with
      | none => pure (.done .next)
      | some v =>
        letOwnedTupleGo t0 it v
        assign t0 env v
        let x ← eval i1 env
        standAt i1.pos
        let x ← foldedSetIterable i1 env x
        let _ ← runOwn (.compStart (.ListComp elt [⟨t0, i0, [], 0⟩, ⟨t1, i1, ifs, 0⟩] scope pos) 1 (← holding [x] (pyIter x)) acc env) env
        again (.compLoop (.ListComp elt [⟨t0, i0, [], 0⟩, ⟨t1, i1, ifs, 0⟩] scope pos) 0 it acc env)) := by rfl
theorem compTurn_two1 (elt t0 i0 t1 i1 : Expr) (ifs : List Expr) (scope : Scope) (pos : Pos) (it acc : Value) (env : Env) :
    compTurn (.ListComp elt [⟨t0, i0, [], 0⟩, ⟨t1, i1, ifs, 0⟩] scope pos) 1 it acc env = (do
      standAt i1.pos
      match ← pyNext it with
      | none => pure (.done .next)
      | some v =>
        letOwnedTupleGo t1 it v
        assign t1 env v
        let mut ok := true
        for c in ifs do
          if ok then ok ← isTrue c env (eval c env)
        if ok then
          (do let _ ← call (.builtin "list.append") [acc, ← eval elt env])
        again (.compLoop (.ListComp elt [⟨t0, i0, [], 0⟩, ⟨t1, i1, ifs, 0⟩] scope pos) 1 it acc env)) := by rfl

theorem compStart_two1 {R : Result → Shared → Prop} {elt t0 i0 t1 i1 : Expr} {ifs : List Expr} {scope : Scope} {pos : Pos} {it acc : Value} {env : Env}
    (h0 : codeAny (Mo c) A (.compLoop (.ListComp elt [⟨t0, i0, [], 0⟩, ⟨t1, i1, ifs, 0⟩] scope pos) 1 it acc env) R s)
    (h : ∀ E, wpAny (Mo c) A (pyIter it) (fun it' s' => codeAny (Mo c) A (.compLoop (.ListComp elt [⟨t0, i0, [], 0⟩, ⟨t1, i1, ifs, 0⟩] scope pos) 1 it' acc env) R s') E s) :
    codeAny (Mo c) A (.compStart (.ListComp elt [⟨t0, i0, [], 0⟩, ⟨t1, i1, ifs, 0⟩] scope pos) 1 it acc env) R s := by
  refine codeAny_of_tree ?_
  show wpAny _ _ ((compStart (.ListComp elt [⟨t0, i0, [], 0⟩, ⟨t1, i1, ifs, 0⟩] scope pos) 1 it acc env).onRaise (fun x => do noteFrame x env; standAt theWindowsPlace)) _ _ s
  refine wpAny_notedAt ?_
  unfold compStart
  show wpAny _ _ (ask >>= _) _ _ s
  refine wpAny_bind (wpAny_askSetting (wpAny_ite ?_))
  split
  · first
      | exact wpAny_bind (wpAny_pure (wpAny_pure (And.intro rfl h0)))
      | exact wpAny_pure (And.intro rfl h0)
  · first
      | exact wpAny_bind (wpAny_rule (wpAny_bind (wpAny_standAt (wpAny_bind (wpAny_mono (h _) (fun it' s' h' => wpAny_pure (And.intro rfl h')) fun _ _ x => x)))))
      | (refine wpAny_bind (wpAny_rule ?_); show wpAny _ _ (standAt i1.pos >>= _) _ _ s; exact wpAny_bind (wpAny_standAt (wpAny_bind (wpAny_mono (h _) (fun it' s' h' => wpAny_pure (And.intro rfl h')) fun _ _ x => x))))

/-- the inner loop -/
theorem comp_inner {elt t0 i0 t1 i1 : Expr} {ifs : List Expr} {scope : Scope} {pos : Pos} {cenv : Env} {C Dd it : Addr} {tl : Nat → List (Addr × MD)} {to : Nat → Value → List (Addr × MD)} {ds acc₀ : List D} {R : Result → Shared → Prop} (σ : List (Str × D)) (sel : Nat → Option D)
    (W : ∀ c' : Cx, c'.w = c.w → Its c' A T it tl to ds) (hn : acc₀.length + ds.length ≤ 100000)
    (H : St c T ((C, .ns σ) :: (Dd, .lst acc₀) :: (mu ++ tl 0)) s)
    (turn : ∀ (c' : Cx) i d v s E acc, c'.w = c.w → ds[i]? = some d → St c' ((v, d) :: T) ((C, .ns σ) :: (Dd, .lst acc) :: (mu ++ to i v)) s →
      wpAny (Mo c') A (letOwnedTupleGo t1 (.ref it) v) (fun _ s₁ => wpAny (Mo c') A (assign t1 cenv v) (fun _ s₂ => wpAny (Mo c') A (testsOf ifs cenv)
        (fun ok s₃ => if ok = true then wpAny (Mo c') A (eval elt cenv) (fun y s₄ => ∃ T' dy, sel i = some dy ∧ (y, dy) ∈ T' ∧ St c' T' ((C, .ns σ) :: (Dd, .lst acc) :: (mu ++ tl (i + 1))) s₄) E s₃
          else ∃ T', sel i = none ∧ St c' T' ((C, .ns σ) :: (Dd, .lst acc) :: (mu ++ tl (i + 1))) s₃) E s₂) E s₁) E s)
    (done : ∀ s, St c T ((C, .ns σ) :: (Dd, .lst (acc₀ ++ (List.range ds.length).filterMap sel)) :: mu) s → R (.ok .next) s) :
    codeAny (Mo c) A (.compLoop (.ListComp elt [⟨t0, i0, [], 0⟩, ⟨t1, i1, ifs, 0⟩] scope pos) 1 (.ref it) (.ref Dd) cenv) R s := by
  obtain ⟨c', hw, H', up, more⟩ := H.fix
  rw [show Mo c = Mo c' from congrArg (model pw) hw.symm]
  refine codeAny_loop rfl (fun n s => ∃ i, n = ds.length + 1 - i ∧ i ≤ ds.length ∧ St c' T ((C, .ns σ) :: (Dd, .lst (acc₀ ++ (List.range i).filterMap sel)) :: (mu ++ tl i)) s) ?_ (ds.length + 1) ⟨0, rfl, Nat.zero_le _, by simpa using H'⟩
  rintro n s ⟨i, rfl, hi, H⟩
  show wpAny _ A ((compTurn (.ListComp elt [⟨t0, i0, [], 0⟩, ⟨t1, i1, ifs, 0⟩] scope pos) 1 (.ref it) (.ref Dd) cenv).onRaise (fun x => do noteFrame x cenv; theTreesLotGoes x)) _ _ s
  refine wpAny_noted ?_
  rw [compTurn_two1]
  refine wpAny_bind (wpAny_standAt (wpAny_bind ?_))
  have hacc : ∀ i, ((List.range i).filterMap sel).length ≤ i := fun i => by have := List.length_filterMap_le sel (List.range i); simpa using this
  have snoc : ∀ i, (List.range (i + 1)).filterMap sel = (List.range i).filterMap sel ++ (sel i).toList := fun i => by rw [List.range_succ, List.filterMap_append]; cases hsel : sel i <;> simp [hsel]
  by_cases hlt : i < ds.length
  · refine (W c' hw).item (mu := (C, .ns σ) :: (Dd, .lst (acc₀ ++ (List.range i).filterMap sel)) :: mu) i H (List.getElem?_eq_getElem hlt) fun v s' H' => ?_
    refine wpAny_bind (wpAny_mono (turn c' i _ v s' _ _ hw (List.getElem?_eq_getElem hlt) H') (fun _ s₁ h₁ => wpAny_bind (wpAny_mono h₁ (fun _ s₂ h₂ => wpAny_bind (wpAny_mono h₂ (fun ok s₃ h₃ => ?_) fun _ _ e => e)) fun _ _ e => e)) fun _ _ e => e)
    cases ok with
    | true =>
      simp only [if_true] at h₃ ⊢
      refine wpAny_bind (wpAny_bind (wpAny_mono h₃ (fun y s₄ ⟨T', dy, hsel, hy, H4⟩ => ?_) fun _ _ e => e))
      refine wpAny_bind (op_append (i := 1) H4 rfl hy (by have := hacc i; rw [List.length_append]; omega) fun s₅ H5 => ?_)
      refine wpAny_pure (wpAny_pure (And.intro rfl ⟨ds.length + 1 - (i + 1), by omega, i + 1, rfl, hlt, ?_⟩))
      rw [snoc i, hsel, ← List.append_assoc]
      have H6 : St c' T' ((C, .ns σ) :: (Dd, .lst ((acc₀ ++ (List.range i).filterMap sel) ++ [dy])) :: (mu ++ tl (i + 1))) s₅ := H5
      exact (more _ _ _ H6).sub fun p hp => List.mem_append_right _ hp
    | false =>
      simp only [Bool.false_eq_true, if_false] at h₃ ⊢
      obtain ⟨T', hsel, H4⟩ := h₃
      refine wpAny_bind (wpAny_pure (wpAny_pure (And.intro rfl ⟨ds.length + 1 - (i + 1), by omega, i + 1, rfl, hlt, ?_⟩)))
      rw [snoc i, hsel]
      simp only [Option.toList_none, List.append_nil]
      exact (more _ _ _ H4).sub fun p hp => List.mem_append_right _ hp
  · have e : i = ds.length := by omega
    subst e
    refine (W c' hw).done (mu := (C, .ns σ) :: (Dd, .lst (acc₀ ++ (List.range ds.length).filterMap sel)) :: mu) H fun s' H' => ?_
    exact wpAny_pure (done s' (up _ _ _ H'))

/-- what the inner clause asks of its iterator -/
inductive EvI (c c' : Cx) (A : Around) (elt t1 : Expr) (ifs : List Expr) (cenv : Env) (C Dd : Addr) (mu₀ : List (Addr × MD)) (blk : List D) (acc : List D) (itv : Value) (s₄ : Shared) : Prop
  | mk (it1 : Addr) (T1 : List (Value × D)) (σ : List (Str × D)) (tl1 : Nat → List (Addr × MD)) (to1 : Nat → Value → List (Addr × MD)) (ds1 : List D) (sel : Nat → Option D) (e : itv = .ref it1) (W : ∀ c'' : Cx, c''.w = c.w → Its c'' A T1 it1 tl1 to1 ds1) (hn : ds1.length ≤ 100)
    (H : St c' T1 ((C, .ns σ) :: (Dd, .lst acc) :: (mu₀ ++ tl1 0)) s₄) (hb : blk = (List.range ds1.length).filterMap sel)
    (turn : ∀ (c'' : Cx) j d v s E acc, c''.w = c.w → ds1[j]? = some d → St c'' ((v, d) :: T1) ((C, .ns σ) :: (Dd, .lst acc) :: (mu₀ ++ to1 j v)) s →
      wpAny (Mo c'') A (letOwnedTupleGo t1 (.ref it1) v) (fun _ s₁ => wpAny (Mo c'') A (assign t1 cenv v) (fun _ s₂ => wpAny (Mo c'') A (testsOf ifs cenv)
        (fun ok s₃ => if ok = true then wpAny (Mo c'') A (eval elt cenv) (fun y s₄ => ∃ T' dy, sel j = some dy ∧ (y, dy) ∈ T' ∧ St c'' T' ((C, .ns σ) :: (Dd, .lst acc) :: (mu₀ ++ tl1 (j + 1))) s₄) E s₃
          else ∃ T', sel j = none ∧ St c'' T' ((C, .ns σ) :: (Dd, .lst acc) :: (mu₀ ++ tl1 (j + 1))) s₃) E s₂) E s₁) E s)
/-- the outer loop -/
theorem comp_outer {elt t0 i0 t1 i1 : Expr} {ifs : List Expr} {scope : Scope} {pos : Pos} {cenv : Env} {C Dd it : Addr} {tl : Nat → List (Addr × MD)} {to : Nat → Value → List (Addr × MD)} {ds : List D} {R : Result → Shared → Prop} (blk : Nat → List D)
    (W : ∀ c' : Cx, c'.w = c.w → Its c' A T it tl to ds) (hb : ∀ i, i < ds.length → (blk i).length ≤ 100) (hn : ds.length ≤ 500)
    (H : St c T ((C, .ns []) :: (Dd, .lst []) :: (mu ++ tl 0)) s)
    (turn : ∀ (c' : Cx) i d v s E acc, c'.w = c.w → ds[i]? = some d → St c' ((v, d) :: T) ((C, .ns []) :: (Dd, .lst acc) :: (mu ++ to i v)) s →
      wpAny (Mo c') A (letOwnedTupleGo t0 (.ref it) v) (fun _ s₁ => wpAny (Mo c') A (assign t0 cenv v) (fun _ s₂ => wpAny (Mo c') A (eval i1 cenv) (fun x s₃ => wpAny (Mo c') A (pyIter x) (fun itv s₄ =>
        EvI c c' A elt t1 ifs cenv C Dd (mu ++ tl (i + 1)) (blk i) acc itv s₄) E s₃) E s₂) E s₁) E s)
    (done : ∀ s, St c T ((C, .ns []) :: (Dd, .lst ((List.range ds.length).flatMap blk)) :: mu) s → R (.ok .next) s) (hs : ∀ x, foldedSetIterable i1 cenv x = pure x) :
    codeAny (Mo c) A (.compLoop (.ListComp elt [⟨t0, i0, [], 0⟩, ⟨t1, i1, ifs, 0⟩] scope pos) 0 (.ref it) (.ref Dd) cenv) R s := by
  obtain ⟨c', hw, H', up, more⟩ := H.fix
  rw [show Mo c = Mo c' from congrArg (model pw) hw.symm]
  refine codeAny_loop rfl (fun n s => ∃ i, n = ds.length + 1 - i ∧ i ≤ ds.length ∧ St c' T ((C, .ns []) :: (Dd, .lst ((List.range i).flatMap blk)) :: (mu ++ tl i)) s) ?_ (ds.length + 1) ⟨0, rfl, Nat.zero_le _, H'⟩
  rintro n s ⟨i, rfl, hi, H⟩
  show wpAny _ A ((compTurn (.ListComp elt [⟨t0, i0, [], 0⟩, ⟨t1, i1, ifs, 0⟩] scope pos) 0 (.ref it) (.ref Dd) cenv).onRaise (fun x => do noteFrame x cenv; theTreesLotGoes x)) _ _ s
  refine wpAny_noted ?_
  rw [compTurn_two0]
  refine wpAny_bind (wpAny_standAt (wpAny_bind ?_))
  have hacc : ∀ i, i ≤ ds.length → ((List.range i).flatMap blk).length ≤ 100 * i := by
    intro i
    induction i with
    | zero => simp
    | succ i ih =>
      intro hi
      have := ih (by omega)
      have h2 := hb i (by omega)
      rw [List.range_succ, List.flatMap_append, List.length_append]
      simp only [List.flatMap_cons, List.flatMap_nil, List.append_nil]
      omega
  have snoc : ∀ i, (List.range (i + 1)).flatMap blk = (List.range i).flatMap blk ++ blk i := fun i => by rw [List.range_succ, List.flatMap_append]; simp
  by_cases hlt : i < ds.length
  · refine (W c' hw).item (mu := (C, .ns []) :: (Dd, .lst ((List.range i).flatMap blk)) :: mu) i H (List.getElem?_eq_getElem hlt) fun v s' H' => ?_
    refine wpAny_bind (wpAny_mono (turn c' i _ v s' _ _ hw (List.getElem?_eq_getElem hlt) H') (fun _ s₁ h₁ => wpAny_bind (wpAny_mono h₁ (fun _ s₂ h₂ => wpAny_bind (wpAny_mono h₂ (fun x s₃ h₃ => wpAny_bind (wpAny_standAt (wpAny_bind (wpAny_of_eq (hs x) (wpAny_bind (wpAny_holding (wpAny_mono h₃ (fun itv s₄ h₄ => ?_) fun _ _ e => e))))))) fun _ _ e => e)) fun _ _ e => e)) fun _ _ e => e)
    obtain ⟨it1, T1, σ, tl1, to1, ds1, sel, rfl, W1, hn1, H4, eb, turn1⟩ := h₄
    have loop : ∀ (R' : Result → Shared → Prop), (∀ s₆, St c' T ((C, .ns []) :: (Dd, .lst ((List.range (i + 1)).flatMap blk)) :: (mu ++ tl (i + 1))) s₆ → R' (.ok .next) s₆) →
        codeAny (Mo c') A (.compLoop (.ListComp elt [⟨t0, i0, [], 0⟩, ⟨t1, i1, ifs, 0⟩] scope pos) 1 (.ref it1) (.ref Dd) cenv) R' s₄ := fun R' hR' =>
      comp_inner σ sel (fun c'' h => W1 c'' (h.trans hw)) (by have := hacc i hi; omega) H4 (fun c'' j d v s E acc hw'' => turn1 c'' j d v s E acc (hw''.trans hw)) fun s₆ H6 => by
        rw [← eb, ← snoc] at H6
        exact hR' _ ((more _ _ _ (H6.nsSub (σ' := []) (by simp))).sub fun p hp => List.mem_append_right _ hp)
    refine wpAny_bind (wpAny_runOwn (compStart_two1 (c := c') (A := A) (loop _ fun s₆ H6 => ?_) fun E' => (W1 c' hw).self (mu := (C, .ns σ) :: (Dd, .lst ((List.range i).flatMap blk)) :: (mu ++ tl (i + 1))) H4 (loop _ fun s₆ H6 => ?_)))
    · exact wpAny_pure (And.intro rfl ⟨ds.length + 1 - (i + 1), by omega, i + 1, rfl, hlt, H6⟩)
    · exact wpAny_pure (And.intro rfl ⟨ds.length + 1 - (i + 1), by omega, i + 1, rfl, hlt, H6⟩)
  · have e : i = ds.length := by omega
    subst e
    refine (W c' hw).done (mu := (C, .ns []) :: (Dd, .lst ((List.range ds.length).flatMap blk)) :: mu) H fun s' H' => ?_
    exact wpAny_pure (done s' (up _ _ _ H'))

theorem comp_rest2 {elt t0 i0 t1 i1 : Expr} {ifs : List Expr} {scope : Scope} {pos : Pos} {cl : List (Str × Addr)} {it : Addr} {tl : Nat → List (Addr × MD)} {to : Nat → Value → List (Addr × MD)} {ds : List D} {use : Option (Value → Sem Unit)} {Q : Value → Shared → Prop} (blk : Nat → List D)
    (W : ∀ c' : Cx, c'.w = c.w → Its c' A T it tl to ds) (hb : ∀ i, i < ds.length → (blk i).length ≤ 100) (hn : ds.length ≤ 500) (H : St c T (mu ++ tl 0) s)
    (turn : ∀ (c' : Cx) C Dd i d v s E acc, c'.w = c.w → ds[i]? = some d → St c' ((v, d) :: T) ((C, .ns []) :: (Dd, .lst acc) :: (mu ++ to i v)) s →
      wpAny (Mo c') A (letOwnedTupleGo t0 (.ref it) v) (fun _ s₁ => wpAny (Mo c') A (assign t0 (compEnvC scope cl C env) v) (fun _ s₂ => wpAny (Mo c') A (eval i1 (compEnvC scope cl C env)) (fun x s₃ => wpAny (Mo c') A (pyIter x) (fun itv s₄ =>
        EvI c c' A elt t1 ifs (compEnvC scope cl C env) C Dd (mu ++ tl (i + 1)) (blk i) acc itv s₄) E s₃) E s₂) E s₁) E s)
    (k : ∀ C acc s', St c ((.ref acc, .lst ((List.range ds.length).flatMap blk)) :: T) ((C, .ns []) :: mu) s' → compPost (Mo c) A E use Q (.ref acc) C (.ok .next) s')
    (hcell : (scope.names.all fun y => y.2 != .cell) = true) (hkind : scope.kind = .function) (hs : ∀ C x, foldedSetIterable i1 (compEnvC scope cl C env) x = pure x) :
    wpAny (Mo c) A (newList []) (fun acc s₃ => wpAny (Mo c) A (newFunctionEnv scope env.globals cl [] env.qual none .none (some env)) (fun cenv s₄ =>
      codeAny (Mo c) A (.compStart (.ListComp elt [⟨t0, i0, [], 0⟩, ⟨t1, i1, ifs, 0⟩] scope pos) 0 (.ref it) acc { cenv with scope := relabel scope env }) (compPost (Mo c) A E use Q acc cenv.locals) s₄) E s₃) E s := by
  refine op_newListM (ds := []) H (fun p hp => nomatch hp) rfl (Nat.zero_le _) fun Dd s₁ H1 => ?_
  refine wpAny_newFunctionEnv (fun x hx => by simpa using List.all_eq_true.mp hcell x hx) (by intro x hx; simp at hx) (fun h₁ hns₁ hsb₁ => ?_) hkind
  have H2 : St c T ((s₁.heap.objs.size, .ns []) :: (Dd, .lst []) :: (mu ++ tl 0)) { s₁ with heap := h₁, toks := s₁.toks + ([] : List (Str × Value)).length } := by
    refine H1.push (o := default) _ (get?_size_none _) (fun b o e => hsb₁.extBut b o (Nat.ne_of_lt (Heap.lt_size e)) (Heap.get?_push_of_some _ e)) fun g ht => ⟨_, hns₁, fun p hp => nomatch hp⟩
  have loop : ∀ s₃, s₃ = { s₁ with heap := h₁, toks := s₁.toks + ([] : List (Str × Value)).length } → codeAny (Mo c) A (.compLoop (.ListComp elt [⟨t0, i0, [], 0⟩, ⟨t1, i1, ifs, 0⟩] scope pos) 0 (.ref it) (.ref Dd) (compEnvC scope cl s₁.heap.objs.size env)) (compPost (Mo c) A E use Q (.ref Dd) s₁.heap.objs.size) s₃ := by
    rintro s₃ rfl
    exact comp_outer blk W hb hn H2 (fun c' i d v s E acc hw hd H => turn c' _ Dd i d v s E acc hw hd H) (fun s' H' => k _ _ _ (H'.swap.frzL)) (hs _)
  exact codeAny_compStart_list (loop _ rfl) ((W c rfl).self (mu := (s₁.heap.objs.size, .ns []) :: (Dd, .lst []) :: mu) H2 (loop _ rfl))

/-- what a comprehension of two clauses asks -/
inductive EvC2 (c : Cx) (A : Around) (elt t0 t1 i1 : Expr) (ifs : List Expr) (scope : Scope) (cl : List (Str × Addr)) (env : Env) (Q : Value → Shared → Prop) (itv : Value) (s₂ : Shared) : Prop
  | mk (it : Addr) (T : List (Value × D)) (mu : List (Addr × MD)) (tl : Nat → List (Addr × MD)) (to : Nat → Value → List (Addr × MD)) (ds : List D) (blk : Nat → List D) (e : itv = .ref it) (W : (∀ c' : Cx, c'.w = c.w → Its c' A T it tl to ds)) (hb : (∀ i, i < ds.length → (blk i).length ≤ 100)) (hn : ds.length ≤ 500) (H : St c T (mu ++ tl 0) s₂)
    (turn : ∀ (c' : Cx) C Dd i d v s E acc, c'.w = c.w → ds[i]? = some d → St c' ((v, d) :: T) ((C, .ns []) :: (Dd, .lst acc) :: (mu ++ to i v)) s →
      wpAny (Mo c') A (letOwnedTupleGo t0 (.ref it) v) (fun _ s₁ => wpAny (Mo c') A (assign t0 (compEnvC scope cl C env) v) (fun _ s₂ => wpAny (Mo c') A (eval i1 (compEnvC scope cl C env)) (fun x s₃ => wpAny (Mo c') A (pyIter x) (fun itv s₄ =>
        EvI c c' A elt t1 ifs (compEnvC scope cl C env) C Dd (mu ++ tl (i + 1)) (blk i) acc itv s₄) E s₃) E s₂) E s₁) E s)
    (k : ∀ v s', St c ((v, .lst ((List.range ds.length).flatMap blk)) :: T) mu s' → Q v s')
/-- a comprehension of two clauses, its value -/
theorem ev_comp2 {elt t0 i0 t1 i1 : Expr} {ifs : List Expr} {scope : Scope} {pos : Pos} {cl : List (Str × Addr)} {Q : Value → Shared → Prop} (hclos : closureFor scope env = pure cl)
    (h : wpAny (Mo c) A (eval i0 env) (fun x s₁ => wpAny (Mo c) A (pyIter x) (fun itv s₂ => EvC2 c A elt t0 t1 i1 ifs scope cl env Q itv s₂) E s₁) E s)
    (hnames : (scope.names.all fun y => y.2 != .local || scope.names.lookup y.1 == some .local) = true := by rfl) (hcell : (scope.names.all fun y => y.2 != .cell) = true := by rfl) (hkind : scope.kind = .function := by rfl)
    (hs : ∀ x, foldedSetIterable i0 env x = pure x := by intro _; rfl) (hs1 : ∀ C x, foldedSetIterable i1 (compEnvC scope cl C env) x = pure x := by intro _ _; rfl) : wpAny (Mo c) A (eval (.ListComp elt [⟨t0, i0, [], 0⟩, ⟨t1, i1, ifs, 0⟩] scope pos) env) Q E s := by
  rw [eval_ListComp]
  refine wpAny_comprehension_free (use := none) rfl hs hclos hkind (fun x hx hl => ?_) (wpAny_mono h (fun x s₁ h₁ => wpAny_mono h₁ (fun itv s₂ hx => ?_) fun _ _ e => e) fun _ _ e => e)
  · have := List.all_eq_true.mp hnames x hx; rw [hl] at this; simpa using this
  · obtain ⟨it, T, mu, tl, to, ds, blk, e, W, hb, hn, H, turn, k⟩ := hx
    subst e
    refine comp_rest2 blk W hb hn H turn (fun C acc s' H' => ?_) hcell hkind hs1
    obtain ⟨g, _, m, hn, _⟩ := H'.at0 (.head _)
    exact ⟨m, hn, fun h' hs' => k _ _ (H'.lost0 hs'.extBut)⟩
end
/-! ZM -/
section
variable {c : Cx} {A : Around} {E : Value → Shared → Prop} {s : Shared} {env : Env} {T : List (Value × D)} {mu : List (Addr × MD)} {L : Addr} {σ : List (Str × D)} {d : D} {x y z : Value} {a b : Int} {Q : Value → Shared → Prop}

/-- a new object that never changes -/
theorem St.newObj {o : Obj} {k : Nat} (H : St c T mu s) (hf : o.isFreed = false := by rfl) : St c ((.ref s.heap.objs.size, .obj o) :: T) mu { s with heap := s.heap.push o, toks := k } := by
  have H1 := H.push (o := o) (k := k) (.obj o) (a := s.heap.objs.size) (h' := s.heap.push o) (get?_size_none _) (fun b o e => Heap.get?_push_of_some _ e) fun g ht => Heap.get?_push_size _ hf
  refine H1.freeze fun g o' ht ho ho' hg => ?_
  rw [show (s.heap.push o).get? s.heap.objs.size = some o from Heap.get?_push_size _ hf] at ho'; cases ho'
  exact .obj hg
theorem St.newObjM {o : Obj} {k : Nat} (H : St c T mu s) (hf : o.isFreed = false := by rfl) : St c T ((s.heap.objs.size, .obj o) :: mu) { s with heap := s.heap.push o, toks := k } :=
  H.push (o := o) (k := k) (.obj o) (a := s.heap.objs.size) (h' := s.heap.push o) (get?_size_none _) (fun b o e => Heap.get?_push_of_some _ e) fun g ht => Heap.get?_push_size _ hf
theorem St.isObj {v : Value} {o : Obj} (H : St c T mu s) (h : (v, .obj o) ∈ T) : ∃ r, v = .ref r ∧ s.heap.get? r = some o := by
  obtain ⟨_, _, g, _, C⟩ := H
  cases C.tm _ h with
  | obj ho => exact ⟨_, rfl, C.kg _ _ ho⟩

/-- an object that is a tuple -/
theorem St.tupOf {a : Addr} {o : Obj} {vs : List Value} {ds : List D} {n : Nat} (H : St c T mu s) (ho : (Value.ref a, D.obj o) ∈ T) (hc : o.cls = .type "tuple") (hd : o.data = .seq vs.toArray n) (hl : vs.length = ds.length) (h : ∀ p ∈ vs.zip ds, p ∈ T) : St c ((.ref a, .tup ds) :: T) mu s := by
  obtain ⟨ge, os, g, l, C⟩ := H
  refine ⟨ge, os, g, l, { C with tm := fun p hp => ?_ }⟩
  rcases List.mem_cons.mp hp with rfl | hp
  · cases C.tm _ ho with
    | obj hg => exact .tup hg hc hd hl fun i v d hv hd => C.tm (v, d) (h (v, d) (List.mem_iff_getElem?.mpr ⟨i, by rw [List.getElem?_zip_eq_some]; exact ⟨hv, hd⟩⟩))
  · exact C.tm p hp

noncomputable abbrev rngObj (a b c : Int) (t u v : Tok) : Obj := { cls := .type "range", dict := none, data := .fields #[.int a t, .int b u, .int c v], slots := #[] }
theorem op_range1 (H : St c T mu s) (hx : (x, .int a) ∈ T) (k : ∀ r t u v s', St c ((r, .obj (rngObj 0 a 1 t u v)) :: T) mu s' → Q r s') : wpAny (Mo c) A (call (.type "range") [x]) Q E s := by
  obtain ⟨t, rfl⟩ := H.isInt hx
  exact call_range_1 (k _ _ _ _ _ (H.newObj (k := s.toks + 1 + 1)))
theorem op_range3 {st : Int} (H : St c T mu s) (hx : (x, .int a) ∈ T) (hy : (y, .int b) ∈ T) (hz : (z, .int st) ∈ T) (h0 : st ≠ 0) (hs : st.natAbs < 1073741824) (k : ∀ r t u v s', St c ((r, .obj (rngObj a b st t u v)) :: T) mu s' → Q r s') : wpAny (Mo c) A (call (.type "range") [x, y, z]) Q E s := by
  obtain ⟨t, rfl⟩ := H.isInt hx; obtain ⟨u, rfl⟩ := H.isInt hy; obtain ⟨v, rfl⟩ := H.isInt hz
  exact call_range_3 h0 (k _ _ _ _ _ (H.newObj (k := s.toks))) (.inl (PyProof.noPylong_small hs))
theorem it_range {b st : Int} {t u v : Tok} {n : Nat} (H : St c T mu s) (hx : (x, .obj (rngObj a b st t u v)) ∈ T) (hn : Builtin.Range.rangeSize a b st = n) (hs : Builtin.Range.small a b st = true)
    (k : ∀ it s', St c T (mu ++ tlR it a st n 0) s' → Q (.ref it) s') : wpAny (Mo c) A (pyIter x) Q E s := by
  obtain ⟨r, rfl, ho⟩ := H.isObj hx
  refine wpAny_pyIter_range ho hs (k _ _ ?_)
  rw [hn]
  have := (H.newObjM (k := s.toks) (o := { cls := .type "range_iterator", data := .fields #[rawInt a, rawInt n, rawInt st] })).toT
  have e1 : a + ((0 : Nat) : Int) * st = a := by simp
  have e2 : (n : Int) - ((0 : Nat) : Int) = n := by simp
  show St c T (mu ++ [(_, itR (a + ((0 : Nat) : Int) * st) ((n : Int) - ((0 : Nat) : Int)) st)]) _
  rw [e1, e2]; exact this
theorem size_to (n : Nat) : Builtin.Range.rangeSize 0 n 1 = n := by rw [rangeSize_one]; split <;> omega
theorem small_to {n : Nat} (h : n < 1000000) : Builtin.Range.small 0 n 1 = true := small_one (by omega) (by omega) (by omega) (by omega)

theorem op_max (hh : A.handled = none) (H : St c T mu s) (hx : (x, .int a) ∈ T) (hy : (y, .int b) ∈ T) (k : ∀ v s', St c ((v, .int (max a b)) :: T) mu s' → Q v s') :
    wpAny (Mo c) A (call (.builtin "max") [x, y]) Q E s := by
  obtain ⟨t, rfl⟩ := H.isInt hx; obtain ⟨u, rfl⟩ := H.isInt hy
  refine max_two_ints hh fun h' tk hk => k _ _ ?_
  have := (H.ext (k := tk) hk)
  by_cases hc : b > a
  · rw [if_pos hc, show max a b = b by omega]; exact this.intv _ _
  · rw [if_neg hc, show max a b = a by omega]; exact this.intv _ _

noncomputable def sumL (l : List Int) : Int := l.foldl (· + ·) 0
theorem preSum_take (l : List Int) : ∀ j, j ≤ l.length → preSum (fun i => (l[i]?).getD 0) j = sumL (l.take j)
  | 0, _ => by simp [preSum, sumL]
  | j + 1, h => by
    have e : l[j]? = some l[j] := List.getElem?_eq_getElem (by omega)
    rw [preSum, preSum_take l j (by omega), List.take_add_one]
    simp only [e, sumL, Option.getD_some, Option.toList_some, List.foldl_append, List.foldl_cons, List.foldl_nil]
/-- sum(l) -/
theorem op_sum {l : List Int} (hh : A.handled = none) (H : St c T mu s) (hx : LstV T mu x (l.map .int)) (hs : ∀ i ∈ l, 0 ≤ i ∧ i ≤ 1000000) (hn : l.length ≤ 1000)
    (k : ∀ v s', St c ((v, .int (sumL l)) :: T) mu s' → Q v s') : wpAny (Mo c) A (call (.builtin "sum") [x]) Q E s := by
  obtain ⟨r, vs, rfl, hl, e, hi⟩ := H.list hx
  have hb : ∀ j, j ≤ l.length → 0 ≤ sumL (l.take j) ∧ sumL (l.take j) ≤ 1000000 * j := by
    intro j
    induction j with
    | zero => simp [sumL]
    | succ j ih =>
      intro hj
      have hlt : j < l.length := by omega
      have := ih (by omega)
      rw [List.take_add_one, List.getElem?_eq_getElem hlt]
      have hm := hs _ (List.getElem_mem hlt)
      simp only [sumL, Option.toList_some, List.foldl_append, List.foldl_cons, List.foldl_nil] at this ⊢
      push_cast
      omega
  have hlt : r < s.heap.objs.size := by obtain ⟨_, e, _⟩ := hl; exact Heap.lt_size e
  refine call_sum_walk (wpAny_pyIter_list hl ?_)
  refine ⟨s.heap.objs.size, [s.heap.objs.size, r], [s.heap.objs.size], _, _, _, fun i => (l[i]?).getD 0, rfl, Walks.list (A := A.in1) hh s.heap.objs.size r (Nat.ne_of_lt hlt) vs.toArray, ⟨⟨_, Heap.get?_push_size _ rfl, rfl, rfl⟩, hl.push _⟩, fun b hb => ?_, fun i v hv => ?_, fun j hj => ?_, fun h' tk t' hk => ?_⟩
  · show b < (s.heap.push _).objs.size
    rw [Heap.size_push]
    rcases List.mem_cons.mp hb with rfl | hb
    · exact Nat.lt_succ_self _
    · rcases List.mem_cons.mp hb with rfl | hb
      · exact Nat.lt_succ_of_lt hlt
      · cases hb
  · have hv' : vs[i]? = some v := by simpa using hv
    have hil : i < l.length := by have := (List.getElem?_eq_some_iff.mp hv').1; simpa [e] using this
    obtain ⟨x, hx', H'⟩ := hi i (.int l[i]) (by rw [List.getElem?_map, List.getElem?_eq_getElem hil]; rfl)
    rw [hv'] at hx'; cases hx'
    obtain ⟨t, rfl⟩ := H'.isInt (.head _)
    exact ⟨t, by show _ = Value.int ((l[i]?).getD 0) t; rw [List.getElem?_eq_getElem hil]; rfl⟩
  · have hj' : j < l.length := by simpa [e] using hj
    rw [preSum_take l _ (by omega)]
    show InLong ((l[j]?).getD 0) ∧ _
    rw [List.getElem?_eq_getElem hj']
    have h1 := hs _ (List.getElem_mem hj')
    have h2 := hb (j + 1) (by omega)
    unfold InLong
    simp only [Option.getD_some]
    omega
  · have hsz : vs.toArray.size = l.length := by simpa using e
    rw [hsz, preSum_take l _ (Nat.le_refl _), List.take_length]
    exact k _ _ ((H.ext (k := tk) fun b o e => hk b o (fun q => by have := Heap.lt_size e; rw [List.mem_singleton.mp q] at this; exact Nat.lt_irrefl _ this) (Heap.get?_push_of_some _ e)).intv _ _)

/-- v[lo:hi] -/
inductive Part (T : List (Value × D)) : Value → Option Int → Prop
  | none : Part T .none none
  | int {v : Value} {i : Int} : (v, .int i) ∈ T → Part T v (some i)
theorem Part.is {v : Value} {o : Option Int} (H : St c T mu s) (h : Part T v o) : IsPart v o := by
  cases h with
  | none => exact .none
  | int h => obtain ⟨t, rfl⟩ := H.isInt h; exact .int _ _
noncomputable def pick {α : Type} (l : List α) (lo hi : Option Int) : List α := (sliceRange (sliceBounds lo hi none l.length).1 (sliceBounds lo hi none l.length).2.1 (sliceBounds lo hi none l.length).2.2).filterMap (l[·]?)
theorem filterMap_rep {w : World} {g : GH} {vs : List Value} {ds : List D} (h : RepAll w g vs ds) : ∀ l : List Nat, RepAll w g (l.filterMap (vs[·]?)) (l.filterMap (ds[·]?))
  | [] => .nil
  | i :: r => by
    by_cases hi : i < vs.length
    · have h1 := List.getElem?_eq_getElem hi
      have h2 := List.getElem?_eq_getElem (h.1 ▸ hi : i < ds.length)
      rw [List.filterMap_cons_some h1, List.filterMap_cons_some h2]
      exact .cons (h.2 i _ _ h1 h2) (filterMap_rep h r)
    · rw [List.filterMap_cons_none (List.getElem?_eq_none (by omega)), List.filterMap_cons_none (List.getElem?_eq_none (by rw [← h.1]; omega))]
      exact filterMap_rep h r
theorem St.newPick {vs us : List Value} {ds es : List D} {k : Nat} {h : Heap} (H : St c T mu { s with heap := h }) (hr : ∀ g, (∀ p ∈ T, Rep c.w g p.1 p.2) → RepAll c.w g us es) :
    St c ((.ref h.objs.size, .lst es) :: T) mu { s with heap := h.push { cls := .type "list", data := .seq us.toArray }, toks := k } := by
  have H1 := H.push (o := default) (k := k) (.lst es) (a := h.objs.size) (h' := h.push { cls := .type "list", data := .seq us.toArray }) (get?_size_none _) (fun b o e => Heap.get?_push_of_some _ e)
    fun g ht => ⟨us, 0, Heap.get?_push_size _ rfl, hr g ht⟩
  exact H1.frzL
end
/-! ZE -/
section
variable {c : Cx} {A : Around} {E : Value → Shared → Prop} {s : Shared} {env : Env} {T : List (Value × D)} {mu : List (Addr × MD)} {L : Addr} {σ : List (Str × D)} {d : D}

/-- several new objects, as chunks -/
theorem St.pushes {h' : Heap} {k : Nat} (H : St c T mu s) (hs : ∀ b o, s.heap.get? b = some o → h'.get? b = some o) : ∀ (news : List (Addr × MD)), (news.map (·.1)).Nodup → (∀ p ∈ news, s.heap.get? p.1 = none) →
    (∀ p ∈ news, ∀ g, (∀ p ∈ T, Rep c.w g p.1 p.2) → MRep c.w g h' p.1 p.2) → St c T (news ++ mu) { s with heap := h', toks := k }
  | [], _, _, _ => H.ext hs
  | (a, md) :: r, nd, hn, hm => by
    obtain ⟨ge, os, g, l, C⟩ := St.pushes (k := k) H hs r (List.nodup_cons.mp nd).2 (fun p hp => hn p (.tail _ hp)) (fun p hp => hm p (.tail _ hp))
    have hna := hn (a, md) (.head _)
    obtain ⟨ge₀, os₀, g₀, l₀, C₀⟩ := H
    have gn : ∀ b o, c.g₀ b = some o → b ≠ a := fun b o e q => by
      have := C₀.kg b o (l₀ b o e); rw [q, hna] at this; cases this
    -- the ground of the end may be larger: take the one at the start
    have fn : c.fr a = none := by
      cases e : c.fr a with
      | none => rfl
      | some o => rw [C₀.kf _ _ e] at hna; cases hna
    have ga : g₀ a = none := by
      cases e : g₀ a with
      | none => rfl
      | some o => rw [C₀.kg _ _ e] at hna; cases hna
    refine ⟨ge₀, os₀, g₀, l₀, ⟨C₀.gd, fun b o e => hs b o (C₀.kg b o e), fun b o e => hs b o (C₀.kf b o e), C₀.gf, C₀.tm, fun p hp => ?_, fun p hp => ?_, C.nd |> fun nd' => ?_⟩⟩
    · rcases List.mem_append.mp hp with hp | hp
      · exact hm p hp g₀ C₀.tm
      · exact (C₀.mr p hp).at' (GLe.refl g₀) fun o e => hs _ o e
    · rcases List.mem_append.mp hp with hp | hp
      · have hn' := hn p hp
        refine ⟨?_, ?_⟩
        · cases e : g₀ p.1 with
          | none => rfl
          | some o => rw [C₀.kg _ _ e] at hn'; cases hn'
        · cases e : c.fr p.1 with
          | none => rfl
          | some o => rw [C₀.kf _ _ e] at hn'; cases hn'
      · exact C₀.gm p hp
    · rw [List.map_append] at nd' ⊢
      refine List.nodup_append.mpr ⟨nd, C₀.nd, fun x hx y hy e => ?_⟩
      obtain ⟨p, hp, rfl⟩ := List.mem_map.mp hx
      obtain ⟨q, hq, rfl⟩ := List.mem_map.mp hy
      have h1 := hn p hp
      obtain ⟨o, ho⟩ := (C₀.mr q hq).alive
      rw [e, ho] at h1; cases h1

theorem St.forgets {mp : List (Addr × MD)} : ∀ {mx : List (Addr × MD)}, St c T (mx ++ mp) s → St c T mp s
  | [], H => H
  | _ :: _, H => St.forgets (St.forget H)
/-- the cells of a frame -/
inductive CellsTo (cs₀ : List (Str × Addr)) (m : Str → Option Value) (T : List (Value × D)) : List (Str × Addr) → List (Addr × MD) → Prop
  | nil : CellsTo cs₀ m T [] []
  | empty {x : Str} {a : Addr} {cs : List (Str × Addr)} {r : List (Addr × MD)} : cs₀.lookup x = some a → m x = none → CellsTo cs₀ m T cs r → CellsTo cs₀ m T ((x, a) :: cs) ((a, .cell none) :: r)
  | full {x : Str} {a : Addr} {v : Value} {d : D} {cs : List (Str × Addr)} {r : List (Addr × MD)} : cs₀.lookup x = some a → m x = some v → (v, d) ∈ T → CellsTo cs₀ m T cs r → CellsTo cs₀ m T ((x, a) :: cs) ((a, .cell (some d)) :: r)
inductive BindsF (m : Str → Option Value) (T : List (Value × D)) : List (Str × D) → Prop where
  | nil : BindsF m T []
  | cons {x : Str} {d : D} {v : Value} {r : List (Str × D)} : m x = some v → (v, d) ∈ T → BindsF m T r → BindsF m T ((x, d) :: r)
theorem BindsF.all {m : Str → Option Value} {T : List (Value × D)} {σ : List (Str × D)} (h : BindsF m T σ) : ∀ p ∈ σ, ∃ v, m p.1 = some v ∧ (v, p.2) ∈ T := by
  induction h with
  | nil => intro p hp; cases hp
  | cons a b _ ih => intro p hp; rcases List.mem_cons.mp hp with rfl | hp; exact ⟨_, a, b⟩; exact ih p hp
theorem CellsTo.all {cs₀ cs : List (Str × Addr)} {m : Str → Option Value} {T : List (Value × D)} {r : List (Addr × MD)} (h : CellsTo cs₀ m T cs r) :
    r.map (·.1) = cs.map (·.2) ∧ ∀ p ∈ r, ∃ x, cs₀.lookup x = some p.1 ∧ ((p.2 = .cell none ∧ m x = none) ∨ ∃ v d, p.2 = .cell (some d) ∧ m x = some v ∧ (v, d) ∈ T) := by
  induction h with
  | nil => exact ⟨rfl, fun p hp => nomatch hp⟩
  | empty a b _ ih => exact ⟨by simp [ih.1], fun p hp => by rcases List.mem_cons.mp hp with rfl | hp; exact ⟨_, a, .inl ⟨rfl, b⟩⟩; exact ih.2 p hp⟩
  | full a b cc _ ih => exact ⟨by simp [ih.1], fun p hp => by rcases List.mem_cons.mp hp with rfl | hp; exact ⟨_, a, .inr ⟨_, _, rfl, b, cc⟩⟩; exact ih.2 p hp⟩

/-- a def with cells is entered -/
theorem fn_enterC {f : Addr} {oc : Value} {od : Option Addr} {fd : FuncData} {osl : Array (Option Value)} {body : List Stmt} {args : List Value} {binds : List (Str × Value)} {mp mr : List (Addr × MD)} {Q : Value → Shared → Prop}
    (σ : List (Str × D)) (γ : Nat → List (Addr × MD)) (H : St c T (mp ++ mr) s) (hroom : A.depth < recursionLimit) (ho : (KH c.w).lookup f = some ⟨oc, od, .func fd, osl⟩) (hbody : fd.body = .stmts body)
    (hcd : codeIn (KH c.w) fd.code fd.qualname = true) (hbind : bindArgs fd ⟨args, []⟩ = pure binds) (hclo : fd.closure = [])
    (hkind : ∀ L : Nat, (binds.all fun x => decide (fd.scope.names.lookup x.1 = some .local) || (decide (fd.scope.names.lookup x.1 = some .cell) && ((cellsFrom (L + 1) fd.scope.names []).lookup x.1).isSome)) = true)
    (hb : ∀ L, BindsF (bindL (callEnvC fd L f).kindOf binds fun _ => none) T σ) (hγ : ∀ L, CellsTo (cellsFrom (L + 1) fd.scope.names []) (bindC (callEnvC fd L f).kindOf binds fun _ => none) T (cellsFrom (L + 1) fd.scope.names []) (γ L))
    (k : ∀ (c' : Cx) L s', c'.w = c.w → St c' T ((L, .ns σ) :: (γ L ++ mp)) s' → (∀ v d T' mx mp' s'', (v, d) ∈ T' → St c' T' (mx ++ mp') s'' → St c ((v, d) :: T) (mp' ++ mr) s'') →
      wpAny (Mo c') (A.deeper (callEnvC fd L f)) (execs body (callEnvC fd L f)) (fun fl s'' => Q (match fl with | .ret v => v | _ => .none) s'') (fun _ _ => False) s')
    (hco : fd.scope.isCoroutine = false := by rfl) (hgen : fd.scope.isGenerator = false := by rfl) (hk : fd.scope.kind = .function := by rfl) :
    wpAny (Mo c) A (call (.ref f) args) Q E s := by
  have X := H.top.1
  have hl := H.noLimit
  obtain ⟨c', hw, H1, back⟩ := H.aside
  refine wpAny_call (codeAny_call_cells (fd := fd) (body := body) (binds := binds) hroom (X _ _ ho) rfl hl (codeRec_of X hcd) hbody hbind hclo (fun x hx => ?_) (fun s₁ x => ?_) hco hgen hk)
  · have := List.all_eq_true.mp (hkind s.heap.objs.size) x hx
    simpa using this
  · obtain ⟨⟨⟨h₀, tk, rfl⟩, hns, keep, fresh⟩, hcell, hap, habove⟩ := x
    obtain ⟨hg1, hg2⟩ := (hγ s.heap.objs.size).all
    have hnew : ∀ b, s.heap.objs.size ≤ b → s.heap.get? b = none := fun b hb => by
      cases e : s.heap.get? b with
      | none => rfl
      | some o => exact absurd (Heap.lt_size e) (Nat.not_lt.mpr hb)
    have Hs : St c' T (((s.heap.objs.size, .ns σ) :: γ s.heap.objs.size) ++ mp) { s with heap := h₀, toks := tk } := by
      refine H1.pushes keep _ ?_ (fun p hp => ?_) fun p hp g ht => ?_
      · rw [List.map_cons, hg1]
        refine List.nodup_cons.mpr ⟨fun q => ?_, ?_⟩
        · obtain ⟨⟨n, a⟩, hp, e⟩ := List.mem_map.mp q
          have := habove n a hp
          dsimp only at e
          exact absurd this (by rw [e]; exact Nat.lt_irrefl _)
        · show List.Pairwise _ _
          rw [List.pairwise_map]; exact hap
      · rcases List.mem_cons.mp hp with rfl | hp
        · exact hnew _ (Nat.le_refl _)
        · have : p.1 ∈ (γ s.heap.objs.size).map (·.1) := List.mem_map_of_mem hp
          rw [hg1] at this
          obtain ⟨⟨n, a⟩, hq, e⟩ := List.mem_map.mp this
          have h1 : s.heap.objs.size < a := habove n a hq
          dsimp only at e
          rw [← e]; exact hnew _ (Nat.le_of_lt h1)
      · rcases List.mem_cons.mp hp with rfl | hp
        · exact ⟨_, hns, fun p hp => let ⟨v, hv, hm⟩ := (hb _).all p hp; ⟨v, hv, ht _ hm⟩⟩
        · obtain ⟨x, hx, h⟩ := hg2 p hp
          obtain ⟨a, md⟩ := p
          have hc := hcell x a hx
          rcases h with ⟨e, hm⟩ | ⟨v, d, e, hm, hT⟩
          · dsimp only at e; subst e; rw [hm] at hc; exact hc
          · dsimp only at e; subst e; rw [hm] at hc; exact ⟨v, hc, ht _ hT⟩
    have := k c' _ _ hw Hs fun v d T' mx mp' s'' hm h => back [(v, d)] mp' s'' (St.sub (T := T') (T' := [(v, d)]) h.forgets fun q hq => by rw [List.mem_singleton.mp hq]; exact hm)
    rw [show Mo c' = Mo c from congrArg (model pw) hw] at this
    exact wpAny_mono this (fun fl s' h => h) fun _ _ h => h.elim

theorem nm_cellA {x : Str} {pos : Pos} {a : Addr} {Q : Value → Shared → Prop} (H : St c T mu s) (hc : env.cells.lookup x = some a) (hm : (a, .cell (some d)) ∈ mu)
    (k : ∀ v, St c ((v, d) :: T) mu s → Q v s) (hk : env.scope.kind = .function := by rfl)
    (hl : env.kindOf x = some .cell := by rfl) (hd : (x == ("__debug__" : Str)) = false := by decide) : wpAny (Mo c) A (eval (.Name x pos) env) Q E s := nm_cell H hm k hc hk hl hd
theorem nm_freeA {x : Str} {pos : Pos} {a : Addr} {Q : Value → Shared → Prop} (H : St c T mu s) (hc : env.cells.lookup x = some a) (hm : (a, .cell (some d)) ∈ mu)
    (k : ∀ v, St c ((v, d) :: T) mu s → Q v s) (hk : env.scope.kind = .function := by rfl)
    (hl : env.kindOf x = some .free := by rfl) (hd : (x == ("__debug__" : Str)) = false := by decide) (hn : (x == ("__classdict__" : Str)) = false := by decide) :
    wpAny (Mo c) A (eval (.Name x pos) env) Q E s := nm_free H hm k hc hk hl hd hn
/-- a store into a cell -/
theorem sto_cell {x : Str} {v : Value} {i : Nat} {a : Addr} {d₀ : Option D} {Q : Unit → Shared → Prop} (H : St c T mu s) (hv : (v, d) ∈ T) (hc : env.cells.lookup x = some a) (hi : mu[i]? = some (a, .cell d₀))
    (k : ∀ s', St c T (mu.set i (a, .cell (some d))) s' → Q () s') (hk : env.scope.kind = .function := by rfl) (hl : env.kindOf x = some .cell := by rfl) : wpAny (Mo c) A (storeName env x v) Q E s := by
  obtain ⟨g, _, hm⟩ := H.at0 (List.mem_of_getElem? hi)
  obtain ⟨v₀, hv₀⟩ : ∃ v₀, s.heap.IsCell a v₀ := by
    cases d₀ with
    | none => exact ⟨_, hm⟩
    | some d => obtain ⟨v, h, _⟩ := hm; exact ⟨_, h⟩
  refine wpAny_storeName_cell hk hl hc hv₀ fun h' hc' hs' => k _ ?_
  exact St.set (k := s.toks) H hi (fun b o hb e => (hs'.2 b hb).trans e) fun g ht _ => ⟨v, hc', ht _ hv⟩
end
/-! ZG -/
section
variable {c : Cx} {A : Around} {E : Value → Shared → Prop} {s : Shared} {env : Env} {T : List (Value × D)} {mu : List (Addr × MD)} {L : Addr} {σ : List (Str × D)} {d : D}

/-! plain dicts -/
noncomputable def dget (es : List (Int × Int)) (k : Int) : Option Int := (es.find? fun e => e.1 = k).map (·.2)
noncomputable def dput (es : List (Int × Int)) (k x : Int) : List (Int × Int) := if es.any (fun e => e.1 = k) then es.map (fun e => if e.1 = k then (e.1, x) else e) else es ++ [(k, x)]
theorem IKs.length {kvs : List (Int × Value)} {es : List (Int × Int)} (h : IKs kvs es) : kvs.length = es.length := by
  induction h with
  | nil => rfl
  | cons _ _ _ _ ih => simp [ih]
theorem IKs.get {kvs : List (Int × Value)} {es : List (Int × Int)} (h : IKs kvs es) : ∀ {i : Nat} {e : Int × Int}, es[i]? = some e → ∃ t, kvs[i]? = some (e.1, .int e.2 t) := by
  induction h with
  | nil => intro i e he; simp at he
  | cons k x t _ ih =>
    intro i e he
    cases i with
    | zero => simp at he; subst he; exact ⟨t, rfl⟩
    | succ i => simp at he; exact ih he
theorem IKs.keys {kvs : List (Int × Value)} {es : List (Int × Int)} (h : IKs kvs es) : kvs.map (·.1) = es.map (·.1) := by
  induction h with
  | nil => rfl
  | cons k x t _ ih => simp [ih]
theorem IKs.val {kvs : List (Int × Value)} {es : List (Int × Int)} (h : IKs kvs es) (k : Int) : (dget es k = none ∧ valueAt kvs k = none) ∨ ∃ x t, dget es k = some x ∧ valueAt kvs k = some (.int x t) := by
  induction h with
  | nil => exact .inl ⟨rfl, rfl⟩
  | cons k' x t _ ih =>
    unfold dget valueAt at *
    by_cases e : k' = k
    · simp [e]
    · simpa [e] using ih
theorem IKs.app {kvs us : List (Int × Value)} {es fs : List (Int × Int)} (h : IKs kvs es) (h' : IKs us fs) : IKs (kvs ++ us) (es ++ fs) := by
  induction h with
  | nil => exact h'
  | cons k x t _ ih => exact .cons k x t ih
theorem IKs.put {kvs : List (Int × Value)} {es : List (Int × Int)} (h : IKs kvs es) (k x : Int) (t : Tok) : IKs (stored kvs k (.int x t)) (dput es k x) := by
  have hany : kvs.any (fun e => decide (e.1 = k)) = es.any (fun e => decide (e.1 = k)) := by
    have := h.keys
    have h1 : kvs.any (fun e => decide (e.1 = k)) = (kvs.map (·.1)).any (fun e => decide (e = k)) := by simp [List.any_map, Function.comp_def]
    have h2 : es.any (fun e => decide (e.1 = k)) = (es.map (·.1)).any (fun e => decide (e = k)) := by simp [List.any_map, Function.comp_def]
    rw [h1, h2, this]
  unfold stored dput
  rw [hany]
  split
  · rename_i hc
    clear hany hc
    induction h with
    | nil => exact .nil
    | cons k' y u _ ih =>
      rw [List.map_cons, List.map_cons]
      by_cases e : k' = k
      · simp only [e, if_true]; exact .cons _ _ _ ih
      · simp only [e, if_false]; exact .cons _ _ _ ih
  · exact h.app (.cons _ _ _ .nil)

/-! dicts -/
theorem St.dic {v : Value} {es : List (Int × Int)} (H : St c T mu s) (h : (v, .dic es) ∈ T) : ∃ d o, v = .ref d ∧ (d == sysModules) = false ∧ IntObj c.w o es ∧ s.heap.get? d = some o ∧ St c ((.ref d, .obj o) :: T) mu s := by
  obtain ⟨ge, os, g, l, C⟩ := H
  cases C.tm _ h with
  | dic ho hI hd => exact ⟨_, _, rfl, hd, hI, C.kg _ _ ho, ge, os, g, l, { C with tm := fun p hp => by rcases List.mem_cons.mp hp with rfl | hp; exact .obj ho; exact C.tm p hp }⟩
theorem St.dicM {d : Addr} {es : List (Int × Int)} (H : St c T mu s) (h : (d, .dic es) ∈ mu) : ∃ kvs, s.heap.DictOf (intKind pw c.w) d kvs ∧ IKs kvs es ∧ (d == sysModules) = false := by
  obtain ⟨_, _, o, ho, ⟨kvs, hk, hi⟩, hd⟩ := H.at0 h
  exact ⟨kvs, Heap.dictOf_iff.mpr ⟨o, ho, hk⟩, hi, hd⟩
theorem St.frzD {a : Addr} {es : List (Int × Int)} (H : St c T ((a, .dic es) :: mu) s) : St c ((.ref a, .dic es) :: T) mu s :=
  H.freeze fun g o ht ⟨o', ho, hI, hd⟩ ho' hg => by
    rw [ho] at ho'; cases ho'
    exact .dic hg hI hd
theorem St.notSys (H : St c T mu s) : (s.heap.objs.size == sysModules) = false := by
  obtain ⟨X, _⟩ := H.top
  obtain ⟨o, ho⟩ : ∃ o, (KH c.w).lookup 156 = some o := ⟨_, rfl⟩
  have := Heap.lt_size (X _ _ ho)
  simp only [beq_eq_false_iff_ne, ne_eq]
  intro e
  rw [e] at this
  exact absurd this (by decide)
theorem op_newDict {pos : Pos} {Q : Value → Shared → Prop} (H : St c T mu s) (k : ∀ d s', St c T ((d, .dic []) :: mu) s' → Q (.ref d) s') : wpAny (Mo c) A (eval (.Dict [] [] pos) env) Q E s := by
  refine wpAny_Dict_empty (k _ _ ?_)
  refine H.push (o := default) (k := s.toks) (.dic []) (get?_size_none _) (fun b o e => Heap.get?_push_of_some _ e) fun g ht => ?_
  obtain ⟨o, ho, hk⟩ := Heap.dictOf_iff.mp (Heap.DictOf.new (knd := intKind pw c.w) s.heap)
  exact ⟨o, ho, ⟨[], hk, .nil⟩, H.notSys⟩
theorem op_put {v x y : Value} {a b : Int} {d : Addr} {es : List (Int × Int)} {i : Nat} {Q : Unit → Shared → Prop} (H : St c T mu s) (hu : (v, .lit (.ref d)) ∈ T) (hi : mu[i]? = some (d, .dic es)) (hx : (x, .int a) ∈ T) (hy : (y, .int b) ∈ T) (hn : es.length ≤ 10000)
    (k : ∀ s', St c T (mu.set i (d, .dic (dput es a b))) s' → Q () s') : wpAny (Mo c) A (setItem v x y) Q E s := by
  cases H.isLit hu
  obtain ⟨t, rfl⟩ := H.isInt hx
  obtain ⟨u, rfl⟩ := H.isInt hy
  obtain ⟨kvs, hD, hI, hd⟩ := H.dicM (List.mem_of_getElem? hi)
  refine wpAny_setItem_pairs (intKind_is pw c.w a t) hD (fun h' hD' hs => k _ ?_) (by rw [sizeLine_eq, hI.length]; omega)
  refine H.set hi (fun b o hb e => (hs.2 b hb).trans e) fun g ht _ => ?_
  obtain ⟨o, ho, hk⟩ := Heap.dictOf_iff.mp hD'
  exact ⟨o, ho, ⟨_, hk, hI.put a b u⟩, hd⟩
theorem op_in {v x : Value} {a : Int} {d : Addr} {es : List (Int × Int)} {Q : Value → Shared → Prop} (H : St c T mu s) (hu : (v, .lit (.ref d)) ∈ T) (hi : (d, .dic es) ∈ mu) (hx : (x, .int a) ∈ T)
    (k : ∀ s', St c T mu s' → Q (.bool (dget es a).isSome) s') : wpAny (Mo c) A (compareOp .In x v) Q E s := by
  cases H.isLit hu
  obtain ⟨t, rfl⟩ := H.isInt hx
  obtain ⟨kvs, hD, hI, hd⟩ := H.dicM hi
  refine wpAny_in_of (intKind_is pw c.w a t) hd hD.mapOf ?_
  have e : (valueAt kvs a).isSome = (dget es a).isSome := by rcases hI.val a with ⟨h1, h2⟩ | ⟨x, t, h1, h2⟩ <;> rw [h1, h2] <;> rfl
  rw [e]; exact k _ H.toks
theorem op_get {v x : Value} {a b : Int} {d : Addr} {es : List (Int × Int)} {Q : Value → Shared → Prop} (H : St c T mu s) (hu : (v, .lit (.ref d)) ∈ T) (hi : (d, .dic es) ∈ mu) (hx : (x, .int a) ∈ T) (hg : dget es a = some b)
    (k : ∀ v s', St c ((v, .int b) :: T) mu s' → Q v s') : wpAny (Mo c) A (getItem v x) Q E s := by
  cases H.isLit hu
  obtain ⟨t, rfl⟩ := H.isInt hx
  obtain ⟨kvs, hD, hI, hd⟩ := H.dicM hi
  rcases hI.val a with ⟨h1, h2⟩ | ⟨x, u, h1, h2⟩
  · rw [hg] at h1; cases h1
  · rw [hg] at h1; cases h1
    exact wpAny_getItem_of (intKind_is pw c.w a t) hD.mapOf h2 (k _ _ (H.toks.intv _ _))
theorem op_isiTuple {x : Value} {a : Int} {Q : Value → Shared → Prop} (H : St c T mu s) (hx : (x, .int a) ∈ T) (k : ∀ s', St c T mu s' → Q (.bool false) s') : wpAny (Mo c) A (call (.builtin "isinstance") [x, .type "tuple"]) Q E s := by
  obtain ⟨t, rfl⟩ := H.isInt hx
  exact IsiPair.int_tuple (k _ H.toks)

/-! views -/
theorem op_items {v : Value} {es : List (Int × Int)} {Q : Value → Shared → Prop} (H : St c T mu s) (h : (v, .dic es) ∈ T)
    (k : ∀ r d o s', (d == sysModules) = false → IntObj c.w o es → St c ((r, .obj { cls := .type "dict_items", data := .fields #[.ref d] }) :: (.ref d, .obj o) :: T) mu s' → Q r s') : wpAny (Mo c) A (call (.builtin "dict.items") [v]) Q E s := by
  obtain ⟨d, o, rfl, hd, hI, ho, H'⟩ := H.dic h
  obtain ⟨kvs, hk, hi⟩ := hI
  have hD : s.heap.DictOf (intKind pw c.w) d kvs := Heap.dictOf_iff.mpr ⟨o, ho, hk⟩
  exact call_meetsIn PySem.F.slot_dict_items hD.typeIs PySem.F.entry_dict_items (PySem.F.args_dict_items_1 _) (meets_dict_items (intKind pw c.w) d hd) ⟨⟨kvs, hD⟩, k _ d o _ hd ⟨kvs, hk, hi⟩ (H'.newObj (k := s.toks))⟩
theorem op_values {v : Value} {es : List (Int × Int)} {Q : Value → Shared → Prop} (H : St c T mu s) (h : (v, .dic es) ∈ T)
    (k : ∀ r d o s', (d == sysModules) = false → IntObj c.w o es → St c ((r, .obj { cls := .type "dict_values", data := .fields #[.ref d] }) :: (.ref d, .obj o) :: T) mu s' → Q r s') : wpAny (Mo c) A (call (.builtin "dict.values") [v]) Q E s := by
  obtain ⟨d, o, rfl, hd, hI, ho, H'⟩ := H.dic h
  obtain ⟨kvs, hk, hi⟩ := hI
  have hD : s.heap.DictOf (intKind pw c.w) d kvs := Heap.dictOf_iff.mpr ⟨o, ho, hk⟩
  exact call_meetsIn PySem.F.slot_dict_values hD.typeIs PySem.F.entry_dict_values (PySem.F.args_dict_values_1 _) (meets_dict_values (intKind pw c.w) d hd) ⟨⟨kvs, hD⟩, k _ d o _ hd ⟨kvs, hk, hi⟩ (H'.newObj (k := s.toks))⟩

/-- a dict's object, its epoch known -/
structure DictObj (w : World) (o : Obj) (kvs : List (Int × Value)) (ep : Nat) : Prop where
  at' : ∀ (h : Heap) (d : Addr), h.get? d = some o → h.DictAt (intKind pw w) d kvs ep
theorem IntObj.open' {w : World} {o : Obj} {es : List (Int × Int)} (h : IntObj w o es) : ∃ kvs ep, DictObj w o kvs ep ∧ IKs kvs es := by
  obtain ⟨kvs, ⟨es', ep, h1, h2, h3, h4, h5⟩, hi⟩ := h
  exact ⟨kvs, ep, ⟨fun h d ho => ⟨o, es', ho, h1, h2, h3, h4, h5⟩⟩, hi⟩

noncomputable abbrev tlV (it d : Addr) (n ep : Nat) (i : Nat) : List (Addr × MD) := [(it, .fl "dict_valueiterator" [.ref d, .int i 0, .int n 0, .int ep 0])]
theorem it_values {x : Value} {d : Addr} {o : Obj} {kvs : List (Int × Value)} {ep : Nat} {Q : Value → Shared → Prop} (H : St c T mu s) (hx : (x, .obj { cls := .type "dict_values", data := .fields #[.ref d] }) ∈ T) (hd : (Value.ref d, D.obj o) ∈ T) (hO : DictObj c.w o kvs ep)
    (k : ∀ it s', St c T (mu ++ tlV it d kvs.length ep 0) s' → Q (.ref it) s') : wpAny (Mo c) A (pyIter x) Q E s := by
  obtain ⟨r, rfl, hr⟩ := H.isObj hx
  obtain ⟨_, e, hod⟩ := H.isObj hd
  cases e
  refine wpAny_pyIter_values (knd := intKind pw c.w) ⟨_, hr, rfl, rfl⟩ (hO.at' _ _ hod) (k _ _ ?_)
  exact (H.push (o := default) (k := s.toks) (.fl "dict_valueiterator" [.ref d, .int ((0 : Nat) : Int) 0, .int kvs.length 0, .int ep 0]) (get?_size_none _) (fun b o e => Heap.get?_push_of_some _ e) fun g ht => ⟨_, Heap.get?_push_size _ rfl, rfl, rfl⟩).toT
theorem its_values {it d : Addr} {o : Obj} {kvs : List (Int × Value)} {es : List (Int × Int)} {ep : Nat} (hh : A.handled = none) (hd : (Value.ref d, D.obj o) ∈ T) (hO : DictObj c.w o kvs ep) (hI : IKs kvs es) :
    Itf c A T it (tlV it d kvs.length ep) (fun i _ => tlV it d kvs.length ep (i + 1)) (es.map fun e => .int e.2) where
  item {mu s D' E Q} i H hx k := by
    obtain ⟨_, e, hod⟩ := H.isObj hd
    cases e
    rw [List.getElem?_map] at hx
    obtain ⟨p, hp, rfl⟩ := Option.map_eq_some_iff.mp hx
    obtain ⟨t, ht⟩ := hI.get hp
    obtain ⟨g, _, hit⟩ := H.atT
    refine wpAny_pyNext_values_item (knd := intKind pw c.w) (i := i) hit (hO.at' _ _ hod) ht fun h' hi' hs' => k _ _ ?_
    exact (H.setT (md' := .fl "dict_valueiterator" [.ref d, .int ((i + 1 : Nat) : Int) 0, .int kvs.length 0, .int ep 0]) (k := s.toks) (fun b o hb e => (hs'.2 b hb).trans e) fun g ht _ => hi').intv _ _
  done {mu s E Q} H k := by
    obtain ⟨_, e, hod⟩ := H.isObj hd
    cases e
    have e : (es.map fun e => D.int e.2).length = kvs.length := by rw [List.length_map, hI.length]
    rw [e] at H
    obtain ⟨g, _, hit⟩ := H.atT
    refine wpAny_pyNext_values_end (knd := intKind pw c.w) (kvs := kvs) (ep := ep) (d := d) (i := kvs.length) hh hit (hO.at' _ _ hod) (by simp) fun h' hs' => k _ (H.lostT (k := s.toks) hs')
end
/-! ZZ -/
section
variable {c : Cx} {A : Around} {E : Value → Shared → Prop} {s : Shared} {env : Env} {T : List (Value × D)} {mu : List (Addr × MD)} {L : Addr} {σ : List (Str × D)} {d : D}

theorem push_get {h : Heap} {o x : Obj} {b : Addr} (e : (h.push o).get? b = some x) : (b = h.objs.size ∧ x = o) ∨ h.get? b = some x := by
  obtain ⟨e1, e2⟩ := Heap.get?_some_iff.mp e
  by_cases hb : b = h.objs.size
  · refine .inl ⟨hb, ?_⟩
    subst hb
    cases h; simpa [Heap.push] using e1.symm
  · refine .inr (Heap.get?_some_iff.mpr ⟨?_, e2⟩)
    cases h; simpa [Heap.push, Array.getElem?_push, hb] using e1

/-! items -/
noncomputable abbrev itmO (f d : Value) (i n ep : Nat) (ok ov : Value) : Obj := { cls := .type "dict_itemiterator", dict := none, data := .fields #[f, .bool false, d, .int i 0, .int n 0, .int ep 0, ok, ov], slots := #[] }
noncomputable abbrev tlI (it d : Addr) (n ep : Nat) (i : Nat) : List (Addr × MD) := [(it, .prd fun o => ∃ ok ov, o = itmO .none (.ref d) i n ep ok ov)]
noncomputable abbrev toI (it d : Addr) (n ep : Nat) (i : Nat) (v : Value) : List (Addr × MD) := [(it, .prd fun o => ∃ a ok ov, v = .ref a ∧ o = itmO (rawInt a) (.ref d) (i + 1) n ep ok ov)]
theorem it_items {x : Value} {d : Addr} {o : Obj} {kvs : List (Int × Value)} {ep : Nat} {Q : Value → Shared → Prop} (H : St c T mu s) (hx : (x, .obj { cls := .type "dict_items", data := .fields #[.ref d] }) ∈ T) (hd : (Value.ref d, D.obj o) ∈ T) (hO : DictObj c.w o kvs ep)
    (k : ∀ it s', St c T (mu ++ tlI it d kvs.length ep 0) s' → Q (.ref it) s') : wpAny (Mo c) A (pyIter x) Q E s := by
  obtain ⟨r, rfl, hr⟩ := H.isObj hx
  obtain ⟨_, e, hod⟩ := H.isObj hd
  cases e
  refine wpAny_pyIter_items (knd := intKind pw c.w) ⟨_, hr, rfl, rfl⟩ (hO.at' _ _ hod) (k _ _ ?_)
  exact (H.push (o := default) (k := s.toks) (.prd fun o => ∃ ok ov, o = itmO .none (.ref d) 0 kvs.length ep ok ov) (get?_size_none _) (fun b o e => Heap.get?_push_of_some _ e) fun g ht => ⟨_, Heap.get?_push_size _ rfl, _, _, rfl⟩).toT
theorem its_items {it d : Addr} {o : Obj} {kvs : List (Int × Value)} {es : List (Int × Int)} {ep : Nat} (hh : A.handled = none) (hd : (Value.ref d, D.obj o) ∈ T) (hO : DictObj c.w o kvs ep) (hI : IKs kvs es) :
    Itf c A T it (tlI it d kvs.length ep) (toI it d kvs.length ep) (es.map fun e => .tup [.int e.1, .int e.2]) where
  item {mu s D' E Q} i H hx k := by
    obtain ⟨_, e, hod⟩ := H.isObj hd
    cases e
    rw [List.getElem?_map] at hx
    obtain ⟨p, hp, rfl⟩ := Option.map_eq_some_iff.mp hx
    obtain ⟨t, ht⟩ := hI.get hp
    obtain ⟨g, _, oi, hit, ok, ov, rfl⟩ := H.atT
    refine wpAny_pyNext_items_item (knd := intKind pw c.w) (i := i) hit (hO.at' _ _ hod) ht fun key h' hkey hout htup hsz hkeep => k _ _ ?_
    obtain ⟨u, rfl⟩ := Value.isInt_shape hkey
    -- the tuple first, then the iterator
    have H1 := (((H.intv p.1 u).intv p.2 t).newObj (o := { cls := .type "tuple", data := .seq #[.int p.1 u, .int p.2 t] }) (k := s.toks))
    have H2 := St.setT (k := s.toks) (md' := .prd fun o => ∃ a ok ov, (Value.ref s.heap.objs.size) = .ref a ∧ o = itmO (rawInt a) (.ref d) (i + 1) kvs.length ep ok ov) (h' := h') H1 (fun b o hb e => ?_) fun g ht _ => ⟨_, hout, _, _, _, rfl, rfl⟩
    · have H3 := H2.tupOf (a := s.heap.objs.size) (o := { cls := .type "tuple", data := .seq #[.int p.1 u, .int p.2 t] }) (vs := [.int p.1 u, .int p.2 t]) (ds := [.int p.1, .int p.2]) (.head _) rfl rfl rfl (by intro q hq; simp at hq; rcases hq with rfl | rfl; exact .tail _ (.tail _ (.head _)); exact .tail _ (.head _))
      exact H3.sub fun q hq => by
        rcases List.mem_cons.mp hq with rfl | hq
        · exact .head _
        · exact .tail _ (.tail _ (.tail _ (.tail _ hq)))
    · rcases push_get e with ⟨rfl, rfl⟩ | e
      · exact htup
      · exact hkeep b o hb e
  done {mu s E Q} H k := by
    obtain ⟨_, e, hod⟩ := H.isObj hd
    cases e
    have e : (es.map fun e => D.tup [.int e.1, .int e.2]).length = kvs.length := by rw [List.length_map, hI.length]
    rw [e] at H
    obtain ⟨g, _, oi, hit, ok, ov, rfl⟩ := H.atT
    refine wpAny_pyNext_items_end (knd := intKind pw c.w) (kvs := kvs) (ep := ep) (d := d) (i := kvs.length) hh hit (hO.at' _ _ hod) (by simp) fun h' hs' => k _ (H.lostT (k := s.toks) hs')
theorem own_items {elts : List Expr} {x1} {pos : Pos} {it d : Addr} {n ep i : Nat} {v : Value} {Q : Unit → Shared → Prop} (H : St c T (mu ++ toI it d n ep i v) s) (k : ∀ s', St c T (mu ++ tlI it d n ep (i + 1)) s' → Q () s') :
    wpAny (Mo c) A (letOwnedTupleGo (.Tuple elts x1 pos) (.ref it) v) Q E s := by
  obtain ⟨g, _, oi, hit, a, ok, ov, rfl, rfl⟩ := H.atT
  refine wpAny_letOwnedTupleGo_items hit fun h' hit' hs => k _ ?_
  exact H.setT (k := s.toks) (fun b o hb e => (hs.2 b hb).trans e) fun g ht _ => ⟨_, hit', _, _, rfl⟩

/-! a tuple is taken apart -/
theorem asg_tup2 {e1 e2 : Expr} {x1} {pos : Pos} {v : Value} {d1 d2 : D} {Q : Unit → Shared → Prop} (hh : A.handled = none) (H : St c T mu s) (hv : (v, .tup [d1, d2]) ∈ T)
    (k : ∀ a b s', St c ((a, d1) :: (b, d2) :: T) mu s' → wpAny (Mo c) A (assign e1 env a) (fun _ s₁ => wpAny (Mo c) A (assign e2 env b) Q E s₁) E s')
    (he : assignEach [e1, e2] env = [(false, assign e1 env), (false, assign e2 env)] := by rfl) : wpAny (Mo c) A (assign (.Tuple [e1, e2] x1 pos) env v) Q E s := by
  obtain ⟨a, vs, rfl, ht, hl, hi⟩ := H.isTup hv
  obtain ⟨x, y, rfl⟩ := len2 hl
  obtain ⟨_, e, H1⟩ := hi 0 d1 rfl
  cases e
  have H2 : St c ((x, d1) :: (y, d2) :: T) mu s := by
    obtain ⟨ge, os, g, l, C⟩ := H1
    refine ⟨ge, os, g, l, { C with tm := fun p hp => ?_ }⟩
    rcases List.mem_cons.mp hp with rfl | hp
    · exact C.tm _ (.head _)
    · rcases List.mem_cons.mp hp with rfl | hp
      · cases C.tm _ (.tail _ hv) with
        | tup ho hc hd hl he =>
          obtain ⟨o', ho', hc', n', hd'⟩ := ht
          rw [C.kg _ _ ho] at ho'
          cases ho'
          rw [hd] at hd'
          have e := (Data.seq.inj hd').1
          have e' := congrArg Array.toList e; simp only at e'
          subst e'
          exact he 1 y d2 rfl rfl
      · exact C.tm _ (.tail _ hp)
  refine wpAny_assign_Tuple hh ht (by rw [he]; rfl) (by rw [he]; rfl) fun h' hs => ?_
  rw [he]
  have H3 := H2.ext (k := s.toks) (h' := h') fun b o e => hs b o (Nat.ne_of_lt (Heap.lt_size e)) e
  refine wpAny_assignInOrder_more (wpAny_mono (k _ _ _ H3) (fun _ s₁ h₁ => wpAny_assignInOrder_more (wpAny_mono h₁ (fun _ s₂ h₂ => wpAny_assignInOrder_none h₂) fun _ _ e => e)) fun _ _ e => e)
theorem asg_tup3 {e1 e2 e3 : Expr} {x1} {pos : Pos} {v : Value} {d1 d2 d3 : D} {Q : Unit → Shared → Prop} (hh : A.handled = none) (H : St c T mu s) (hv : (v, .tup [d1, d2, d3]) ∈ T)
    (k : ∀ a b b' s', St c ((a, d1) :: (b, d2) :: (b', d3) :: T) mu s' → wpAny (Mo c) A (assign e1 env a) (fun _ s₁ => wpAny (Mo c) A (assign e2 env b) (fun _ s₂ => wpAny (Mo c) A (assign e3 env b') Q E s₂) E s₁) E s')
    (he : assignEach [e1, e2, e3] env = [(false, assign e1 env), (false, assign e2 env), (false, assign e3 env)] := by rfl) : wpAny (Mo c) A (assign (.Tuple [e1, e2, e3] x1 pos) env v) Q E s := by
  obtain ⟨a, vs, rfl, ht, hl, hi⟩ := H.isTup hv
  obtain ⟨x, y, z, rfl⟩ := len3 hl
  have H2 : St c ((x, d1) :: (y, d2) :: (z, d3) :: T) mu s := by
    obtain ⟨ge, os, g, l, C⟩ := H
    refine ⟨ge, os, g, l, { C with tm := fun p hp => ?_ }⟩
    have key : Rep c.w g x d1 ∧ Rep c.w g y d2 ∧ Rep c.w g z d3 := by
      cases C.tm _ hv with
      | tup ho hc hd hl he =>
        obtain ⟨o', ho', hc', n', hd'⟩ := ht
        rw [C.kg _ _ ho] at ho'
        cases ho'
        rw [hd] at hd'
        have e := (Data.seq.inj hd').1
        have e' := congrArg Array.toList e; simp only at e'
        subst e'
        exact ⟨he 0 x d1 rfl rfl, he 1 y d2 rfl rfl, he 2 z d3 rfl rfl⟩
    rcases List.mem_cons.mp hp with rfl | hp
    · exact key.1
    · rcases List.mem_cons.mp hp with rfl | hp
      · exact key.2.1
      · rcases List.mem_cons.mp hp with rfl | hp
        · exact key.2.2
        · exact C.tm _ hp
  refine wpAny_assign_Tuple hh ht (by rw [he]; rfl) (by rw [he]; rfl) fun h' hs => ?_
  rw [he]
  have H3 := H2.ext (k := s.toks) (h' := h') fun b o e => hs b o (Nat.ne_of_lt (Heap.lt_size e)) e
  exact wpAny_assignInOrder_more (wpAny_mono (k _ _ _ _ H3) (fun _ s₁ h₁ => wpAny_assignInOrder_more (wpAny_mono h₁ (fun _ s₂ h₂ => wpAny_assignInOrder_more (wpAny_mono h₂ (fun _ s₃ h₃ => wpAny_assignInOrder_none h₃) fun _ _ e => e)) fun _ _ e => e)) fun _ _ e => e)

/-! an iterator's __next__, by itself -/
structure Nx (c : Cx) (T : List (Value × D)) (it : Addr) (tl : Nat → List (Addr × MD)) (ds : List D) : Prop where
  item : ∀ {A : Around} {T' mu s d E Q} (i : Nat), (∀ p ∈ T, p ∈ T') → St c T' (mu ++ tl i) s → ds[i]? = some d → (∀ v s', St c ((v, d) :: T') (mu ++ tl (i + 1)) s' → Q v s') → wpAny (Mo c) A (Builtin.SmallTypes.nextOf (.ref it)) Q E s
  done : ∀ {A : Around} {T' mu s} {E : Value → Shared → Prop} {Q}, A.handled = none → (∀ p ∈ T, p ∈ T') → St c T' (mu ++ tl ds.length) s → (∀ e s', (∃ o, s'.heap.get? e = some o ∧ o.cls = .type "StopIteration") → St c T' mu s' → E (.ref e) s') → wpAny (Mo c) A (Builtin.SmallTypes.nextOf (.ref it)) Q E s
theorem nx_of_list {l it : Addr} {ds : List D} (hl : (Value.ref l, D.lst ds) ∈ T) : Nx c T it (tlL it l) ds where
  item {A T' mu s d E Q} i hT H hd k := by
    have hl' := hT _ hl
    obtain ⟨_, vs, e, hL, _, he⟩ := H.list (.inl hl')
    cases e
    obtain ⟨x, hx, H'⟩ := he i d hd
    obtain ⟨g, _, hit⟩ := H.atT
    refine wpAny_nextOf_list_item (i := i) hit hL (x := x) (by simpa using hx) fun h' hi' hs' => k x _ ?_
    exact H'.setT (k := s.toks) (fun b o hb e => (hs'.2 b hb).trans e) fun g ht _ => hi'
  done {A T' mu s E Q} hh hT H k := by
    have hl' := hT _ hl
    obtain ⟨_, vs, e, hL, hlen, he⟩ := H.list (.inl hl')
    cases e
    obtain ⟨g, _, hit⟩ := H.atT
    exact wpAny_nextOf_list_end (i := ds.length) hh hit hL (by simp [hlen]) fun h' e hs' he => k e _ he (H.lostT (k := s.toks) hs')
noncomputable abbrev tlB (it : Addr) (b : Array UInt8) (t : Tok) (i : Nat) : List (Addr × MD) := [(it, .fl "bytes_iterator" [.bytes b t, .int i 0])]
theorem nx_of_bytes {it : Addr} {b : Array UInt8} {t : Tok} : Nx c T it (tlB it b t) (b.toList.map fun u => .int u.toNat) where
  item {A T' mu s d E Q} i hT H hd k := by
    rw [List.getElem?_map] at hd
    obtain ⟨u, hu, rfl⟩ := Option.map_eq_some_iff.mp hd
    have hx : b[i]? = some u := by simpa using hu
    obtain ⟨g, _, hit⟩ := H.atT
    obtain ⟨o, ho, hc, hd⟩ := id hit
    have hty : s.TypeIs (.ref it) "bytes_iterator" := ⟨o, ho, hc⟩
    unfold Builtin.SmallTypes.nextOf
    refine wpAny_bind (wpAny_callSpecial?_slot (name := PySem.Str.ofString "__next__") hty KBw.slot_next (wpAny_call_entry KBw.slot_next hty KBw.entry_next ?_ (KBw.args_next _)))
    show wpAny _ _ (field (.ref it) 0 >>= _) _ _ s
    refine wpAny_bind (wpAny_field ho hd (x := .bytes b t) rfl ?_)
    show wpAny _ _ (if (Value.bytes b t == Value.none) = true then _ else _) _ _ s
    rw [if_neg (show ¬ ((Value.bytes b t == Value.none) = true) from Bool.false_ne_true)]
    show wpAny _ _ (field (.ref it) 1 >>= _) _ _ s
    refine wpAny_bind (wpAny_field ho hd (x := .int i 0) rfl ?_)
    refine wpAny_bind (wpAny_of_eq (a := b) rfl ?_)
    simp only [Int.toNat_natCast, hx]
    refine wpAny_bind (wpAny_setField ho hd (by simp) (wpAny_bind (wpAny_mkInt (wpAny_pure ⟨_, rfl, wpAny_pure (k _ _ ?_)⟩))))
    refine St.intv _ _ ?_
    refine H.setT (k := s.toks + 1) (md' := .fl "bytes_iterator" [.bytes b t, .int ((i + 1 : Nat) : Int) 0]) (fun b' o' hb e => ((Heap.SameBut.update ..).2 b' hb).trans e) fun g ht _ => ?_
    exact ⟨_, Heap.get?_update_self _ ho (Obj.isFreed_of_fields (Obj.data_mapFields hd _)), (Obj.cls_mapFields ..).trans hc, by rw [Obj.data_mapFields hd]; simp [rawInt]⟩
  done {A T' mu s E Q} hh hT H k := by
    rw [List.length_map, Array.length_toList] at H
    obtain ⟨g, _, hit⟩ := H.atT
    obtain ⟨o, ho, hc, hd⟩ := id hit
    have hty : s.TypeIs (.ref it) "bytes_iterator" := ⟨o, ho, hc⟩
    have hx : b[b.size]? = none := by simp
    unfold Builtin.SmallTypes.nextOf
    refine wpAny_bind (wpAny_callSpecial?_slot (name := PySem.Str.ofString "__next__") hty KBw.slot_next (wpAny_call_entry KBw.slot_next hty KBw.entry_next ?_ (KBw.args_next _)))
    show wpAny _ _ (field (.ref it) 0 >>= _) _ _ s
    refine wpAny_bind (wpAny_field ho hd (x := .bytes b t) rfl ?_)
    show wpAny _ _ (if (Value.bytes b t == Value.none) = true then _ else _) _ _ s
    rw [if_neg (show ¬ ((Value.bytes b t == Value.none) = true) from Bool.false_ne_true)]
    show wpAny _ _ (field (.ref it) 1 >>= _) _ _ s
    refine wpAny_bind (wpAny_field ho hd (x := .int b.size 0) rfl ?_)
    refine wpAny_bind (wpAny_of_eq (a := b) rfl ?_)
    simp only [Int.toNat_natCast, hx]
    refine wpAny_bind (wpAny_rule (wpAny_bind (wpAny_setField ho hd (by simp) ?_)))
    show wpAny _ _ (newExc (.type "StopIteration") [] >>= _) _ _ _
    refine wpAny_bind ?_
    simp only [newExc, newTuple]
    refine wpAny_bind (wpAny_newObj_type ?_ (by size_fits))
    refine wpAny_bind (m := firstArgMember _ _) (wpAny_of_eq (a := Value.none) (by first | rfl | (simp only [firstArgMember]; rfl)) ?_)
    refine wpAny_newObj_type ?_ (by size_fits)
    simp only [raiseNew]
    refine wpAny_bind (wpAny_handled ?_)
    rw [show A.in1.handled = none from hh]
    refine wpAny_bind (wpAny_pure (wpAny_throw ?_))
    exact k _ _ ⟨_, Heap.get?_push_size _ rfl, rfl⟩ (H.lostT (k := s.toks) (((Heap.SameBut.update ..).extBut.push _).push _))

/-! zip -/
noncomputable abbrev zipO (f0 : Value) (TI TO : Addr) : Obj := { cls := .type "zip", dict := none, data := .fields #[f0, .bool false, .bool false, .ref TI, .ref TO], slots := #[] }
noncomputable abbrev pairO (a b : Value) : Obj := { cls := .type "tuple", data := .seq #[a, b] }
noncomputable def anyPair (o : Obj) : Prop := ∃ a b, o = pairO a b
noncomputable abbrev tlZ (tl1 tl2 : Nat → List (Addr × MD)) (z TI TO : Addr) (i : Nat) : List (Addr × MD) := tl2 i ++ tl1 i ++ [(TO, .prd anyPair), (z, .obj (zipO .none TI TO))]
noncomputable abbrev toZ (tl1 tl2 : Nat → List (Addr × MD)) (z TI TO : Addr) (i : Nat) (v : Value) : List (Addr × MD) := tl2 (i + 1) ++ tl1 (i + 1) ++ [(TO, .prd anyPair), (z, .prd fun o => ∃ a, v = .ref a ∧ o = zipO (rawInt a) TI TO)]
theorem St.front {a b : List (Addr × MD)} (H : St c T (mu ++ (a ++ b)) s) : St c T (b ++ (mu ++ a)) s := H.perm (by rw [← List.append_assoc mu a b]; exact List.perm_append_comm)
theorem St.back' {a b : List (Addr × MD)} (H : St c T (b ++ (mu ++ a)) s) : St c T (mu ++ (a ++ b)) s := H.perm (by rw [← List.append_assoc mu a b]; exact List.perm_append_comm)
theorem St.exch {p q : Addr × MD} {a b : List (Addr × MD)} (H : St c T (p :: q :: (mu ++ (a ++ b))) s) : St c T (p :: q :: (mu ++ (b ++ a))) s := H.perm (List.Perm.cons _ (List.Perm.cons _ (List.Perm.append_left mu List.perm_append_comm)))
theorem its_zip {z TI TO i1 i2 : Addr} {tl1 tl2 : Nat → List (Addr × MD)} {ds1 ds2 : List D} (hh : A.handled = none) (hTI : (Value.ref TI, D.obj (pairO (.ref i1) (.ref i2))) ∈ T) (N1 : Nx c T i1 tl1 ds1) (N2 : Nx c T i2 tl2 ds2) (hlen : ds1.length = ds2.length) :
    Itf c A T z (tlZ tl1 tl2 z TI TO) (toZ tl1 tl2 z TI TO) (List.zipWith (fun a b => .tup [a, b]) ds1 ds2) where
  item {mu s D' E Q} i H hx k := by
    rw [List.getElem?_zipWith] at hx
    obtain ⟨d1, d2, hd1, hd2, rfl⟩ : ∃ d1 d2, ds1[i]? = some d1 ∧ ds2[i]? = some d2 ∧ .tup [d1, d2] = D' := by
      cases h1 : ds1[i]? with
      | none => rw [h1] at hx; simp at hx
      | some d1 =>
        cases h2 : ds2[i]? with
        | none => rw [h1, h2] at hx; simp at hx
        | some d2 => rw [h1, h2] at hx; simp at hx; exact ⟨d1, d2, rfl, rfl, hx⟩
    have H0 := H.front
    obtain ⟨g, _, hz⟩ := H0.at0 (a := z) (md := .obj (zipO .none TI TO)) (by simp)
    obtain ⟨_, e, hti⟩ := H0.isObj hTI
    cases e
    have hT : s.TypeIs (.ref z) "zip" := ⟨_, hz, rfl⟩
    unfold pyNext
    refine wpAny_bind (wpAny_attempt (wpAny_callSpecial?_slot (name := PySem.Str.ofString "__next__") hT F.slot_zip_next (wpAny_call_entry F.slot_zip_next hT F.entry_zip_next ?_ (F.args_zip_next_1 _))))
    show wpAny _ _ (field (.ref z) 2 >>= _) _ _ _
    refine wpAny_bind (wpAny_field hz rfl (x := .bool false) rfl ?_)
    show wpAny _ _ (field (.ref z) 3 >>= _) _ _ _
    refine wpAny_bind (wpAny_field hz rfl (x := .ref TI) rfl ?_)
    refine wpAny_bind (wpAny_seqItems hti rfl ?_)
    show wpAny _ _ (Builtin.SmallTypes.ownedTupleIsFree (.ref z) >>= _) _ _ _
    refine wpAny_bind ?_
    unfold Builtin.SmallTypes.ownedTupleIsFree
    refine wpAny_bind (wpAny_field hz rfl (x := .none) rfl (wpAny_pure ?_))
    simp only [if_true]
    refine wpAny_bind (wpAny_rule ?_)
    refine wpAny_bind (wpAny_field hz rfl (x := .ref TO) rfl ?_)
    refine wpAny_bind (wpAny_setField_rec hz (by simp) fun h₁ hz₁ hs₁ => ?_)
    have H1 : St c T ((TO, .prd anyPair) :: (z, .obj (zipO .ellipsis TI TO)) :: (mu ++ (tl2 i ++ tl1 i))) { s with heap := h₁, toks := s.toks } :=
      St.set (i := 1) (a := z) (md' := .obj (zipO .ellipsis TI TO)) H0 rfl (fun b o hb e => (hs₁.2 b hb).trans e) fun g ht _ => hz₁
    refine wpAny_bind ?_
    simp only [List.zipIdx_cons, List.zipIdx_nil, List.forIn_cons, List.forIn_nil]
    refine wpAny_bind (wpAny_bind (wpAny_onRaise ?_))
    show wpAny _ _ (Builtin.SmallTypes.nextOf (.ref i1) >>= _) _ _ _
    have H1' : St c T (((TO, .prd anyPair) :: (z, .obj (zipO .ellipsis TI TO)) :: (mu ++ tl2 i)) ++ tl1 i) { s with heap := h₁, toks := s.toks } := by rw [← List.append_assoc] at H1; exact H1
    refine wpAny_bind (N1.item i (fun p hp => hp) H1' hd1 fun x s₂ H2 => wpAny_pure ?_)
    obtain ⟨g, _, o2, hTO₂, a2, b2, rfl⟩ := H2.at0 (a := TO) (md := .prd anyPair) (.head _)
    refine wpAny_bind (wpAny_seqItems hTO₂ rfl ?_)
    refine wpAny_bind (wpAny_updateSeq_pair hTO₂ fun h₃ hTO₃ hs₃ => ?_)
    replace hTO₃ : h₃.get? TO = some (pairO x b2) := hTO₃
    have H3 : St c ((x, d1) :: T) (((TO, .obj (pairO x b2)) :: (z, .obj (zipO .ellipsis TI TO)) :: (mu ++ tl2 i)) ++ tl1 (i + 1)) { s₂ with heap := h₃, toks := s₂.toks } :=
      St.set (i := 0) (a := TO) (md' := .obj (pairO x b2)) H2 rfl (fun b o hb e => (hs₃.2 b hb).trans e) fun g ht _ => hTO₃
    refine wpAny_bind (wpAny_letGo (wpAny_pure ?_))
    refine wpAny_bind (wpAny_bind (wpAny_onRaise ?_))
    show wpAny _ _ (Builtin.SmallTypes.nextOf (.ref i2) >>= _) _ _ _
    have H3' : St c ((x, d1) :: T) (((TO, .obj (pairO x b2)) :: (z, .obj (zipO .ellipsis TI TO)) :: (mu ++ tl1 (i + 1))) ++ tl2 i) { s₂ with heap := h₃, toks := s₂.toks } := by
      have : St c ((x, d1) :: T) ((TO, .obj (pairO x b2)) :: (z, .obj (zipO .ellipsis TI TO)) :: (mu ++ (tl2 i ++ tl1 (i + 1)))) { s₂ with heap := h₃, toks := s₂.toks } := by rw [← List.append_assoc]; exact H3
      have := this.exch
      rw [← List.append_assoc] at this; exact this
    refine wpAny_bind (N2.item i (fun p hp => .tail _ hp) H3' hd2 fun y s₄ H4 => wpAny_pure ?_)
    obtain ⟨g, _, hTO₄⟩ := H4.at0 (a := TO) (md := .obj (pairO x b2)) (.head _)
    replace hTO₄ : s₄.heap.get? TO = some (pairO x b2) := hTO₄
    refine wpAny_bind (wpAny_seqItems hTO₄ rfl ?_)
    refine wpAny_bind (wpAny_updateSeq_pair hTO₄ fun h₅ hTO₅ hs₅ => ?_)
    replace hTO₅ : h₅.get? TO = some (pairO x y) := hTO₅
    have H5 : St c ((y, d2) :: (x, d1) :: T) (((TO, .obj (pairO x y)) :: (z, .obj (zipO .ellipsis TI TO)) :: (mu ++ tl1 (i + 1))) ++ tl2 (i + 1)) { s₄ with heap := h₅, toks := s₄.toks } :=
      St.set (i := 0) (a := TO) (md' := .obj (pairO x y)) H4 rfl (fun b o hb e => (hs₅.2 b hb).trans e) fun g ht _ => hTO₅
    refine wpAny_bind (wpAny_letGo (wpAny_pure (wpAny_pure ?_)))
    refine wpAny_bind (wpAny_seqItems hTO₅ rfl ?_)
    refine wpAny_bind (wpAny_newTuple ?_)
    have H6 := (H5.newObj (o := pairO x y) (k := s₄.toks))
    obtain ⟨g, _, hz₆⟩ := H6.at0 (a := z) (md := .obj (zipO .ellipsis TI TO)) (by simp)
    show wpAny _ _ (Builtin.SmallTypes.ownedTupleHandOut (.ref z) (.ref h₅.objs.size) >>= _) _ _ _
    refine wpAny_bind ?_
    unfold Builtin.SmallTypes.ownedTupleHandOut
    refine wpAny_bind (wpAny_setField_rec hz₆ (by simp) fun h₇ hz₇ hs₇ => ?_)
    replace hz₇ : h₇.get? z = some (zipO (rawInt h₅.objs.size) TI TO) := hz₇
    refine wpAny_setField_rec hz₇ (by simp) fun h₈ hz₈ hs₈ => ?_
    replace hz₈ : h₈.get? z = some (zipO (rawInt h₅.objs.size) TI TO) := hz₈
    have H8 := St.set (k := s₄.toks) (h' := h₈) (i := 1) (a := z) (md' := .prd fun o => ∃ a, Value.ref h₅.objs.size = .ref a ∧ o = zipO (rawInt a) TI TO) H6 rfl (fun b o hb e => (hs₈.2 b hb).trans ((hs₇.2 b hb).trans e)) fun g ht _ => ⟨_, hz₈, _, rfl, rfl⟩
    have H9 : St c ((.ref h₅.objs.size, .obj (pairO x y)) :: (y, d2) :: (x, d1) :: T) ((TO, .prd anyPair) :: (z, .prd fun o => ∃ a, Value.ref h₅.objs.size = .ref a ∧ o = zipO (rawInt a) TI TO) :: (mu ++ (tl1 (i + 1) ++ tl2 (i + 1)))) { s₄ with heap := h₈, toks := s₄.toks } := by
      have := St.set (k := s₄.toks) (h' := h₈) (i := 0) (a := TO) (md := .obj (pairO x y)) (md' := .prd anyPair) H8 rfl (fun b o hb e => e) fun g ht h => ⟨_, h, _, _, rfl⟩
      rw [← List.append_assoc]; exact this
    refine wpAny_pure ⟨_, rfl, ?_⟩
    refine wpAny_pure (k _ _ ?_)
    have H10 := (H9.tupOf (a := h₅.objs.size) (vs := [x, y]) (ds := [d1, d2]) (.head _) rfl rfl rfl (by intro q hq; simp at hq; rcases hq with rfl | rfl; exact .tail _ (.tail _ (.head _)); exact .tail _ (.head _)))
    have H11 := H10.exch
    have H12 := St.back' (a := tl2 (i + 1) ++ tl1 (i + 1)) (b := [(TO, .prd anyPair), (z, .prd fun o => ∃ a, Value.ref h₅.objs.size = .ref a ∧ o = zipO (rawInt a) TI TO)]) H11
    exact H12.sub fun q hq => by
      rcases List.mem_cons.mp hq with rfl | hq
      · exact .head _
      · exact .tail _ (.tail _ (.tail _ (.tail _ hq)))
  done {mu s E Q} H k := by
    have hl : (List.zipWith (fun a b => D.tup [a, b]) ds1 ds2).length = ds1.length := by rw [List.length_zipWith, hlen, Nat.min_self]
    rw [hl] at H
    have H0 := H.front
    obtain ⟨g, _, hz⟩ := H0.at0 (a := z) (md := .obj (zipO .none TI TO)) (by simp)
    obtain ⟨_, e, hti⟩ := H0.isObj hTI
    cases e
    have hT : s.TypeIs (.ref z) "zip" := ⟨_, hz, rfl⟩
    unfold pyNext
    refine wpAny_bind (wpAny_attempt (wpAny_callSpecial?_slot (name := PySem.Str.ofString "__next__") hT F.slot_zip_next (wpAny_call_entry F.slot_zip_next hT F.entry_zip_next ?_ (F.args_zip_next_1 _))))
    show wpAny _ _ (field (.ref z) 2 >>= _) _ _ _
    refine wpAny_bind (wpAny_field hz rfl (x := .bool false) rfl ?_)
    show wpAny _ _ (field (.ref z) 3 >>= _) _ _ _
    refine wpAny_bind (wpAny_field hz rfl (x := .ref TI) rfl ?_)
    refine wpAny_bind (wpAny_seqItems hti rfl ?_)
    show wpAny _ _ (Builtin.SmallTypes.ownedTupleIsFree (.ref z) >>= _) _ _ _
    refine wpAny_bind ?_
    unfold Builtin.SmallTypes.ownedTupleIsFree
    refine wpAny_bind (wpAny_field hz rfl (x := .none) rfl (wpAny_pure ?_))
    simp only [if_true]
    refine wpAny_bind (wpAny_rule ?_)
    refine wpAny_bind (wpAny_field hz rfl (x := .ref TO) rfl ?_)
    refine wpAny_bind (wpAny_setField_rec hz (by simp) fun h₁ hz₁ hs₁ => ?_)
    have H1 : St c T ((TO, .prd anyPair) :: (z, .obj (zipO .ellipsis TI TO)) :: (mu ++ (tl2 ds1.length ++ tl1 ds1.length))) { s with heap := h₁, toks := s.toks } :=
      St.set (i := 1) (a := z) (md' := .obj (zipO .ellipsis TI TO)) H0 rfl (fun b o hb e => (hs₁.2 b hb).trans e) fun g ht _ => hz₁
    refine wpAny_bind ?_
    simp only [List.zipIdx_cons, List.zipIdx_nil, List.forIn_cons, List.forIn_nil]
    refine wpAny_bind (wpAny_bind (wpAny_onRaise ?_))
    show wpAny _ _ (Builtin.SmallTypes.nextOf (.ref i1) >>= _) _ _ _
    have H1' : St c T (((TO, .prd anyPair) :: (z, .obj (zipO .ellipsis TI TO)) :: (mu ++ tl2 ds1.length)) ++ tl1 ds1.length) { s with heap := h₁, toks := s.toks } := by rw [← List.append_assoc] at H1; exact H1
    refine wpAny_bind (N1.done hh (fun p hp => hp) H1' fun e s₂ he H2 => ?_)
    obtain ⟨oe, hoe, hce⟩ := he
    obtain ⟨g, _, hz₂⟩ := H2.at0 (a := z) (md := .obj (zipO .ellipsis TI TO)) (by simp)
    replace hz₂ : s₂.heap.get? z = some (zipO .ellipsis TI TO) := hz₂
    have hez : e ≠ z := fun x => by subst x; rw [hz₂] at hoe; cases hoe; simp at hce
    refine wpAny_setField_rec hz₂ (by simp) fun h₃ hz₃ hs₃ => ?_
    have H3 : St c T ((TO, .prd anyPair) :: (z, .obj (zipO .none TI TO)) :: (mu ++ tl2 ds1.length)) { s₂ with heap := h₃, toks := s₂.toks } :=
      St.set (i := 1) (a := z) (md' := .obj (zipO .none TI TO)) H2 rfl (fun b o hb e => (hs₃.2 b hb).trans e) fun g ht _ => hz₃
    refine wpAny_bind (wpAny_isInstance (T := "StopIteration") (b := true) ⟨oe, hs₃.extBut _ _ hez hoe, hce⟩ isSubtype_stop ?_)
    refine wpAny_pure (k _ ?_)
    have H4 : St c T ([(TO, .prd anyPair), (z, .obj (zipO .none TI TO))] ++ (mu ++ tl2 ds1.length)) { s₂ with heap := h₃, toks := s₂.toks } := H3
    have H5 := H4.forgets
    exact (H5.perm (mu' := tl2 ds1.length ++ mu) List.perm_append_comm).forgets
theorem own_zip {elts : List Expr} {x1} {pos : Pos} {z TI TO : Addr} {tl1 tl2 : Nat → List (Addr × MD)} {i : Nat} {v : Value} {Q : Unit → Shared → Prop} (H : St c T (mu ++ toZ tl1 tl2 z TI TO i v) s) (k : ∀ s', St c T (mu ++ tlZ tl1 tl2 z TI TO (i + 1)) s' → Q () s') :
    wpAny (Mo c) A (letOwnedTupleGo (.Tuple elts x1 pos) (.ref z) v) Q E s := by
  have H0 := H.front
  obtain ⟨g, _, o, hz, a, rfl, rfl⟩ := H0.at0 (a := z) (md := .prd fun o => ∃ a, v = .ref a ∧ o = zipO (rawInt a) TI TO) (by simp)
  refine wpAny_letOwnedTupleGo_zip hz fun h' hz' hs => k _ ?_
  have H1 := St.set (k := s.toks) (h' := h') (i := 1) (a := z) (md' := .obj (zipO .none TI TO)) H0 rfl (fun b o hb e => (hs.2 b hb).trans e) fun g ht _ => hz'
  exact St.back' (a := tl2 (i + 1) ++ tl1 (i + 1)) (b := [(TO, .prd anyPair), (z, .obj (zipO .none TI TO))]) H1

theorem St.frzO {a : Addr} {o : Obj} (H : St c T ((a, .obj o) :: mu) s) : St c ((.ref a, .obj o) :: T) mu s :=
  H.freeze fun g o' ht ho ho' hg => by
    rw [show s.heap.get? a = some o from ho] at ho'; cases ho'
    exact .obj hg
theorem zip_lay {h' : Heap} {k n : Nat} {m1 m2 : MD} {tl1 tl2 : Nat → List (Addr × MD)} (H : St c T mu s) (hn : n = s.heap.objs.size) (e1 : tl1 0 = [(n, m1)]) (e2 : tl2 0 = [(n + 1, m2)])
    (hz : IsZip h' (n + 4) (n + 2) (n + 3) .none) (hTI : IsPair h' (n + 2) (.ref n) (.ref (n + 1))) (hTO : IsPair h' (n + 3) .none .none) (h1 : ∀ g, (∀ p ∈ T, Rep c.w g p.1 p.2) → MRep c.w g h' n m1) (h2 : ∀ g, (∀ p ∈ T, Rep c.w g p.1 p.2) → MRep c.w g h' (n + 1) m2)
    (hk : ∀ c o, s.heap.get? c = some o → h'.get? c = some o) : St c ((.ref (n + 2), .obj (pairO (.ref n) (.ref (n + 1)))) :: T) (mu ++ tlZ tl1 tl2 (n + 4) (n + 2) (n + 3) 0) { s with heap := h', toks := k } := by
  have hnew : ∀ b, n ≤ b → s.heap.get? b = none := fun b hb => by
    cases e : s.heap.get? b with
    | none => rfl
    | some o => exact absurd (Heap.lt_size e) (Nat.not_lt.mpr (hn ▸ hb))
  have H1 := H.pushes (k := k) hk [(n + 2, .obj (pairO (.ref n) (.ref (n + 1)))), (n + 1, m2), (n, m1), (n + 3, .prd anyPair), (n + 4, .obj (zipO .none (n + 2) (n + 3)))]
    (by simp) (fun p hp => by
      simp only [List.mem_cons, List.not_mem_nil, or_false] at hp
      rcases hp with rfl | rfl | rfl | rfl | rfl <;> exact hnew _ (by simp)) (fun p hp g ht => by
      simp only [List.mem_cons, List.not_mem_nil, or_false] at hp
      rcases hp with rfl | rfl | rfl | rfl | rfl
      · exact hTI
      · exact h2 g ht
      · exact h1 g ht
      · exact ⟨_, hTO, _, _, rfl⟩
      · exact hz)
  have H2 := St.frzO H1
  have H3 := H2.perm (mu' := mu ++ [(n + 1, m2), (n, m1), (n + 3, .prd anyPair), (n + 4, .obj (zipO .none (n + 2) (n + 3)))]) List.perm_append_comm
  show St c _ (mu ++ (tl2 0 ++ tl1 0 ++ _)) _
  rw [e1, e2]; exact H3
theorem op_zipL {x y : Value} {ds1 ds2 : List D} {Q : Value → Shared → Prop} (H : St c T mu s) (hx : (x, .lst ds1) ∈ T) (hy : (y, .lst ds2) ∈ T)
    (k : ∀ z TI TO i1 i2 tl1 tl2 T' s', (∀ c' : Cx, Nx c' T' i1 tl1 ds1) → (∀ c' : Cx, Nx c' T' i2 tl2 ds2) → St c ((.ref TI, .obj (pairO (.ref i1) (.ref i2))) :: T') (mu ++ tlZ tl1 tl2 z TI TO 0) s' → (∀ p ∈ T, p ∈ T') → Q (.ref z) s') : wpAny (Mo c) A (call (.type "zip") [x, y]) Q E s := by
  obtain ⟨l1, vs1, rfl, hl1, _, _⟩ := H.isLst hx
  obtain ⟨l2, vs2, rfl, hl2, _, _⟩ := H.isLst hy
  refine call_zip_2 hl1 hl2 fun h' hz hTI hTO h1 h2 hsz hk => ?_
  refine k _ _ _ _ _ (tlL s.heap.objs.size l1) (tlL (s.heap.objs.size + 1) l2) T _ (fun c' => nx_of_list hx) (fun c' => nx_of_list hy) (zip_lay (k := s.toks) H rfl rfl rfl hz hTI hTO (fun g _ => h1) (fun g _ => h2) hk) fun p hp => hp

noncomputable abbrev zipB2 (h : Heap) (l1 : Addr) (b : Array UInt8) (t : Tok) : Heap := (zipH1 h l1).push { cls := .type "bytes_iterator", data := .fields #[.bytes b t, .int 0 0] }
noncomputable abbrev zipB3 (h : Heap) (l1 : Addr) (b : Array UInt8) (t : Tok) : Heap := (zipB2 h l1 b t).push { cls := .type "tuple", data := .seq #[.ref h.objs.size, .ref (zipH1 h l1).objs.size] }
noncomputable abbrev zipB4 (h : Heap) (l1 : Addr) (b : Array UInt8) (t : Tok) : Heap := (zipB3 h l1 b t).push { cls := .type "tuple", data := .seq #[.none, .none] }
noncomputable abbrev zipB5 (h : Heap) (l1 : Addr) (b : Array UInt8) (t : Tok) : Heap := (zipB4 h l1 b t).push { cls := .type "zip", data := .fields #[.none, .bool false, .bool false, .ref (zipB2 h l1 b t).objs.size, .ref (zipB3 h l1 b t).objs.size] }
set_option maxHeartbeats 2000000 in
theorem zip_newB (l1 : Addr) (xs : Array Value) (b : Array UInt8) (t : Tok) :
    Meets (Builtin.«zip.__new__» ⟨[.type "zip", .ref l1, .bytes b t], []⟩) (fun _ R s => s.heap.IsList l1 xs ∧ R (.ok (.ret (.ref (zipB4 s.heap l1 b t).objs.size))) { s with heap := zipB5 s.heap l1 b t }) :=
  .of_wp fun prog w A R s h => by
    obtain ⟨hp, g, d, tk, os⟩ := s; obtain ⟨hl1, h⟩ := h
    have hsub := sub_zip
    have hL1 : Heap.IsList (Shared.heap ⟨hp, g, d, tk, os⟩) l1 xs := hl1
    wp_walk using wpAny_pyIter_list hL1, KBw.pyIter_bytes
    exact ⟨_, rfl, h⟩
theorem op_zipB {x y : Value} {ds1 : List D} {b : Array UInt8} {Q : Value → Shared → Prop} (H : St c T mu s) (hx : (x, .lst ds1) ∈ T) (hy : (y, .byt b) ∈ T)
    (k : ∀ z TI TO i1 i2 tl1 tl2 T' s', (∀ c' : Cx, Nx c' T' i1 tl1 ds1) → (∀ c' : Cx, Nx c' T' i2 tl2 (b.toList.map fun u => .int u.toNat)) → St c ((.ref TI, .obj (pairO (.ref i1) (.ref i2))) :: T') (mu ++ tlZ tl1 tl2 z TI TO 0) s' → (∀ p ∈ T, p ∈ T') → Q (.ref z) s') : wpAny (Mo c) A (call (.type "zip") [x, y]) Q E s := by
  obtain ⟨l1, vs1, rfl, hl1, _, _⟩ := H.isLst hx
  obtain ⟨t, rfl⟩ := H.isByt hy
  refine callType_new F.called_zip (by decide) (F.typeCall_zip_2 _ _) (F.newCall_zip_2 _ _) (fun obj => F.args_object_init_3 obj _ _) F.entry_zip_new (zip_newB l1 vs1.toArray b t) ⟨hl1, ?_⟩
  have z1 : (zipH1 s.heap l1).objs.size = s.heap.objs.size + 1 := Heap.size_push ..
  have z2 : (zipB2 s.heap l1 b t).objs.size = s.heap.objs.size + 2 := by rw [Heap.size_push, z1]
  have z3 : (zipB3 s.heap l1 b t).objs.size = s.heap.objs.size + 3 := by rw [Heap.size_push, z2]
  have z4 : (zipB4 s.heap l1 b t).objs.size = s.heap.objs.size + 4 := by rw [Heap.size_push, z3]
  have g5 : (zipB5 s.heap l1 b t).get? (zipB4 s.heap l1 b t).objs.size = some _ := Heap.get?_push_size _ rfl
  have g4 : (zipB5 s.heap l1 b t).get? (zipB3 s.heap l1 b t).objs.size = some _ := Heap.get?_push_of_some _ (Heap.get?_push_size _ rfl)
  have g3 : (zipB5 s.heap l1 b t).get? (zipB2 s.heap l1 b t).objs.size = some _ := Heap.get?_push_of_some _ (Heap.get?_push_of_some _ (Heap.get?_push_size _ rfl))
  have g2 : (zipB5 s.heap l1 b t).get? (zipH1 s.heap l1).objs.size = some _ := Heap.get?_push_of_some _ (Heap.get?_push_of_some _ (Heap.get?_push_of_some _ (Heap.get?_push_size _ rfl)))
  have g1 : (zipB5 s.heap l1 b t).get? s.heap.objs.size = some _ := Heap.get?_push_of_some _ (Heap.get?_push_of_some _ (Heap.get?_push_of_some _ (Heap.get?_push_of_some _ (Heap.get?_push_size _ rfl))))
  show _ ∧ _
  rw [z2, z3, z4] at g5
  rw [z1, z2] at g3
  rw [z3] at g4
  rw [z1] at g2
  rw [z4]
  refine ⟨⟨_, g5, rfl⟩, k _ _ _ _ _ (tlL s.heap.objs.size l1) (tlB (s.heap.objs.size + 1) b t) T _ (fun c' => nx_of_list hx) (fun c' => nx_of_bytes) (zip_lay (k := s.toks) H rfl rfl rfl g5 g3 g4 (fun g _ => ⟨_, g1, rfl, rfl⟩) (fun g _ => ⟨_, g2, rfl, rfl⟩) fun c o x =>
    Heap.get?_push_of_some _ (Heap.get?_push_of_some _ (Heap.get?_push_of_some _ (Heap.get?_push_of_some _ (Heap.get?_push_of_some _ x))))) fun p hp => hp⟩
theorem it_zip {z TI TO : Addr} {tl1 tl2 : Nat → List (Addr × MD)} {Q : Value → Shared → Prop} (H : St c T (mu ++ tlZ tl1 tl2 z TI TO 0) s) (k : Q (.ref z) s) : wpAny (Mo c) A (pyIter (.ref z)) Q E s := by
  obtain ⟨g, _, hz⟩ := H.at0 (a := z) (md := .obj (zipO .none TI TO)) (by simp)
  exact wpAny_pyIter_zip hz k
end
local macro_rules | `(tactic| tb_rel) => `(tactic| with_reducible (first | exact Look.here | (apply Look.there; tb_rel)))
local macro_rules | `(tactic| tb_start) => `(tactic| first | exact List.mem_cons_self | assumption | (apply List.mem_cons_of_mem; tb_start))
local macro_rules | `(tactic| ktr_room) => `(tactic| first
  | exact Upto.nil
  | ((with_reducible apply Upto.new); (first | rfl | assumption | (focus (congr 1; first | done | omega | assumption | (simp only [List.length_map]; done)))); ktr_room)
  | ((with_reducible apply Upto.old); (tb_rel); (decide); ktr_room))
local macro_rules | `(tactic| ktr_units) => `(tactic| first | exact Binds.nil | (refine Binds.cons rfl (by tb_start) ?_; ktr_units))
-- one step of an expression or a statement
local macro_rules | `(tactic| ktr_rel) => `(tactic| first
  | (with_reducible first | refine wpAny_BinOp ?_ | refine wpAny_UnaryOp ?_ | refine BoolOp_and ?_ | refine BoolOp_one ?_ | refine wpAny_IfExp ?_ | refine Subscript_ ?_ | refine List_ ?_ | refine Tuple_ ?_ | refine wpAny_Call_ofName ?_ | refine args_nil ?_ | refine kwAll_nil ?_ | refine kwAll_cons ?_ | refine wpAny_truthy_bool ?_ | refine wpAny_isTrue_BoolOp ?_ | refine wpAny_allTrue_And_nil ?_ | refine wpAny_allTrue_Or_nil ?_ | refine wpAny_allTrue_And_cons ?_ | refine wpAny_allTrue_Or_cons ?_ | refine wpAny_If ?_ | refine wpAny_AugAssign_Name ?_ | refine wpAny_Return_some ?_ | refine ct_int (by assumption) (fun _ _ _ => ?_) | refine ct_none ?_ | refine ct_bool ?_ | refine op_add (by assumption) (by tb_start) (by tb_start) (fun _ _ _ => ?_) | refine op_sub (by assumption) (by tb_start) (by tb_start) (fun _ _ _ => ?_) | refine op_fdiv (by assumption) (by tb_start) (by tb_start) (by decide) (by decide) (fun _ _ _ => ?_) | refine op_fmod (by assumption) (by tb_start) (by tb_start) (by decide) (fun _ _ _ => ?_) | refine op_neg (by assumption) (by tb_start) (fun _ _ _ => ?_) | refine op_iadd (by assumption) (by tb_start) (by tb_start) (fun _ _ _ => ?_) | refine op_isub (by assumption) (by tb_start) (by tb_start) (fun _ _ _ => ?_) | refine op_lt (by assumption) (by tb_start) (by tb_start) ?_ | refine op_gt (by assumption) (by tb_start) (by tb_start) ?_ | refine op_eq (by assumption) (by tb_start) (by tb_start) ?_ | refine op_ne (by assumption) (by tb_start) (by tb_start) ?_)
  | ((with_reducible show ite (true = true) _ _); rw [if_pos rfl])
  | ((with_reducible show ite (false = true) _ _); rw [if_neg Bool.false_ne_true])
  | ((with_reducible show ite (decide _ = true) _ _); first | rw [if_pos (by decide)] | rw [if_neg (by decide)])
  | ((with_reducible show wpAny _ _ (execs [] _) _ _ _); exact nil_next (St.drop (by assumption)))
  | ((with_reducible show wpAny _ _ (execs [_] _) _ _ _); refine one ?_)
  | ((with_reducible show wpAny _ _ (storeName _ _ _) (fun _ => _) _ _); refine sto_end (by assumption) (by tb_start) (by ktr_room))
  | ((with_reducible show wpAny _ _ (eval (PySem.Expr.Name _ _) _) _ _ _); first
      | refine nm_loc (by assumption) (by tb_rel) (fun _ _ => ?_)
      | refine nm_glob (by assumption) (by rfl) ?_
      | refine nm_cellA (by assumption) (by rfl) (by tb_start) (fun _ _ => ?_)
      | refine nm_freeA (by assumption) (by rfl) (by tb_start) (fun _ _ => ?_)
      | refine nm_built (by assumption) (by rfl) (by with_reducible first | exact boot_len | exact boot_max | exact boot_range | exact boot_sum | exact boot_zip | exact boot_isinstance | exact boot_tuple | exact boot_bytes | exact boot_bytearray | (decide +kernel)) (by decide) ?_)
  | ((with_reducible show wpAny _ _ (loadName _ _) _ _ _); refine ld_loc (by assumption) (by tb_rel) (fun _ _ => ?_))
  | ((with_reducible show wpAny _ _ (eval (PySem.Expr.Compare _ [_] [_] _) _) _ _ _); refine wpAny_Compare1 ?_)
  | ((with_reducible refine args_cons ?_ ?he); (case he => rfl))
  | ((with_reducible show wpAny _ _ (isTrue (PySem.Expr.Compare _ [_] [_] _) _ _) _ _ _); refine wpAny_isTrue_Compare1 ?_)
  | ((with_reducible show wpAny _ _ (isTrue (PySem.Expr.Call _ _ _ _) _ _) _ _ _); refine wpAny_isTrue_value ?_)
  | ((with_reducible show wpAny _ _ (isTrue (PySem.Expr.UnaryOp _ _ _) _ _) _ _ _); refine wpAny_isTrue_value ?_)
  | ((with_reducible show wpAny _ _ (compareOp CmpOp.Is _ _) _ _ _); first | refine op_isNone (by assumption) (by tb_start) ?_ | refine op_isNoneR (by assumption) (by tb_start) ?_)
  | ((with_reducible show wpAny _ _ (callWith _ (Value.ref _) _ _ _) _ _ _); first | refine callWith_K (St.top (by assumption)).1 (by rfl) ?_ | refine callWith_KW (St.top (by assumption)).1 (by rfl) (by rfl) ?_)
  | ((with_reducible show wpAny _ _ (callWith _ (Value.builtin _) [_] (backTo _ (starEach [] _)) []) _ _ _); refine cw_self0 ?_)
  | ((with_reducible show wpAny _ _ (callWith _ (Value.builtin _) [_] (backTo _ (starEach (_ :: _) _)) []) _ _ _); refine cw_self ?_)
  | ((with_reducible show wpAny _ _ (callWith _ (Value.builtin _) _ _ _) _ _ _); refine PyProof.Rows.callWith_builtin1 ?_)
  | ((with_reducible show wpAny _ _ (callWith _ (Value.type _) _ _ _) _ _ _); refine PyProof.Rows.callWith_type1 ?_)
  | ((with_reducible show Frag.In _ _ ∧ _); refine ⟨(St.top (by assumption)).1, ?_⟩)
  | ((with_reducible show wpAny _ _ (call (Value.builtin "len") [_]) _ _ _); refine op_len (by assumption) (.inl (by tb_start)) (by first | assumption | (simp only [List.length_map, List.length_cons, List.length_nil]; omega)) (fun _ _ _ => ?_))
  | ((with_reducible show wpAny _ _ (exec (PySem.Stmt.Assign [PySem.Expr.Name _ _] _ _) _) _ _ _); refine wpAny_Assign_Name ?_)
  | ((with_reducible show wpAny _ _ (exec (PySem.Stmt.Assign [PySem.Expr.Subscript _ _ _] _ _) _) _ _ _); refine wpAny_Assign_Subscript ?_)
  | ((with_reducible show wpAny _ _ (exec (PySem.Stmt.AugAssign (PySem.Expr.Subscript _ _ _) _ _ _) _) _ _ _); refine wpAny_AugAssign_SubscriptAny ?_))
/-! ZT1 -/

section
variable {c : Cx} {A : Around} {E : Value → Shared → Prop} {s : Shared} {env : Env} {T : List (Value × D)} {mu : List (Addr × MD)} {L : Addr} {σ : List (Str × D)} {d : D}

/-- all that stands is ground, for a call that only reads and hands an int back -/
theorem St.ro {v : Value} {ds : List D} (H : St c T mu s) (hv : LstV T mu v ds) : ∃ c' : Cx, c'.w = c.w ∧ St c' ((v, .lst ds) :: T) [] s ∧
    ∀ T' s' u i, St c' ((u, .int i) :: T') [] s' → St c ((u, .int i) :: T) mu s' := by
  have H0 := H
  obtain ⟨ge, os, g, le, C⟩ := H0
  refine ⟨{ c with g₀ := s.heap.get?, fr := fun _ => none }, rfl, ⟨ge, os, s.heap.get?, GLe.refl _, C.gd.mono C.kg, fun _ _ e => e, fun _ _ e => (nomatch e), fun _ _ e => (nomatch e), fun p hp => ?_, fun p hp => (nomatch hp), fun p hp => (nomatch hp), List.nodup_nil⟩, fun T' s' u i H' => ?_⟩
  · rcases List.mem_cons.mp hp with rfl | hp
    · rcases hv with hv | ⟨a, rfl, hv⟩
      · exact (C.tm _ hv).mono C.kg
      · obtain ⟨vs, n, ho, hr⟩ := C.mr _ hv
        have hr' := hr.mono C.kg
        exact .lst ho hr'.1 hr'.2
    · exact (C.tm p hp).mono C.kg
  · obtain ⟨ge', os', g', le', C'⟩ := H'
    dsimp only at ge' os' le' C'
    obtain ⟨t, e⟩ : ∃ t, u = .int i t := by
      have := C'.tm (u, .int i) (.head _)
      cases this with
      | int i t => exact ⟨t, rfl⟩
    subst e
    refine St.intv i t ?_
    exact ⟨ge', os', g, le, ⟨C.gd, fun b o e => C'.kg b o (le' b o (C.kg b o e)), fun b o e => C'.kg b o (le' b o (C.kf b o e)), C.gf, C.tm, fun p hp => (C.mr p hp).at' (GLe.refl g) fun o e => C'.kg _ o (le' _ o e), C.gm, C.nd⟩⟩

noncomputable def bR (its : List Int) (x : Int) : Nat := (its.filter (fun y => decide (y ≤ x))).length
theorem bR_of {its : List Int} {x : Int} : ∀ {k : Nat}, k ≤ its.length → (∀ (i : Nat) y, i < k → its[i]? = some y → y ≤ x) → (∀ (i : Nat) y, k ≤ i → its[i]? = some y → x < y) → bR its x = k := by
  induction its with
  | nil => intro k hk _ _; simp at hk; subst hk; rfl
  | cons a r ih =>
    intro k hk h1 h2
    unfold bR at ih ⊢
    cases k with
    | zero =>
      have ha := h2 0 a (Nat.zero_le _) rfl
      rw [List.filter_cons_of_neg (by simpa using ha)]
      exact ih (Nat.zero_le _) (fun i y hi => absurd hi (Nat.not_lt_zero _)) fun i y _ hy => h2 (i + 1) y (Nat.zero_le _) (by simpa using hy)
    | succ k =>
      have ha := h1 0 a (Nat.succ_pos _) rfl
      rw [List.filter_cons_of_pos (by simpa using ha), List.length_cons]
      rw [ih (by simpa using hk) (fun i y hi hy => h1 (i + 1) y (by omega) (by simpa using hy)) fun i y hi hy => h2 (i + 1) y (by omega) (by simpa using hy)]

theorem pw_get {its : List Int} (hs : its.Pairwise (· ≤ ·)) {i j : Nat} {y z : Int} (hi : its[i]? = some y) (hj : its[j]? = some z) (hij : i ≤ j) : y ≤ z := by
  rcases Nat.lt_or_eq_of_le hij with h | rfl
  · rw [List.pairwise_iff_getElem] at hs
    obtain ⟨h1, e1⟩ := List.getElem?_eq_some_iff.mp hi
    obtain ⟨h2, e2⟩ := List.getElem?_eq_some_iff.mp hj
    rw [← e1, ← e2]
    exact hs i j h1 h2 h
  · rw [hi] at hj; cases hj; exact Int.le_refl _
theorem fdiv2 (a b : Nat) : ((a : Int) + (b : Int)).fdiv 2 = ((a + b) / 2 : Nat) := by
  rw [Int.fdiv_eq_ediv_of_nonneg _ (by decide)]; push_cast; rfl

noncomputable def BrI (c : Cx) (L : Addr) (its : List Int) (x : Int) (n : Nat) (s : Shared) : Prop :=
  ∃ lo hi : Nat, n = hi - lo ∧ lo ≤ hi ∧ hi ≤ its.length ∧ (∀ (i : Nat) y, i < lo → its[i]? = some y → y ≤ x) ∧ (∀ (i : Nat) y, hi ≤ i → its[i]? = some y → x < y) ∧
    St c [] [(L, .ns [("a", .lst (its.map .int)), ("x", .int x), ("lo", .int lo), ("hi", .int hi), ("key", .lit .none)])] s

theorem bisect_right_ok {its : List Int} {x : Int} {v y : Value} {Q : Value → Shared → Prop} (hs : its.Pairwise (· ≤ ·)) (H : St c T mu s) (hr : Rm A 1) (hv : LstV T mu v (its.map .int)) (hx : (y, .int x) ∈ T) (hn : its.length ≤ 100000)
    (k : ∀ v s', St c ((v, .int (bR its x)) :: T) mu s' → Q v s') : wpAny (Mo c) A (call (.ref 23) [v, y] []) Q E s := by
  obtain ⟨c', hw, H1, back⟩ := H.ro hv
  rw [show Mo c = Mo c' from congrArg (model pw) hw.symm]
  refine wpAny_mono (Q := fun v s' => ∃ T', St c' ((v, .int (bR its x)) :: T') [] s') ?_ (fun v s' ⟨T', h⟩ => k v s' (back _ _ _ _ h)) fun _ _ e => e
  refine fn_enter (f := 23) (mp := []) (mr := []) (binds := [("a", v), ("x", y), ("lo", .int 0 189), ("hi", .none), ("key", .none)])
    [("a", .lst (its.map .int)), ("x", .int x), ("lo", .int 0), ("hi", .lit .none), ("key", .lit .none)] ((H1.intv 0 189).lit .none) hr.rm rfl rfl rfl
    (kp_binds H1.top.1 fun _ => rfl) rfl rfl (by ktr_units) fun c₂ L s' hw₂ H back => ?_
  · replace H := H.drop
    -- if lo < 0
    refine seq (P := St c₂ [] [(L, .ns [("a", .lst (its.map .int)), ("x", .int x), ("lo", .int 0), ("hi", .lit .none), ("key", .lit .none)])]) (by repeat ktr_rel) fun s' H => ?_
    -- if hi is None
    refine seq (P := St c₂ [] [(L, .ns [("a", .lst (its.map .int)), ("x", .int x), ("lo", .int 0), ("hi", .int its.length), ("key", .lit .none)])]) (by repeat ktr_rel) fun s' H => ?_
    -- if key is None
    refine seq (P := BrI c₂ L its x 0) ?_ fun s' H => ?_
    · iterate 7 ktr_rel
      refine one (while_st (BrI c₂ L its x) its.length ⟨0, its.length, rfl, Nat.zero_le _, Nat.le_refl _, fun i y hi => absurd hi (Nat.not_lt_zero _), fun i y hi hy => ?_, ?_⟩ ?_)
      · rw [List.getElem?_eq_none hi] at hy; cases hy
      · exact H
      · rintro n s E' ⟨lo, hi, rfl, h1, h2, h3, h4, H⟩
        iterate 5 ktr_rel
        by_cases hlt : lo < hi
        · rw [if_pos (by simpa using hlt)]
          replace H := H.drop
          have hmid : (lo + hi) / 2 < hi := by omega
          have hmid' : lo ≤ (lo + hi) / 2 := by omega
          obtain ⟨z, hz⟩ : ∃ z, its[(lo + hi) / 2]? = some z := ⟨its[(lo + hi) / 2]'(by omega), List.getElem?_eq_getElem _⟩
          have e2 := fdiv2 lo hi
          have e1 : D.int (((lo : Int) + (hi : Int)).fdiv 2) = .int ((lo + hi) / 2 : Nat) := by rw [e2]
          generalize hM : (lo + hi) / 2 = M at *
          refine seq (P := St c₂ [] [(L, .ns [("mid", .int M), ("a", .lst (its.map .int)), ("x", .int x), ("lo", .int lo), ("hi", .int hi), ("key", .lit .none)])]) (by repeat ktr_rel) fun s' H => ?_
          refine one (wpAny_If (wpAny_isTrue_Compare1 ?_))
          iterate 4 ktr_rel
          refine op_item (i := M) (by assumption) (.inl (by tb_start)) (by tb_start) (by omega) (d := .int z) (by rw [List.getElem?_map, Int.toNat_natCast, hz]; rfl) (by omega) (fun _ _ => ?_)
          iterate 2 ktr_rel
          by_cases hxz : x < z
          · rw [if_pos (by simpa using hxz)]
            refine one (wpAny_mono (Q := fun f s' => f = .next ∧ St c₂ [] [(L, .ns [("a", .lst (its.map .int)), ("x", .int x), ("lo", .int lo), ("hi", .int M), ("key", .lit .none)])] s') (by repeat ktr_rel) (fun f s' h => ⟨h.1, M - lo, by omega, lo, M, rfl, hmid', by omega, h3, fun i y hi hy => ?_, h.2⟩) fun _ _ e => e)
            have := pw_get hs hz hy hi
            omega
          · rw [if_neg (by simpa using hxz)]
            have e3 : D.int ((M : Int) + 1) = .int (M + 1 : Nat) := by push_cast; rfl
            refine one (wpAny_mono (Q := fun f s' => f = .next ∧ St c₂ [] [(L, .ns [("a", .lst (its.map .int)), ("x", .int x), ("lo", .int (M + 1 : Nat)), ("hi", .int hi), ("key", .lit .none)])] s') (by repeat ktr_rel) (fun f s' h => ⟨h.1, hi - (M + 1), by omega, M + 1, hi, rfl, hmid, h2, fun i y hi hy => ?_, h4, h.2⟩) fun _ _ e => e)
            have := pw_get hs hy hz (by omega)
            omega
        · rw [if_neg (by simpa using hlt)]
          have : lo = hi := by omega
          subst this
          exact ⟨lo, lo, by omega, Nat.le_refl _, h2, h3, h4, H⟩
    obtain ⟨lo, hi, e, h1, h2, h3, h4, H⟩ := H
    have : lo = hi := by omega
    subst this
    refine wpAny_execs_cons ?_
    iterate 2 ktr_rel
    rename_i v' H'
    rw [bR_of h2 h3 h4]
    exact ⟨_, back _ _ _ _ _ _ (.head _) H'⟩
end
/-! ZT3 -/
section
variable {c : Cx} {A : Around} {E : Value → Shared → Prop} {s : Shared} {env : Env} {T : List (Value × D)} {mu : List (Addr × MD)} {L : Addr} {σ : List (Str × D)} {d : D} {row : Addr} {ds : List D}

theorem isub_ok {x y : Value} {a b : Int} {Q : Value → Shared → Prop} (H : St c T mu s) (hr : Rm A 1) (hx : (x, .int a) ∈ T) (hy : (y, .int b) ∈ T) (k : ∀ r s', St c ((r, .int (a - b)) :: T) mu s' → Q r s') :
    wpAny (Mo c) A (call (.ref 69) [x, y] []) Q E s := by
  refine fn_enter (f := 69) (mp := []) (mr := mu) (binds := [("a", x), ("b", y)]) [("a", .int a), ("b", .int b)] H hr.rm rfl rfl rfl (kp_binds H.top.1 fun _ => rfl) rfl rfl (by ktr_units) fun c₂ L s' hw₂ H back => ?_
  refine seq (P := St c₂ [] [(L, .ns [("a", .int (a - b))])]) (by repeat ktr_rel) fun s' H => ?_
  refine wpAny_execs_cons ?_
  iterate 2 ktr_rel
  rename_i H
  exact k _ _ (back _ _ _ _ _ _ (.head _) H)
theorem setitem_ok {u x v : Value} {p : Nat} {Q : Value → Shared → Prop} (H : St c T ((row, .lst ds) :: mu) s) (hr : Rm A 1) (hu : (u, .lit (.ref row)) ∈ T) (hx : (x, .int p) ∈ T) (hv : (v, d) ∈ T) (hp : p < ds.length) (hn : ds.length ≤ 1000)
    (k : ∀ s', St c T ((row, .lst (ds.set p d)) :: mu) s' → Q .none s') : wpAny (Mo c) A (call (.ref 48) [u, x, v] []) Q E s := by
  refine fn_enter (f := 48) (mp := [(row, .lst ds)]) (mr := mu) (binds := [("a", u), ("b", x), ("c", v)]) [("a", .lit (.ref row)), ("b", .int p), ("c", d)] H hr.rm rfl rfl rfl (kp_binds H.top.1 fun _ => rfl) rfl rfl (by ktr_units) fun c₂ L s' hw₂ H back => ?_
  refine seq (P := St c₂ [] [(L, .ns [("a", .lit (.ref row)), ("b", .int p), ("c", d)]), (row, .lst (ds.set p d))]) ?_ fun s' H => ?_
  · iterate 4 ktr_rel
    rename_i H
    exact opv_setItem (i := 1) H (by tb_start) rfl (by tb_start) (by tb_start) hp (by omega) fun s' H => ⟨rfl, H.drop⟩
  refine wpAny_execs_nil (k _ ?_)
  exact (back _ _ _ _ _ _ (.head _) (H.lit .none)).sub fun p hp => .tail _ hp
theorem iadd_ok {u v : Value} {es : List D} {Q : Value → Shared → Prop} (H : St c T ((row, .lst ds) :: mu) s) (hr : Rm A 1) (hu : (u, .lit (.ref row)) ∈ T) (hv : (v, .lst es) ∈ T) (hn : ds.length + es.length ≤ 1000)
    (k : ∀ s', St c T ((row, .lst (ds ++ es)) :: mu) s' → Q (.ref row) s') : wpAny (Mo c) A (call (.ref 55) [u, v] []) Q E s := by
  refine fn_enter (f := 55) (mp := [(row, .lst ds)]) (mr := mu) (binds := [("a", u), ("b", v)]) [("a", .lit (.ref row)), ("b", .lst es)] H hr.rm rfl rfl rfl (kp_binds H.top.1 fun _ => rfl) rfl rfl (by ktr_units) fun c₂ L s' hw₂ H back => ?_
  refine seq (P := St c₂ [] [(L, .ns [("a", .lit (.ref row))]), (row, .lst (ds ++ es))]) ?_ fun s' H => ?_
  · iterate 3 ktr_rel
    rename_i H
    refine opv_iaddL (i := 1) H (by tb_start) rfl (by tb_start) (by omega) fun s' H => ?_
    replace H := H.lit (.ref row)
    exact sto_end H (by tb_start) (by ktr_room)
  refine wpAny_execs_cons ?_
  iterate 2 ktr_rel
  rename_i H
  cases H.isLit (.head _)
  exact k _ ((back _ _ _ _ _ _ (.head _) H).sub fun p hp => .tail _ hp)
theorem imul_ok {u v : Value} {p : Nat} {Q : Value → Shared → Prop} (H : St c T ((row, .lst [d]) :: mu) s) (hr : Rm A 1) (hu : (u, .lit (.ref row)) ∈ T) (hv : (v, .int p) ∈ T) (hn : p ≤ 1000)
    (k : ∀ s', St c T ((row, .lst (List.replicate p d)) :: mu) s' → Q (.ref row) s') : wpAny (Mo c) A (call (.ref 62) [u, v] []) Q E s := by
  refine fn_enter (f := 62) (mp := [(row, .lst [d])]) (mr := mu) (binds := [("a", u), ("b", v)]) [("a", .lit (.ref row)), ("b", .int p)] H hr.rm rfl rfl rfl (kp_binds H.top.1 fun _ => rfl) rfl rfl (by ktr_units) fun c₂ L s' hw₂ H back => ?_
  refine seq (P := St c₂ [] [(L, .ns [("a", .lit (.ref row))]), (row, .lst (List.replicate p d))]) ?_ fun s' H => ?_
  · iterate 3 ktr_rel
    rename_i H
    refine opv_imulL (i := 1) H (by tb_start) rfl (by tb_start) (by omega) fun s' H => ?_
    replace H := H.lit (.ref row)
    exact sto_end H (by tb_start) (by ktr_room)
  refine wpAny_execs_cons ?_
  iterate 2 ktr_rel
  rename_i H
  cases H.isLit (.head _)
  exact k _ ((back _ _ _ _ _ _ (.head _) H).sub fun p hp => .tail _ hp)
end
/-! ZT4 -/
section
variable {c : Cx} {A : Around} {E : Value → Shared → Prop} {s : Shared} {env : Env} {T : List (Value × D)} {mu : List (Addr × MD)} {L : Addr} {σ : List (Str × D)} {d : D} {row : Addr} {ds : List D}

/-- one letter goes into a row -/
noncomputable def ins (row : List Int) (x : Int) : List Int := if bR row x = row.length then row ++ [x] else row.set (bR row x) x
noncomputable def outs (row : List Int) (x : Int) : List Int := (row[bR row x]?).toList
/-- the letters go into the row: the row behind, the letters pushed out -/
noncomputable def laid : List Int → List Int → List Int × List Int
  | row, [] => (row, [])
  | row, x :: r => ((laid (ins row x) r).1, outs row x ++ (laid (ins row x) r).2)

theorem bR_le (its : List Int) (x : Int) : bR its x ≤ its.length := List.length_filter_le _ _
theorem bR_spec {its : List Int} {x : Int} (hs : its.Pairwise (· ≤ ·)) : (∀ (i : Nat) y, i < bR its x → its[i]? = some y → y ≤ x) ∧ (∀ (i : Nat) y, bR its x ≤ i → its[i]? = some y → x < y) := by
  induction its with
  | nil => exact ⟨fun i y _ h => by simp at h, fun i y _ h => by simp at h⟩
  | cons a r ih =>
    have hr := ih (List.pairwise_cons.mp hs).2
    have ha := (List.pairwise_cons.mp hs).1
    by_cases h : a ≤ x
    · have e : bR (a :: r) x = bR r x + 1 := by unfold bR; rw [List.filter_cons_of_pos (by simpa using h), List.length_cons]
      rw [e]
      refine ⟨fun i y hi hy => ?_, fun i y hi hy => ?_⟩
      · cases i with
        | zero => simp at hy; subst hy; exact h
        | succ i => exact hr.1 i y (by omega) (by simpa using hy)
      · cases i with
        | zero => omega
        | succ i => exact hr.2 i y (by omega) (by simpa using hy)
    · have e : bR (a :: r) x = 0 := by
        unfold bR
        rw [List.length_eq_zero_iff, List.filter_eq_nil_iff]
        intro z hz
        rcases List.mem_cons.mp hz with rfl | hz
        · simpa using h
        · have := ha z hz; simp; omega
      rw [e]
      refine ⟨fun i y hi => absurd hi (Nat.not_lt_zero _), fun i y _ hy => ?_⟩
      have hm := List.mem_of_getElem? hy
      rcases List.mem_cons.mp hm with rfl | hm
      · omega
      · have := ha y hm; omega
theorem ins_sorted {row : List Int} {x : Int} (hs : row.Pairwise (· ≤ ·)) : (ins row x).Pairwise (· ≤ ·) := by
  obtain ⟨h1, h2⟩ := bR_spec (x := x) hs
  unfold ins
  split
  · rename_i e
    rw [List.pairwise_append]
    refine ⟨hs, List.pairwise_singleton _ _, fun a ha b hb => ?_⟩
    rw [List.mem_singleton.mp hb]
    obtain ⟨i, hi⟩ := List.mem_iff_getElem?.mp ha
    exact h1 i a (by have := (List.getElem?_eq_some_iff.mp hi).1; omega) hi
  · rename_i e
    have hlt : bR row x < row.length := Nat.lt_of_le_of_ne (bR_le _ _) e
    rw [List.pairwise_iff_getElem]
    intro i j hi hj hij
    simp only [List.length_set] at hi hj
    rw [List.getElem_set, List.getElem_set]
    have hp := List.pairwise_iff_getElem.mp hs
    split
    · split
      · omega
      · have := h2 j _ (by omega) (List.getElem?_eq_getElem hj); omega
    · split
      · exact h1 i _ (by omega) (List.getElem?_eq_getElem hi)
      · exact hp i j hi hj hij
theorem ins_length (row : List Int) (x : Int) : (ins row x).length ≤ row.length + 1 := by
  unfold ins; split <;> simp
theorem outs_length (row : List Int) (x : Int) : (outs row x).length ≤ 1 := by
  unfold outs; cases row[bR row x]? <;> simp

noncomputable def lst (l : List Int) : D := .lst (l.map .int)
noncomputable def LaI (L row o : Addr) (ls : List Int) (row₀ : List Int) (i : Nat) (mu : List (Addr × MD)) : Prop :=
  ∃ rw ow : List Int, rw.Pairwise (· ≤ ·) ∧ rw.length ≤ row₀.length + i ∧ ow.length ≤ i ∧ (laid row₀ ls).1 = (laid rw (ls.drop i)).1 ∧ (laid row₀ ls).2 = ow ++ (laid rw (ls.drop i)).2 ∧
    mu = [(L, .ns [("out", .lit (.ref o)), ("row", .lit (.ref row))]), (row, .lst (rw.map .int)), (o, .lst (ow.map .int))]

theorem law_laid_ok {u v : Value} {ls row₀ : List Int} {Q : Value → Shared → Prop} (hs : row₀.Pairwise (· ≤ ·)) (H : St c T ((row, .lst (row₀.map .int)) :: mu) s) (hr : Rm A 3) (hu : (u, .lit (.ref row)) ∈ T) (hv : (v, .lst (ls.map .int)) ∈ T) (hn : row₀.length + ls.length ≤ 500)
    (k : ∀ r s', St c ((r, .lst ((laid row₀ ls).2.map .int)) :: T) ((row, .lst ((laid row₀ ls).1.map .int)) :: mu) s' → Q r s') : wpAny (Mo c) A (call (.ref 132) [u, v] []) Q E s := by
  refine fn_enter (f := 132) (mp := [(row, .lst (row₀.map .int))]) (mr := mu) (binds := [("row", u), ("letters", v)]) [("row", .lit (.ref row)), ("letters", .lst (ls.map .int))] H hr.rm rfl rfl rfl (kp_binds H.top.1 fun _ => rfl) rfl rfl (by ktr_units) fun c₂ L s' hw₂ H back => ?_
  -- out = []
  refine seq (P := fun s' => ∃ o, St c₂ [] [(L, .ns [("out", .lit (.ref o)), ("row", .lit (.ref row)), ("letters", .lst (ls.map .int))]), (row, .lst (row₀.map .int)), (o, .lst [])] s') ?_ fun s' ⟨o, H⟩ => ?_
  · iterate 3 ktr_rel
    refine op_newListM (ds := []) H.drop (fun p hp => nomatch hp) rfl (Nat.zero_le _) fun o s' H => ?_
    exact sto (H.rot3.lit (.ref o)) (by tb_start) (by ktr_room) fun s' H => ⟨rfl, o, H.drop⟩
  -- for letter in letters
  have hr2 : ∀ env, Rm (A.deeper env) 2 := fun _ => hr.deeper
  refine seq (P := fun s' => St c₂ [] [(L, .ns [("out", .lit (.ref o)), ("row", .lit (.ref row))]), (row, .lst ((laid row₀ ls).1.map .int)), (o, .lst ((laid row₀ ls).2.map .int))] s') ?_ fun s' H => ?_
  · refine wpAny_For ?_
    ktr_rel
    rename_i v1 H
    obtain ⟨a1, _, rfl, _⟩ := H.isLst (.head _)
    refine it_list (H.nsSub (σ' := [("out", .lit (.ref o)), ("row", .lit (.ref row))]) (by simp)) (.inl (.head _)) fun it s' H => ?_
    refine for_its (mu := [(L, .ns [("out", .lit (.ref o)), ("row", .lit (.ref row))]), (row, .lst (row₀.map .int)), (o, .lst [])]) (ds := ls.map .int) (LaI L row o ls row₀) (fun c' _ => its_list (hr2 _).handled (.head _))
      ⟨row₀, [], hs, Nat.le_refl _, Nat.le_refl _, rfl, rfl, rfl⟩ H ?_ ?_
    · rintro c₃ i d mu₁ v s E hw₃ up hd ⟨rw, ow, h1, h2, h3, h4, h5, rfl⟩ H
      rw [List.getElem?_map] at hd
      obtain ⟨x, hx, rfl⟩ := Option.map_eq_some_iff.mp hd
      have hil : i < ls.length := (List.getElem?_eq_some_iff.mp hx).1
      have hdrop : ls.drop i = x :: ls.drop (i + 1) := by
        rw [List.drop_eq_getElem_cons hil]
        rw [List.getElem?_eq_getElem hil] at hx
        cases hx; rfl
      generalize htl : tlL it a1 (i + 1) = tl at H ⊢
      refine own_name (wpAny_assign_Name (sto (σ' := [("letter", .int x), ("out", .lit (.ref o)), ("row", .lit (.ref row))]) H (.head _) (by ktr_room) fun s' H => ?_))
      replace H : St c₃ [] ((L, .ns [("letter", .int x), ("out", .lit (.ref o)), ("row", .lit (.ref row))]) :: (row, .lst (rw.map .int)) :: (o, .lst (ow.map .int)) :: tl) s' := H.drop
      -- place = bisect_right(row, letter)
      refine wpAny_execs_cons (wpAny_mono (Q := fun f s' => f = .next ∧ St c₃ [] ((L, .ns [("place", .int (bR rw x)), ("letter", .int x), ("out", .lit (.ref o)), ("row", .lit (.ref row))]) :: (row, .lst (rw.map .int)) :: (o, .lst (ow.map .int)) :: tl) s') ?_ (fun f s' ⟨e, H⟩ => ?_) fun _ _ e => e)
      · repeat ktr_rel
        rename_i H
        refine bisect_right_ok h1 H ((hr2 _).less (by decide)) (LstV.ck H (by tb_start) (by tb_start)) (by tb_start) (by omega) fun v s' H => ?_
        ktr_rel
      subst e
      refine wpAny_execs_cons (wpAny_mono (Q := fun f s' => f = .next ∧ St c₃ [] ((L, .ns [("out", .lit (.ref o)), ("row", .lit (.ref row))]) :: (row, .lst ((ins rw x).map .int)) :: (o, .lst ((ow ++ outs rw x).map .int)) :: tl) s') ?_ (fun f s' ⟨e, H⟩ => ?_) fun _ _ e => e)
      · -- if place == len(row)
        refine wpAny_If (wpAny_isTrue_Compare1 ?_)
        repeat ktr_rel
        rename_i H
        refine op_len H (LstV.ck H (by tb_start) (by tb_start)) (by rw [List.length_map]; omega) fun v s' H => ?_
        iterate 2 ktr_rel
        replace H := H.drop
        have hle := bR_le rw x
        by_cases hp : bR rw x = rw.length
        · rw [if_pos (by simp; omega)]
          have ho : outs rw x = [] := by unfold outs; rw [List.getElem?_eq_none (by omega)]; rfl
          have hi : ins rw x = rw ++ [x] := by unfold ins; rw [if_pos hp]
          rw [ho, hi, List.append_nil, List.map_append]
          refine one (wpAny_Expr_any ?_)
          repeat ktr_rel
          rename_i H
          refine op_newList (ds := [.int x]) H (mem1 (by tb_start)) rfl (Nat.le_of_ble_eq_true rfl) fun v s' H => ?_
          repeat ktr_rel
          refine iadd_ok H.swap ((hr2 _).less (by decide)) (by tb_start) (by tb_start) (by simp; omega) fun s' H => ⟨rfl, (H.swap.drop).nsSub (by simp)⟩
        · rw [if_neg (by simp; omega)]
          have hlt : bR rw x < rw.length := by omega
          obtain ⟨y, hy⟩ : ∃ y, rw[bR rw x]? = some y := ⟨rw[bR rw x], List.getElem?_eq_getElem hlt⟩
          have ho : outs rw x = [y] := by unfold outs; rw [hy]; rfl
          have hi : ins rw x = rw.set (bR rw x) x := by unfold ins; rw [if_neg hp]
          rw [ho, hi, List.map_append, List.map_set]
          generalize bR rw x = p at *
          refine seq (P := St c₃ [] ((L, .ns [("place", .int p), ("letter", .int x), ("out", .lit (.ref o)), ("row", .lit (.ref row))]) :: (row, .lst (rw.map .int)) :: (o, .lst (ow.map .int ++ [.int y])) :: tl)) ?_ fun s' H => ?_
          · refine wpAny_Expr (ex_append ?_)
            ktr_rel
            rename_i H
            refine ⟨o, _, _, _, .head _, by tb_start, H, ?_⟩
            repeat ktr_rel
            rename_i H
            refine op_item (i := p) H (LstV.ck H (by tb_start) (by tb_start)) (by tb_start) (by omega) (d := .int y) (by rw [List.getElem?_map, Int.toNat_natCast, hy]; rfl) (by omega) (fun v H => ?_)
            refine op_append (i := 2) H rfl (by tb_start) (by simp; omega) fun s' H => ⟨rfl, H.drop⟩
          · refine one (wpAny_Expr_any ?_)
            repeat ktr_rel
            rename_i H
            refine setitem_ok (H.swap.sub fun p hp => hp) ((hr2 _).less (by decide)) (by tb_start) (by tb_start) (by tb_start) (by simp; omega) (by simp; omega) fun s' H => ⟨rfl, (H.swap.drop).nsSub (by simp)⟩
      · subst e
        refine wpAny_execs_nil ⟨_, _, ⟨ins rw x, ow ++ outs rw x, ins_sorted h1, ?_, ?_, ?_, ?_, rfl⟩, H⟩
        · have := ins_length rw x; omega
        · have := outs_length rw x; rw [List.length_append]; omega
        · rw [h4, hdrop, laid]
        · rw [h5, hdrop, laid, List.append_assoc]
    · rintro mu₁ s ⟨rw, ow, h1, h2, h3, h4, h5, rfl⟩ H
      rw [List.length_map, List.drop_length] at h4 h5
      refine ⟨rfl, ?_⟩
      rw [h4, h5]
      simpa [laid] using H.drop
  · refine wpAny_execs_cons ?_
    iterate 2 ktr_rel
    rename_i H
    cases H.isLit (.head _)
    exact k _ _ (back _ _ _ _ _ _ (.head _) H.rot3.rot3.frzL)
end
/-! ZT5 -/
section
variable {c : Cx} {A : Around} {E : Value → Shared → Prop} {s : Shared} {env : Env} {T : List (Value × D)} {mu : List (Addr × MD)} {L : Addr} {σ : List (Str × D)} {d : D}

noncomputable def ahead (e : List Int) (k : Nat) : Int := if k > 2 then e.getD (k - 3) 0 else 0
noncomputable def before (e : List Int) (k : Nat) : Int := if k % 3 > 0 then e.getD (k - 1) 0 else 0
noncomputable def endsTo (hs : List Int) : Nat → List Int
  | 0 => []
  | k + 1 => endsTo hs k ++ [max (ahead (endsTo hs k) k) (before (endsTo hs k) k) + hs.getD k 0]
theorem endsTo_length (hs : List Int) : ∀ k, (endsTo hs k).length = k
  | 0 => rfl
  | k + 1 => by simp [endsTo, endsTo_length hs k]
theorem get_getD {l : List Int} {i : Nat} (h : i < l.length) : l[i]? = some (l.getD i 0) := by
  rw [List.getD_eq_getElem?_getD, List.getElem?_eq_getElem h]; rfl
theorem getmap {l : List Int} {i : Nat} (h : i < l.length) : (l.map D.int)[i]? = some (.int (l.getD i 0)) := by rw [List.getElem?_map, get_getD h]; rfl

noncomputable def LeI (L o : Addr) (hs : List Int) (i : Nat) (mu : List (Addr × MD)) : Prop :=
  mu = [(L, .ns [("ends", .lit (.ref o)), ("hours", .lst (hs.map .int))]), (o, .lst ((endsTo hs i).map .int))]

theorem law_ends_ok {v : Value} {hs : List Int} {Q : Value → Shared → Prop} (H : St c T mu s) (hr : Rm A 2) (hv : (v, .lst (hs.map .int)) ∈ T) (hn : hs.length = 12)
    (k : ∀ r s', St c ((r, .lst ((endsTo hs 12).map .int)) :: T) mu s' → Q r s') : wpAny (Mo c) A (call (.ref 139) [v] []) Q E s := by
  refine fn_enter (f := 139) (mp := []) (mr := mu) (binds := [("hours", v)]) [("hours", .lst (hs.map .int))] H hr.rm rfl rfl rfl (kp_binds H.top.1 fun _ => rfl) rfl rfl (by ktr_units) fun c₂ L s' hw₂ H back => ?_
  refine seq (P := fun s' => ∃ o, St c₂ [] [(L, .ns [("ends", .lit (.ref o)), ("hours", .lst (hs.map .int))]), (o, .lst [])] s') ?_ fun s' ⟨o, H⟩ => ?_
  · iterate 3 ktr_rel
    refine op_newListM (ds := []) H.drop (fun p hp => nomatch hp) rfl (Nat.zero_le _) fun o s' H => ?_
    exact sto (H.swap.lit (.ref o)) (by tb_start) (by ktr_room) fun s' H => ⟨rfl, o, H.drop⟩
  have hr2 : ∀ env, Rm (A.deeper env) 1 := fun _ => hr.deeper
  refine seq (P := fun s' => St c₂ [] [(L, .ns [("ends", .lit (.ref o)), ("hours", .lst (hs.map .int))]), (o, .lst ((endsTo hs 12).map .int))] s') ?_ fun s' H => ?_
  · refine wpAny_For ?_
    repeat ktr_rel
    rename_i H
    refine op_range1 H (by tb_start) fun r t u v s' H => ?_
    refine it_range (n := 12) H (by tb_start) (size_to 12) (small_to (n := 12) (by decide)) fun it s' H => ?_
    refine for_its (mu := [(L, .ns [("ends", .lit (.ref o)), ("hours", .lst (hs.map .int))]), (o, .lst [])]) (LeI L o hs) (fun c' _ => its_range (hr2 _).handled) rfl H ?_ ?_
    · rintro c₃ i d mu₁ v s E hw₃ up hd rfl H
      have hi : i < 12 := by simpa using (List.getElem?_eq_some_iff.mp hd).1
      obtain rfl : d = .int i := by rw [List.getElem?_map, List.getElem?_range hi] at hd; simpa using hd.symm
      have hel : (endsTo hs i).length = i := endsTo_length hs i
      generalize htl : tlR it 0 1 12 (i + 1) = tl at H ⊢
      refine own_name (wpAny_assign_Name (sto (σ' := [("k", .int i), ("ends", .lit (.ref o)), ("hours", .lst (hs.map .int))]) H (.head _) (by ktr_room) fun s' H => ?_))
      replace H : St c₃ [] ((L, .ns [("k", .int i), ("ends", .lit (.ref o)), ("hours", .lst (hs.map .int))]) :: (o, .lst ((endsTo hs i).map .int)) :: tl) s' := H.drop
      refine wpAny_execs_cons (wpAny_mono (Q := fun f s' => f = .next ∧ St c₃ [] ((L, .ns [("ahead", .int (ahead (endsTo hs i) i)), ("k", .int i), ("ends", .lit (.ref o)), ("hours", .lst (hs.map .int))]) :: (o, .lst ((endsTo hs i).map .int)) :: tl) s') ?_ (fun f s' ⟨e, H⟩ => ?_) fun _ _ e => e)
      · repeat ktr_rel
        by_cases h3 : 2 < i
        · rw [if_pos (by simp; omega)]
          repeat ktr_rel
          rename_i H
          refine op_item (i := (i : Int) - 3) H (LstV.ck H (by tb_start) (by tb_start)) (by tb_start) (by omega) (d := .int (ahead (endsTo hs i) i)) ?_ (by omega) (fun v H => ?_)
          · rw [show ((i : Int) - 3).toNat = i - 3 by omega, getmap (by omega)]; simp [ahead, h3]
          · exact sto_end H (by tb_start) (by ktr_room)
        · rw [if_neg (by simp; omega)]
          rw [show ahead (endsTo hs i) i = 0 by simp [ahead, h3]]
          repeat ktr_rel
      subst e
      refine wpAny_execs_cons (wpAny_mono (Q := fun f s' => f = .next ∧ St c₃ [] ((L, .ns [("before", .int (before (endsTo hs i) i)), ("ahead", .int (ahead (endsTo hs i) i)), ("k", .int i), ("ends", .lit (.ref o)), ("hours", .lst (hs.map .int))]) :: (o, .lst ((endsTo hs i).map .int)) :: tl) s') ?_ (fun f s' ⟨e, H⟩ => ?_) fun _ _ e => e)
      · have hm : (i : Int).fmod 3 = ((i % 3 : Nat) : Int) := by rw [Int.fmod_eq_emod_of_nonneg _ (by decide)]; push_cast; rfl
        repeat ktr_rel
        rw [hm]
        by_cases h3 : 0 < i % 3
        · rw [if_pos (by simp; omega)]
          repeat ktr_rel
          rename_i H
          refine op_item (i := (i : Int) - 1) H (LstV.ck H (by tb_start) (by tb_start)) (by tb_start) (by omega) (d := .int (before (endsTo hs i) i)) ?_ (by omega) (fun v H => ?_)
          · rw [show ((i : Int) - 1).toNat = i - 1 by omega, getmap (by omega)]; simp [before, h3]
          · exact sto_end H (by tb_start) (by ktr_room)
        · rw [if_neg (by simp; omega)]
          rw [show before (endsTo hs i) i = 0 by simp [before, h3]]
          repeat ktr_rel
      subst e
      refine wpAny_execs_cons (wpAny_Expr (ex_append ?_))
      ktr_rel
      rename_i H
      refine ⟨o, _, _, _, .head _, by tb_start, H, ?_⟩
      repeat ktr_rel
      rename_i H
      refine op_max (hr2 _).handled H (by tb_start) (by tb_start) fun v s' H => ?_
      repeat ktr_rel
      rename_i H
      refine op_item (i := i) H (.inl (by tb_start)) (by tb_start) (by omega) (d := .int (hs.getD i 0)) (by rw [Int.toNat_natCast]; exact getmap (by omega)) (by omega) (fun v H => ?_)
      ktr_rel
      rename_i H
      refine op_append (i := 1) H rfl (by tb_start) (by simp; omega) fun s' H => ?_
      refine wpAny_execs_nil ⟨_, [], rfl, ?_⟩
      have e : (endsTo hs (i + 1)).map D.int = (endsTo hs i).map D.int ++ [D.int (max (ahead (endsTo hs i) i) (before (endsTo hs i) i) + hs.getD i 0)] := by simp [endsTo]
      rw [e]
      exact H.drop.nsSub (by simp)
    · rintro mu₁ s rfl H
      refine ⟨rfl, H.drop⟩
  · refine wpAny_execs_cons ?_
    iterate 2 ktr_rel
    rename_i H
    cases H.isLit (.head _)
    exact k _ _ (back _ _ _ _ _ _ (.head _) H.swap.frzL)
end
/-! ZT6 -/
section
variable {c : Cx} {A : Around} {E : Value → Shared → Prop} {s : Shared} {env : Env} {T : List (Value × D)} {mu : List (Addr × MD)} {L : Addr} {σ : List (Str × D)} {d : D}

theorem range_flat {α β : Type} (f : α → List β) : ∀ l : List α, (List.range l.length).flatMap (fun i => (l[i]?).elim [] f) = l.flatMap f := by
  intro l
  induction l with
  | nil => rfl
  | cons a r ih =>
    rw [List.length_cons, List.range_succ_eq_map, List.flatMap_cons, List.flatMap_map, List.flatMap_cons]
    simp only [List.getElem?_cons_zero, Option.elim_some, List.getElem?_cons_succ]
    rw [ih]
theorem range_pick {α β : Type} (f : α → Option β) : ∀ l : List α, (List.range l.length).filterMap (fun i => (l[i]?).bind f) = l.filterMap f := by
  intro l
  induction l with
  | nil => rfl
  | cons a r ih =>
    rw [List.length_cons, List.range_succ_eq_map, List.filterMap_cons, List.filterMap_map, List.filterMap_cons]
    simp only [List.getElem?_cons_zero, Option.bind_some, Function.comp_def, List.getElem?_cons_succ]
    rw [ih]

theorem St.ints {v : Value} {l : List Int} (H : St c T mu s) (h : LstV T mu v (l.map .int)) : ∃ (a : Addr) (vs : List Value), v = .ref a ∧ s.heap.IsList a vs.toArray ∧ IntsAre vs l := by
  obtain ⟨a, vs, e, hl, hlen, hi⟩ := H.list h
  refine ⟨a, vs, e, hl, ?_⟩
  have key : ∀ (vs : List Value) (l : List Int), vs.length = l.length → (∀ (i : Nat) x, l[i]? = some x → ∃ t, vs[i]? = some (.int x t)) → IntsAre vs l := by
    intro vs
    induction vs with
    | nil => intro l hl _; cases l with | nil => exact .nil | cons _ _ => simp at hl
    | cons v vs ih =>
      intro l hl h
      cases l with
      | nil => simp at hl
      | cons x l =>
        obtain ⟨t, ht⟩ := h 0 x rfl
        simp at ht; subst ht
        exact .cons x t (ih l (by simpa using hl) fun i y hy => by
          obtain ⟨t, ht⟩ := h (i + 1) y (by simpa using hy)
          exact ⟨t, by simpa using ht⟩)
  refine key vs l (by simpa using hlen) fun i x hx => ?_
  obtain ⟨y, hy, H'⟩ := hi i (.int x) (by rw [List.getElem?_map, hx]; rfl)
  obtain ⟨t, rfl⟩ := H'.isInt (.head _)
  exact ⟨t, hy⟩
theorem op_notin {x y : Value} {k : Int} {l : List Int} {Q : Value → Shared → Prop} (H : St c T mu s) (hx : (x, .int k) ∈ T) (hy : LstV T mu y (l.map .int)) (h : Q (.bool (!(l.any (· == k)))) s) :
    wpAny (Mo c) A (compareOp .NotIn x y) Q E s := by
  obtain ⟨t, rfl⟩ := H.isInt hx
  obtain ⟨a, vs, rfl, hl, hi⟩ := H.ints hy
  exact notin_list_ints hl hi h

noncomputable def lastOf (w : List Int) : Int := w.getD (w.length - 1) 0
noncomputable def nexts (w : List Int) : List Int := [lastOf w + 3, lastOf w + 1]
noncomputable def okStep (w : List Int) (k : Int) : Bool := decide (k < 12) && (k == lastOf w + 3 || decide (0 < k.fmod 3))
noncomputable def grow (w : List Int) (k : Int) : Option (List Int) := if okStep w k = true then some (w ++ [k]) else none
noncomputable def waysAt : Nat → List (List Int)
  | 0 => [[0]]
  | n + 1 => (waysAt n).flatMap fun w => (nexts w).filterMap (grow w)
theorem ways_ok : ∀ n, n < 6 → (waysAt n).length ≤ 20 ∧ ∀ w ∈ waysAt n, 0 < w.length ∧ w.length ≤ 6 ∧ ∀ k ∈ w, 0 ≤ k ∧ k < 12 := by decide +kernel
noncomputable def wlst (ws : List (List Int)) : D := .lst (ws.map lst)
noncomputable def blkW (w : List Int) : List D := ((nexts w).filterMap (grow w)).map lst
theorem blkW_eq (w : List Int) : blkW w = (List.range 2).filterMap (fun j => ((nexts w)[j]?).bind fun k => (grow w k).map lst) := by
  have := range_pick (fun k => (grow w k).map lst) (nexts w)
  rw [show (2 : Nat) = (nexts w).length from rfl, this]
  unfold blkW
  rw [List.map_filterMap]

theorem blk_le (o : Option (List Int)) : (o.elim [] blkW).length ≤ 100 := by
  cases o with
  | none => simp
  | some w => simp only [Option.elim_some, blkW, List.length_map]; exact Nat.le_trans (List.length_filterMap_le _ _) (by simp [nexts])
noncomputable abbrev wCells (L : Nat) (hs : List Int) (n : Nat) (a : Option D) : List (Addr × MD) := [(L + 1 + 1 + 1, .cell a), (L + 1 + 1, .cell (some (wlst (waysAt n)))), (L + 1, .cell (some (lst hs)))]


theorem keepB {α : Type} {x : Sem α} {b : α} {Q : α → Shared → Prop} (H : St c T mu s) (h : wpAny (Mo c) A x (fun v s' => v = b ∧ St c [] mu s') E s) (k : ∀ s', St c [] mu s' → Q b s') : wpAny (Mo c) A x Q E s :=
  wpAny_mono h (fun v s' ⟨e, H⟩ => by subst e; exact k s' H) fun _ _ e => e
noncomputable def TwI (L : Addr) (hs : List Int) (n : Nat) (mu : List (Addr × MD)) : Prop := mu = (L, .ns []) :: wCells L hs n none

/-- the hours at the places of a way -/
noncomputable def hat (hs : List Int) (w : List Int) : List Int := w.map fun k => hs.getD k.toNat 0
noncomputable def others (u v : List Int) : List Int := v.filter fun k => !(u.any (· == k))
noncomputable def wts (hs : List Int) : List Int := (waysAt 5).map fun w => sumL (hat hs w)
noncomputable def pairW (hs : List Int) (a b : Nat) : Int := sumL (hat hs ((waysAt 5).getD a [])) + sumL (hat hs (others ((waysAt 5).getD a []) ((waysAt 5).getD b [])))
noncomputable def bestA (hs : List Int) (b : Nat) (m : Int) : Nat → Int
  | 0 => m
  | a + 1 => max (bestA hs b m a) (pairW hs a b)
noncomputable def bestB (hs : List Int) : Nat → Int
  | 0 => 0
  | b + 1 => bestA hs b (bestB hs b) b
theorem hat_ok {hs w : List Int} (hb : ∀ h ∈ hs, 0 ≤ h ∧ h ≤ 1000) : ∀ i ∈ hat hs w, 0 ≤ i ∧ i ≤ 1000000 := by
  intro i hi
  obtain ⟨k, hk, rfl⟩ := List.mem_map.mp hi
  rw [List.getD_eq_getElem?_getD]
  cases e : hs[k.toNat]? with
  | none => simp
  | some h => have := hb h (List.mem_of_getElem? e); simp; omega
theorem ways5_len : (waysAt 5).length = 10 := by decide +kernel
theorem wts_get {hs : List Int} {a : Nat} (h : a < 10) : ((wts hs).map D.int)[a]? = some (.int (sumL (hat hs ((waysAt 5).getD a [])))) := by
  have h' : a < (waysAt 5).length := by rw [ways5_len]; exact h
  rw [List.getElem?_map, wts, List.getElem?_map, List.getD_eq_getElem?_getD, List.getElem?_eq_getElem h']; rfl
theorem wlst_get {a : Nat} (h : a < 10) : ((waysAt 5).map lst)[a]? = some (lst ((waysAt 5).getD a [])) := by
  have h' : a < (waysAt 5).length := by rw [ways5_len]; exact h
  rw [List.getElem?_map, List.getD_eq_getElem?_getD, List.getElem?_eq_getElem h']; rfl
theorem ways_getD {a : Nat} (h : a < 10) : (waysAt 5).getD a [] ∈ waysAt 5 := by
  have h' : a < (waysAt 5).length := by rw [ways5_len]; exact h
  rw [List.getD_eq_getElem?_getD, List.getElem?_eq_getElem h']; exact List.getElem_mem h'
theorem others_eq (hs u v : List Int) : hat hs (others u v) = v.filterMap fun k => if (!(u.any (· == k))) = true then some (hs.getD k.toNat 0) else none := by
  unfold hat others
  induction v with
  | nil => rfl
  | cons x r ih =>
    rw [List.filter_cons, List.filterMap_cons]
    split
    · rw [List.map_cons, ih]
    · exact ih
noncomputable abbrev twoL (L : Addr) (hs : List Int) (m : Int) : List (Str × D) := [("best", .int m), ("weights", lst (wts hs))]
noncomputable def TwB (L : Addr) (hs : List Int) (b : Nat) (mu : List (Addr × MD)) : Prop := ∃ a, mu = (L, .ns (twoL L hs (bestB hs b))) :: wCells L hs 5 a
noncomputable def TwA (L : Addr) (hs : List Int) (b : Nat) (m : Int) (tl : List (Addr × MD)) (i : Nat) (mu : List (Addr × MD)) : Prop := ∃ a, mu = (L, .ns (("b", .int b) :: twoL L hs (bestA hs b m i))) :: wCells L hs 5 a ++ tl

set_option maxHeartbeats 4000000 in
theorem law_two_ways_ok {v : Value} {hs : List Int} {Q : Value → Shared → Prop} (H : St c T mu s) (hr : Rm A 2) (hv : (v, .lst (hs.map .int)) ∈ T) (hn : hs.length = 12) (hb : ∀ h ∈ hs, 0 ≤ h ∧ h ≤ 1000)
    (k : ∀ r s', St c ((r, .int (bestB hs 10)) :: T) mu s' → Q r s') : wpAny (Mo c) A (call (.ref 144) [v] []) Q E s := by
  refine fn_enterC (f := 144) (mp := []) (mr := mu) (binds := [("hours", v)]) [] (fun L => [(L + 1 + 1 + 1, .cell none), (L + 1 + 1, .cell none), (L + 1, .cell (some (lst hs)))]) H hr.rm rfl rfl rfl rfl rfl
    (fun L => rfl) (fun L => .nil) (fun L => .empty rfl rfl (.empty rfl rfl (.full rfl rfl hv .nil))) fun c₂ L s' hw₂ H back => ?_
  replace H := H.drop
  have hr2 : ∀ env, Rm (A.deeper env) 1 := fun _ => hr.deeper
  -- ways = [[0]]
  refine seq (P := St c₂ [] ((L, .ns []) :: wCells L hs 0 none)) ?_ fun s' H => ?_
  · repeat ktr_rel
    rename_i H
    refine op_newList (ds := [.int 0]) H (mem1 (by tb_start)) rfl (Nat.le_of_ble_eq_true rfl) fun v s' H => ?_
    repeat ktr_rel
    refine op_newList (ds := [lst [0]]) H (mem1 (.head _)) rfl (Nat.le_of_ble_eq_true rfl) fun v s' H => ?_
    exact sto_cell (i := 2) H (.head _) rfl rfl fun s' H => ⟨rfl, H.drop⟩
  -- for step in range(5)
  refine seq (P := St c₂ [] ((L, .ns []) :: wCells L hs 5 none)) ?_ fun s' H => ?_
  · refine wpAny_For ?_
    repeat ktr_rel
    rename_i H
    refine op_range1 H (by tb_start) fun r t u v s' H => ?_
    refine it_range (n := 5) H (by tb_start) (size_to 5) (small_to (n := 5) (by decide)) fun it s' H => ?_
    refine for_its (mu := (L, .ns []) :: wCells L hs 0 none) (TwI L hs) (fun c' _ => its_range (hr2 _).handled) rfl H ?_ ?_
    · rintro c₃ i d mu₁ v s E hw₃ up hd rfl H
      have hi : i < 5 := by simpa using (List.getElem?_eq_some_iff.mp hd).1
      generalize htl : tlR it 0 1 5 (i + 1) = tl at H ⊢
      refine own_name (wpAny_assign_Name (sto (σ' := []) H (.head _) (by ktr_room) fun s' H => ?_))
      replace H := H.drop
      obtain ⟨hlen, hways⟩ := ways_ok i (by omega)
      refine one' (wpAny_Assign_Name (ev_comp2 (cl := []) rfl ?_))
      repeat ktr_rel
      rename_i H
      obtain ⟨a1, _, rfl, _⟩ := H.isLst (.head _)
      refine it_list H (.inl (.head _)) fun it1 s' H => ?_
      refine ⟨it1, _, _, _, _, _, fun i' => ((waysAt i)[i']?).elim [] blkW, rfl, fun c' _ => its_list (hr2 _).handled (.head _), ?_, ?_, H, ?_, ?_⟩
      · intro i' _; exact blk_le _
      · simp only [List.length_map]; omega
      · rintro c₄ C Dd j d v s E acc hw₄ hd H
        rw [List.getElem?_map] at hd
        obtain ⟨w, hw, rfl⟩ := Option.map_eq_some_iff.mp hd
        obtain ⟨hw0, hw1, hwk⟩ := hways w (List.mem_of_getElem? hw)
        generalize htl1 : tlL it1 a1 (j + 1) = tl1 at H ⊢
        refine own_name (wpAny_assign_Name (sto (σ' := [("way", lst w)]) H (.head _) (by ktr_room) fun s' H => ?_))
        have hlast : (w.map D.int)[(w.map D.int).length - 1]? = some (.int (lastOf w)) := by rw [List.length_map, getmap (by omega)]; rfl
        repeat ktr_rel
        rename_i H
        refine op_last H (.inl (by tb_start)) (by tb_start) hlast (fun v H => ?_)
        repeat ktr_rel
        rename_i H
        refine op_last H (.inl (by tb_start)) (by tb_start) hlast (fun v H => ?_)
        repeat ktr_rel
        rename_i H
        refine op_newList (ds := (nexts w).map .int) H (by intro p hp; simp [nexts] at hp; rcases hp with rfl | rfl <;> tb_start) rfl (by simp [nexts]) fun v s' H => ?_
        obtain ⟨a2, _, rfl, _⟩ := H.isLst (.head _)
        refine it_list H (.inl (.head _)) fun it2 s' H => ?_
        refine ⟨it2, _, _, _, _, _, fun j => ((nexts w)[j]?).bind fun k => (grow w k).map lst, rfl, fun c' _ => its_list (hr2 _).handled (.head _), (by simp [nexts]), H, ?_, ?_⟩
        · show ((waysAt i)[j]?).elim [] blkW = _
          rw [hw, Option.elim_some, blkW_eq]; rfl
        · rintro c₅ j' d v s E acc hw₅ hd H
          rw [List.getElem?_map] at hd
          obtain ⟨k', hk', rfl⟩ := Option.map_eq_some_iff.mp hd
          generalize htl2 : tlL it2 a2 (j' + 1) = tl2 at H ⊢
          refine own_name (wpAny_assign_Name (sto (σ' := [("k", .int k'), ("way", lst w)]) H (.head _) (by ktr_room) fun s' H => ?_))
          refine keepB (b := okStep w k') H ?_ fun s' H => ?_
          · refine wpAny_tests_one ?_
            repeat ktr_rel
            rename_i H
            by_cases h1 : k' < 12
            · rw [if_pos (by simpa using h1)]
              repeat ktr_rel
              rename_i H
              refine op_last H (.inl (by tb_start)) (by tb_start) hlast (fun v H => ?_)
              repeat ktr_rel
              rename_i H
              by_cases h2 : k' = lastOf w + 3
              · subst h2
                rw [if_pos (by simp)]
                repeat ktr_rel
                exact ⟨by simp [okStep, h1], H.drop⟩
              · rw [if_neg (by simpa using h2)]
                repeat ktr_rel
                rename_i H
                by_cases h3 : 0 < k'.fmod 3
                · rw [if_pos (by simpa using h3)]
                  repeat ktr_rel
                  exact ⟨by simp [okStep, h1, h3], H.drop⟩
                · rw [if_neg (by simpa using h3)]
                  repeat ktr_rel
                  exact ⟨by simp only [okStep, h1, h2, h3, decide_true, decide_false, Bool.or_false, Bool.true_and]; simpa using h2, H.drop⟩
            · rw [if_neg (by simpa using h1)]
              exact ⟨by simp [okStep, h1], H.drop⟩
          · by_cases hok : okStep w k' = true
            · rw [if_pos hok]
              repeat ktr_rel
              rename_i H
              refine op_newList (ds := [.int k']) H (mem1 (by tb_start)) rfl (Nat.le_of_ble_eq_true rfl) fun v s' H => ?_
              refine op_addL H (.inl (by tb_start)) (.inl (.head _)) (by simp; omega) fun v s' H => ?_
              refine ⟨_, _, ?_, .head _, H.nsSub (by simp)⟩
              simp [hk', grow, hok, lst]
            · rw [if_neg hok]
              exact ⟨_, by simp [hk', grow, hok], H.nsSub (by simp)⟩
      · intro v s' H
        refine sto_cell (i := 2) H (.head _) rfl rfl fun s' H => ?_
        refine ⟨rfl, _, [], rfl, ?_⟩
        have e : wlst (waysAt (i + 1)) = .lst ((List.range ((waysAt i).map lst).length).flatMap fun i' => ((waysAt i)[i']?).elim [] blkW) := by
          rw [List.length_map, range_flat]
          simp only [wlst, waysAt, List.map_flatMap]; rfl
        rw [← e] at H
        exact H.drop
    · rintro mu₁ s rfl H
      exact ⟨rfl, H.drop⟩
  obtain ⟨hlen, hways⟩ := ways_ok 5 (by omega)
  -- weights
  refine seq (P := St c₂ [] ((L, .ns [("weights", lst (wts hs))]) :: wCells L hs 5 none)) ?_ fun s' H => ?_
  · refine st_comp (cl := [("hours", L + 1)]) rfl ?_
    repeat ktr_rel
    rename_i H
    obtain ⟨a1, _, rfl, _⟩ := H.isLst (.head _)
    refine it_list H (.inl (.head _)) fun it1 s' H => ?_
    refine ⟨it1, _, _, [("weights", lst (wts hs))], _, _, _, _, fun i => ((waysAt 5)[i]?).bind fun w => some (.int (sumL (hat hs w))), rfl, fun c' _ => its_list (hr2 _).handled (.head _), ?_, H, ?_, ?_, ?_⟩
    · simp only [List.length_map]; omega
    · rintro c₄ C Dd j d v s E acc hw₄ hd H
      rw [List.getElem?_map] at hd
      obtain ⟨w, hw, rfl⟩ := Option.map_eq_some_iff.mp hd
      obtain ⟨hw0, hw1, hwk⟩ := hways w (List.mem_of_getElem? hw)
      generalize htl1 : tlL it1 a1 (j + 1) = tl1 at H ⊢
      refine own_name (wpAny_assign_Name (sto (σ' := [("way", lst w)]) H (.head _) (by ktr_room) fun s' H => ?_))
      refine wpAny_tests_nil ?_
      rw [if_pos rfl]
      repeat ktr_rel
      refine ev_comp (cl := [("hours", L + 1)]) rfl ?_
      ktr_rel
      rename_i H
      obtain ⟨a2, _, rfl, _⟩ := H.isLst (.head _)
      refine it_list H (.inl (.head _)) fun it2 s' H => ?_
      refine ⟨it2, _, _, _, _, _, fun i => (w[i]?).bind fun k => some (.int (hs.getD k.toNat 0)), rfl, fun c' _ => its_list (hr2 _).handled (.head _), ?_, H, ?_, ?_⟩
      · simp only [List.length_map]; omega
      · rintro c₅ C' Dd' j' d v s E acc hw₅ hd H
        rw [List.getElem?_map] at hd
        obtain ⟨k', hk', rfl⟩ := Option.map_eq_some_iff.mp hd
        generalize htl2 : tlL it2 a2 (j' + 1) = tl2 at H ⊢
        have hk2 := hwk k' (List.mem_of_getElem? hk')
        refine own_name (wpAny_assign_Name (sto (σ' := [("k", .int k')]) H (.head _) (by ktr_room) fun s' H => ?_))
        refine wpAny_tests_nil ?_
        rw [if_pos rfl]
        repeat ktr_rel
        rename_i H
        refine op_item (i := k') H (.inl (by tb_start)) (by tb_start) (by omega) (d := .int (hs.getD k'.toNat 0)) (getmap (by omega)) (by omega) (fun v H => ?_)
        exact ⟨_, _, _, by (try dsimp only); rw [hk']; rfl, .head _, H⟩
      · intro v s' H
        have e : (List.range (w.map D.int).length).filterMap (fun i => (w[i]?).bind fun k => some (D.int (hs.getD k.toNat 0))) = (hat hs w).map .int := by
          rw [List.length_map, range_pick, List.filterMap_eq_map']; simp [hat]
        rw [e] at H
        repeat ktr_rel
        refine op_sum (hr2 _).handled H (.inl (.head _)) (hat_ok hb) (by simp [hat]; omega) fun v s' H => ?_
        exact ⟨_, _, _, by (try dsimp only); rw [hw]; rfl, .head _, H⟩
    · show Upto _ (.lst ((List.range ((waysAt 5).map lst).length).filterMap (fun i => ((waysAt 5)[i]?).bind fun w => some (D.int (sumL (hat hs w)))))) _ _
      have e : (List.range ((waysAt 5).map lst).length).filterMap (fun i => ((waysAt 5)[i]?).bind fun w => some (D.int (sumL (hat hs w)))) = (wts hs).map .int := by
        rw [List.length_map, range_pick, List.filterMap_eq_map']; simp [wts]
      exact .new (congrArg D.lst e) .nil
    · intro s' H; exact H
  -- best = 0
  refine seq (P := St c₂ [] ((L, .ns (twoL L hs 0)) :: wCells L hs 5 none)) (by repeat ktr_rel) fun s' H => ?_
  refine seq (P := fun s' => ∃ a, St c₂ [] ((L, .ns (twoL L hs (bestB hs 10))) :: wCells L hs 5 a) s') ?_ fun s' ⟨a, H⟩ => ?_
  · refine wpAny_For ?_
    repeat ktr_rel
    rename_i H
    refine op_range1 H (by tb_start) fun r t u v s' H => ?_
    refine it_range (n := 10) H (by tb_start) (size_to 10) (small_to (n := 10) (by decide)) fun it s' H => ?_
    refine for_its (mu := (L, .ns (twoL L hs 0)) :: wCells L hs 5 none) (TwB L hs) (fun c' _ => its_range (hr2 _).handled) ⟨_, rfl⟩ H ?_ ?_
    · rintro c₃ b d mu₁ v s E hw₃ up hd ⟨a₀, rfl⟩ H
      have hi : b < 10 := by simpa using (List.getElem?_eq_some_iff.mp hd).1
      obtain rfl : d = .int b := by rw [List.getElem?_map, List.getElem?_range hi] at hd; simpa using hd.symm
      generalize htl : tlR it 0 1 10 (b + 1) = tl at H ⊢
      refine own_name (wpAny_assign_Name (sto (σ' := ("b", .int b) :: twoL L hs (bestB hs b)) H (.head _) (by ktr_room) fun s' H => ?_))
      replace H := H.drop
      refine one' (wpAny_For ?_)
      repeat ktr_rel
      rename_i H
      refine op_range1 H (by tb_start) fun r t u v s' H => ?_
      refine it_range (n := b) H (by tb_start) (size_to b) (small_to (n := b) (by omega)) fun it2 s' H => ?_
      refine for_its (mu := (L, .ns (("b", .int b) :: twoL L hs (bestB hs b))) :: wCells L hs 5 a₀ ++ tl) (TwA L hs b (bestB hs b) tl) (fun c' _ => its_range (hr2 _).handled) ⟨_, rfl⟩ H ?_ ?_
      · rintro c₄ a d mu₁ v s E hw₄ up hd ⟨a₁, rfl⟩ H
        have hia : a < b := by simpa using (List.getElem?_eq_some_iff.mp hd).1
        obtain rfl : d = .int a := by rw [List.getElem?_map, List.getElem?_range hia] at hd; simpa using hd.symm
        generalize htl2 : tlR it2 0 1 b (a + 1) = tl2 at H ⊢
        refine own_name (wpAny_assign_Name (sto_cell (i := 1) H (.head _) rfl rfl fun s' H => ?_))
        replace H := H.drop
        refine one' ?_
        repeat ktr_rel
        rename_i H
        obtain ⟨hb0, hb1, hbk⟩ := hways _ (ways_getD (a := b) hi)
        obtain ⟨ha0, ha1, hak⟩ := hways _ (ways_getD (a := a) (by omega))
        refine op_item (i := a) H (.inl (by tb_start)) (by tb_start) (by omega) (d := .int (sumL (hat hs ((waysAt 5).getD a [])))) (wts_get (by omega)) (by omega) (fun v H => ?_)
        repeat ktr_rel
        refine ev_comp (cl := [("ways", L + 1 + 1), ("hours", L + 1), ("a", L + 1 + 1 + 1)]) rfl ?_
        repeat ktr_rel
        rename_i H
        have gb := wlst_get (a := b) hi
        have ga := wlst_get (a := a) (by omega)
        have hpair : pairW hs a b = sumL (hat hs ((waysAt 5).getD a [])) + sumL (hat hs (others ((waysAt 5).getD a []) ((waysAt 5).getD b []))) := rfl
        generalize hwa : (waysAt 5).getD a [] = wa at *
        generalize hwb : (waysAt 5).getD b [] = wb at *
        refine op_item (i := b) H (.inl (by tb_start)) (by tb_start) (by omega) (d := lst wb) gb (by omega) (fun v H => ?_)
        obtain ⟨a2, _, rfl, _⟩ := H.isLst (.head _)
        refine it_list H (.inl (.head _)) fun it2 s' H => ?_
        refine ⟨it2, _, _, _, _, _, fun i => (wb[i]?).bind fun k => if (!(wa.any (· == k))) = true then some (.int (hs.getD k.toNat 0)) else none, rfl, fun c' _ => its_list (hr2 _).handled (.head _), ?_, H, ?_, ?_⟩
        · simp only [List.length_map]; omega
        · rintro c₅ C' Dd' j' d v s E acc hw₅ hd H
          rw [List.getElem?_map] at hd
          obtain ⟨k', hk', rfl⟩ := Option.map_eq_some_iff.mp hd
          generalize htl3 : tlL it2 a2 (j' + 1) = tl3 at H ⊢
          have hk2 := hbk k' (List.mem_of_getElem? hk')
          refine own_name (wpAny_assign_Name (sto (σ' := [("k", .int k')]) H (.head _) (by ktr_room) fun s' H => ?_))
          refine keepB (b := !(wa.any (· == k'))) H ?_ fun s' H => ?_
          · refine wpAny_tests_one ?_
            repeat ktr_rel
            rename_i H
            refine op_item (i := a) H (.inl (by tb_start)) (by tb_start) (by omega) (d := lst wa) ga (by omega) (fun v H => ?_)
            refine op_notin H (by tb_start) (.inl (.head _)) ?_
            repeat ktr_rel
            exact ⟨rfl, H.drop⟩
          · by_cases hok : (!(wa.any (· == k'))) = true
            · rw [if_pos hok]
              repeat ktr_rel
              rename_i H
              refine op_item (i := k') H (.inl (by tb_start)) (by tb_start) (by omega) (d := .int (hs.getD k'.toNat 0)) (getmap (by omega)) (by omega) (fun v H => ?_)
              exact ⟨_, _, _, by (try dsimp only); rw [hk', Option.bind_some, if_pos hok], .head _, H⟩
            · rw [if_neg hok]
              exact ⟨_, _, by (try dsimp only); rw [hk', Option.bind_some, if_neg hok], H⟩
        · intro v s' H
          have e : (List.range (wb.map D.int).length).filterMap (fun i => (wb[i]?).bind fun k => if (!(wa.any (· == k))) = true then some (D.int (hs.getD k.toNat 0)) else none) = (hat hs (others wa wb)).map .int := by
            rw [List.length_map, range_pick, others_eq, List.map_filterMap]
            congr 1; funext k; split <;> rfl
          rw [e] at H
          repeat ktr_rel
          refine op_sum (hr2 _).handled H (.inl (.head _)) (hat_ok hb) (by have := List.length_filter_le (fun k => !(wa.any (· == k))) wb; simp [hat, others]; omega) fun v s' H => ?_
          repeat ktr_rel
          rename_i H
          refine op_max (hr2 _).handled H (by tb_start) (.head _) fun v s' H => ?_
          rw [← hpair, show max (bestA hs b (bestB hs b) a) (pairW hs a b) = bestA hs b (bestB hs b) (a + 1) from rfl] at H
          refine sto (σ' := ("b", .int b) :: twoL L hs (bestA hs b (bestB hs b) (a + 1))) H (.head _) (by ktr_room) fun s' H => ?_
          exact ⟨rfl, _, [], ⟨_, rfl⟩, H.drop⟩
      · rintro mu₁ s ⟨a₁, rfl⟩ H
        refine ⟨rfl, _, [], ⟨a₁, rfl⟩, ?_⟩
        rw [List.length_map, List.length_range] at H
        exact H.drop.nsSub (σ' := twoL L hs (bestB hs (b + 1))) (fun p hp => .tail _ hp)
    · rintro mu₁ s ⟨a₁, rfl⟩ H
      exact ⟨rfl, a₁, H.drop⟩
  refine wpAny_execs_cons ?_
  iterate 2 ktr_rel
  rename_i H
  exact k _ _ (back _ _ _ (_ :: wCells L hs 5 a) [] _ (.head _) H)
end
/-! ZQ -/
section
variable {c : Cx} {A : Around} {E : Value → Shared → Prop} {s : Shared} {env : Env} {T : List (Value × D)} {mu : List (Addr × MD)} {L : Addr} {σ : List (Str × D)} {d : D} {x y : Value} {Q : Value → Shared → Prop}

theorem eqv_ints (ns ms : List Int) : PyData.eqv (.list (ns.map PyData.int)) (.list (ms.map PyData.int)) = decide (ns = ms) := by
  simp only [PyData.eqv]; exact ked_eqvAll ns ms
theorem op_neL {l m : List Int} (H : St c T mu s) (hu : A.units + 64 < cLine) (hx : LstV T mu x (l.map .int)) (hy : LstV T mu y (m.map .int)) (k : Q (.bool (!decide (l = m))) s) : wpAny (Mo c) A (compareOp .NotEq x y) Q E s := by
  obtain ⟨a, vs, rfl, hl, hi⟩ := H.ints hx
  obtain ⟨b, us, rfl, hl', hi'⟩ := H.ints hy
  refine ne_dataH (reads_of_ints hl hi) (reads_of_ints hl' hi') (shaped_ints l) (shaped_ints m) hu ?_
  rw [eqv_ints]; exact k

/-! dicts -/
noncomputable def sameD (es fs : List (Int × Int)) : Bool := es.length == fs.length && es.all fun e => decide (dget fs e.1 = some e.2)
theorem hits_of {kb : List (Int × Value)} {fs : List (Int × Int)} (hb : IKs kb fs) : ∀ {ka : List (Int × Value)} {es : List (Int × Int)}, IKs ka es → KeqHits A s kb ka (es.all fun e => decide (dget fs e.1 = some e.2)) := by
  intro ka es h
  induction h with
  | nil => exact .nil
  | cons k x t _ ih =>
    rcases hb.val k with ⟨h1, h2⟩ | ⟨y, u, h1, h2⟩
    · rw [List.all_cons, h1]
      exact .miss h2
    · rw [List.all_cons]
      refine .hit h2 ?_ ih
      have := keq_flat (A := A) (s := s) (v := .int x t) (y := .int y u) (d := .int x) (e := .int y) (fun h => .int x t) (fun h => .int y u)
      have e : PyData.eqv (.int x) (.int y) = decide (dget fs k = some x) := by
        rw [h1]; simp only [PyData.eqv]
        by_cases h : x = y
        · subst h; simp
        · have h' : ¬ y = x := fun q => h q.symm
          simp [h, h']
      rw [← e]; exact this
theorem op_neD {es fs : List (Int × Int)} {d : Addr} (H : St c T mu s) (hu : A.units < cLine) (hx : (x, .dic es) ∈ T) (hy : (y, .lit (.ref d)) ∈ T) (hd : (d, .dic fs) ∈ mu) (k : Q (.bool (!sameD es fs)) s) : wpAny (Mo c) A (compareOp .NotEq x y) Q E s := by
  cases H.isLit hy
  obtain ⟨a, o, rfl, ha, ⟨kvs, hk, hi⟩, ho, _⟩ := H.dic hx
  obtain ⟨kvs', hD', hi', hd'⟩ := H.dicM hd
  have hD : s.heap.DictOf (intKind pw c.w) a kvs := Heap.dictOf_iff.mpr ⟨o, ho, hk⟩
  refine keq_ne ha hd' hD hD' hu (fun _ => hits_of hi' hi) ?_
  have e : (kvs.length == kvs'.length && es.all fun e => decide (dget fs e.1 = some e.2)) = sameD es fs := by
    unfold sameD; rw [hi.length, hi'.length]
  rw [e]; exact k

/-! lists of triples -/
noncomputable def trip (t : Int × Int × Int) : D := .tup [.int t.1, .int t.2.1, .int t.2.2]
noncomputable def ptrip (t : Int × Int × Int) : PyData := .tuple [.int t.1, .int t.2.1, .int t.2.2]
theorem ptrip_inj (a b : Int × Int × Int) : PyData.eqv (ptrip a) (ptrip b) = decide (a = b) := by
  obtain ⟨a1, a2, a3⟩ := a
  obtain ⟨b1, b2, b3⟩ := b
  simp only [ptrip, PyData.eqv, PyData.eqvAll, Prod.mk.injEq]
  by_cases h1 : a1 = b1 <;> by_cases h2 : a2 = b2 <;> by_cases h3 : a3 = b3 <;> simp [h1, h2, h3]
theorem eqv_trips : ∀ l m : List (Int × Int × Int), PyData.eqvAll (l.map ptrip) (m.map ptrip) = decide (l = m)
  | [], [] => by simp [PyData.eqvAll]
  | [], _ :: _ => by simp [PyData.eqvAll]
  | _ :: _, [] => by simp [PyData.eqvAll]
  | a :: r, b :: t => by
    simp only [List.map_cons, PyData.eqvAll, ptrip_inj, eqv_trips r t]
    by_cases h : a = b <;> by_cases h' : r = t <;> simp [h, h']
theorem canLay_trips : ∀ l : List (Int × Int × Int), PyData.canLayAll0 (l.map ptrip) = true
  | [] => by simp [PyData.canLayAll0]
  | n :: r => by simp [PyData.canLayAll0, PyData.canLay0, ptrip, canLay_trips r]
theorem depth_trips : ∀ l : List (Int × Int × Int), PyData.depthAll (l.map ptrip) ≤ 3
  | [] => by simp [PyData.depthAll]
  | n :: r => by have := depth_trips r; simp only [List.map_cons, PyData.depthAll, ptrip, PyData.depth]; omega
theorem shaped_trips (l : List (Int × Int × Int)) : SeqAt.shaped (.list (l.map ptrip)) = true := by
  have h1 := depth_trips l
  have h2 : PyData.depth (.list (l.map ptrip)) ≤ 64 := by simp only [PyData.depth]; omega
  show (PyData.canLay0 (.list (l.map ptrip)) && decide (PyData.depth (.list (l.map ptrip)) ≤ 64)) = true
  rw [Bool.and_eq_true]
  exact ⟨by simp only [PyData.canLay0]; exact canLay_trips l, decide_eq_true h2⟩
theorem reads_trip {w : World} {g : GH} {h : Heap} {v : Value} {t : Int × Int × Int} (hg : ∀ b o, g b = some o → h.get? b = some o) (r : Rep w g v (trip t)) : ∃ as, Reads h v (ptrip t) as := by
  unfold trip at r
  cases r with
  | tup ho hc hd hl he =>
    rename_i a o vs n
    obtain ⟨x, y, z, rfl⟩ := len3 hl
    have h1 := he 0 x _ rfl rfl
    have h2 := he 1 y _ rfl rfl
    have h3 := he 2 z _ rfl rfl
    cases h1 with
    | int i t => cases h2 with
      | int i t => cases h3 with
        | int i t => exact ⟨_, .tuple (hg _ _ ho) hc hd (.cons (.int _ _) (.cons (.int _ _) (.cons (.int _ _) .nil)))⟩
theorem reads_trips {w : World} {g : GH} {h : Heap} (hg : ∀ b o, g b = some o → h.get? b = some o) : ∀ {vs : List Value} {l : List (Int × Int × Int)}, RepAll w g vs (l.map trip) → ∃ as, ReadsAll h vs (l.map ptrip) as := by
  intro vs
  induction vs with
  | nil => intro l r; cases l with | nil => exact ⟨_, .nil⟩ | cons _ _ => exact absurd r.1 (by simp)
  | cons v vs ih =>
    intro l r
    cases l with
    | nil => exact absurd r.1 (by simp)
    | cons t l =>
      obtain ⟨as, h1⟩ := reads_trip hg (r.2 0 v (trip t) rfl rfl)
      obtain ⟨bs, h2⟩ := ih (l := l) ⟨by simpa using r.1, fun i u e hu he => r.2 (i + 1) u e (by simpa using hu) (by simpa using he)⟩
      exact ⟨_, .cons h1 h2⟩
theorem St.trips {l : List (Int × Int × Int)} (H : St c T mu s) (hx : (x, .lst (l.map trip)) ∈ T) : ∃ as, Reads s.heap x (.list (l.map ptrip)) as := by
  obtain ⟨_, _, g, _, C⟩ := H
  cases C.tm _ hx with
  | lst ho hl he =>
    obtain ⟨as, h⟩ := reads_trips C.kg ⟨hl, he⟩
    exact ⟨_, .list (C.kg _ _ ho) rfl rfl (by simpa using h)⟩
theorem op_neT {l m : List (Int × Int × Int)} (H : St c T mu s) (hu : A.units + 64 < cLine) (hx : (x, .lst (l.map trip)) ∈ T) (hy : (y, .lst (m.map trip)) ∈ T) (k : Q (.bool (!decide (l = m))) s) : wpAny (Mo c) A (compareOp .NotEq x y) Q E s := by
  obtain ⟨as, r1⟩ := H.trips hx
  obtain ⟨bs, r2⟩ := H.trips hy
  refine ne_dataH r1 r2 (shaped_trips l) (shaped_trips m) hu ?_
  have e : PyData.eqv (.list (l.map ptrip)) (.list (m.map ptrip)) = decide (l = m) := by simp only [PyData.eqv]; exact eqv_trips l m
  rw [e]; exact k
theorem op_neB {b b' : Array UInt8} (H : St c T mu s) (hx : (x, .byt b) ∈ T) (hy : (y, .byt b') ∈ T) (k : Q (.bool (b.toList != b'.toList)) s) : wpAny (Mo c) A (compareOp .NotEq x y) Q E s := by
  obtain ⟨t, rfl⟩ := H.isByt hx
  obtain ⟨u, rfl⟩ := H.isByt hy
  exact PySem.W.ne_bytes k
end
/-! ZH -/
section
variable {c : Cx} {A : Around} {E : Value → Shared → Prop} {s : Shared} {env : Env} {T : List (Value × D)} {mu : List (Addr × MD)} {L : Addr} {σ : List (Str × D)} {d : D}

/-- {k: v} -/
theorem ev_dict1 {ke ve : Expr} {pos : Pos} {Q : Value → Shared → Prop} (H : St c T ((L, .ns σ) :: mu) s)
    (h : ∀ d s, St c T ((L, .ns σ) :: (d, .dic []) :: mu) s → wpAny (Mo c) A (eval ke env) (fun kv s₁ => wpAny (Mo c) A (eval ve env) (fun vv s₂ => ∃ T' k x, St c T' ((L, .ns σ) :: (d, .dic []) :: mu) s₂ ∧ (kv, .int k) ∈ T' ∧ (vv, .int x) ∈ T' ∧
      ∀ r s', St c ((r, .dic [(k, x)]) :: T') ((L, .ns σ) :: mu) s' → Q r s') E s₁) E s)
    (hshape : (evalEachOpt [some ke] env).zip ((evalEach [ve] env).map fun v => do let x ← v; standAt pos; pure x) = [(eval ke env, do let x ← eval ve env; standAt pos; pure x)].map fun p => (some p.1, p.2) := by rfl) :
    wpAny (Mo c) A (eval (.Dict [some ke] [ve] pos) env) Q E s := by
  refine wpAny_Dict_pairs (knd := intKind pw c.w) hshape (by simp) (by simp) (evalPairs_cons ?_)
  have H1 : St c T ((L, .ns σ) :: (s.heap.objs.size, .dic []) :: mu) { s with heap := s.heap.push { cls := .type "dict", data := .dict #[] } } := by
    refine St.swap ?_
    refine H.push (o := default) (k := s.toks) (.dic []) (get?_size_none _) (fun b o e => Heap.get?_push_of_some _ e) fun g ht => ?_
    obtain ⟨o, ho, hk⟩ := Heap.dictOf_iff.mp (Heap.DictOf.new (knd := intKind pw c.w) s.heap)
    exact ⟨o, ho, ⟨[], hk, .nil⟩, H.notSys⟩
  refine wpAny_mono (h _ _ H1) (fun kv s₁ h₁ => wpAny_bind (wpAny_mono h₁ (fun vv s₂ h₂ => wpAny_bind (wpAny_standAt (wpAny_pure (evalPairs_nil ?_)))) fun _ _ e => e)) fun _ _ e => e
  obtain ⟨T', k, x, H2, hk, hx, fin⟩ := h₂
  obtain ⟨t, rfl⟩ := H2.isInt hk
  obtain ⟨u, rfl⟩ := H2.isInt hx
  obtain ⟨kvs, hD, hI, hd⟩ := H2.dicM (d := s.heap.objs.size) (es := []) (.tail _ (.head _))
  cases hI
  refine ⟨[(k, .int x u)], ⟨intKind_is pw c.w k t, rfl, trivial⟩, hD, fun h' hD' hs => fin _ _ ?_⟩
  have H3 := St.set (i := 1) (k := s₂.toks + [(Value.int k t, Value.int x u)].length) (h' := h') (md' := .dic [(k, x)]) H2 rfl (fun b o hb e => (hs.2 b hb).trans e) fun g ht _ => by
    obtain ⟨o, ho, hk⟩ := Heap.dictOf_iff.mp hD'
    exact ⟨o, ho, ⟨_, hk, .cons k x u .nil⟩, hd⟩
  exact St.frzD (St.swap H3)
theorem op_newDictG {pos : Pos} {Q : Value → Shared → Prop} (H : St c T mu s) (k : ∀ v s', St c ((v, .dic []) :: T) mu s' → Q v s') : wpAny (Mo c) A (eval (.Dict [] [] pos) env) Q E s :=
  op_newDict H fun d s' H => k _ _ H.frzD

/-! laid -/
theorem laid_len1 : ∀ (row ls : List Int), (laid row ls).1.length ≤ row.length + ls.length
  | row, [] => by simp [laid]
  | row, x :: r => by
    have h1 := laid_len1 (ins row x) r
    have h2 := ins_length row x
    simp only [laid, List.length_cons]; omega
theorem laid_len2 : ∀ (row ls : List Int), (laid row ls).2.length ≤ ls.length
  | row, [] => by simp [laid]
  | row, x :: r => by
    have h1 := laid_len2 (ins row x) r
    have h2 := outs_length row x
    simp only [laid, List.length_cons, List.length_append]; omega
theorem laid_sorted : ∀ (row ls : List Int), row.Pairwise (· ≤ ·) → (laid row ls).1.Pairwise (· ≤ ·)
  | row, [], h => h
  | row, x :: r, h => laid_sorted (ins row x) r (ins_sorted h)
end
/-! ZT7 -/
section
variable {c : Cx} {A : Around} {E : Value → Shared → Prop} {s : Shared} {env : Env} {T : List (Value × D)} {mu : List (Addr × MD)} {L : Addr} {σ : List (Str × D)} {d : D}

theorem St.dicT {v : Value} {es : List (Int × Int)} (H : St c T mu s) (h : (v, .dic es) ∈ T) : s.TypeIs v "dict" ∧ ∀ a, v = .ref a → ∃ ob, s.heap.get? a = some ob ∧ ob.dict = none := by
  obtain ⟨d, o, rfl, hd, ⟨kvs, hk, hi⟩, ho, _⟩ := H.dic h
  have hD : s.heap.DictOf (intKind pw c.w) d kvs := Heap.dictOf_iff.mpr ⟨o, ho, hk⟩
  exact ⟨hD.typeIs, hD.mapOf.noDict⟩
theorem ex_items {o : Expr} {apos pos : Pos} {Q : Value → Shared → Prop}
    (h : wpAny (Mo c) A (eval o env) (fun ov s₁ => ∃ es T' mu', (ov, .dic es) ∈ T' ∧ St c T' mu' s₁ ∧ wpAny (Mo c) A (callWith pos (.builtin "dict.items") [ov] (backTo pos (starEach [] env)) []) Q E s₁) E s)
    (hbase : attributeBase o "items" env (eval o env) = eval o env := by rfl)
    (hfew : ((backTo pos (starEach [] env)).all (fun x => !x.1) && (backToKw pos (keywordEach [] env)).all (fun x => x.1.isSome)
      && decide (([] : List Expr).length + ([] : List Keyword).length + (if ([] : List Keyword).isEmpty then 0 else 1) < 30)) = true := by rfl)
    (hline : (apos.endLine == pos.line) = true := by rfl) :
    wpAny (Mo c) A (eval (.Call (.Attribute o "items" apos) [] [] pos) env) Q E s :=
  wpAny_Call_method hbase hfew hline PySem.F.plainAttrs_dict PySem.F.slot_dict_items PySem.F.type_dict_items (wpAny_mono h (fun ov s₁ ⟨es, T', mu', hu, H, k⟩ => ⟨(H.dicT hu).1, (H.dicT hu).2, k⟩) fun _ _ e => e)
theorem ex_values {o : Expr} {apos pos : Pos} {Q : Value → Shared → Prop}
    (h : wpAny (Mo c) A (eval o env) (fun ov s₁ => ∃ es T' mu', (ov, .dic es) ∈ T' ∧ St c T' mu' s₁ ∧ wpAny (Mo c) A (callWith pos (.builtin "dict.values") [ov] (backTo pos (starEach [] env)) []) Q E s₁) E s)
    (hbase : attributeBase o "values" env (eval o env) = eval o env := by rfl)
    (hfew : ((backTo pos (starEach [] env)).all (fun x => !x.1) && (backToKw pos (keywordEach [] env)).all (fun x => x.1.isSome)
      && decide (([] : List Expr).length + ([] : List Keyword).length + (if ([] : List Keyword).isEmpty then 0 else 1) < 30)) = true := by rfl)
    (hline : (apos.endLine == pos.line) = true := by rfl) :
    wpAny (Mo c) A (eval (.Call (.Attribute o "values" apos) [] [] pos) env) Q E s :=
  wpAny_Call_method hbase hfew hline PySem.F.plainAttrs_dict PySem.F.slot_dict_values PySem.F.type_dict_values (wpAny_mono h (fun ov s₁ ⟨es, T', mu', hu, H, k⟩ => ⟨(H.dicT hu).1, (H.dicT hu).2, k⟩) fun _ _ e => e)

noncomputable def valSum (es : List (Int × Int)) : Int := sumL (es.map (·.2))
theorem sumL_snoc (l : List Int) (x : Int) : sumL (l ++ [x]) = sumL l + x := by simp [sumL]
noncomputable def CcI (L : Addr) (es : List (Int × Int)) (i : Nat) (mu : List (Addr × MD)) : Prop := mu = [(L, .ns [("nc", .int (sumL ((es.map (·.2)).take i)))])]
theorem count_calls_ok {v : Value} {es : List (Int × Int)} {Q : Value → Shared → Prop} (H : St c T mu s) (hr : Rm A 2) (hv : (v, .dic es) ∈ T) (k : ∀ r s', St c ((r, .int (valSum es)) :: T) mu s' → Q r s') :
    wpAny (Mo c) A (call (.ref 111) [v] []) Q E s := by
  refine fn_enter (f := 111) (mp := []) (mr := mu) (binds := [("callers", v)]) [("callers", .dic es)] H hr.rm rfl rfl rfl (kp_binds H.top.1 fun _ => rfl) rfl rfl (by ktr_units) fun c₂ L s' hw₂ H back => ?_
  replace H := H.drop
  have hr2 : ∀ env, Rm (A.deeper env) 1 := fun _ => hr.deeper
  refine seq (P := St c₂ [] [(L, .ns [("nc", .int 0), ("callers", .dic es)])]) (by repeat ktr_rel) fun s' H => ?_
  refine seq (P := St c₂ [] [(L, .ns [("nc", .int (valSum es))])]) ?_ fun s' H => ?_
  · refine wpAny_For (ex_values ?_)
    repeat ktr_rel
    rename_i H
    refine ⟨es, _, _, .head _, H, ?_⟩
    repeat ktr_rel
    refine op_values H (.head _) fun r d o s' hd hI H => ?_
    obtain ⟨kvs, ep, hO, hI⟩ := hI.open'
    refine it_values H (.head _) (.tail _ (.head _)) hO fun it s' H => ?_
    refine for_itf (mu := [(L, .ns [("nc", .int 0)])]) (CcI L es) (fun c' h => its_values (hr2 _).handled (.tail _ (.head _)) (h ▸ hO) hI) rfl (H.nsSub (by simp)) ?_ ?_
    · rintro c₃ i dd mu₁ v s E hw₃ up hdd rfl H
      rw [List.getElem?_map] at hdd
      obtain ⟨p, hp, rfl⟩ := Option.map_eq_some_iff.mp hdd
      generalize htl : tlV it d kvs.length ep (i + 1) = tl at H ⊢
      refine own_name (wpAny_assign_Name (sto (σ' := [("calls", .int p.2), ("nc", .int (sumL ((es.map (·.2)).take i)))]) H (.head _) (by ktr_room) fun s' H => ?_))
      replace H := H.drop
      refine wpAny_execs_cons (wpAny_mono (Q := fun f s' => f = .next ∧ St c₃ [] ((L, .ns [("nc", .int (sumL ((es.map (·.2)).take (i + 1))))]) :: tl) s') ?_ (fun f s' ⟨e, H⟩ => ?_) fun _ _ e => e)
      · have e : sumL ((es.map (·.2)).take (i + 1)) = sumL ((es.map (·.2)).take i) + p.2 := by
          rw [List.take_add_one, List.getElem?_map, hp, Option.map_some, Option.toList_some, sumL_snoc]
        rw [e]
        repeat ktr_rel
      · subst e
        exact wpAny_execs_nil ⟨_, [], rfl, H⟩
    · rintro mu₁ s rfl H
      refine ⟨rfl, ?_⟩
      have e : (es.map (·.2)).take (es.map fun e => D.int e.2).length = es.map (·.2) := by rw [List.length_map]; exact List.take_of_length_le (by simp)
      rw [e] at H
      exact H.drop
  · refine wpAny_execs_cons ?_
    iterate 2 ktr_rel
    rename_i H
    exact k _ _ (back _ _ _ _ _ _ (.head _) H)

noncomputable def copyD (es : List (Int × Int)) : List (Int × Int) := es.foldl (fun a e => dput a e.1 e.2) []
noncomputable def mergeD (a : List (Int × Int)) (e : Int × Int) : List (Int × Int) := match dget a e.1 with
  | some y => dput a e.1 (y + e.2)
  | none => dput a e.1 e.2
noncomputable def addD (es fs : List (Int × Int)) : List (Int × Int) := fs.foldl mergeD (copyD es)
theorem dput_length (a : List (Int × Int)) (k x : Int) : (dput a k x).length ≤ a.length + 1 := by unfold dput; split <;> simp
theorem mergeD_length (a : List (Int × Int)) (e : Int × Int) : (mergeD a e).length ≤ a.length + 1 := by unfold mergeD; split <;> exact dput_length _ _ _
theorem copy_length (es : List (Int × Int)) : ∀ i, ((es.take i).foldl (fun a e => dput a e.1 e.2) []).length ≤ i
  | 0 => by simp
  | i + 1 => by
    have := copy_length es i
    rw [List.take_add_one, List.foldl_append]
    cases h : es[i]? with
    | none => simp; omega
    | some e => simp only [Option.toList_some, List.foldl_cons, List.foldl_nil]; have := dput_length ((es.take i).foldl (fun a e => dput a e.1 e.2) []) e.1 e.2; omega
theorem merge_length (a fs : List (Int × Int)) : ∀ i, ((fs.take i).foldl mergeD a).length ≤ a.length + i
  | 0 => by simp
  | i + 1 => by
    have := merge_length a fs i
    rw [List.take_add_one, List.foldl_append]
    cases h : fs[i]? with
    | none => simp; omega
    | some e => simp only [Option.toList_some, List.foldl_cons, List.foldl_nil]; have := mergeD_length ((fs.take i).foldl mergeD a) e; omega
noncomputable def AcI (L nd : Addr) (es fs : List (Int × Int)) (i : Nat) (mu : List (Addr × MD)) : Prop := mu = [(L, .ns [("new_callers", .lit (.ref nd)), ("source", .dic fs)]), (nd, .dic ((es.take i).foldl (fun a e => dput a e.1 e.2) []))]
noncomputable def AmI (L nd : Addr) (a fs : List (Int × Int)) (i : Nat) (mu : List (Addr × MD)) : Prop := mu = [(L, .ns [("new_callers", .lit (.ref nd))]), (nd, .dic ((fs.take i).foldl mergeD a))]
theorem add_callers_ok {v u : Value} {es fs : List (Int × Int)} {Q : Value → Shared → Prop} (H : St c T mu s) (hr : Rm A 2) (hv : (v, .dic es) ∈ T) (hu : (u, .dic fs) ∈ T) (hn : es.length + fs.length ≤ 1000)
    (k : ∀ r s', St c ((r, .dic (addD es fs)) :: T) mu s' → Q r s') : wpAny (Mo c) A (call (.ref 104) [v, u] []) Q E s := by
  refine fn_enter (f := 104) (mp := []) (mr := mu) (binds := [("target", v), ("source", u)]) [("target", .dic es), ("source", .dic fs)] H hr.rm rfl rfl rfl (kp_binds H.top.1 fun _ => rfl) rfl rfl (by ktr_units) fun c₂ L s' hw₂ H back => ?_
  replace H := H.drop
  have hr2 : ∀ env, Rm (A.deeper env) 1 := fun _ => hr.deeper
  refine seq (P := fun s' => ∃ nd, St c₂ [] [(L, .ns [("new_callers", .lit (.ref nd)), ("target", .dic es), ("source", .dic fs)]), (nd, .dic [])] s') ?_ fun s' ⟨nd, H⟩ => ?_
  · iterate 1 ktr_rel
    refine op_newDict H fun nd s' H => ?_
    exact sto (H.swap.lit (.ref nd)) (by tb_start) (by ktr_room) fun s' H => ⟨rfl, nd, H.drop⟩
  refine seq (P := St c₂ [] [(L, .ns [("new_callers", .lit (.ref nd)), ("source", .dic fs)]), (nd, .dic (copyD es))]) ?_ fun s' H => ?_
  · refine wpAny_For (ex_items ?_)
    repeat ktr_rel
    rename_i H
    refine ⟨es, _, _, .head _, H, ?_⟩
    repeat ktr_rel
    refine op_items H (.head _) fun r d o s' hd hI H => ?_
    obtain ⟨kvs, ep, hO, hI⟩ := hI.open'
    refine it_items H (.head _) (.tail _ (.head _)) hO fun it s' H => ?_
    refine for_itf (mu := [(L, .ns [("new_callers", .lit (.ref nd)), ("source", .dic fs)]), (nd, .dic [])]) (AcI L nd es fs) (fun c' h => its_items (hr2 _).handled (.tail _ (.head _)) (h ▸ hO) hI) rfl (H.nsSub (by simp)) ?_ ?_
    · rintro c₃ i dd mu₁ v s E hw₃ up hdd rfl H
      rw [List.getElem?_map] at hdd
      obtain ⟨p, hp, rfl⟩ := Option.map_eq_some_iff.mp hdd
      refine own_items H fun s' H => ?_
      generalize htl : tlI it d kvs.length ep (i + 1) = tl at H ⊢
      refine asg_tup2 (hr2 _).handled H (.head _) fun a b s' H => ?_
      refine wpAny_assign_Name (sto (σ' := [("func", .int p.1), ("new_callers", .lit (.ref nd)), ("source", .dic fs)]) H (.head _) (by ktr_room) fun s' H => ?_)
      refine wpAny_assign_Name (sto (σ' := [("caller", .int p.2), ("func", .int p.1), ("new_callers", .lit (.ref nd)), ("source", .dic fs)]) H (.tail _ (.head _)) (by ktr_room) fun s' H => ?_)
      replace H := H.drop
      have hlen := copy_length es i
      have hlt := (List.getElem?_eq_some_iff.mp hp).1
      refine wpAny_execs_cons ?_
      repeat ktr_rel
      rename_i H
      refine op_put (i := 1) H (by tb_start) rfl (by tb_start) (by tb_start) (by omega) fun s' H => ?_
      refine wpAny_execs_nil ⟨_, [], rfl, ?_⟩
      have e : (es.take (i + 1)).foldl (fun a e => dput a e.1 e.2) [] = dput ((es.take i).foldl (fun a e => dput a e.1 e.2) []) p.1 p.2 := by
        rw [List.take_add_one, hp, Option.toList_some, List.foldl_append]; rfl
      rw [e]
      exact H.drop.nsSub (by simp)
    · rintro mu₁ s rfl H
      refine ⟨rfl, ?_⟩
      rw [List.length_map, List.take_length] at H
      exact H.drop
  refine seq (P := St c₂ [] [(L, .ns [("new_callers", .lit (.ref nd))]), (nd, .dic (addD es fs))]) ?_ fun s' H => ?_
  · refine wpAny_For (ex_items ?_)
    repeat ktr_rel
    rename_i H
    refine ⟨fs, _, _, .head _, H, ?_⟩
    repeat ktr_rel
    refine op_items H (.head _) fun r d o s' hd hI H => ?_
    obtain ⟨kvs, ep, hO, hI⟩ := hI.open'
    refine it_items H (.head _) (.tail _ (.head _)) hO fun it s' H => ?_
    refine for_itf (mu := [(L, .ns [("new_callers", .lit (.ref nd))]), (nd, .dic (copyD es))]) (AmI L nd (copyD es) fs) (fun c' h => its_items (hr2 _).handled (.tail _ (.head _)) (h ▸ hO) hI) rfl (H.nsSub (by simp)) ?_ ?_
    · rintro c₃ i dd mu₁ v s E hw₃ up hdd rfl H
      rw [List.getElem?_map] at hdd
      obtain ⟨p, hp, rfl⟩ := Option.map_eq_some_iff.mp hdd
      refine own_items H fun s' H => ?_
      generalize htl : tlI it d kvs.length ep (i + 1) = tl at H ⊢
      refine asg_tup2 (hr2 _).handled H (.head _) fun a b s' H => ?_
      refine wpAny_assign_Name (sto (σ' := [("func", .int p.1), ("new_callers", .lit (.ref nd))]) H (.head _) (by ktr_room) fun s' H => ?_)
      refine wpAny_assign_Name (sto (σ' := [("caller", .int p.2), ("func", .int p.1), ("new_callers", .lit (.ref nd))]) H (.tail _ (.head _)) (by ktr_room) fun s' H => ?_)
      replace H := H.drop
      have hlen := merge_length (copyD es) fs i
      have hlen2 := copy_length es es.length
      rw [List.take_length] at hlen2
      replace hlen2 : (copyD es).length ≤ es.length := hlen2
      have hlt := (List.getElem?_eq_some_iff.mp hp).1
      have e : (fs.take (i + 1)).foldl mergeD (copyD es) = mergeD ((fs.take i).foldl mergeD (copyD es)) p := by
        rw [List.take_add_one, hp, Option.toList_some, List.foldl_append]; rfl
      generalize hacc : (fs.take i).foldl mergeD (copyD es) = acc at *
      refine wpAny_execs_cons (wpAny_mono (Q := fun f s' => f = .next ∧ St c₃ [] ((L, .ns [("new_callers", .lit (.ref nd))]) :: (nd, .dic (mergeD acc p)) :: tl) s') ?_ (fun f s' ⟨e', H⟩ => ?_) fun _ _ e => e)
      · refine wpAny_If (wpAny_isTrue_Compare1 ?_)
        repeat ktr_rel
        rename_i H
        refine op_in H (by tb_start) (by tb_start) (by tb_start) fun s' H => ?_
        ktr_rel
        cases hg : dget acc p.1 with
        | none =>
          rw [Option.isSome_none]
          repeat ktr_rel
          rename_i H
          refine op_put (i := 1) H (by tb_start) rfl (by tb_start) (by tb_start) (by omega) fun s' H => ?_
          have e2 : mergeD acc p = dput acc p.1 p.2 := by unfold mergeD; rw [hg]
          rw [e2]
          exact ⟨rfl, H.drop.nsSub (by simp)⟩
        | some y =>
          rw [Option.isSome_some]
          repeat ktr_rel
          rename_i H
          refine op_isiTuple H (by tb_start) fun s' H => ?_
          repeat ktr_rel
          rename_i H
          refine op_get H (by tb_start) (by tb_start) (by tb_start) hg fun v s' H => ?_
          repeat ktr_rel
          rename_i H
          refine op_put (i := 1) H (by tb_start) rfl (by tb_start) (.head _) (by omega) fun s' H => ?_
          have e2 : mergeD acc p = dput acc p.1 (y + p.2) := by unfold mergeD; rw [hg]
          rw [e2]
          exact ⟨rfl, H.drop.nsSub (by simp)⟩
      · subst e'
        refine wpAny_execs_nil ⟨_, [], rfl, ?_⟩
        rw [e]; exact H
    · rintro mu₁ s rfl H
      refine ⟨rfl, ?_⟩
      rw [List.length_map, List.take_length] at H
      exact H.drop
  · refine wpAny_execs_cons ?_
    iterate 2 ktr_rel
    rename_i H
    cases H.isLit (.head _)
    exact k _ _ (back _ _ _ _ _ _ (.head _) H.swap.frzD)
end
/-! ZT8 -/
section
variable {c : Cx} {A : Around} {E : Value → Shared → Prop} {s : Shared} {env : Env} {T : List (Value × D)} {mu : List (Addr × MD)} {L : Addr} {σ : List (Str × D)} {d : D}

structure HS where
  row : List Int
  sec : List Int
  told : List Int
  book : List (Int × Int)
noncomputable def bookAll (b : List (Int × Int)) (out : List Int) : List (Int × Int) := out.foldl (fun b one => addD b [(one, 1)]) b
noncomputable def HS.step (h : HS) (p : Int × Nat) : HS :=
  ⟨(laid h.row (List.replicate p.2 p.1)).1, (laid h.sec (laid h.row (List.replicate p.2 p.1)).2).1, h.told ++ [((bR (laid h.row (List.replicate p.2 p.1)).1 p.1 : Nat) : Int)], bookAll h.book (laid h.row (List.replicate p.2 p.1)).2⟩
noncomputable def HS.run (ps : List (Int × Nat)) : HS := ps.foldl HS.step ⟨[], [], [], []⟩
theorem addD_length (es fs : List (Int × Int)) : (addD es fs).length ≤ es.length + fs.length := by
  have h1 := copy_length es es.length
  have h2 := merge_length (copyD es) fs fs.length
  rw [List.take_length] at h1 h2
  replace h1 : (copyD es).length ≤ es.length := h1
  unfold addD; omega
theorem bookAll_length : ∀ (out : List Int) (b : List (Int × Int)), (bookAll b out).length ≤ b.length + out.length
  | [], b => by simp [bookAll]
  | x :: r, b => by
    have h1 := bookAll_length r (addD b [(x, 1)])
    have h2 := addD_length b [(x, 1)]
    simp only [List.length_cons, List.length_nil] at h2
    simp only [bookAll, List.foldl_cons, List.length_cons] at h1 ⊢; omega
structure HS.Ok (h : HS) (i : Nat) : Prop where
  rs : h.row.Pairwise (· ≤ ·)
  ss : h.sec.Pairwise (· ≤ ·)
  rl : h.row.length ≤ 3 * i
  sl : h.sec.length ≤ 3 * i
  tl : h.told.length = i
  bl : h.book.length ≤ 3 * i
theorem HS.Ok.step {h : HS} {i : Nat} {p : Int × Nat} (k : h.Ok i) (hp : p.2 ≤ 3) : (h.step p).Ok (i + 1) := by
  have h1 := laid_len1 h.row (List.replicate p.2 p.1)
  have h2 := laid_len2 h.row (List.replicate p.2 p.1)
  have h3 := laid_len1 h.sec (laid h.row (List.replicate p.2 p.1)).2
  have h4 := bookAll_length (laid h.row (List.replicate p.2 p.1)).2 h.book
  simp only [List.length_replicate] at h1 h2
  have := k.rl; have := k.sl; have := k.tl; have := k.bl
  exact ⟨laid_sorted _ _ k.rs, laid_sorted _ _ k.ss, by simp only [HS.step]; omega, by simp only [HS.step]; omega, by simp only [HS.step, List.length_append, List.length_cons, List.length_nil]; omega, by simp only [HS.step]; omega⟩
theorem HS.ok_at (ps : List (Int × Nat)) (hp : ∀ p ∈ ps, p.2 ≤ 3) : ∀ i, i ≤ ps.length → (HS.run (ps.take i)).Ok i
  | 0, _ => ⟨.nil, .nil, by simp [HS.run], by simp [HS.run], by simp [HS.run], by simp [HS.run]⟩
  | i + 1, hi => by
    have h := HS.ok_at ps hp i (by omega)
    have hlt : i < ps.length := hi
    rw [List.take_add_one, List.getElem?_eq_getElem hlt, Option.toList_some, HS.run, List.foldl_append]
    exact h.step (hp _ (List.getElem_mem hlt))

/-- the lists of the second part -/
noncomputable def dueTo (lasts : List Int) : Nat → List Int
  | 0 => []
  | n + 1 => dueTo lasts n ++ List.replicate (lasts.getD n 0 - (dueTo lasts n).length).toNat (n : Int)
noncomputable def sizeAt (lasts : List Int) (n : Nat) : Int := lasts.getD n 0 - (dueTo lasts n).length
noncomputable def overTo (lasts totals : List Int) : Nat → List (Int × Int)
  | 0 => []
  | n + 1 => if totals.getD n 0 ≠ sizeAt lasts n then dput (overTo lasts totals n) n (totals.getD n 0 - sizeAt lasts n) else overTo lasts totals n

noncomputable abbrev hNs (ends lasts totals : List Int) (two : Int) (row sec told : Addr) (book : List (Int × Int)) : List (Str × D) :=
  [("book", .dic book), ("told", .lit (.ref told)), ("second", .lit (.ref sec)), ("row", .lit (.ref row)), ("ends", lst ends), ("lasts", lst lasts), ("totals", lst totals), ("two", .int two)]
noncomputable abbrev hCh (row sec told : Addr) (h : HS) : List (Addr × MD) := [(row, .lst (h.row.map .int)), (sec, .lst (h.sec.map .int)), (told, .lst (h.told.map .int))]
noncomputable def HoI (L : Addr) (ends lasts totals : List Int) (two : Int) (row sec told : Addr) (ps : List (Int × Nat)) (i : Nat) (mu : List (Addr × MD)) : Prop :=
  mu = (L, .ns (hNs ends lasts totals two row sec told (HS.run (ps.take i)).book)) :: hCh row sec told (HS.run (ps.take i))

noncomputable def HbI (L : Addr) (ends lasts totals : List Int) (two : Int) (row sec told : Addr) (O : List Int) (b : List (Int × Int)) (rest : List (Addr × MD)) (i : Nat) (mu : List (Addr × MD)) : Prop :=
  mu = (L, .ns (("out", lst O) :: hNs ends lasts totals two row sec told (bookAll b (O.take i)))) :: rest
theorem due_length (lasts : List Int) (h : ∀ n, n < lasts.length → 0 ≤ sizeAt lasts n ∧ sizeAt lasts n ≤ 100) : ∀ i, i ≤ lasts.length → (dueTo lasts i).length ≤ 100 * i
  | 0, _ => by simp [dueTo]
  | i + 1, hi => by
    have h1 := due_length lasts h i (by omega)
    have h2 := h i (by omega)
    unfold sizeAt at h2
    simp only [dueTo, List.length_append, List.length_replicate]; omega
theorem over_length (lasts totals : List Int) : ∀ i, (overTo lasts totals i).length ≤ i
  | 0 => by simp [overTo]
  | i + 1 => by
    have h1 := over_length lasts totals i
    simp only [overTo]
    split
    · have := dput_length (overTo lasts totals i) i (totals.getD i 0 - sizeAt lasts i); omega
    · omega
noncomputable def HdI (L : Addr) (ends lasts totals : List Int) (two : Int) (row sec told ov : Addr) (h : HS) (i : Nat) (mu : List (Addr × MD)) : Prop :=
  mu = (L, .ns (("due", lst (dueTo lasts i)) :: ("over", .lit (.ref ov)) :: hNs ends lasts totals two row sec told h.book)) :: hCh row sec told h ++ [(ov, .dic (overTo lasts totals i))]
/-- what a list or bytes of sizes is -/
inductive SizesD (sv : List Nat) : D → Prop
  | lst : SizesD sv (.lst (sv.map fun (n : Nat) => D.int (n : Int)))
  | byt (b : Array UInt8) : b.toList.map (fun u => u.toNat) = sv → SizesD sv (.byt b)

theorem op_zipS {x y : Value} {ds1 : List D} {sv : List Nat} {dsz : D} {Q : Value → Shared → Prop} (hsz : SizesD sv dsz) (H : St c T mu s) (hx : (x, .lst ds1) ∈ T) (hy : (y, dsz) ∈ T)
    (k : ∀ z TI TO i1 i2 tl1 tl2 T' s', (∀ c' : Cx, Nx c' T' i1 tl1 ds1) → (∀ c' : Cx, Nx c' T' i2 tl2 (sv.map fun (n : Nat) => D.int (n : Int))) → St c ((.ref TI, .obj (pairO (.ref i1) (.ref i2))) :: T') (mu ++ tlZ tl1 tl2 z TI TO 0) s' → (∀ p ∈ T, p ∈ T') → Q (.ref z) s') : wpAny (Mo c) A (call (.type "zip") [x, y]) Q E s := by
  cases hsz with
  | lst => exact op_zipL H hx hy k
  | byt b hb =>
    refine op_zipB H hx hy ?_
    have e : (b.toList.map fun u => D.int (u.toNat : Int)) = sv.map fun (n : Nat) => D.int (n : Int) := by rw [← hb, List.map_map]; rfl
    rw [e]; exact k
theorem Nx.mono {T T' : List (Value × D)} {it : Addr} {tl : Nat → List (Addr × MD)} {ds : List D} (N : Nx c T it tl ds) (h : ∀ p ∈ T, p ∈ T') : Nx c T' it tl ds :=
  ⟨fun i hT => N.item i fun p hp => hT p (h p hp), fun hh hT => N.done hh fun p hp => hT p (h p hp)⟩

set_option maxHeartbeats 4000000 in
theorem law_holds_ok {v1 v2 v3 v4 v5 v6 : Value} {lv : List Int} {sv : List Nat} {dsz : D} {ends lasts totals : List Int} {two : Int} {Q : Value → Shared → Prop} (H : St c T mu s) (hr : Rm A 6)
    (h1 : (v1, .lst (lv.map .int)) ∈ T) (h2 : (v2, dsz) ∈ T) (hsz : SizesD sv dsz) (h3 : (v3, .lst (ends.map .int)) ∈ T) (h4 : (v4, .lst (lasts.map .int)) ∈ T) (h5 : (v5, .lst (totals.map .int)) ∈ T) (h6 : (v6, .int two) ∈ T)
    (hl1 : lv.length = 12) (hl2 : sv.length = 12) (hs : ∀ n ∈ sv, n ≤ 3) (hm0 : 0 < lasts.length) (hm : lasts.length ≤ 12) (htm : totals.length = lasts.length) (hsz2 : ∀ n, n < lasts.length → 0 ≤ sizeAt lasts n ∧ sizeAt lasts n ≤ 100) (htot : ∀ t ∈ totals, 0 ≤ t ∧ t ≤ 1000000)
    (e1 : (HS.run (lv.zip sv)).told = ends) (e2 : (HS.run (lv.zip sv)).row = dueTo lasts lasts.length) (e3 : sameD (HS.run (lv.zip sv)).book (overTo lasts totals lasts.length) = true)
    (e4 : valSum (HS.run (lv.zip sv)).book = sumL totals - lasts.getD (lasts.length - 1) 0) (e5 : ((HS.run (lv.zip sv)).row.length : Int) + ((HS.run (lv.zip sv)).sec.length : Int) = two)
    (k : ∀ r s', St c ((r, .lit (.bool true)) :: T) mu s' → Q r s') : wpAny (Mo c) A (call (.ref 151) [v1, v2, v3, v4, v5, v6] []) Q E s := by
  refine fn_enter (f := 151) (mp := []) (mr := mu) (binds := [("letters", v1), ("sizes", v2), ("ends", v3), ("lasts", v4), ("totals", v5), ("two", v6)])
    [("letters", .lst (lv.map .int)), ("sizes", dsz), ("ends", lst ends), ("lasts", lst lasts), ("totals", lst totals), ("two", .int two)] H hr.rm rfl rfl rfl (kp_binds H.top.1 fun _ => rfl) rfl rfl (by ktr_units) fun c₂ L s' hw₂ H back => ?_
  replace H := H.drop
  have hr2 : ∀ env, Rm (A.deeper env) 5 := fun _ => hr.deeper
  -- row = []; second = []; told = []
  refine seq (P := fun s' => ∃ row, St c₂ [] [(L, .ns [("row", .lit (.ref row)), ("letters", .lst (lv.map .int)), ("sizes", dsz), ("ends", lst ends), ("lasts", lst lasts), ("totals", lst totals), ("two", .int two)]), (row, .lst [])] s') ?_ fun s' ⟨row, H⟩ => ?_
  · iterate 3 ktr_rel
    refine op_newListM (ds := []) H.drop (fun p hp => nomatch hp) rfl (Nat.zero_le _) fun o s' H => ?_
    exact sto (H.swap.lit (.ref o)) (by tb_start) (by ktr_room) fun s' H => ⟨rfl, o, H.drop⟩
  refine seq (P := fun s' => ∃ sec, St c₂ [] [(L, .ns [("second", .lit (.ref sec)), ("row", .lit (.ref row)), ("letters", .lst (lv.map .int)), ("sizes", dsz), ("ends", lst ends), ("lasts", lst lasts), ("totals", lst totals), ("two", .int two)]), (row, .lst []), (sec, .lst [])] s') ?_ fun s' ⟨sec, H⟩ => ?_
  · iterate 3 ktr_rel
    refine op_newListM (ds := []) H.drop (fun p hp => nomatch hp) rfl (Nat.zero_le _) fun o s' H => ?_
    exact sto (H.rot3.lit (.ref o)) (by tb_start) (by ktr_room) fun s' H => ⟨rfl, o, H.drop⟩
  refine seq (P := fun s' => ∃ told, St c₂ [] [(L, .ns [("told", .lit (.ref told)), ("second", .lit (.ref sec)), ("row", .lit (.ref row)), ("letters", .lst (lv.map .int)), ("sizes", dsz), ("ends", lst ends), ("lasts", lst lasts), ("totals", lst totals), ("two", .int two)]), (row, .lst []), (sec, .lst []), (told, .lst [])] s') ?_ fun s' ⟨told, H⟩ => ?_
  · iterate 3 ktr_rel
    refine op_newListM (ds := []) H.drop (fun p hp => nomatch hp) rfl (Nat.zero_le _) fun o s' H => ?_
    exact sto (St.toT (mu := [(L, _), (row, _), (sec, _)]) (H.lit (.ref o))) (by tb_start) (by ktr_room) fun s' H => ⟨rfl, o, H.drop⟩
  -- book = {}
  refine seq (P := St c₂ [] [(L, .ns (("letters", .lst (lv.map .int)) :: ("sizes", dsz) :: hNs ends lasts totals two row sec told [])), (row, .lst []), (sec, .lst []), (told, .lst [])]) ?_ fun s' H => ?_
  · iterate 1 ktr_rel
    refine op_newDictG H fun v s' H => ?_
    ktr_rel
  -- the letters
  have hps : ∀ p ∈ lv.zip sv, p.2 ≤ 3 := fun p hp => hs _ (List.of_mem_zip hp).2
  have hpl : (lv.zip sv).length = 12 := by rw [List.length_zip, hl1, hl2]; rfl
  refine seq (P := St c₂ [] ((L, .ns (hNs ends lasts totals two row sec told (HS.run (lv.zip sv)).book)) :: hCh row sec told (HS.run (lv.zip sv)))) ?_ fun s' H => ?_
  · refine wpAny_For ?_
    repeat ktr_rel
    rename_i H
    refine op_zipS hsz H (by tb_start) (by tb_start) fun z TI TO i1 i2 tl1 tl2 T' s' N1 N2 H hT => ?_
    refine it_zip (mu := (L, .ns (("letters", .lst (lv.map .int)) :: ("sizes", dsz) :: hNs ends lasts totals two row sec told [])) :: hCh row sec told ⟨[], [], [], []⟩) H ?_
    refine for_itf (mu := (L, .ns (hNs ends lasts totals two row sec told [])) :: hCh row sec told ⟨[], [], [], []⟩) (HoI L ends lasts totals two row sec told (lv.zip sv))
      (fun c' h => its_zip (hr2 _).handled (.head _) ((N1 c').mono fun p hp => .tail _ hp) ((N2 c').mono fun p hp => .tail _ hp) (by rw [List.length_map, List.length_map, hl1, hl2])) rfl (H.nsSub (fun p hp => .tail _ (.tail _ hp))) ?_ ?_
    · rintro c₃ i dd mu₁ v s E hw₃ up hdd rfl H
      obtain ⟨x, n, hx, hn', rfl⟩ : ∃ x n, lv[i]? = some x ∧ sv[i]? = some n ∧ dd = .tup [.int x, .int n] := by
        rw [List.getElem?_zipWith, List.getElem?_map, List.getElem?_map] at hdd
        cases h1 : lv[i]? with
        | none => rw [h1] at hdd; simp at hdd
        | some x =>
          cases h2 : sv[i]? with
          | none => rw [h1, h2] at hdd; simp at hdd
          | some n => rw [h1, h2] at hdd; simp at hdd; exact ⟨x, n, rfl, rfl, hdd.symm⟩
      have hp : (lv.zip sv)[i]? = some (x, n) := by rw [List.getElem?_zip_eq_some]; exact ⟨hx, hn'⟩
      have hi12 : i < 12 := by have := (List.getElem?_eq_some_iff.mp hx).1; omega
      have hok := HS.ok_at (lv.zip sv) hps i (by omega)
      have hrun : HS.run ((lv.zip sv).take (i + 1)) = (HS.run ((lv.zip sv).take i)).step (x, n) := by
        rw [List.take_add_one, hp, Option.toList_some, HS.run, List.foldl_append]; rfl
      have hn3 : n ≤ 3 := hs _ (List.mem_of_getElem? hn')
      generalize hh : HS.run ((lv.zip sv).take i) = h at *
      refine own_zip H fun s' H => ?_
      generalize htl : tlZ tl1 tl2 z TI TO (i + 1) = tl at H ⊢
      refine asg_tup2 (hr2 _).handled H (.head _) fun a b s' H => ?_
      refine wpAny_assign_Name (sto (σ' := ("letter", .int x) :: hNs ends lasts totals two row sec told h.book) H (.head _) (by ktr_room) fun s' H => ?_)
      refine wpAny_assign_Name (sto (σ' := ("size", .int n) :: ("letter", .int x) :: hNs ends lasts totals two row sec told h.book) H (.tail _ (.head _)) (by ktr_room) fun s' H => ?_)
      replace H := H.drop
      have hrl := hok.rl
      have hsl := hok.sl
      have htl2 := hok.tl
      have hbl := hok.bl
      have hl1' := laid_len1 h.row (List.replicate n x)
      have hl2' := laid_len2 h.row (List.replicate n x)
      have hsrt := laid_sorted h.row (List.replicate n x) hok.rs
      rw [List.length_replicate] at hl1' hl2'
      have hstep : h.step (x, n) = ⟨(laid h.row (List.replicate n x)).1, (laid h.sec (laid h.row (List.replicate n x)).2).1, h.told ++ [((bR (laid h.row (List.replicate n x)).1 x : Nat) : Int)], bookAll h.book (laid h.row (List.replicate n x)).2⟩ := rfl
      generalize hR : (laid h.row (List.replicate n x)).1 = R at *
      generalize hO : (laid h.row (List.replicate n x)).2 = O at *
      -- out = _law_laid(row, imul([letter], size))
      refine wpAny_execs_cons (wpAny_mono (Q := fun f s' => f = .next ∧ St c₃ [] ((L, .ns (("out", lst O) :: ("letter", .int x) :: hNs ends lasts totals two row sec told h.book)) :: (row, .lst (R.map .int)) :: (sec, .lst (h.sec.map .int)) :: (told, .lst (h.told.map .int)) :: tl) s') ?_ (fun f s' ⟨e, H⟩ => ?_) fun _ _ e => e)
      · repeat ktr_rel
        rename_i H
        refine op_newListM (ds := [.int x]) H (mem1 (by tb_start)) rfl (Nat.le_of_ble_eq_true rfl) fun o s' H => ?_
        replace H := H.swap.lit (.ref o)
        repeat ktr_rel
        rename_i H
        refine imul_ok H.swap ((hr2 _).less (by decide)) (by tb_start) (by tb_start) (by omega) fun s' H => ?_
        replace H := H.frzL
        rw [show List.replicate n (D.int x) = (List.replicate n x).map .int from (List.map_replicate).symm] at H
        repeat ktr_rel
        refine law_laid_ok (row₀ := h.row) (ls := List.replicate n x) hok.rs H.swap ((hr2 _).less (by decide)) (by tb_start) (.head _) (by rw [List.length_replicate]; omega) fun r s' H => ?_
        rw [hR, hO] at H
        replace H := H.swap
        refine sto_end H (.head _) ?_
        ktr_room
      subst e
      -- told.append(bisect_right(row, letter))
      refine wpAny_execs_cons (wpAny_mono (Q := fun f s' => f = .next ∧ St c₃ [] ((L, .ns (("out", lst O) :: ("letter", .int x) :: hNs ends lasts totals two row sec told h.book)) :: (row, .lst (R.map .int)) :: (sec, .lst (h.sec.map .int)) :: (told, .lst ((h.told ++ [((bR R x : Nat) : Int)]).map .int)) :: tl) s') ?_ (fun f s' ⟨e, H⟩ => ?_) fun _ _ e => e)
      · refine wpAny_Expr (ex_append ?_)
        ktr_rel
        rename_i H
        refine ⟨told, _, _, _, .head _, by tb_start, H, ?_⟩
        repeat ktr_rel
        rename_i H
        refine bisect_right_ok (its := R) hsrt H ((hr2 _).less (by decide)) (LstV.ck H (by tb_start) (by tb_start)) (by tb_start) (by omega) fun v s' H => ?_
        refine op_append (i := 3) H rfl (.head _) (by simp; omega) fun s' H => ⟨rfl, ?_⟩
        rw [List.map_append]
        exact H.drop
      subst e
      -- for one in out
      have hbk : ∀ i, i ≤ O.length → (bookAll h.book (O.take i)).length ≤ h.book.length + i := fun i hi => by
        have := bookAll_length (O.take i) h.book
        rw [List.length_take] at this; omega
      refine wpAny_execs_cons (wpAny_mono (Q := fun f s' => f = .next ∧ St c₃ [] ((L, .ns (("out", lst O) :: hNs ends lasts totals two row sec told (bookAll h.book O))) :: (row, .lst (R.map .int)) :: (sec, .lst (h.sec.map .int)) :: (told, .lst ((h.told ++ [((bR R x : Nat) : Int)]).map .int)) :: tl) s') ?_ (fun f s' ⟨e, H⟩ => ?_) fun _ _ e => e)
      · refine wpAny_For ?_
        ktr_rel
        rename_i H
        obtain ⟨a1, _, rfl, _⟩ := H.isLst (.head _)
        refine it_list (H.nsSub (σ' := ("out", lst O) :: hNs ends lasts totals two row sec told h.book) (fun p hp => by rcases List.mem_cons.mp hp with rfl | hp; exact .head _; exact .tail _ (.tail _ hp))) (.inl (.head _)) fun it s' H => ?_
        refine for_its (mu := (L, .ns (("out", lst O) :: hNs ends lasts totals two row sec told h.book)) :: (row, .lst (R.map .int)) :: (sec, .lst (h.sec.map .int)) :: (told, .lst ((h.told ++ [((bR R x : Nat) : Int)]).map .int)) :: tl)
          (HbI L ends lasts totals two row sec told O h.book ((row, .lst (R.map .int)) :: (sec, .lst (h.sec.map .int)) :: (told, .lst ((h.told ++ [((bR R x : Nat) : Int)]).map .int)) :: tl)) (fun c' _ => its_list (hr2 _).handled (.head _)) rfl H ?_ ?_
        · rintro c₄ j dd mu₁ v s E hw₄ up hdd rfl H
          rw [List.getElem?_map] at hdd
          obtain ⟨one, hone, rfl⟩ := Option.map_eq_some_iff.mp hdd
          have hjl := (List.getElem?_eq_some_iff.mp hone).1
          have hbj := hbk j (by omega)
          generalize htlj : tlL it a1 (j + 1) = tlj at H ⊢
          refine own_name (wpAny_assign_Name (sto (σ' := ("one", .int one) :: ("out", lst O) :: hNs ends lasts totals two row sec told (bookAll h.book (O.take j))) H (.head _) (by ktr_room) fun s' H => ?_))
          replace H := H.drop
          have hnext : bookAll h.book (O.take (j + 1)) = addD (bookAll h.book (O.take j)) [(one, 1)] := by
            rw [List.take_add_one, hone, Option.toList_some, bookAll, List.foldl_append]; rfl
          refine one' ?_
          repeat ktr_rel
          rename_i H
          refine ev_dict1 H fun dn s H => ?_
          repeat ktr_rel
          rename_i H
          refine ⟨_, one, 1, H, by tb_start, .head _, fun r s' H => ?_⟩
          repeat ktr_rel
          refine add_callers_ok (es := bookAll h.book (O.take j)) (fs := [(one, 1)]) H ((hr2 _).less (by decide)) (by tb_start) (.head _) (by simp; omega) fun r s' H => ?_
          rw [← hnext] at H
          refine sto (σ' := ("out", lst O) :: hNs ends lasts totals two row sec told (bookAll h.book (O.take (j + 1)))) H (.head _) (by ktr_room) fun s' H => ⟨rfl, _, [], rfl, H.drop⟩
        · rintro mu₁ s rfl H
          rw [List.length_map, List.take_length] at H
          exact ⟨rfl, H.drop⟩
      subst e
      -- _law_laid(second, out)
      refine wpAny_execs_cons (wpAny_mono (Q := fun f s' => f = .next ∧ St c₃ [] ((L, .ns (hNs ends lasts totals two row sec told (bookAll h.book O))) :: (row, .lst (R.map .int)) :: (sec, .lst ((laid h.sec O).1.map .int)) :: (told, .lst ((h.told ++ [((bR R x : Nat) : Int)]).map .int)) :: tl) s') ?_ (fun f s' ⟨e, H⟩ => ?_) fun _ _ e => e)
      · refine wpAny_Expr_any ?_
        repeat ktr_rel
        rename_i H
        refine law_laid_ok (row₀ := h.sec) (ls := O) hok.ss H.swap2.swap ((hr2 _).less (by decide)) (by tb_start) (by tb_start) (by omega) fun r s' H => ⟨rfl, ?_⟩
        exact (H.swap.swap2.drop).nsSub (fun p hp => .tail _ hp)
      subst e
      refine wpAny_execs_nil ⟨_, [], rfl, ?_⟩
      rw [hrun, hstep]
      exact H
    · rintro mu₁ s rfl H
      refine ⟨rfl, ?_⟩
      have e : (lv.zip sv).take (List.zipWith (fun a b => D.tup [a, b]) (lv.map .int) (sv.map fun (n : Nat) => D.int (n : Int))).length = lv.zip sv := by
        refine List.take_of_length_le ?_
        rw [List.length_zipWith, List.length_map, List.length_map, hpl, hl1, hl2]; decide
      rw [e] at H
      exact H.drop
  have hok := HS.ok_at (lv.zip sv) hps (lv.zip sv).length (Nat.le_refl _)
  rw [List.take_length, hpl] at hok
  generalize hh : HS.run (lv.zip sv) = h at *
  have hrl := hok.rl
  have hsl := hok.sl
  have htl2 := hok.tl
  -- due = []
  refine seq (P := St c₂ [] ((L, .ns (("due", lst []) :: hNs ends lasts totals two row sec told h.book)) :: hCh row sec told h)) ?_ fun s' H => ?_
  · iterate 3 ktr_rel
    refine op_newList (ds := []) H (fun p hp => nomatch hp) rfl (Nat.zero_le _) fun v s' H => ?_
    refine sto_end H (.head _) ?_
    ktr_room
  -- over = {}
  refine seq (P := fun s' => ∃ ov, St c₂ [] ((L, .ns (("due", lst []) :: ("over", .lit (.ref ov)) :: hNs ends lasts totals two row sec told h.book)) :: hCh row sec told h ++ [(ov, .dic [])]) s') ?_ fun s' ⟨ov, H⟩ => ?_
  · iterate 1 ktr_rel
    refine op_newDict H fun ov s' H => ?_
    replace H := (St.toT (mu := (L, _) :: hCh row sec told h) H).lit (.ref ov)
    refine sto (σ' := ("due", lst []) :: ("over", .lit (.ref ov)) :: hNs ends lasts totals two row sec told h.book) H (.head _) (by ktr_room) fun s' H => ⟨rfl, ov, H.drop⟩
  -- for letter in range(len(lasts))
  refine seq (P := St c₂ [] ((L, .ns (("due", lst (dueTo lasts lasts.length)) :: ("over", .lit (.ref ov)) :: hNs ends lasts totals two row sec told h.book)) :: hCh row sec told h ++ [(ov, .dic (overTo lasts totals lasts.length))])) ?_ fun s' H => ?_
  · refine wpAny_For ?_
    repeat ktr_rel
    rename_i H
    rw [List.length_map] at H
    refine op_range1 H (.head _) fun r t u v s' H => ?_
    refine it_range (n := lasts.length) H (by tb_start) (size_to lasts.length) (small_to (n := lasts.length) (by omega)) fun it s' H => ?_
    refine for_its (mu := (L, .ns (("due", lst []) :: ("over", .lit (.ref ov)) :: hNs ends lasts totals two row sec told h.book)) :: hCh row sec told h ++ [(ov, MD.dic [])]) (HdI L ends lasts totals two row sec told ov h) (fun c' _ => its_range (hr2 _).handled) rfl H ?_ ?_
    · rintro c₃ i d mu₁ v s E hw₃ up hd rfl H
      have hi : i < lasts.length := by simpa using (List.getElem?_eq_some_iff.mp hd).1
      obtain rfl : d = .int i := by rw [List.getElem?_map, List.getElem?_range hi] at hd; simpa using hd.symm
      obtain ⟨hs0, hs1⟩ := hsz2 i hi
      have hdl := due_length lasts hsz2 i (by omega)
      have hol := over_length lasts totals i
      have hsn : sizeAt lasts i = ((sizeAt lasts i).toNat : Nat) := by omega
      have hdue : dueTo lasts (i + 1) = dueTo lasts i ++ List.replicate (sizeAt lasts i).toNat (i : Int) := rfl
      have hover : overTo lasts totals (i + 1) = if totals.getD i 0 ≠ sizeAt lasts i then dput (overTo lasts totals i) i (totals.getD i 0 - sizeAt lasts i) else overTo lasts totals i := rfl
      have hsize : lasts.getD i 0 - ((dueTo lasts i).length : Int) = sizeAt lasts i := rfl
      generalize htl : tlR it 0 1 lasts.length (i + 1) = tl at H ⊢
      generalize hD : dueTo lasts i = Du at *
      generalize hO : overTo lasts totals i = Ov at *
      refine own_name (wpAny_assign_Name (sto (σ' := ("letter", .int i) :: ("due", lst Du) :: ("over", .lit (.ref ov)) :: hNs ends lasts totals two row sec told h.book) H (.head _) (by ktr_room) fun s' H => ?_))
      replace H : St c₃ [] ((L, .ns (("letter", .int i) :: ("due", lst Du) :: ("over", .lit (.ref ov)) :: hNs ends lasts totals two row sec told h.book)) :: hCh row sec told h ++ (ov, .dic Ov) :: tl) s' := H.drop
      -- size
      refine wpAny_execs_cons (wpAny_mono (Q := fun f s' => f = .next ∧ St c₃ [] ((L, .ns (("size", .int (sizeAt lasts i)) :: ("letter", .int i) :: ("due", lst Du) :: ("over", .lit (.ref ov)) :: hNs ends lasts totals two row sec told h.book)) :: hCh row sec told h ++ (ov, .dic Ov) :: tl) s') ?_ (fun f s' ⟨e, H⟩ => ?_) fun _ _ e => e)
      · repeat ktr_rel
        rename_i H
        refine op_item (i := i) H (.inl (by tb_start)) (by tb_start) (by omega) (d := .int (lasts.getD i 0)) (by rw [Int.toNat_natCast]; exact getmap hi) (by omega) (fun v H => ?_)
        repeat ktr_rel
        rename_i H
        rw [List.length_map, hsize] at H
        refine sto_end H (.head _) ?_
        ktr_room
      subst e
      -- due = due + [letter] * size
      refine wpAny_execs_cons (wpAny_mono (Q := fun f s' => f = .next ∧ St c₃ [] ((L, .ns (("size", .int (sizeAt lasts i)) :: ("letter", .int i) :: ("due", lst (dueTo lasts (i + 1))) :: ("over", .lit (.ref ov)) :: hNs ends lasts totals two row sec told h.book)) :: hCh row sec told h ++ (ov, .dic Ov) :: tl) s') ?_ (fun f s' ⟨e, H⟩ => ?_) fun _ _ e => e)
      · rw [hsn] at H
        repeat ktr_rel
        rename_i H
        refine op_newList (ds := [.int i]) H (mem1 (by tb_start)) rfl (Nat.le_of_ble_eq_true rfl) fun v s' H => ?_
        repeat ktr_rel
        rename_i H
        refine op_mulL H (.tail _ (.head _)) (.head _) (by omega) fun r s' H => ?_
        rw [show List.replicate (sizeAt lasts i).toNat (D.int (i : Int)) = (List.replicate (sizeAt lasts i).toNat (i : Int)).map .int from (List.map_replicate).symm] at H
        refine op_addL H (.inl (by tb_start)) (.inl (.head _)) (by simp; omega) fun r s' H => ?_
        rw [← List.map_append, ← hdue, ← hsn] at H
        refine sto_end H (.head _) ?_
        ktr_room
      subst e
      -- if totals[letter] != size
      refine wpAny_execs_cons (wpAny_mono (Q := fun f s' => f = .next ∧ St c₃ [] ((L, .ns (("due", lst (dueTo lasts (i + 1))) :: ("over", .lit (.ref ov)) :: hNs ends lasts totals two row sec told h.book)) :: hCh row sec told h ++ (ov, .dic (overTo lasts totals (i + 1))) :: tl) s') ?_ (fun f s' ⟨e, H⟩ => ?_) fun _ _ e => e)
      · refine wpAny_If (wpAny_isTrue_Compare1 ?_)
        repeat ktr_rel
        rename_i H
        refine op_item (i := i) H (.inl (by tb_start)) (by tb_start) (by omega) (d := .int (totals.getD i 0)) (by rw [Int.toNat_natCast]; exact getmap (by omega)) (by omega) (fun v H => ?_)
        repeat ktr_rel
        rename_i H
        by_cases hne : totals.getD i 0 = sizeAt lasts i
        · have hov : overTo lasts totals (i + 1) = Ov := by rw [hover, if_neg fun h => h hne]
          rw [hov, if_neg (by rw [hne]; simp)]
          exact nil_next (H.drop.nsSub (fun p hp => .tail _ (.tail _ hp)))
        · have hov : overTo lasts totals (i + 1) = dput Ov i (totals.getD i 0 - sizeAt lasts i) := by rw [hover, if_pos hne]
          rw [hov, if_pos (by simpa using hne)]
          repeat ktr_rel
          rename_i H
          refine op_item (i := i) H (.inl (by tb_start)) (by tb_start) (by omega) (d := .int (totals.getD i 0)) (by rw [Int.toNat_natCast]; exact getmap (by omega)) (by omega) (fun v H => ?_)
          repeat ktr_rel
          rename_i H
          refine op_put (i := 4) H (by tb_start) rfl (by tb_start) (by tb_start) (by omega) fun s' H => ⟨rfl, ?_⟩
          exact H.drop.nsSub (fun p hp => .tail _ (.tail _ hp))
      subst e
      refine wpAny_execs_nil ⟨_, [], rfl, ?_⟩
      have e : ((L, MD.ns (("due", lst (dueTo lasts (i + 1))) :: ("over", .lit (.ref ov)) :: hNs ends lasts totals two row sec told h.book)) :: hCh row sec told h ++ (ov, .dic (overTo lasts totals (i + 1))) :: tl) = ((L, MD.ns (("due", lst (dueTo lasts (i + 1))) :: ("over", .lit (.ref ov)) :: hNs ends lasts totals two row sec told h.book)) :: hCh row sec told h ++ [(ov, .dic (overTo lasts totals (i + 1)))]) ++ tl := rfl
      rw [e] at H
      exact H
    · rintro mu₁ s rfl H
      rw [List.length_map, List.length_range] at H
      exact ⟨rfl, H.drop⟩
  have hu : ∀ env, (A.deeper env).units + 64 < cLine := fun env => by have := (hr2 env).units; omega
  -- if told != ends or ..
  refine seq (P := St c₂ [] ((L, .ns (hNs ends lasts totals two row sec told h.book)) :: hCh row sec told h)) ?_ fun s' H => ?_
  · refine wpAny_If ?_
    repeat ktr_rel
    rename_i H
    refine op_neL (l := h.told) (m := ends) H (by exact hu _) (LstV.ck H (by tb_start) (by tb_start)) (.inl (by tb_start)) ?_
    rw [show (!decide (h.told = ends)) = false by rw [decide_eq_true e1]; rfl]
    repeat ktr_rel
    rename_i H
    refine op_neL (l := h.row) (m := dueTo lasts lasts.length) H (by exact hu _) (LstV.ck H (by tb_start) (by tb_start)) (.inl (by tb_start)) ?_
    rw [show (!decide (h.row = dueTo lasts lasts.length)) = false by rw [decide_eq_true e2]; rfl]
    repeat ktr_rel
    rename_i H
    refine op_neD H (by exact Nat.lt_of_le_of_lt (Nat.le_add_right _ 64) (hu _)) (by tb_start) (by tb_start) (by tb_start) ?_
    rw [show (!sameD h.book (overTo lasts totals lasts.length)) = false by rw [e3]; rfl]
    repeat ktr_rel
    refine nil_next ((St.dropT (mu := (L, _) :: hCh row sec told h) H.drop).nsSub (fun p hp => ?_))
    exact .tail _ (.tail _ hp)
  -- return
  refine wpAny_execs_cons ?_
  repeat ktr_rel
  rename_i H
  refine count_calls_ok (es := h.book) H ((hr2 _).less (by decide)) (by tb_start) fun r s' H => ?_
  repeat ktr_rel
  rename_i H
  refine op_sum (l := totals) (hr2 (callEnv _ L 151)).handled H (.inl (by tb_start)) htot (by omega) fun v s' H => ?_
  repeat ktr_rel
  rename_i H
  refine op_last H (.inl (by tb_start)) (by tb_start) (d := .int (lasts.getD (lasts.length - 1) 0)) (by rw [List.length_map]; exact getmap (by omega)) (fun v H => ?_)
  repeat ktr_rel
  rw [if_pos (by simpa using e4)]
  repeat ktr_rel
  rename_i H
  refine op_len H (LstV.ck (ds := h.row.map .int) H (by tb_start) (by tb_start)) (by rw [List.length_map]; omega) fun v s' H => ?_
  repeat ktr_rel
  rename_i H
  refine op_len H (LstV.ck (ds := h.sec.map .int) H (by tb_start) (by tb_start)) (by rw [List.length_map]; omega) fun v s' H => ?_
  repeat ktr_rel
  rename_i H
  rw [show ((((h.row.map D.int).length : Nat) : Int) + (((h.sec.map D.int).length : Nat) : Int) == two) = true by rw [List.length_map, List.length_map, e5]; simp]
  exact k _ _ (St.forgets (mx := hCh row sec told h) (back _ _ _ _ _ _ (.head _) (H.lit (.bool true))))
end
/-! ZO -/
section
open Builtin.ObjectAttr
section
variable {c : Cx} {A : Around} {E : Value → Shared → Prop} {s : Shared} {env : Env} {T : List (Value × D)} {mu : List (Addr × MD)} {L : Addr} {σ : List (Str × D)} {d : D}

theorem k93_makes (w : World) : makesIn (KH w) 93 = true := by rfl
theorem k93_init (w : World) : findIn (KH w) (.ref 93) "__init__" = some (some (.ref 83)) := by rfl
theorem k83_fn (w : World) : typeIn (KH w) (.ref 83) = some (.type "function") := by rfl
theorem k93_set (w : World) : findIn (KH w) (.ref 93) "__setattr__" = some (some (.builtin "object.__setattr__")) := by rfl
theorem k93_plain (w : World) : plainOver (KH w) 93 = true := by rfl
theorem k93_taker (w : World) : takerIn (KH w) 93 "comp_select_list" = some none := by rfl
theorem k93_hasDict (w : World) : hasDictIn (KH w) 93 = true := by rfl
theorem k93_get (w : World) : plainGet (KH w) 93 "comp_select_list" = true := by rfl
theorem k93_none (w : World) : findIn (KH w) (.ref 93) "comp_select_list" = some none := by rfl
theorem k93_cmp (w : World) : findIn (KH w) (.ref 93) "compare" = some (some (.ref 90)) := by rfl
theorem k90_fn (w : World) : isFn (KH w) (.ref 90) = true := by rfl
theorem k93_getc (w : World) : plainGet (KH w) 93 "compare" = true := by rfl


theorem Rm.in1 {n : Nat} (r : Rm A (n + 1)) : Rm A.in1 n := ⟨r.handled, by have := r.depth; show A.depth + n < _; omega, by have := r.units; show A.units + 1 + 5 * n + 100 < _; omega⟩

theorem weight_making (C : Addr) (as : List Value) (kw : List (Str × Value)) : (Code.builtin "type.__call__" ⟨.ref C :: as, kw⟩).weight = 1 := by rfl
theorem Rm.making {n : Nat} {C : Addr} {as : List Value} {kw : List (Str × Value)} (r : Rm A (n + 1)) : Rm (A.under (.builtin "type.__call__" ⟨.ref C :: as, kw⟩)) n :=
  ⟨r.handled, by
    have := r.depth
    have hw := weight_making C as kw
    show A.depth + (Code.builtin "type.__call__" ⟨.ref C :: as, kw⟩).weight + n < _
    omega, by
    have := r.units
    have hu : (Code.builtin "type.__call__" ⟨.ref C :: as, kw⟩).cUnits = 1 := by rfl
    show A.units + (Code.builtin "type.__call__" ⟨.ref C :: as, kw⟩).cUnits + 5 * n + 100 < _
    omega⟩
/-- a def of the text's is entered, by its code -/
theorem fn_enterA {f : Addr} {oc : Value} {od : Option Addr} {fd : FuncData} {osl : Array (Option Value)} {body : List Stmt} {args : List Value} {kw : List (Str × Value)} {binds : List (Str × Value)} {mp mr : List (Addr × MD)} {R : Result → Shared → Prop}
    (σ : List (Str × D)) (H : St c T (mp ++ mr) s) (hroom : A.depth < recursionLimit) (ho : (KH c.w).lookup f = some ⟨oc, od, .func fd, osl⟩) (hbody : fd.body = .stmts body)
    (hcd : codeIn (KH c.w) fd.code fd.qualname = true) (hbind : BindsTo s fd ⟨args, kw⟩ binds) (hloc : (binds.all fun x => decide (fd.scope.names.lookup x.1 = some .local)) = true)
    (hcell : fd.scope.names.all (fun x => x.2 != .cell) = true) (hb : Binds binds T σ)
    (k : ∀ (c' : Cx) L s', c'.w = c.w → St c' T ((L, .ns σ) :: mp) s' → (∀ v d T' p mp' s'', (v, d) ∈ T' → St c' T' (p :: mp') s'' → St c ((v, d) :: T) (mp' ++ mr) s'') →
      wpAny (Mo c') (A.deeper (callEnv fd L f)) (execs body (callEnv fd L f)) (fun fl s'' => R (.ok (.ret (match fl with | .ret v => v | _ => .none))) s'') (fun _ _ => False) s')
    (hco : fd.scope.isCoroutine = false := by rfl) (hgen : fd.scope.isGenerator = false := by rfl) (hk : fd.scope.kind = .function := by rfl) :
    codeAny (Mo c) A (.call (.ref f) ⟨args, kw⟩) R s := by
  have X := H.top.1
  have hl := H.noLimit
  obtain ⟨c', hw, H1, back⟩ := H.aside
  refine codeAny_call_def (fd := fd) (body := body) (binds := binds) hroom (X _ _ ho) rfl hl (codeRec_of X hcd) hbody hbind (fun x hx => by simpa using List.all_eq_true.mp hcell x hx) (locs hloc) (fun h₀ hns hk₀ => ?_) hco hgen hk
  have Hs : St c' T ((s.heap.objs.size, .ns σ) :: mp) { s with heap := h₀, toks := s.toks + binds.length } := by
    refine H1.push (o := default) _ (get?_size_none _) hk₀ fun g ht => ⟨_, hns, fun p hp => ?_⟩
    obtain ⟨v, hv, hm⟩ := hb.all p hp
    exact ⟨v, hv, ht _ hm⟩
  have := k c' _ _ hw Hs fun v d T' p mp' s'' hm h => back [(v, d)] mp' s'' ((h.sub (T' := [(v, d)]) fun q hq => by rw [List.mem_singleton.mp hq]; exact hm).forget)
  rw [show Mo c' = Mo c from congrArg (model pw) hw] at this
  exact wpAny_mono this (fun fl s' h => h) fun _ _ h => h.elim

/-- x.name = v, of an object with a dict -/
theorem set_inst {x dx C : Addr} {ox : Obj} {es : List DictEntry} {n : Nat} {name : Str} {v : Value} {Q : Unit → Shared → Prop} {K : Frag} (X : K.In s.heap) (I : PySem.W.InstAt s.heap x ox C (some (dictOf es n))) (hd : ox.dict = some dx)
    (hs : findIn K (.ref C) "__setattr__" = some (some (.builtin "object.__setattr__"))) (hp : plainOver K C = true) (ht : takerIn K C name = some none) (hh : hasDictIn K C = true) (hl : (getL name es).isSome = true) (hz : (putL name (PyData.keyHash c.w.params name) (.str name (s.toks + 1)) v es).length ≤ 1000)
    (h : ∀ h', h'.get? dx = some (dictOf (putL name (PyData.keyHash c.w.params name) (.str name (s.toks + 1)) v es) (putN name es n)) → Heap.SameBut dx s.heap h' → Q () { s with heap := h', toks := s.toks + 2 }) :
    wpAny (Mo c) A (setAttr (.ref x) name v) Q E s := by
  refine set_plain X I hs ?_
  refine osa_open (s := { s with toks := s.toks + 1 }) X I hp ht fun b => ?_
  obtain ⟨cd, hc, hd'⟩ := any_some hh
  obtain ⟨hx, hcl, hn, hdx⟩ := I
  obtain ⟨oc, odi, oda, osl⟩ := ox
  dsimp only at hcl hd hdx
  subst hcl hd
  dsimp only at hdx
  refine wpAny_bind (wpAny_pure (wpAny_bind (wpAny_bind (wpAny_loadPart hx (wpAny_bind (Looks.here (s := { s with toks := s.toks + 1 }) (looks_clsIn X hc) ?_))))))
  rw [hd']
  refine wpAny_pure (a := some dx) (wpAny_bind (wpAny_pure (wpAny_bind ?_)))
  unfold nsSet
  refine wpAny_bind (wpAny_bind (wpAny_askSetting (wpAny_pure (wpAny_bind (wpAny_mkText (wpAny_bind (wpAny_loadPart hdx ?_)))))))
  dsimp only
  have hany : (!es.toArray.any (·.key.isStr name) && es.toArray.any (·.refKey)) = false := by
    rw [← Array.any_toList, ← Array.any_toList]
    unfold getL at hl
    split at hl
    · rename_i en he
      rw [List.any_eq_true.mpr ⟨en, List.mem_of_find?_eq_some he, List.find?_some he⟩]; rfl
    · split at hl
      · cases hl
      · rename_i z; rw [Bool.not_eq_true] at z; rw [z, Bool.and_false]
  rw [aRefKeyMayBeTheName_at, hany]
  have e := putName_dict name (PyData.keyHash c.w.params name) (.str name (s.toks + 1)) v es n
  have D' : (s.heap.update dx (Obj.putName name (PyData.keyHash c.w.params name) (.str name (s.toks + 1)) v)).get? dx = some (dictOf (putL name (PyData.keyHash c.w.params name) (.str name (s.toks + 1)) v es) (putN name es n)) := by
    rw [← e]; exact Heap.get?_update_self _ hdx (by rw [e]; rfl)
  refine wpAny_updatePart hdx ?_
  refine wpAny_bind (wpAny_lookBehind D' (pastItsLine_dict (by rw [List.size_toArray, sizeLine_eq]; omega)) ?_)
  exact wpAny_pure (h _ D' (Heap.SameBut.update ..))

/-- what that object's dict holds -/
noncomputable def CmpDict (v : Value) (es : List DictEntry) : Prop := getL "comp_select_list" es = some (some v) ∧ getL "compare" es = some none

theorem tc_new {v : Value} {Q : Value → Shared → Prop} (H : St c T mu s) (hr : Rm A 3) (hv : (v, d) ∈ T)
    (k : ∀ x dx es n s', CmpDict v es → St c ((.ref x, .obj (instObj 93 dx)) :: (.ref dx, .obj (dictOf es n)) :: T) mu s' → Q (.ref x) s') : wpAny (Mo c) A (call (.ref 93) [v] []) Q E s := by
  have X := H.top.1
  have H1 := (H.newObjM (o := emptyDict) (k := s.toks))
  have H2 := (H1.newObj (o := instObj 93 s.heap.objs.size) (k := s.toks))
  rw [show ({ s with heap := s.heap.push emptyDict, toks := s.toks } : Shared).heap.objs.size = s.heap.objs.size + 1 from Heap.size_push ..] at H2
  obtain ⟨h, g, dr, t, os⟩ := s
  refine wpAny_call (make_core (makes_of X (k93_makes c.w)) (looks_findIn X (k93_init c.w)) (fun self => bind_fn X self (k83_fn c.w)) (.inl rfl) ?_)
  have hr1 : Rm (A.under (.builtin "type.__call__" ⟨.ref 93 :: [v], []⟩)) 2 := hr.making
  generalize hx : h.objs.size + 1 = x at *
  generalize hdx : h.objs.size = dx at *
  have H3 := (H2.lit (.ref x)).lit v
  refine fn_enterA (f := 83) (mp := [(dx, .obj emptyDict)]) (mr := mu) (binds := [("self", .ref x), ("comp_select_list", v)]) [("self", .lit (.ref x)), ("comp_select_list", .lit v)] H3 (by have := hr1.depth; omega) rfl rfl rfl
    (kp_binds H3.top.1 fun _ => rfl) rfl rfl (by ktr_units) fun c₂ L s' hw₂ H back => ?_
  refine wpAny_execs_cons (plainObj_wpAny_Assign_Attribute ?_)
  repeat ktr_rel
  rename_i va H1 vb H
  cases H.isLit (.head _)
  cases H.isLit (.tail _ (.head _))
  obtain ⟨_, e, hox⟩ := H.isObj (v := .ref x) (o := instObj 93 dx) (by tb_start)
  cases e
  obtain ⟨_, _, hod⟩ := H.at0 (a := dx) (md := .obj emptyDict) (by tb_start)
  refine set_inst (es := []) (n := 0) (x := x) (dx := dx) (C := 93) (ox := instObj 93 dx) H.top.1 ⟨hox, rfl, rfl, hod⟩ rfl (k93_set _) (k93_plain _) (k93_taker _) (k93_hasDict _) rfl (by simp [putL]) fun h' hod' hs => ?_
  have H4 := St.set (i := 1) (k := s'.toks + 2) (h' := h') (md' := .obj (dictOf (putL "comp_select_list" (PyData.keyHash c₂.w.params "comp_select_list") (.str "comp_select_list" (s'.toks + 1)) v []) (putN "comp_select_list" [] 0))) H rfl (fun b o hb e => (hs.2 b hb).trans e) fun g ht _ => hod'
  refine wpAny_execs_nil ⟨rfl, ?_⟩
  have H5 := (back (.ref x) (.obj (instObj 93 dx)) _ _ _ _ (by tb_start) H4).frzO
  refine k x dx (putL "comp_select_list" (PyData.keyHash c₂.w.params "comp_select_list") (.str "comp_select_list" (s'.toks + 1)) v []) (putN "comp_select_list" [] 0) _ ⟨rfl, rfl⟩ (H5.sub fun p hp => ?_)
  rcases List.mem_cons.mp hp with rfl | hp
  · exact .tail _ (.head _)
  · rcases List.mem_cons.mp hp with rfl | hp
    · exact .head _
    · exact .tail _ (.tail _ (.tail _ (.tail _ (.tail _ hp))))

/-! the comparison -/
theorem get_list {x dx : Addr} {es : List DictEntry} {n : Nat} {v : Value} {expr : Bool} {Q : Value → Shared → Prop} (H : St c T mu s) (hx : (Value.ref x, D.obj (instObj 93 dx)) ∈ T) (hd : (Value.ref dx, D.obj (dictOf es n)) ∈ T) (hc : CmpDict v es) (hh : handedIn v = true)
    (k : ∀ s', St c T mu s' → Q v s') : wpAny (Mo c) A (getAttr (.ref x) "comp_select_list" expr) Q E s := by
  obtain ⟨_, e, hox⟩ := H.isObj hx
  cases e
  obtain ⟨_, e, hod⟩ := H.isObj hd
  cases e
  refine get_value (od := some (dictOf es n)) H.top.1 ⟨hox, rfl, rfl, hod⟩ (plainGet_of (k93_get c.w)).1 (findObj_own (k93_hasDict c.w) (k93_none c.w) rfl (by rw [lookIn_dict]; exact hc.1)) hh (k _ H.toks)
theorem get_cmp {x dx : Addr} {es : List DictEntry} {n : Nat} {v : Value} {pl : Sem Bool} {Q : Value × List Value → Shared → Prop} (H : St c T mu s) (hx : (Value.ref x, D.obj (instObj 93 dx)) ∈ T) (hd : (Value.ref dx, D.obj (dictOf es n)) ∈ T) (hc : CmpDict v es)
    (k : Q (.ref 90, [.ref x]) s) : wpAny (Mo c) A (getMethod (.ref x) "compare" pl) Q E s := by
  obtain ⟨_, e, hox⟩ := H.isObj hx
  cases e
  obtain ⟨_, e, hod⟩ := H.isObj hd
  cases e
  exact method_fn (od := some (dictOf es n)) H.top.1 ⟨hox, rfl, rfl, hod⟩ (plainGet_of (k93_getc c.w)).1 (plainGet_of (k93_getc c.w)).2 (k93_cmp c.w) (beq_iff_eq.mp (k90_fn c.w)) (by show (lookIn "compare" (dictOf es n)).map _ = _; rw [lookIn_dict, hc.2]; rfl) k

noncomputable def tget (t : Int × Int × Int) (i : Int) : Int := if i = 0 then t.1 else if i = 1 then t.2.1 else t.2.2
noncomputable def cmpT : List (Int × Int) → Int × Int × Int → Int × Int × Int → Int
  | [], _, _ => 0
  | (i, dir) :: r, l, t => if tget l i < tget t i then -dir else if tget t i < tget l i then dir else cmpT r l t
noncomputable def pairD (p : Int × Int) : D := .tup [.int p.1, .int p.2]
noncomputable def colsD (cols : List (Int × Int)) : D := .lst (cols.map pairD)

theorem own_tup_list {elts : List Expr} {x1} {pos : Pos} {l it : Addr} {i : Nat} {v : Value} {Q : Unit → Shared → Prop} (H : St c T (mu ++ tlL it l i) s) (k : Q () s) : wpAny (Mo c) A (letOwnedTupleGo (.Tuple elts x1 pos) (.ref it) v) Q E s := by
  obtain ⟨g, _, o, ho, hc, hd⟩ := H.atT
  cases v with
  | ref a => exact letGo_listiter ⟨o, ho, hc, hd⟩ k
  | _ => exact wpAny_pure k
theorem trip_get {l : Int × Int × Int} {i : Int} (h : i = 0 ∨ i = 1 ∨ i = 2) : ([D.int l.1, .int l.2.1, .int l.2.2])[i.toNat]? = some (.int (tget l i)) := by
  rcases h with rfl | rfl | rfl <;> rfl
noncomputable def CpI (L : Addr) (cols : List (Int × Int)) (l t : Int × Int × Int) (i : Nat) (mu : List (Addr × MD)) : Prop :=
  mu = [(L, .ns [("left", trip l), ("right", trip t)])] ∧ cmpT cols l t = cmpT (cols.drop i) l t
theorem compare_ok {x dx : Addr} {es : List DictEntry} {n : Nat} {vc u v2 v3 : Value} {cols : List (Int × Int)} {l t : Int × Int × Int} {Q : Value → Shared → Prop} (H : St c T mu s) (hr : Rm A 2) (hu : (u, .lit (.ref x)) ∈ T) (hx : (Value.ref x, D.obj (instObj 93 dx)) ∈ T) (hd : (Value.ref dx, D.obj (dictOf es n)) ∈ T) (hc : CmpDict vc es)
    (hcols : (vc, colsD cols) ∈ T) (hl : (v2, trip l) ∈ T) (ht : (v3, trip t) ∈ T) (hidx : ∀ p ∈ cols, p.1 = 0 ∨ p.1 = 1 ∨ p.1 = 2) (k : ∀ r s', St c ((r, .int (cmpT cols l t)) :: T) mu s' → Q r s') : wpAny (Mo c) A (call (.ref 90) [u, v2, v3] []) Q E s := by
  have hr2 : ∀ env, Rm (A.deeper env) 1 := fun _ => hr.deeper
  refine fn_enter (f := 90) (mp := []) (mr := mu) (binds := [("self", u), ("left", v2), ("right", v3)]) [("self", .lit (.ref x)), ("left", trip l), ("right", trip t)] H hr.rm rfl rfl rfl (kp_binds H.top.1 fun _ => rfl) rfl rfl (by ktr_units) fun c₂ L s' hw₂ H back => ?_
  refine wpAny_execs_cons (wpAny_For (Attribute_Name_ ?_))
  ktr_rel
  rename_i H
  cases H.isLit (.head _)
  obtain ⟨ac, _, e, _⟩ := H.isLst (v := vc) (ds := cols.map pairD) (.tail _ hcols)
  subst e
  refine get_list H (.tail _ hx) (.tail _ hd) hc rfl fun s' H => ?_
  refine it_list (l := ac) (ds := cols.map pairD) (H.nsSub (σ' := [("left", trip l), ("right", trip t)]) (by simp)) (.inl (.tail _ hcols)) fun it s' H => ?_
  refine for_its (mu := [(L, .ns [("left", trip l), ("right", trip t)])]) (CpI L cols l t) (fun c' _ => its_list (ds := cols.map pairD) (hr2 _).handled (.tail _ hcols)) ⟨rfl, rfl⟩ H ?_ ?_
  · rintro c₃ i dd mu₁ v s E hw₃ up hdd ⟨rfl, hcm⟩ H
    rw [List.getElem?_map] at hdd
    obtain ⟨⟨ix, dir⟩, hp, rfl⟩ := Option.map_eq_some_iff.mp hdd
    have hix := hidx _ (List.mem_of_getElem? hp)
    have hdrop : cols.drop i = (ix, dir) :: cols.drop (i + 1) := by
      have hlt := (List.getElem?_eq_some_iff.mp hp).1
      rw [List.drop_eq_getElem_cons hlt, Option.some.inj ((List.getElem?_eq_getElem hlt).symm.trans hp)]
    rw [hdrop] at hcm
    have hcm2 : cmpT cols l t = if tget l ix < tget t ix then -dir else if tget t ix < tget l ix then dir else cmpT (cols.drop (i + 1)) l t := hcm
    have h0 : 0 ≤ ix := by rcases hix with h | h | h <;> dsimp only at h <;> omega
    have h3 : ix < 2 ^ 63 := by rcases hix with h | h | h <;> dsimp only at h <;> omega
    refine own_tup_list H ?_
    generalize htl : tlL it ac (i + 1) = tl at H ⊢
    refine asg_tup2 (hr2 _).handled H (.head _) fun a b s' H => ?_
    refine wpAny_assign_Name (sto (σ' := [("index", .int ix), ("left", trip l), ("right", trip t)]) H (.head _) (by ktr_room) fun s' H => ?_)
    refine wpAny_assign_Name (sto (σ' := [("direction", .int dir), ("index", .int ix), ("left", trip l), ("right", trip t)]) H (.tail _ (.head _)) (by ktr_room) fun s' H => ?_)
    replace H := H.drop
    refine wpAny_execs_cons (wpAny_mono (Q := fun f s' => f = .next ∧ St c₃ [] ((L, .ns [("l", .int (tget l ix)), ("direction", .int dir), ("index", .int ix), ("left", trip l), ("right", trip t)]) :: tl) s') ?_ (fun f s' ⟨e, H⟩ => ?_) fun _ _ e => e)
    · repeat ktr_rel
      rename_i H
      refine op_itemT (i := ix) H (by tb_start) (by tb_start) h0 (trip_get hix) h3 fun v H => ?_
      ktr_rel
    subst e
    refine wpAny_execs_cons (wpAny_mono (Q := fun f s' => f = .next ∧ St c₃ [] ((L, .ns [("r", .int (tget t ix)), ("l", .int (tget l ix)), ("direction", .int dir), ("left", trip l), ("right", trip t)]) :: tl) s') ?_ (fun f s' ⟨e, H⟩ => ?_) fun _ _ e => e)
    · repeat ktr_rel
      rename_i H
      refine op_itemT (i := ix) H (by tb_start) (by tb_start) h0 (trip_get hix) h3 fun v H => ?_
      ktr_rel
    subst e
    -- if l < r
    refine wpAny_execs_cons (wpAny_If (wpAny_isTrue_Compare1 ?_))
    repeat ktr_rel
    rename_i H
    by_cases h1 : tget l ix < tget t ix
    · rw [if_pos (by simpa using h1)]
      rw [if_pos h1] at hcm2
      refine wpAny_execs_cons ?_
      repeat ktr_rel
      rename_i H
      rw [← hcm2] at H
      exact k _ _ (St.forgets (back _ _ _ _ _ _ (.head _) (up _ _ _ H)))
    rw [if_neg (by simpa using h1)]
    rw [if_neg h1] at hcm2
    refine wpAny_execs_nil ?_
    refine wpAny_execs_cons (wpAny_If (wpAny_isTrue_Compare1 ?_))
    replace H := H.drop
    repeat ktr_rel
    rename_i H
    by_cases h2 : tget t ix < tget l ix
    · rw [if_pos (by simpa using h2)]
      rw [if_pos h2] at hcm2
      refine wpAny_execs_cons ?_
      repeat ktr_rel
      rename_i H
      rw [← hcm2] at H
      exact k _ _ (St.forgets (back _ _ _ _ _ _ (.head _) (up _ _ _ H)))
    rw [if_neg (by simpa using h2)]
    rw [if_neg h2] at hcm2
    refine wpAny_execs_nil (wpAny_execs_nil ⟨_, [], ⟨rfl, hcm2⟩, ?_⟩)
    exact H.drop.nsSub (σ' := [("left", trip l), ("right", trip t)]) (by simp)
  · rintro mu₁ s ⟨rfl, hcm⟩ H
    rw [List.length_map, List.drop_length] at hcm
    rw [hcm] at k
    refine wpAny_execs_cons ?_
    repeat ktr_rel
    rename_i H
    exact k _ _ (back _ _ _ _ _ _ (.head _) H)
end
end
/-! ZT9 -/
section
variable {c : Cx} {A : Around} {E : Value → Shared → Prop} {s : Shared} {env : Env} {T : List (Value × D)} {mu : List (Addr × MD)} {L : Addr} {σ : List (Str × D)} {d : D}

/-- a function that hands out a key for a triple -/
structure KeyOk (w : World) (Kn : List (Value × D)) (cs : List (Addr × MD)) (f : Addr) (val : Int × Int × Int → Int) : Prop where
  obj : ∃ o fd, (Value.ref f, D.obj o) ∈ Kn ∧ o.data = .func fd
  run : ∀ {c : Cx} {A : Around} {E : Value → Shared → Prop} {T : List (Value × D)} {mu : List (Addr × MD)} {s : Shared} {v : Value} {t : Int × Int × Int} {Q : Value → Shared → Prop}, c.w = w → Rm A 4 → (∀ p ∈ Kn, p ∈ T) → (∀ p ∈ cs, p ∈ mu) → (v, trip t) ∈ T → St c T mu s →
    (∀ r s', St c ((r, .int (val t)) :: T) mu s' → Q r s') → wpAny (Mo c) A (call (.ref f) [v] []) Q E s

/-- a call of a function that stands on the ground -/
theorem cw_fn {f : Addr} {o : Obj} {fd : FuncData} {e : Expr} {rest : List Expr} {pos : Pos} {Q : Value → Shared → Prop} (hd : o.data = .func fd)
    (h : wpAny (Mo c) A (spliced (backTo pos (starEach (e :: rest) env))) (fun vs s₁ => ∃ T mu, St c T mu s₁ ∧ (Value.ref f, D.obj o) ∈ T ∧ wpAny (Mo c) A (call (.ref f) vs []) Q E s₁) E s)
    (he : starEach (e :: rest) env = (false, eval e env) :: starEach rest env := by rfl) :
    wpAny (Mo c) A (callWith pos (.ref f) [] (backTo pos (starEach (e :: rest) env)) []) Q E s := by
  rw [he] at h ⊢
  refine Calls.callWith_function (o := o) (fd := fd) (Calls.evalArgs_plain (wpAny_mono h (fun vs s₁ ⟨T, mu, H, hf, k⟩ => ?_) fun _ _ e => e))
  obtain ⟨_, e, ho⟩ := H.isObj hf
  cases e
  exact ⟨⟨ho, hd⟩, k⟩

noncomputable def BlI (c : Cx) (L kept f : Addr) (cs : List (Addr × MD)) (ts : List (Int × Int × Int)) (x : Int) (p : Nat) (n : Nat) (s : Shared) : Prop :=
  ∃ lo hi : Nat, n = hi - lo ∧ lo ≤ p ∧ p ≤ hi ∧ hi ≤ ts.length ∧
    St c [] ((L, .ns [("a", .lit (.ref kept)), ("x", .int x), ("lo", .int lo), ("hi", .int hi), ("key", .lit (.ref f))]) :: (kept, .lst (ts.map trip)) :: cs) s

set_option maxHeartbeats 4000000 in
theorem bisect_left_ok {ts : List (Int × Int × Int)} {x : Int} {p : Nat} {v y z h : Value} {kept f : Addr} {Kn : List (Value × D)} {cs mr : List (Addr × MD)} {val : Int × Int × Int → Int} {Q : Value → Shared → Prop} (K : KeyOk c.w Kn cs f val)
    (H : St c T ((kept, .lst (ts.map trip)) :: (cs ++ mr)) s) (hr : Rm A 5) (hK : ∀ p ∈ Kn, p ∈ T) (hv : (v, .lit (.ref kept)) ∈ T) (hx : (y, .int x) ∈ T) (hz : (z, .int 0) ∈ T) (hh : (h, .lit .none) ∈ T) (hn : ts.length ≤ 1000)
    (hp : p ≤ ts.length) (h1 : ∀ (i : Nat) t, i < p → ts[i]? = some t → val t < x) (h2 : ∀ (i : Nat) t, p ≤ i → ts[i]? = some t → ¬ val t < x)
    (k : ∀ v s', St c ((v, .int p) :: T) ((kept, .lst (ts.map trip)) :: (cs ++ mr)) s' → Q v s') : wpAny (Mo c) A (call (.ref 41) [v, y, z, h] [("key", .ref f)]) Q E s := by
  have hr2 : ∀ env, Rm (A.deeper env) 4 := fun _ => hr.deeper
  refine fn_enter (f := 41) (mp := (kept, .lst (ts.map trip)) :: cs) (mr := mr) (binds := [("a", v), ("x", y), ("lo", z), ("hi", h), ("key", .ref f)])
    [("a", .lit (.ref kept)), ("x", .int x), ("lo", .int 0), ("hi", .lit .none), ("key", .lit (.ref f))] (H.lit (.ref f)) hr.rm rfl rfl rfl
    (kp_binds H.top.1 fun _ => rfl) rfl rfl (by ktr_units) fun c₂ L s' hw₂ H back => ?_
  obtain ⟨c₃, hw₃, H, up, more⟩ := H.fix
  rw [show Mo c₂ = Mo c₃ from congrArg (model pw) hw₃.symm]
  replace H := H.drop
  -- if lo < 0
  refine seq (P := St c₃ [] ((L, .ns [("a", .lit (.ref kept)), ("x", .int x), ("lo", .int 0), ("hi", .lit .none), ("key", .lit (.ref f))]) :: (kept, .lst (ts.map trip)) :: cs)) (by repeat ktr_rel) fun s' H => ?_
  -- if hi is None
  refine seq (P := St c₃ [] ((L, .ns [("a", .lit (.ref kept)), ("x", .int x), ("lo", .int 0), ("hi", .int ts.length), ("key", .lit (.ref f))]) :: (kept, .lst (ts.map trip)) :: cs)) ?_ fun s' H => ?_
  · repeat ktr_rel
    rename_i H
    refine op_len H (LstV.ck H (by tb_start) (by tb_start)) (by rw [List.length_map]; omega) fun v s' H => ?_
    rw [List.length_map] at H
    ktr_rel
  -- if key is None
  refine seq (P := BlI c₃ L kept f cs ts x p 0) ?_ fun s' H => ?_
  · repeat ktr_rel
    refine while_st (BlI c₃ L kept f cs ts x p) ts.length ⟨0, ts.length, rfl, Nat.zero_le _, hp, Nat.le_refl _, H⟩ ?_
    rintro n s E' ⟨lo, hi, rfl, q1, q2, q3, H⟩
    repeat ktr_rel
    by_cases hlt : lo < hi
    · rw [if_pos (by simpa using hlt)]
      replace H := H.drop
      have hmid : (lo + hi) / 2 < hi := by omega
      have hmid' : lo ≤ (lo + hi) / 2 := by omega
      obtain ⟨t, ht⟩ : ∃ t, ts[(lo + hi) / 2]? = some t := ⟨ts[(lo + hi) / 2]'(by omega), List.getElem?_eq_getElem _⟩
      have e2 := fdiv2 lo hi
      have e1 : D.int (((lo : Int) + (hi : Int)).fdiv 2) = .int ((lo + hi) / 2 : Nat) := by rw [e2]
      generalize hM : (lo + hi) / 2 = M at *
      refine seq (P := St c₃ [] ((L, .ns [("mid", .int M), ("a", .lit (.ref kept)), ("x", .int x), ("lo", .int lo), ("hi", .int hi), ("key", .lit (.ref f))]) :: (kept, .lst (ts.map trip)) :: cs)) (by repeat ktr_rel) fun s' H => ?_
      refine one (wpAny_If (wpAny_isTrue_Compare1 ?_))
      replace H := more _ _ _ H
      iterate 2 ktr_rel
      rename_i H
      cases H.isLit (.head _)
      obtain ⟨o, fd, hof, hod⟩ := K.obj
      have hKt : ∀ q ∈ Kn, q ∈ T := hK
      refine cw_fn hod ?_
      repeat ktr_rel
      rename_i H
      refine op_item (i := M) H (LstV.ck (ds := ts.map trip) H (by tb_start) (by tb_start)) (by tb_start) (by omega) (d := trip t) (by rw [List.getElem?_map, Int.toNat_natCast, ht]; rfl) (by omega) (fun v H => ?_)
      repeat ktr_rel
      refine ⟨_, _, H, ?_, ?_⟩
      · exact .tail _ (.tail _ (.tail _ (.tail _ (.tail _ (hKt _ hof)))))
      refine K.run (hw₃.trans hw₂) (hr2 _) (fun q hq => .tail _ (.tail _ (.tail _ (.tail _ (.tail _ (hKt _ hq)))))) (fun q hq => .tail _ (.tail _ hq)) (.head _) H fun r s' H => ?_
      repeat ktr_rel
      rename_i H
      by_cases hxz : val t < x
      · rw [if_pos (by simpa using hxz)]
        replace H := H.drop
        have e3 : D.int ((M : Int) + 1) = .int (M + 1 : Nat) := by push_cast; rfl
        refine one (wpAny_mono (Q := fun f' s' => f' = .next ∧ St c₃ [] ((L, .ns [("a", .lit (.ref kept)), ("x", .int x), ("lo", .int (M + 1 : Nat)), ("hi", .int hi), ("key", .lit (.ref f))]) :: (kept, .lst (ts.map trip)) :: cs) s') (by repeat ktr_rel) (fun f' s' h => ⟨h.1, hi - (M + 1), by omega, M + 1, hi, rfl, ?_, q2, q3, h.2⟩) fun _ _ e => e)
        apply Nat.lt_of_not_le
        intro hle
        exact h2 M t hle ht hxz
      · rw [if_neg (by simpa using hxz)]
        replace H := H.drop
        refine one (wpAny_mono (Q := fun f' s' => f' = .next ∧ St c₃ [] ((L, .ns [("a", .lit (.ref kept)), ("x", .int x), ("lo", .int lo), ("hi", .int M), ("key", .lit (.ref f))]) :: (kept, .lst (ts.map trip)) :: cs) s') (by repeat ktr_rel) (fun f' s' h => ⟨h.1, M - lo, by omega, lo, M, rfl, q1, ?_, by omega, h.2⟩) fun _ _ e => e)
        apply Nat.le_of_not_lt
        intro hlt'
        exact hxz (h1 M t hlt' ht)
    · rw [if_neg (by simpa using hlt)]
      have : lo = hi := by omega
      subst this
      exact ⟨lo, lo, by omega, q1, q2, q3, H⟩
  obtain ⟨lo, hi, e, q1, q2, q3, H⟩ := H
  have : lo = p := by omega
  subst this
  refine wpAny_execs_cons ?_
  iterate 2 ktr_rel
  rename_i H
  exact k _ _ ((back _ _ _ _ _ _ (.head _) (up _ _ _ H)).sub fun q hq => by
    rcases List.mem_cons.mp hq with rfl | hq
    · exact .head _
    · exact .tail _ (.tail _ hq))

theorem St.fromT {q : Addr × MD} (H : St c T (mu ++ [q]) s) : St c T (q :: mu) s := H.perm (List.perm_append_comm (l₁ := [q]) (l₂ := mu))
noncomputable def put1 {α : Type} (l : List α) (p : Nat) (a : α) : List α := l.take p ++ a :: l.drop p
set_option maxHeartbeats 4000000 in
theorem insort_left_ok {ts : List (Int × Int × Int)} {t₀ : Int × Int × Int} {p : Nat} {v y : Value} {kept f : Addr} {Kn : List (Value × D)} {cs mr : List (Addr × MD)} {val : Int × Int × Int → Int} {Q : Value → Shared → Prop} (K : KeyOk c.w Kn cs f val)
    (H : St c T ((kept, .lst (ts.map trip)) :: (cs ++ mr)) s) (hr : Rm A 6) (hK : ∀ p ∈ Kn, p ∈ T) (hv : (v, .lit (.ref kept)) ∈ T) (hx : (y, trip t₀) ∈ T) (hn : ts.length ≤ 1000)
    (hp : p ≤ ts.length) (h1 : ∀ (i : Nat) t, i < p → ts[i]? = some t → val t < val t₀) (h2 : ∀ (i : Nat) t, p ≤ i → ts[i]? = some t → ¬ val t < val t₀)
    (k : ∀ s', St c T ((kept, .lst ((put1 ts p t₀).map trip)) :: (cs ++ mr)) s' → Q .none s') : wpAny (Mo c) A (call (.ref 32) [v, y] [("key", .ref f)]) Q E s := by
  have hr2 : ∀ env, Rm (A.deeper env) 5 := fun _ => hr.deeper
  refine fn_enter (f := 32) (mp := (kept, .lst (ts.map trip)) :: cs) (mr := mr) (binds := [("a", v), ("x", y), ("lo", .int 0 203), ("hi", .none), ("key", .ref f)])
    [("a", .lit (.ref kept)), ("x", trip t₀), ("lo", .int 0), ("hi", .lit .none), ("key", .lit (.ref f))] (((H.lit (.ref f)).intv 0 203).lit .none) hr.rm rfl rfl rfl
    (kp_binds H.top.1 fun _ => rfl) rfl rfl (by ktr_units) fun c₂ L s' hw₂ H back => ?_
  obtain ⟨c₃, hw₃, H, up, more⟩ := H.fix
  rw [show Mo c₂ = Mo c₃ from congrArg (model pw) hw₃.symm]
  have hKt : ∀ q ∈ Kn, q ∈ T := hK
  refine seq (P := St c₃ [] ((L, .ns [("a", .lit (.ref kept)), ("x", trip t₀), ("lo", .int p)]) :: (kept, .lst (ts.map trip)) :: cs)) ?_ fun s' H => ?_
  · replace H := more _ _ _ H.drop
    repeat ktr_rel
    rename_i H
    cases H.isLit (.head _)
    obtain ⟨o, fd, hof, hod⟩ := K.obj
    refine cw_fn hod ?_
    repeat ktr_rel
    rename_i H
    refine ⟨_, _, H, ?_, ?_⟩
    · repeat (first | exact hKt _ hof | apply List.Mem.tail)
    refine K.run (hw₃.trans hw₂) ((hr2 _).less (by decide)) (fun q hq => ?_) (fun q hq => .tail _ (.tail _ hq)) (.head _) H fun r s' H => ?_
    · repeat (first | exact hKt _ hq | apply List.Mem.tail)
    repeat ktr_rel
    rename_i H
    cases H.isLit (.head _)
    have K' : KeyOk c₃.w Kn cs f val := (hw₃.trans hw₂) ▸ K
    refine bisect_left_ok (p := p) (x := val t₀) (mr := [(L, _)]) K' (St.toT (mu := (kept, .lst (ts.map trip)) :: cs) H) ((hr2 _).less (by decide)) (fun q hq => ?_) (by tb_start) (by tb_start) (by tb_start) (by tb_start) hn hp h1 h2 fun r s' H => ?_
    · repeat (first | exact hKt _ hq | apply List.Mem.tail)
    replace H := St.fromT (mu := (kept, .lst (ts.map trip)) :: cs) H
    ktr_rel
  refine seq (P := St c₃ [] ((L, .ns [("a", .lit (.ref kept)), ("x", trip t₀), ("lo", .int p)]) :: (kept, .lst ((put1 ts p t₀).map trip)) :: cs)) ?_ fun s' H => ?_
  · refine wpAny_Expr_any (ex_insert ?_)
    ktr_rel
    rename_i H
    refine ⟨kept, _, _, _, .head _, by tb_start, H, ?_⟩
    repeat ktr_rel
    rename_i H
    refine op_insert (i := 1) H rfl (by tb_start) (by tb_start) (by rw [List.length_map]; exact hp) (by rw [List.length_map]; omega) fun s' H => ⟨rfl, ?_⟩
    have e : (put1 ts p t₀).map trip = (ts.map trip).take p ++ trip t₀ :: (ts.map trip).drop p := by simp [put1, List.map_take, List.map_drop]
    rw [e]
    exact H.drop
  refine wpAny_execs_nil ?_
  exact k _ ((back _ _ _ _ _ _ (.head _) (up _ _ _ (H.lit .none))).sub fun q hq => .tail _ (.tail _ (.tail _ (.tail _ hq))))
end
/-! ZTA -/
section
variable {c : Cx} {A : Around} {E : Value → Shared → Prop} {s : Shared} {env : Env} {T : List (Value × D)} {mu : List (Addr × MD)} {L : Addr} {σ : List (Str × D)} {d : D}

/-- the first chunk is written anew, a new object is laid -/
theorem St.setPush {a b : Addr} {md md' mdb : MD} {h' : Heap} {k : Nat} (H : St c T ((a, md) :: mu) s) (hb : s.heap.get? b = none) (hs : ∀ x o, x ≠ a → s.heap.get? x = some o → h'.get? x = some o)
    (hm : ∀ g, (∀ p ∈ T, Rep c.w g p.1 p.2) → MRep c.w g h' a md') (hmb : ∀ g, (∀ p ∈ T, Rep c.w g p.1 p.2) → MRep c.w g h' b mdb) : St c T ((a, md') :: (b, mdb) :: mu) { s with heap := h', toks := k } := by
  obtain ⟨ge, os, g, l, C⟩ := H
  have gn : g b = none := by
    cases e : g b with
    | none => rfl
    | some o => rw [C.kg _ _ e] at hb; cases hb
  have fn : c.fr b = none := by
    cases e : c.fr b with
    | none => rfl
    | some o => rw [C.kf _ _ e] at hb; cases hb
  have ga := (C.gm _ (.head _)).1
  have fa := (C.gm _ (.head _)).2
  have nd := List.nodup_cons.mp C.nd
  refine ⟨ge, os, g, l, ⟨C.gd, fun x o e => hs x o (fun q => by subst q; dsimp only at ga; rw [ga] at e; cases e) (C.kg x o e), fun x o e => hs x o (fun q => by subst q; dsimp only at fa; rw [fa] at e; cases e) (C.kf x o e), C.gf, C.tm, fun p hp => ?_, fun p hp => ?_, ?_⟩⟩
  · rcases List.mem_cons.mp hp with rfl | hp
    · exact hm g C.tm
    · rcases List.mem_cons.mp hp with rfl | hp
      · exact hmb g C.tm
      · exact (C.mr p (.tail _ hp)).at' (GLe.refl g) fun o e => hs _ o (fun q => nd.1 (List.mem_map.mpr ⟨p, hp, q⟩)) e
  · rcases List.mem_cons.mp hp with rfl | hp
    · exact ⟨ga, fa⟩
    · rcases List.mem_cons.mp hp with rfl | hp
      · exact ⟨gn, fn⟩
      · exact C.gm p (.tail _ hp)
  · have nb : ∀ p ∈ (a, md) :: mu, p.1 ≠ b := fun p hp q => by
      obtain ⟨o, ho⟩ := (C.mr p hp).alive
      rw [q, hb] at ho; cases ho
    refine List.nodup_cons.mpr ⟨fun q => ?_, List.nodup_cons.mpr ⟨fun q => ?_, nd.2⟩⟩
    · rcases List.mem_cons.mp q with q | q
      · exact nb _ (.head _) q
      · exact nd.1 q
    · obtain ⟨p, hp, e⟩ := List.mem_map.mp q
      exact nb p (.tail _ hp) e

/-- the lambda's place in the text, its code's name -/
noncomputable abbrev lamPos : Pos := ⟨105, 36, 105, 72⟩
/-- the table of codes: empty, or the lambda's code is in it -/
inductive TabCh : List (Addr × MD) → Prop
  | none : TabCh [(120, .obj (tabObj #[]))]
  | some (c' : Addr) (oc : Obj) (vs : Array Value) (t : Tok) : oc.data = .fields vs → vs[1]? = some (.str "_law_listed.<locals>.<lambda>" t) → TabCh [(120, .obj (tabObj #[rawInt lamPos.line, rawInt lamPos.col, .ref c'])), (c', .obj oc)]

theorem St.bmain (H : St c T mu s) {a : Addr} (ha : ∃ o, s.heap.get? a = some o ∧ o.cls ≠ .type "module") : ∃ mg, s.heap.Ns mainGlobals mg ∧ s.heap.BuiltinsAt mg a ∧ CodeHd s.heap 124 120 := by
  obtain ⟨X, hC, p, l, m, mg, mb, t⟩ := H.gd
  obtain ⟨bm, ob, b1, b2, b3, b4, b5, b6⟩ := t.bmain
  obtain ⟨o, ho, hne⟩ := ha
  refine ⟨mg, t.g, ⟨bm, ob, b1, b2, fun q => ?_, fun q => ?_, b3, b4, b5, b6⟩, hC⟩
  · obtain ⟨o, es, ep, e, hd, _⟩ := t.g
    rw [q, e] at b3; cases b3; rw [hd] at b6; cases b6
  · rw [q, ho] at b3; cases b3; exact hne b4

noncomputable def tri (hs : List Int) (k : Nat) : Int × Int × Int := ((k / 3 : Nat), (k % 3 : Nat), hs.getD k 0)
noncomputable def key0 (k : Nat) : Int × Int × Int := ((k / 3 : Nat), (k % 3 : Nat), 0)
noncomputable def cmpK (cols : List (Int × Int)) (j k : Nat) : Int := cmpT cols (key0 j) (key0 k)
noncomputable def posK (cols : List (Int × Int)) (st : List Nat) (k : Nat) : Nat := (st.filter fun j => decide (cmpK cols j k < 0)).length
noncomputable def stageK (cols : List (Int × Int)) (ks : List Nat) : Nat → List Nat
  | 0 => []
  | n + 1 => put1 (stageK cols ks n) (posK cols (stageK cols ks n) (ks.getD n 0)) (ks.getD n 0)
noncomputable def GoodSort (cols : List (Int × Int)) (ks : List Nat) : Prop := (∀ p ∈ cols, p.1 = 0 ∨ p.1 = 1) ∧ ∀ n, n < ks.length → (∀ i, i < posK cols (stageK cols ks n) (ks.getD n 0) → cmpK cols ((stageK cols ks n).getD i 0) (ks.getD n 0) < 0) ∧
  (∀ i, i < (stageK cols ks n).length → posK cols (stageK cols ks n) (ks.getD n 0) ≤ i → ¬ cmpK cols ((stageK cols ks n).getD i 0) (ks.getD n 0) < 0)
theorem cmp_tri (hs : List Int) : ∀ (cols : List (Int × Int)), (∀ p ∈ cols, p.1 = 0 ∨ p.1 = 1) → ∀ j k, cmpT cols (tri hs j) (tri hs k) = cmpK cols j k
  | [], _, _, _ => rfl
  | (i, dir) :: r, h, j, k => by
    have hr := cmp_tri hs r (fun p hp => h p (.tail _ hp)) j k
    have hi := h (i, dir) (.head _)
    unfold cmpK at hr ⊢
    have e : ∀ k, tget (tri hs k) i = tget (key0 k) i := fun k => by rcases hi with h | h <;> dsimp only at h <;> subst h <;> rfl
    simp only [cmpT, e, hr]
theorem put1_length {α : Type} (l : List α) (p : Nat) (a : α) : (put1 l p a).length = l.length + 1 := by simp [put1]; omega
theorem stageK_length (cols : List (Int × Int)) (ks : List Nat) : ∀ n, (stageK cols ks n).length = n
  | 0 => rfl
  | n + 1 => by rw [stageK, put1_length, stageK_length cols ks n]
theorem posK_le (cols : List (Int × Int)) (st : List Nat) (k : Nat) : posK cols st k ≤ st.length := List.length_filter_le _ _
theorem put1_map {α β : Type} (f : α → β) (l : List α) (p : Nat) (a : α) : (put1 l p a).map f = put1 (l.map f) p (f a) := by simp [put1, List.map_take, List.map_drop]

noncomputable abbrev lsT (hs : List Int) (ks : List Nat) : D := .lst ((ks.map (tri hs)).map trip)

/-- the table of codes, the lambda's code in it -/
structure TabL (tc : List (Addr × MD)) (c' : Addr) : Prop where
  ch : TabCh tc
  code : ∃ oc vs t, (c', MD.obj oc) ∈ tc ∧ oc.data = .fields vs ∧ vs[1]? = some (.str "_law_listed.<locals>.<lambda>" t)

theorem mk_lam {params : Arguments} {body : Expr} {scope : Scope} {tc : List (Addr × MD)} {clos : List (Str × Addr)} {Q : Value → Shared → Prop} (hcl : closureFor scope env = pure clos) (hge0 : env.globals = mainGlobals) (hcode : env.code = .ref 124)
    (hq : env.qual ++ "<lambda>" = ("_law_listed.<locals>.<lambda>" : Str)) (hdef : defaultsOf params env = ([], [])) (H : St c T (tc ++ mu) s) (htc : TabCh tc)
    (k : ∀ f pm c' ctv tc' s', TabL tc' c' → St c ((.ref f, .obj (kla_obj "<lambda>" "_law_listed.<locals>.<lambda>" params body scope clos pm c' ctv)) :: T) (tc' ++ mu) s' → Q (.ref f) s') :
    wpAny (Mo c) A (eval (.Lambda params body scope lamPos) env) Q E s := by
  refine kla_eval hdef ?_
  rw [hq]
  cases htc with
  | none =>
    obtain ⟨_, _, hP⟩ := H.at0 (a := 120) (md := .obj (tabObj #[])) (.head _)
    obtain ⟨mg, hg, hb, hC⟩ := H.bmain ⟨_, hP, by simp [tabObj]⟩
    refine kla_makeFunction (mg := mg) hcl hge0 hg hcode hC hP trivial rfl (by decide) hb fun c' ctv h' tk hx hge hlt hrec htb => ?_
    obtain ⟨c₂, oc, vs, t, e2, hoc, hd, hv⟩ := hrec
    cases e2
    have hnew : s.heap.get? c' = none := by
      cases e : s.heap.get? c' with
      | none => rfl
      | some o => exact absurd (Heap.lt_size e) (Nat.not_lt.mpr hge)
    have H1 := St.setPush (k := tk) (h' := h') (b := c') (md' := .obj (tabObj (#[] ++ #[rawInt lamPos.line, rawInt lamPos.col, .ref c']))) (mdb := .obj oc) (a := 120) (md := .obj (tabObj #[])) (mu := mu) H hnew (fun x o hne e => hx x o hne e) (fun g _ => htb) (fun g _ => hoc)
    have H2 := (H1.newObj (k := tk) (o := kla_obj "<lambda>" "_law_listed.<locals>.<lambda>" params body scope clos ((mg "__name__").getD .none) c' ctv))
    exact k _ _ c' ctv [(120, .obj (tabObj #[rawInt lamPos.line, rawInt lamPos.col, .ref c'])), (c', .obj oc)] _ ⟨.some c' oc vs t hd hv, oc, vs, t, .tail _ (.head _), hd, hv⟩ H2
  | some c' oc vs t hd hv =>
    obtain ⟨_, _, hP⟩ := H.at0 (a := 120) (md := .obj (tabObj #[rawInt lamPos.line, rawInt lamPos.col, .ref c'])) (.head _)
    obtain ⟨mg, hg, hb, hC⟩ := H.bmain ⟨_, hP, by simp [tabObj]⟩
    refine kla_makeFunctionHit (mg := mg) (cv := .ref c') hcl hge0 hg hcode hC hP (by simp [TriplesOk, rawInt]) (by simp [codeAmong, rawInt]) hb fun ctv h' tk hk hsz => ?_
    have H1 := H.ext (k := tk) hk
    have H2 := (H1.newObj (k := tk) (o := kla_obj "<lambda>" "_law_listed.<locals>.<lambda>" params body scope clos ((mg "__name__").getD .none) c' ctv))
    exact k _ _ c' ctv [(120, .obj (tabObj #[rawInt lamPos.line, rawInt lamPos.col, .ref c'])), (c', .obj oc)] _ ⟨.some c' oc vs t hd hv, oc, vs, t, .tail _ (.head _), hd, hv⟩ H2

/-- a lambda is entered -/
theorem lam_enter {name qual : Str} {params : Arguments} {body : Expr} {scope : Scope} {cl : List (Str × Addr)} {pm ctv : Value} {c' f : Addr} {args : List Value} {binds : List (Str × Value)} {Q : Value → Shared → Prop}
    (σ : List (Str × D)) (H : St c T mu s) (hroom : A.depth < recursionLimit) (hf : (Value.ref f, D.obj (kla_obj name qual params body scope cl pm c' ctv)) ∈ T) (hc : ∃ oc vs t, (c', MD.obj oc) ∈ mu ∧ oc.data = .fields vs ∧ vs[1]? = some (.str qual t))
    (hbind : bindArgs (kla_fn name qual params body scope cl pm (.ref c') ctv) ⟨args, []⟩ = pure binds) (hloc : (binds.all fun x => decide (scope.names.lookup x.1 = some .local)) = true)
    (hcell : scope.names.all (fun x => x.2 != .cell) = true) (hb : Binds binds T σ)
    (k : ∀ L s', St c T ((L, .ns σ) :: mu) s' → wpAny (Mo c) (A.deeper (envX qual scope L f (.ref c') cl)) (eval body (envX qual scope L f (.ref c') cl)) Q (fun _ _ => False) s')
    (hco : scope.isCoroutine = false := by rfl) (hgen : scope.isGenerator = false := by rfl) (hk : scope.kind = .function := by rfl) : wpAny (Mo c) A (call (.ref f) args []) Q E s := by
  obtain ⟨_, e, hof⟩ := H.isObj hf
  cases e
  obtain ⟨oc, vs, t, hcm, hd, hv⟩ := hc
  obtain ⟨_, _, hoc⟩ := H.at0 hcm
  refine wpAny_call (kla_callFunE hroom hof rfl hco hgen rfl ⟨c', oc, vs, t, rfl, hoc, hd, hv⟩ ?_)
  rw [hbind]
  refine wpAny_pure (wpAny_newFunctionEnv (fun x hx => by simpa using List.all_eq_true.mp hcell x hx) (locs hloc) (fun h₁ hns hsb => ⟨H.noLimit.fresh _ hsb, ?_⟩) hk)
  show codeAny _ _ (.expr body (envX qual scope s.heap.objs.size f (.ref c') cl)) _ _
  have Hs : St c T ((s.heap.objs.size, .ns σ) :: mu) { s with heap := h₁, toks := s.toks + binds.length } := by
    refine H.push (o := default) _ (get?_size_none _) (fun b o e => hsb.extBut b o (Nat.ne_of_lt (Heap.lt_size e)) (Heap.get?_push_of_some _ e)) fun g ht => ⟨_, hns, fun p hp => ?_⟩
    obtain ⟨v, hv, hm⟩ := hb.all p hp
    exact ⟨v, hv, ht _ hm⟩
  exact kla_codeExpr (wpAny_mono (k _ _ Hs) (fun v s' h => h) fun _ _ h => h.elim)

theorem St.bring4 {a b e f g : Addr × MD} (H : St c T (a :: b :: e :: f :: g :: mu) s) : St c T (g :: a :: b :: e :: f :: mu) s := H.perm (List.perm_middle (l₁ := [a, b, e, f])).symm
theorem St.fwd {mx : List (Addr × MD)} (H : St c T (mx ++ mu) s) : St c T (mu ++ mx) s := H.perm List.perm_append_comm
theorem St.midFront {a b : List (Addr × MD)} (H : St c T ((a ++ b) ++ mu) s) : St c T (b ++ (a ++ mu)) s := H.perm (by rw [← List.append_assoc]; exact (List.perm_append_comm).append_right mu)
theorem llPerm {p k c1 c2 : Addr × MD} {tc tl : List (Addr × MD)} : (k :: ((c1 :: c2 :: tc) ++ (p :: tl))).Perm (tc ++ (p :: k :: c1 :: c2 :: tl)) := by
  refine List.Perm.trans ?_ (List.perm_append_comm (l₁ := p :: k :: c1 :: c2 :: tl) (l₂ := tc))
  refine List.Perm.trans ?_ (List.Perm.swap p k _)
  refine List.Perm.cons k ?_
  refine List.Perm.trans ?_ (List.perm_middle (l₁ := [c1, c2]) (a := p) (l₂ := tl ++ tc))
  refine List.Perm.cons c1 (List.Perm.cons c2 ?_)
  exact (List.perm_middle (l₁ := tc) (a := p) (l₂ := tl)).trans (List.Perm.cons p List.perm_append_comm)
theorem head_of {q : Value × D} (H : St c (q :: T) mu s) : ∃ p, p = q := ⟨q, rfl⟩
theorem cmpT_self : ∀ (cols : List (Int × Int)) (t : Int × Int × Int), cmpT cols t t = 0
  | [], _ => rfl
  | (i, dir) :: r, t => by simp only [cmpT, Int.lt_irrefl, if_false]; exact cmpT_self r t
noncomputable abbrev llCh (L kept x : Addr) (hs : List Int) (st : List Nat) (dc : Option D) : List (Addr × MD) := [(L, .ns [("kept", .lit (.ref kept))]), (kept, .lst ((st.map (tri hs)).map trip)), (L + 1 + 1, .cell (some (.lit (.ref x)))), (L + 1, .cell dc)]
noncomputable def LlI (L kept x : Addr) (hs : List Int) (cols : List (Int × Int)) (ks : List Nat) (i : Nat) (mu : List (Addr × MD)) : Prop := ∃ dc tc, TabCh tc ∧ mu = llCh L kept x hs (stageK cols ks i) dc ++ tc
set_option maxHeartbeats 4000000 in
theorem law_listed_ok {v u : Value} {hs : List Int} {ks : List Nat} {cols : List (Int × Int)} {tc : List (Addr × MD)} {Q : Value → Shared → Prop} (H : St c T (tc ++ mu) s) (htc : TabCh tc) (hr : Rm A 8) (hv : (v, lsT hs ks) ∈ T) (hu : (u, colsD cols) ∈ T)
    (hn : ks.length ≤ 100) (hg : GoodSort cols ks)
    (k : ∀ r tc' s', TabCh tc' → St c ((r, lsT hs (stageK cols ks ks.length)) :: T) (tc' ++ mu) s' → Q r s') : wpAny (Mo c) A (call (.ref 125) [v, u] []) Q E s := by
  refine fn_enterC (f := 125) (mp := tc) (mr := mu) (binds := [("cells", v), ("columns", u)]) [("cells", lsT hs ks), ("columns", .lit u)] (fun L => [(L + 1 + 1, .cell none), (L + 1, .cell none)]) (H.lit u) hr.rm rfl rfl rfl rfl rfl
    (fun L => rfl) (fun L => .cons rfl (.tail _ hv) (.cons rfl (.head _) .nil)) (fun L => .empty rfl rfl (.empty rfl rfl .nil)) fun c₂ L s' hw₂ H back => ?_
  have hr2 : ∀ env, Rm (A.deeper env) 7 := fun _ => hr.deeper
  -- order = TupleComp(columns)
  refine wpAny_execs_cons ?_
  repeat ktr_rel
  rename_i H
  cases H.isLit (.head _)
  refine tc_new (d := colsD cols) H ((hr2 _).less (by decide)) (.tail _ (.tail _ hu)) fun x dx es n s' hcmp H => ?_
  obtain ⟨vcv, colsv, rfl, _⟩ := H.isLst (v := u) (ds := cols.map pairD) (by repeat (first | exact hu | apply List.Mem.tail))
  obtain ⟨c₃, hw₃, H, up, more⟩ := H.fix
  rw [show Mo c₂ = Mo c₃ from congrArg (model pw) hw₃.symm]
  generalize hB : (((Value.ref x, D.obj (instObj 93 dx)) :: (Value.ref dx, D.obj (dictOf es n)) :: (Value.ref vcv, D.lit (Value.ref vcv)) :: (Value.ref vcv, D.lit (Value.ref vcv)) :: T) : List (Value × D)) = B at *
  have hBx : (Value.ref x, D.obj (instObj 93 dx)) ∈ B := by rw [← hB]; exact .head _
  have hBd : (Value.ref dx, D.obj (dictOf es n)) ∈ B := by rw [← hB]; exact .tail _ (.head _)
  have hBc : (Value.ref vcv, colsD cols) ∈ B := by rw [← hB]; exact .tail _ (.tail _ (.tail _ (.tail _ hu)))
  refine sto_cell (i := 1) (d := .lit (.ref x)) (H.lit (.ref x)) (.head _) rfl rfl fun s' H => ?_
  replace H := H.drop
  -- kept = []
  refine wpAny_execs_cons ?_
  iterate 3 ktr_rel
  refine op_newListM (ds := []) H (fun p hp => nomatch hp) rfl (Nat.zero_le _) fun kept s' H => ?_
  refine sto (σ' := [("kept", .lit (.ref kept)), ("cells", lsT hs ks)]) (H.swap.lit (.ref kept)) (.head _) (by ktr_room) fun s' H => ?_
  replace H := H.drop
  -- for cell in cells
  refine wpAny_execs_cons (wpAny_For ?_)
  ktr_rel
  rename_i H
  obtain ⟨a1, _, rfl, _⟩ := H.isLst (.head _)
  replace H := more _ _ _ H
  refine it_list (H.nsSub (σ' := [("kept", .lit (.ref kept))]) (by simp)) (.inl (.head _)) fun it s' H => ?_
  refine for_its (mu := llCh L kept x hs (stageK cols ks 0) none ++ tc) (LlI L kept x hs cols ks) (fun c' _ => its_list (ds := (ks.map (tri hs)).map trip) (hr2 _).handled (.head _)) ⟨none, tc, htc, rfl⟩ H ?_ ?_
  · rintro c₄ i dd mu₁ v s E hw₄ up₄ hdd ⟨dc, tc, htc, rfl⟩ H
    rw [List.getElem?_map, List.getElem?_map] at hdd
    obtain ⟨td, hdd', rfl⟩ := Option.map_eq_some_iff.mp hdd
    obtain ⟨kk, hk, rfl⟩ := Option.map_eq_some_iff.mp hdd'
    have hil : i < ks.length := (List.getElem?_eq_some_iff.mp hk).1
    have hkd : ks.getD i 0 = kk := by rw [List.getD_eq_getElem?_getD, hk]; rfl
    generalize htl : tlL it a1 (i + 1) = tl at H ⊢
    obtain ⟨hcols, hgood⟩ := hg
    obtain ⟨hg1, hg2⟩ := hgood i hil
    have hlen := stageK_length cols ks i
    have hple := posK_le cols (stageK cols ks i) (ks.getD i 0)
    have hstage : stageK cols ks (i + 1) = put1 (stageK cols ks i) (posK cols (stageK cols ks i) (ks.getD i 0)) (ks.getD i 0) := rfl
    rw [hkd] at hg1 hg2 hple hstage
    generalize hS : stageK cols ks i = S at *
    generalize hP : posK cols S kk = P at *
    refine own_name (wpAny_assign_Name (sto_cell (i := 3) H (.head _) rfl rfl fun s' H => ?_))
    replace H : St c₄ _ (llCh L kept x hs S (some (trip (tri hs kk))) ++ tc ++ tl) s' := H
    refine wpAny_execs_cons (wpAny_mono (Q := fun f s' => f = .next ∧ ∃ tc', TabCh tc' ∧ St c₄ [] (llCh L kept x hs (stageK cols ks (i + 1)) (some (trip (tri hs kk))) ++ tc' ++ tl) s') ?_ (fun f s' ⟨e, tc', htc', H⟩ => ?_) fun _ _ e => e)
    · refine wpAny_Expr_any ?_
      repeat ktr_rel
      rename_i H
      refine mk_lam (clos := [("order", L + 1 + 1), ("cell", L + 1)]) rfl rfl rfl rfl rfl (St.midFront (a := llCh L kept x hs S (some (trip (tri hs kk)))) H) htc fun f pm c' ctv tc' s' htl' H => ?_
      repeat ktr_rel
      have htc' := htl'.ch
      obtain ⟨oc, vs, tq, hcm, hcd, hcv⟩ := htl'.code
      obtain ⟨Kf, hKf⟩ := head_of H
      have key : KeyOk c₄.w [Kf, (.ref x, .obj (instObj 93 dx)), (.ref dx, .obj (dictOf es n)), (.ref vcv, colsD cols)] ((L + 1 + 1, .cell (some (.lit (.ref x)))) :: (L + 1, .cell (some (trip (tri hs kk)))) :: tc') f (fun t => cmpT cols t (tri hs kk)) := by
        subst hKf
        refine ⟨⟨_, _, .head _, rfl⟩, ?_⟩
        intro c₅ A₅ E₅ T₅ mu₅ s₅ v₅ t₅ Q₅ hw₅ hr₅ hK₅ hc₅ hv₅ H₅ k₅
        refine lam_enter (binds := [("one", v₅)]) [("one", trip t₅)] H₅ (by have := hr₅.depth; omega) (hK₅ _ (.head _)) ⟨oc, vs, tq, hc₅ _ (.tail _ (.tail _ hcm)), hcd, hcv⟩ rfl rfl rfl (by ktr_units) fun L₅ s' H => ?_
        refine methodCall_KW ?_
        refine nm_freeA H rfl (.tail _ (hc₅ _ (.head _))) fun vo H => ?_
        cases H.isLit (.head _)
        refine get_cmp H (.tail _ (hK₅ _ (.tail _ (.head _)))) (.tail _ (hK₅ _ (.tail _ (.tail _ (.head _))))) hcmp ?_
        refine callWith_K H.top.1 rfl ?_
        repeat ktr_rel
        rename_i H
        refine nm_freeA H rfl (.tail _ (hc₅ _ (.tail _ (.head _)))) fun vt H => ?_
        repeat ktr_rel
        refine compare_ok (l := t₅) (t := tri hs kk) H (hr₅.deeper.less (by decide)) (by tb_start) (.tail _ (.tail _ (.tail _ (hK₅ _ (.tail _ (.head _)))))) (.tail _ (.tail _ (.tail _ (hK₅ _ (.tail _ (.tail _ (.head _))))))) hcmp
          (.tail _ (.tail _ (.tail _ (hK₅ _ (.tail _ (.tail _ (.tail _ (.head _)))))))) (by tb_start) (by tb_start) (fun p hp => ?_) fun r s' H => ?_
        · rcases hcols p hp with h | h
          · exact .inl h
          · exact .inr (.inl h)
        · exact k₅ _ _ (H.forget.sub fun q hq => by
            rcases List.mem_cons.mp hq with rfl | hq
            · exact .head _
            · exact .tail _ (.tail _ (.tail _ (.tail _ hq))))
      have hlenS : S.length = i := hlen
      have hval0 : cmpT cols (tri hs kk) (tri hs kk) = 0 := cmpT_self _ _
      have hput : put1 (S.map (tri hs)) P (tri hs kk) = (stageK cols ks (i + 1)).map (tri hs) := by rw [hstage, put1_map]
      replace H := H.perm (llPerm (p := (L, .ns [("kept", .lit (.ref kept))])) (k := (kept, .lst ((S.map (tri hs)).map trip))) (c1 := (L + 1 + 1, .cell (some (.lit (.ref x))))) (c2 := (L + 1, .cell (some (trip (tri hs kk))))) (tc := tc') (tl := tl))
      refine insort_left_ok (ts := S.map (tri hs)) (t₀ := tri hs kk) (p := P) (mr := (L, .ns [("kept", .lit (.ref kept))]) :: tl) key H ((hr2 _).less (by decide)) (fun q hq => ?_) (by tb_start) (by tb_start) (by rw [List.length_map]; omega) (by rw [List.length_map]; omega) (fun j t hj ht => ?_) (fun j t hj ht => ?_) fun s' H => ?_
      · simp only [List.mem_cons, List.not_mem_nil, or_false] at hq
        rcases hq with rfl | rfl | rfl | rfl
        · rw [hKf]; exact .head _
        · repeat (first | exact hBx | apply List.Mem.tail)
        · repeat (first | exact hBd | apply List.Mem.tail)
        · repeat (first | exact hBc | apply List.Mem.tail)
      · rw [List.getElem?_map] at ht
        obtain ⟨m, hm, rfl⟩ := Option.map_eq_some_iff.mp ht
        rw [hval0, cmp_tri hs cols hcols]
        have := hg1 j hj
        rw [List.getD_eq_getElem?_getD, hm] at this
        exact this
      · rw [List.getElem?_map] at ht
        obtain ⟨m, hm, rfl⟩ := Option.map_eq_some_iff.mp ht
        rw [hval0, cmp_tri hs cols hcols]
        have := hg2 j (List.getElem?_eq_some_iff.mp hm).1 hj
        rw [List.getD_eq_getElem?_getD, hm] at this
        exact this
      · refine ⟨rfl, tc', htc', ?_⟩
        rw [hput] at H
        exact H.drop.perm (List.perm_middle (l₁ := [(kept, MD.lst (((stageK cols ks (i + 1)).map (tri hs)).map trip)), (L + 1 + 1, .cell (some (.lit (.ref x)))), (L + 1, .cell (some (trip (tri hs kk))))] ++ tc')).symm
    · subst e
      refine wpAny_execs_nil ⟨llCh L kept x hs (stageK cols ks (i + 1)) (some (trip (tri hs kk))) ++ tc', [], ⟨_, tc', htc', rfl⟩, H⟩
  · rintro mu₁ s ⟨dc, tc, htc, rfl⟩ H
    rw [List.length_map, List.length_map] at H
    refine wpAny_execs_cons ?_
    repeat ktr_rel
    rename_i H
    cases H.isLit (.head _)
    have H1 := St.frzL (St.swap H)
    exact k _ tc _ htc ((back _ _ _ [(L, _), (L + 1 + 1, _), (L + 1, _)] tc _ (.head _) (up _ _ _ H1)).sub fun q hq => by
      rcases List.mem_cons.mp hq with rfl | hq
      · exact .head _
      · exact .tail _ (.tail _ hq))
end
/-! ZU -/
/-! bytearray(n) -/
namespace FA
theorem mro : mroOf (.type "bytearray") = pure [.type "bytearray", .type "object"] := by rw [mroOf_type]; kernel_rfl
theorem look_new : typeLookup (.type "bytearray") "__new__" = pure (some (.builtin "bytearray.__new__")) := by rw [typeLookup_type, builtinLookup_eq_fast]; kernel_rfl
theorem sub : isSubtype (.type "bytearray") (.type "bytearray") = pure true := by rw [isSubtype_type]; kernel_rfl
theorem slot_init : Slot "bytearray" "__init__" "bytearray.__init__" :=
  .of (owner := "bytearray") (n := "__init__") (by rw [typeLookup_type, builtinLookup_eq_fast]; kernel_rfl) (by decide +kernel) (by decide +kernel) (by decide +kernel)
    (by first | exact .inl (by decide +kernel) | exact .inr (by decide +kernel)) sub
theorem called : TypeCalled "bytearray" "bytearray.__new__" "bytearray.__init__" :=
  ⟨by decide +kernel, by decide +kernel, ⟨_, _, mro⟩, madeBy_type mro look_new (by decide +kernel), by decide +kernel, sub, slot_init⟩
theorem typeCall (a : Value) : checkTypeCall "bytearray" ⟨[a], []⟩ = pure () := by kernel_rfl
theorem newCall (a : Value) : checkBuiltinCall "bytearray.__new__" ⟨[.type "bytearray", a], []⟩ = pure () := by kernel_rfl
theorem initArgs (o a : Value) : argsOk "bytearray.__init__" ⟨[o, a], []⟩ := by unfold argsOk; kernel_rfl
theorem plain_new : plainId "bytearray.__new__" = true := by decide +kernel
theorem entry_new : entryFor table "bytearray.__new__" = some Builtin.«list.__new__» := entryFor_alias (id' := "list.__new__") (by rw [fastTable_eq_tree]; kernel_rfl) (by decide +kernel) (by decide +kernel) (by rw [fastTable_eq_tree]; kernel_rfl)
theorem entry_init : entryFor table "bytearray.__init__" = some Builtin.«bytearray.__init__» := by first | exact entryFor_of_fast (by kernel_rfl) | exact entryFor_of_tree (by kernel_rfl)
theorem bind (v : Value) : Builtin.Bytes.bindOptional "bytearray.__init__" "bytearray" ["source", "encoding", "errors"] [v] [] = pure [some v, none, none] := by kernel_rfl
theorem look_release : typeLookup (.type "bytearray") "__release_buffer__" = pure (some (.builtin "bytearray.__release_buffer__")) := by rw [typeLookup_type, builtinLookup_eq_fast]; kernel_rfl
theorem look_buffer : typeLookup (.type "bytearray") "__buffer__" = pure (some (.builtin "bytearray.__buffer__")) := by rw [typeLookup_type, builtinLookup_eq_fast]; kernel_rfl
theorem look_len : typeLookup (.type "bytearray") "__len__" = pure (some (.builtin "bytearray.__len__")) := by rw [typeLookup_type, builtinLookup_eq_fast]; kernel_rfl
theorem look_index : ∃ f, typeLookup (.type "int") "__index__" = pure (some f) := ⟨.builtin "int.__index__", by rw [typeLookup_type, builtinLookup_eq_fast]; kernel_rfl⟩
theorem none_bytes : typeLookup (.type "bytearray") "__bytes__" = pure none := by rw [typeLookup_type, builtinLookup_eq_fast]; kernel_rfl
theorem none_index : typeLookup (.type "bytearray") "__index__" = pure none := by rw [typeLookup_type, builtinLookup_eq_fast]; kernel_rfl
set_option maxRecDepth 1000000 in
set_option maxHeartbeats 4000000 in
theorem owner : ("bytearray.__new__".splitOn ".__new__").headD "" = "bytearray" := by simp +decide [String.splitOn, String.splitOnAux]
end FA
section
variable {prog : Program} {w : World} {A : Around} {E : Value → Shared → Prop} {s : Shared}
theorem if_n {α : Type} {M : Model} {c : Prop} [Decidable c] {a b : Sem α} {Q : α → Shared → Prop} (hc : ¬ c) (h : wpAny M A b Q E s) : wpAny M A (if c then a else b) Q E s := by rw [if_neg hc]; exact h
theorem if_p {α : Type} {M : Model} {c : Prop} [Decidable c] {a b : Sem α} {Q : α → Shared → Prop} (hc : c) (h : wpAny M A a Q E s) : wpAny M A (if c then a else b) Q E s := by rw [if_pos hc]; exact h
theorem own_release {a : Addr} {Q : Bool → Shared → Prop} (hT : s.TypeIs (.ref a) "bytearray") (h : Q false s) : wpAny (model prog w) A (Builtin.Bytes.ownRelease (.ref a)) Q E s := by
  have key : ∀ x : String, x = "bytearray" → ∀ Q' : Bool → Shared → Prop, Q' true s → wpAny (model prog w) A (isInstance (.ref a) (.type x)) Q' E s := fun x hx Q' h' => by rw [hx]; exact wpAny_isInstance hT FA.sub h'
  unfold Builtin.Bytes.ownRelease Builtin.Bytes.slotIsOwn
  refine wpAny_bind (wpAny_bind (wpAny_specialOf hT FA.look_release ?_))
  simp only
  split
  · rename_i hx
    exact absurd hx (by decide +kernel)
  · exact key _ (by decide +kernel) _ (wpAny_pure h)
theorem exportedG {v : Value} {Q : Bool → Shared → Prop} (h : Q false s) : wpG (model prog w) A (Builtin.Bytes.exported v) Q E s := fun Γ p hΓ hc => by
  unfold Builtin.Bytes.exported
  rw [Sem.wp_bind']
  unfold stack
  rw [Sem.wp_stack]
  simp only [Sem.wp_pure, pure]
  have : ∀ (f : Code × Pos → Bool), (∀ q, noDec q.1 = true → f q = false) → ((Γ.code, p) :: Γ.below).any f = false := fun f hf => by
    rw [List.any_eq_false]
    intro q hq
    rw [hf q]
    · exact Bool.false_ne_true
    · rcases List.mem_cons.mp hq with rfl | hq
      · exact hc.1
      · exact hc.2 q hq
  rw [this]
  · exact h
  · rintro ⟨c, q⟩ hq
    split <;> first | rfl | (rename_i heq; cases heq; (simp only [noDec] at hq; first | exact absurd hq (by decide +kernel) | skip))
    rename_i id _ _ _ _ _ _ _ _
    have : Builtin.Bytes.decodersThatHold.contains id = false := by
      have : (!holdIds.contains id) = true := hq
      simp only [holdIds, List.contains_eq_any_beq, List.any_append, Bool.not_eq_true', Bool.or_eq_false_iff] at this ⊢
      exact this.2
    rw [this, Bool.and_false]

theorem code_ba_new (a : Value) {Q₁ : Value → Shared → Prop}
    (h : Q₁ (.ref s.heap.objs.size) { s with heap := s.heap.push { cls := .type "bytearray", data := .bytearray #[] } }) :
    codeAny (model prog w) A (.call (.builtin "bytearray.__new__") ⟨[.type "bytearray", a], []⟩) (wants Q₁ E) s := by
  refine codeAny_of_tree ?_
  show wpAny _ A.in1 (do checkBuiltinCall "bytearray.__new__" ⟨[.type "bytearray", a], []⟩; again (.builtin "bytearray.__new__" ⟨[.type "bytearray", a], []⟩)) _ _ s
  refine wpAny_bind (wpAny_of_eq (FA.newCall a) (wpAny_pure ⟨plainId_quiet FA.plain_new _, codeAny_builtin_stack FA.entry_new rfl fun p st => ?_⟩))
  rw [Around.under_plainId FA.plain_new _]
  have hsub := FA.sub
  have hown := FA.owner
  obtain ⟨hp, g, d, tk, os⟩ := s
  simp only [hown]
  wp_walk
  exact h

theorem asIndex_int {n : Int} {t : Tok} : asIndex (.int n t) = pure n := rfl
theorem writeA {a : Addr} {b : Array UInt8} {f : Array UInt8 → Array UInt8} {Q : Unit → Shared → Prop} (hb : s.heap.get? a = some { cls := .type "bytearray", data := .bytearray b })
    (hz : (f b).size ≤ sizeLine) (h : ∀ h', (h'.get? a = some { cls := .type "bytearray", data := .bytearray (f b) }) → s.heap.SameBut a h' → Q () { s with heap := h' }) :
    wpAny (model prog w) A (Builtin.Bytes.write (.ref a) f) Q E s := by
  show wpAny _ _ (updateBytearray a f) _ _ _
  unfold updateBytearray
  refine wpAny_bind (wpAny_load hb ?_)
  show wpAny _ _ (update a (Obj.mapBytearray f) >>= fun _ => lookBehind a) _ _ _
  refine wpAny_bind (wpAny_update hb ?_)
  have hS := Heap.get?_update_self (Obj.mapBytearray f) hb rfl
  refine wpAny_lookBehind hS ?_ (h _ hS (Heap.SameBut.update ..))
  show (if (f b).size > sizeLine then some "bytearray:memory" else none) = none
  rw [if_neg (by omega)]

theorem initG {A' : Around} {S : Addr} {n : Int} {t : Tok} {R : Result → Shared → Prop} (hS : s.heap.get? S = some { cls := .type "bytearray", data := .bytearray #[] }) (h0 : 0 < n) (h1 : n ≤ 1000)
    (hR : ∀ h', (h'.get? S = some { cls := .type "bytearray", data := .bytearray (Array.replicate n.toNat 0) }) → s.heap.SameBut S h' → R (.ok (.ret .none)) { s with heap := h' }) :
    wpG (model prog w) A' (Builtin.«bytearray.__init__» ⟨[.ref S, .int n t], []⟩) (fun fin s' => match fin with | .done f => R (.ok f) s' | .again c' => (c'.quiet = true ∧ noDec c' = true) ∧ codeG (model prog w) A c' R s') (fun e s' => R (.error e) s') s := by
  have hT : s.TypeIs (.ref S) "bytearray" := by
    first | exact typeIs_of hS rfl | exact ⟨_, hS, rfl⟩
  unfold Builtin.«bytearray.__init__»
  refine wpG_step (own_release hT ?_)
  rw [if_neg Bool.false_ne_true]
  refine wpG_step (wpAny_of_eq (FA.bind _) ?_)
  refine wpG_step (wpAny_of_eq (a := ()) rfl ?_)
  refine wpG_step (wpAny_of_eq (a := ()) rfl ?_)
  refine wpG_bind ?_
  refine wpG_bind (exportedG ?_)
  refine wpG_of ?_
  refine wpAny_bind (wpAny_bind (wpAny_load hS ?_))
  refine wpAny_pure (wpAny_pure ?_)
  rw [if_neg (by decide)]
  refine wpG_of ?_
  refine wpAny_bind (writeA hS (Nat.zero_le _) fun h' hS' hb' => ?_)
  refine wpAny_bind (wpAny_of_eq (a := none) rfl ?_)
  refine bm_if_false rfl ?_
  obtain ⟨f, hf⟩ := FA.look_index
  refine wpAny_bind (bm_if_false rfl (bm_if_false rfl (wpAny_pure ?_)))
  refine wpAny_bind (wpAny_specialOf_val (T := "int") rfl hf ?_)
  refine bm_if_true rfl ?_
  refine wpAny_bind (wpAny_attempt (wpAny_of_eq asIndex_int ?_))
  refine bm_if_false (by simp only [Builtin.Bytes.fitsIndex, Bool.not_eq_false', Bool.and_eq_true, decide_eq_true_eq]; omega) ?_
  refine if_n (by omega) ?_
  refine bm_if_false (by simp only [beq_eq_false_iff_ne, ne_eq]; omega) ?_
  refine bm_if_false (KBy.tooLong_not (by omega)) ?_
  refine wpAny_bind (wpAny_rule ?_)
  refine if_p (by omega) ?_
  refine wpAny_bind (writeA hS' (by rw [Array.size_replicate, sizeLine_eq]; omega) fun h2 hS2 hb2 => ?_)
  exact wpAny_pure (hR h2 hS2 (hb'.trans hb2))

theorem noDec_builtin {id : String} {args : Args} (h : holdIds.contains id = false) : noDec (.builtin id args) = true := by
  show (!holdIds.contains id) = true
  rw [h]; rfl
theorem ifG_n {α : Type} {M : Model} {c : Prop} [Decidable c] {a b : Sem α} {Q : α → Shared → Prop} (hc : ¬ c) (h : wpG M A b Q E s) : wpG M A (if c then a else b) Q E s := by rw [if_neg hc]; exact h
theorem ifG_f {α : Type} {M : Model} {c : Bool} {a b : Sem α} {Q : α → Shared → Prop} (hc : c = false) (h : wpG M A b Q E s) : wpG M A (if c = true then a else b) Q E s := by subst hc; exact h
theorem wpG_holding {α : Type} {M : Model} {vs : List Value} {m : Sem α} {Q : α → Shared → Prop} (h : wpG M A m Q E s) : wpG M A (holding vs m) Q E s :=
  fun Γ p hΓ hc => by rw [Sem.wp_holding]; exact h Γ p hΓ hc
theorem codeG_builtin {id : String} {args : Args} {b : Builtin} {R : Result → Shared → Prop} (hb : entryFor table id = some b)
    (h : wpG (model prog w) (A.under (.builtin id args)) (b args)
      (fun fin s' => match fin with | .done f => R (.ok f) s' | .again c' => (c'.quiet = true ∧ noDec c' = true) ∧ codeG (model prog w) A c' R s') (fun e s' => R (.error e) s') s) :
    codeG (model prog w) A (.builtin id args) R s := by
  refine codeG_of_tree ?_
  show wpG _ _ (match entryFor table id with | some b => b args | none => unsupported ((withoutEnding? id "#data").getD id)) _ _ s
  rw [hb]; exact h

theorem code_initG {S : Addr} {n : Int} {t : Tok} {R : Result → Shared → Prop} (hS : s.heap.get? S = some { cls := .type "bytearray", data := .bytearray #[] }) (h0 : 0 < n) (h1 : n ≤ 1000)
    (hR : ∀ h', (h'.get? S = some { cls := .type "bytearray", data := .bytearray (Array.replicate n.toNat 0) }) → s.heap.SameBut S h' → R (.ok (.ret .none)) { s with heap := h' }) :
    codeG (model prog w) A (.builtin "bytearray.__init__" ⟨[.ref S, .int n t], []⟩) R s := codeG_builtin FA.entry_init (initG hS h0 h1 hR)
theorem call_bytearrayG {n : Int} {t : Tok} {Q : Value → Shared → Prop} (h0 : 0 < n) (h1 : n ≤ 1000)
    (hQ : ∀ h', (∀ b o, s.heap.get? b = some o → h'.get? b = some o) → h'.get? s.heap.objs.size = some { cls := .type "bytearray", data := .bytearray (Array.replicate n.toNat 0) } →
      Q (.ref s.heap.objs.size) { s with heap := h' }) : wpG (model prog w) A (call (.type "bytearray") [.int n t]) Q E s := by
  have hct := FA.typeCall (.int n t)
  obtain ⟨c, tl, hmro⟩ := FA.called.mro
  have hmade := FA.called.made
  have hsub := FA.sub
  refine wpG_call (codeG_of_tree ?_)
  show wpG _ _ (callAny (.type "bytearray") _) _ _ _
  refine wpG_pure ⟨⟨Code.quiet_builtin _ (by decide +kernel), noDec_builtin (by decide +kernel)⟩, codeG_builtin F.entry_type_call ?_⟩
  rw [Around.under_plain (weight_type_call_type "bytearray" _ []) rfl]
  have h1' := FA.called.notType
  have h2' := FA.called.canCreate
  unfold Builtin.«type.__call__»
  refine ifG_f h1' ?_
  refine ifG_f h2' ?_
  refine wpG_step (wpAny_of_eq hct ?_)
  refine wpG_step (wpAny_of_eq hmro ?_)
  refine ifG_f rfl ?_
  refine wpG_step (wpAny_of_eq hmade ?_)
  refine wpG_step (wpAny_pure ?_)
  refine wpG_step (wpAny_holding (wpAny_call (code_ba_new _ ?_)))
  have hS : (s.heap.push { cls := .type "bytearray", data := .bytearray #[] }).get? s.heap.objs.size = some { cls := .type "bytearray", data := .bytearray #[] } := Heap.get?_push_size _ rfl
  have hT : ({ s with heap := s.heap.push { cls := .type "bytearray", data := .bytearray #[] } } : Shared).TypeIs (.ref s.heap.objs.size) "bytearray" := by
    first | exact typeIs_of hS rfl | exact ⟨_, hS, rfl⟩
  refine wpG_step (wpAny_isInstance hT hsub ?_)
  refine ifG_f rfl ?_
  refine wpG_bind (wpG_holding ?_)
  unfold callSpecial?
  refine wpG_step (wpAny_specialOf hT FA.slot_init.lookup ?_)
  refine wpG_holding (wpG_step (wpAny_of_eq (FA.slot_init.bind _) ?_))
  refine wpG_bind (wpG_call (codeG_of_tree ?_))
  show wpG _ _ (do checkBuiltinCall "bytearray.__init__" ⟨[.ref s.heap.objs.size, .int n t], []⟩; again (.builtin "bytearray.__init__" ⟨[.ref s.heap.objs.size, .int n t], []⟩)) _ _ _
  refine wpG_step (FA.slot_init.check _ _ _ _ _ _ _ _ hT (FA.initArgs _ _) ?_)
  refine wpG_pure ⟨⟨plainId_quiet FA.slot_init.plain _, noDec_builtin (by decide +kernel)⟩, code_initG hS h0 h1 fun h' hS' hb => ?_⟩
  refine wpG_pure ?_
  refine ifG_f rfl ?_
  exact wpG_pure (hQ h' (fun b o e => hb.extBut b o (Nat.ne_of_lt (Heap.lt_size e)) (Heap.get?_push_of_some _ e)) hS')
end
/-! ZV -/
/-! a bytearray's item set; bytes of a bytearray -/
namespace FA
theorem slot_setitem : Slot "bytearray" "__setitem__" "bytearray.__setitem__" :=
  .of (owner := "bytearray") (n := "__setitem__") (by rw [typeLookup_type, builtinLookup_eq_fast]; kernel_rfl) (by decide +kernel) (by decide +kernel) (by decide +kernel)
    (by first | exact .inl (by decide +kernel) | exact .inr (by decide +kernel)) sub
theorem entry_setitem : entryFor table "bytearray.__setitem__" = some Builtin.«bytearray.__setitem__» := by first | exact entryFor_of_fast (by kernel_rfl) | exact entryFor_of_tree (by kernel_rfl)
theorem args_setitem (o a b : Value) : argsOk "bytearray.__setitem__" ⟨[o, a, b], []⟩ := by unfold argsOk; kernel_rfl
end FA
section
variable {prog : Program} {w : World} {A : Around} {E : Value → Shared → Prop} {s : Shared}
theorem setItem_ba {l : Addr} {b : Array UInt8} {k n : Int} {t u : Tok} {Q : Unit → Shared → Prop} (hb : s.heap.get? l = some { cls := .type "bytearray", data := .bytearray b })
    (h0 : 0 ≤ k) (hk : k < b.size) (hz : b.size ≤ 1000) (n0 : 0 ≤ n) (n1 : n < 256)
    (hQ : ∀ h', h'.get? l = some { cls := .type "bytearray", data := .bytearray (b.setIfInBounds k.toNat n.toNat.toUInt8) } → Heap.SameBut l s.heap h' → Q () { s with heap := h' }) :
    wpAny (model prog w) A (setItem (.ref l) (.int k t) (.int n u)) Q E s := by
  have hT : s.TypeIs (.ref l) "bytearray" := by
    first | exact typeIs_of hb rfl | exact ⟨_, hb, rfl⟩
  unfold setItem
  try with_reducible refine wpAny_holding ?_
  first | refine wpAny_bind (wpAny_pure ?_) | skip
  refine wpAny_bind (wpAny_sequenceKey hT (by decide) ?_)
  refine wpAny_bind (wpAny_callSpecial?_slot (name := Str.ofString "__setitem__") hT FA.slot_setitem
    (wpAny_call_entry FA.slot_setitem hT FA.entry_setitem ?_ (FA.args_setitem _ _ _)))
  obtain ⟨f, hf⟩ := FA.look_index
  unfold Builtin.«bytearray.__setitem__»
  refine bm_if_false rfl ?_
  show wpAny _ _ (Builtin.Bytes.subscript? (.int k t) >>= _) _ _ s
  refine wpAny_bind ?_
  unfold Builtin.Bytes.subscript?
  refine wpAny_bind (wpAny_specialOf_val (T := "int") rfl hf ?_)
  refine bm_if_false rfl ?_
  refine wpAny_bind (wpAny_of_eq asIndex_int ?_)
  refine bm_if_false (by simp only [Builtin.Bytes.fitsIndex, Bool.not_eq_false', Bool.and_eq_true, decide_eq_true_eq]; omega) ?_
  refine wpAny_pure ?_
  show wpAny _ _ (Builtin.Bytes.byteValue (.int n u) >>= _) _ _ s
  refine wpAny_bind ?_
  unfold Builtin.Bytes.byteValue
  refine wpAny_bind (wpAny_of_eq asIndex_int ?_)
  refine bm_if_false (by simp only [Bool.or_eq_false_iff, decide_eq_false_iff_not]; omega) ?_
  refine wpAny_pure ?_
  refine wpAny_bind ?_
  unfold Builtin.Bytes.payload Builtin.Bytes.payload?
  refine wpAny_bind (wpAny_bind (wpAny_load hb (wpAny_pure (wpAny_pure ?_))))
  have hs : seqIndex? k b.size = some k.toNat := by
    have hn : ¬ k < 0 := by omega
    simp [seqIndex?, hn, h0, hk]
  rw [hs]
  refine wpAny_bind (writeA hb (by rw [Array.size_setIfInBounds, sizeLine_eq]; omega) fun h' hS' hb' => ?_)
  first
    | exact wpAny_bind (wpAny_pure (wpAny_pure ⟨.none, rfl, wpAny_pure (hQ _ hS' hb')⟩))
    | exact wpAny_pure ⟨.none, rfl, wpAny_pure (hQ _ hS' hb')⟩
theorem buffer_ba {a : Addr} {b : Array UInt8} {Q : Option (Array UInt8) → Shared → Prop} (hb : s.heap.get? a = some { cls := .type "bytearray", data := .bytearray b }) (h : Q (some b) s) :
    wpAny (model prog w) A (Builtin.Bytes.buffer? "bytes.__new__" (.ref a) true) Q E s := by
  have hT : s.TypeIs (.ref a) "bytearray" := by
    first | exact typeIs_of hb rfl | exact ⟨_, hb, rfl⟩
  have key : ∀ x : String, x = "bytearray" → ∀ Q' : Bool → Shared → Prop, Q' true s → wpAny (model prog w) A (isInstance (.ref a) (.type x)) Q' E s := fun x hx Q' h' => by rw [hx]; exact wpAny_isInstance hT FA.sub h'
  unfold Builtin.Bytes.buffer?
  refine wpAny_bind (wpAny_specialOf hT FA.look_buffer ?_)
  refine wpAny_bind ?_
  unfold Builtin.Bytes.slotIsOwn
  refine wpAny_bind (wpAny_specialOf hT FA.look_buffer ?_)
  simp only
  split
  · rename_i hx
    exact absurd hx (by decide +kernel)
  refine key _ (by decide +kernel) _ ?_
  refine bm_if_false rfl ?_
  refine wpAny_bind (wpAny_specialOf hT FA.look_buffer ?_)
  refine wpAny_bind (own_release hT ?_)
  refine bm_if_false rfl ?_
  refine wpAny_bind ?_
  unfold Builtin.Bytes.payload Builtin.Bytes.payload?
  exact wpAny_bind (wpAny_bind (wpAny_load hb (wpAny_pure (wpAny_pure (wpAny_pure h)))))

theorem bytes_ba {l : Addr} {b : Array UInt8} {Q : Value → Shared → Prop} (hb : s.heap.get? l = some { cls := .type "bytearray", data := .bytearray b }) (hz : b.size ≤ 1000)
    (hQ : ∀ t k, Q (.bytes b t) { s with toks := k }) : wpAny (model prog w) A (call (.type "bytes") [.ref l]) Q E s := by
  have hT : s.TypeIs (.ref l) "bytearray" := by
    first | exact typeIs_of hb rfl | exact ⟨_, hb, rfl⟩
  refine callType_codes (Q₁ := fun obj s₁ => s₁.TypeIs obj "bytes" ∧ Q obj s₁) F.bm_called (F.bm_typeCall _) F.entry_object_init ?_ fun obj s₁ h₁ =>
    ⟨h₁.1, F.args_object_init_2 obj _, object_init_meets F.bm_called.init.lookup F.bm_called.made (by decide) prog w A.in1 _ s₁ ⟨h₁.1, rfl, h₁.2⟩⟩
  refine codeAny_of_tree ?_
  show wpAny _ _ (do checkBuiltinCall "bytes.__new__" ⟨[.type "bytes", .ref l], []⟩; again (.builtin "bytes.__new__" ⟨[.type "bytes", .ref l], []⟩)) _ _ s
  refine wpAny_bind (wpAny_of_eq (F.bm_newCall _) (wpAny_pure ⟨plainId_quiet F.bm_plain _, codeAny_builtin F.bm_entry ?_⟩))
  rw [Around.under_plainId F.bm_plain _]
  unfold Builtin.«bytes.__new__»
  refine wpAny_bind (wpAny_of_eq (a := true) rfl ?_)
  refine bm_if_false rfl ?_
  refine wpAny_bind (wpAny_of_eq F.bm_sub ?_)
  refine bm_if_false rfl ?_
  refine wpAny_bind (wpAny_of_eq (F.bm_bind _) ?_)
  refine wpAny_bind (wpAny_of_eq (a := ()) rfl ?_)
  refine wpAny_bind (wpAny_of_eq (a := ()) rfl ?_)
  refine bm_if_false rfl ?_
  refine wpAny_bind (wpAny_specialOf hT FA.none_bytes ?_)
  refine wpAny_bind (wpAny_bind ?_)
  show wpAny _ _ (load l >>= _) _ _ _
  refine wpAny_bind (wpAny_load hb ?_)
  refine wpAny_pure (wpAny_pure ?_)
  refine bm_if_false rfl ?_
  refine wpAny_bind (wpAny_specialOf hT FA.none_index ?_)
  refine bm_if_true rfl ?_
  show wpAny _ _ (Builtin.Bytes.buffer? "bytes.__new__" (.ref l) true >>= _) _ _ _
  refine wpAny_bind (buffer_ba hb ?_)
  refine wpAny_bind (wpAny_rule ?_)
  refine wpAny_bind (wpAny_mkBytes ?_ (by rw [sizeLine_eq]; omega))
  show wpAny _ _ (if (Value.type "bytes" == Value.type "bytes") = true then _ else _) _ _ _
  refine bm_if_true (by decide) ?_
  first
    | exact wpAny_pure (wpAny_pure ⟨PySem.W.typeIs_bytes _ _ _, hQ _ _⟩)
    | exact wpAny_bind (wpAny_pure (wpAny_pure ⟨PySem.W.typeIs_bytes _ _ _, hQ _ _⟩))
    | exact wpAny_bind (wpAny_pure (wpAny_pure (wpAny_pure ⟨PySem.W.typeIs_bytes _ _ _, hQ _ _⟩)))
end
/-! ZW -/
/-! statements over clean contexts -/
section
variable {M : Model} {A : Around} {E : Value → Shared → Prop} {s : Shared} {env : Env}
theorem execsG_cons {st rest} {Q : Flow → Shared → Prop}
    (h : wpG M A (exec st env) (fun f s' => match f with | .next => wpG M A (execs rest env) Q E s' | f => Q f s') E s) :
    wpG M A (execs (st :: rest) env) Q E s := fun Γ p hΓ hc => by
  rw [execs_cons, Sem.wp_bind']
  refine Sem.wp_mono M Γ _ (fun f p' s' h' => ?_) (fun _ _ _ h' => h') _ _ (h Γ p hΓ hc)
  cases f <;> first | exact h' Γ p' hΓ hc | exact h'
theorem assignG {x pos' value pos} {Q : Flow → Shared → Prop}
    (h : wpG M A (eval value env) (fun v s₁ => wpAny M A (storeName env x v) (fun _ => Q .next) E s₁) E s)
    (hs : swapsWith value (some (.Name x pos')) pos.line env = pure false := by rfl) :
    wpG M A (exec (.Assign [.Name x pos'] value pos) env) Q E s := fun Γ p hΓ hc => by
  simp only [exec_Assign_Name env x pos' value pos hs, Sem.wp_bind', Sem.wp_cmd_standAt, Sem.wp_bindName, Sem.wp_pure']
  exact Sem.wp_mono M Γ _ (fun v _ s₁ h₁ => h₁ Γ _ hΓ) (fun _ _ _ h' => h') _ _ (h Γ _ hΓ hc)
theorem callNameG {x : Str} {np pos : Pos} {args : List Expr} {keywords : List Keyword} {Q : Value → Shared → Prop}
    (h : wpAny M A (eval (.Name x np) env) (fun f s₁ => wpG M A (callWith pos f [] (backTo pos (starEach args env)) (backToKw pos (keywordEach keywords env))) Q E s₁) E s) :
    wpG M A (eval (.Call (.Name x np) args keywords pos) env) Q E s := by
  show wpG M A (do callWith pos (← eval (.Name x np) env) [] (backTo pos (starEach args env)) (backToKw pos (keywordEach keywords env))) Q E s
  exact wpG_step h
theorem wpG_standAt {pos : Pos} {Q : Unit → Shared → Prop} (h : Q () s) : wpG M A (standAt pos) Q E s := wpG_of (wpAny_standAt h)
theorem callWithG_type {pos : Pos} {T : String} {first : List Value} {args : List (Bool × Sem Value)} {Q : Value → Shared → Prop}
    (hplain : args.any (·.1) = false)
    (h : wpAny M A (evalArgs (.type T) true args []) (fun a s₁ => wpG M A (call (.type T) (first ++ a.pos) a.kw) Q E s₁) E s) :
    wpG M A (callWith pos (.type T) first args []) Q E s := by
  unfold callWith
  refine wpG_step (wpAny_holding (wpAny_mono h (fun a s₁ h₁ => wpG_step (wpAny_standAt ?_)) fun _ _ x => x))
  simp only [hplain, List.any_nil, Bool.or_false]
  refine wpG_step (wpAny_pure ?_)
  exact wpG_bind (wpG_mono h₁ (fun r s₂ hr => wpG_step (wpAny_holding (wpAny_point (wpG_pure hr)))) fun _ _ x => x)
theorem callWithG_type1 {pos : Pos} {T : String} {e : Expr} {rest : List Expr} {Q : Value → Shared → Prop}
    (h : wpAny M A (spliced (backTo pos (starEach (e :: rest) env))) (fun vs s₁ => wpG M A (call (.type T) vs) Q E s₁) E s)
    (he : starEach (e :: rest) env = (false, eval e env) :: starEach rest env := by rfl)
    (hplain : (backTo pos (starEach rest env)).any (·.1) = false := by rfl) :
    wpG M A (callWith pos (.type T) [] (backTo pos (starEach (e :: rest) env)) []) Q E s := by
  rw [he] at h ⊢
  exact callWithG_type (by show (false || (backTo pos (starEach rest env)).any (·.1)) = false; rw [hplain]; rfl) (evalArgs_plain h)
theorem onRaiseG {α : Type} {m : Sem α} {k : Value → Sem Unit} {Q : α → Shared → Prop} (h : wpG M A m Q (fun _ _ => False) s) : wpG M A (m.onRaise k) Q E s := fun Γ p hΓ hc => by
  rw [Sem.wp_onRaise]
  exact Sem.wp_mono M Γ m (fun _ _ _ h' => h') (fun e p' s' h' => h'.elim) p s (h Γ p hΓ hc)
end
section
variable {prog : Program} {w : World} {A : Around} {s : Shared} {R : Result → Shared → Prop}
theorem codeG_func {body env} (h : wpG (model prog w) (A.deeper env) (execs body env) (fun f s' => R (.ok (.ret (match f with | .ret v => v | _ => .none))) s') (fun _ _ => False) s) :
    codeG (model prog w) A (.func body env) R s := by
  refine codeG_of_tree ?_
  show wpG _ (A.deeper env) (do point; match ← (execs body env).onRaise (leaving env) with | .ret v => ret v | _ => ret .none) _ _ s
  refine wpG_step (wpAny_point (wpG_bind (onRaiseG (wpG_mono h (fun f s' h' => ?_) fun _ _ h' => h'))))
  cases f <;> exact wpG_pure h'

theorem codeG_call_def {a : Addr} {o : Obj} {fd : FuncData} {body : List Stmt} {args : Args} {binds : List (Str × Value)}
    (hroom : A.depth < recursionLimit) (ho : s.heap.get? a = some o) (hdata : o.data = .func fd) (hlim : s.heap.NoLimit) (hcd : s.heap.CodeRec fd.code fd.qualname)
    (hbody : fd.body = .stmts body) (hbind : BindsTo s fd args binds)
    (hcell : ∀ x ∈ fd.scope.names, x.2 ≠ .cell) (hloc : ∀ x ∈ binds, fd.scope.names.lookup x.1 = some .local)
    (h : ∀ h₀, h₀.Ns s.heap.objs.size (fun x => binds.reverse.lookup x) → (∀ b o, s.heap.get? b = some o → h₀.get? b = some o) →
      wpG (model prog w) (A.deeper (callEnv fd s.heap.objs.size a)) (execs body (callEnv fd s.heap.objs.size a)) (fun f s' => R (.ok (.ret (match f with | .ret v => v | _ => .none))) s') (fun _ _ => False)
        { s with heap := h₀, toks := s.toks + binds.length })
    (hco : fd.scope.isCoroutine = false := by rfl) (hgen : fd.scope.isGenerator = false := by rfl) (hk : fd.scope.kind = .function := by rfl) :
    codeG (model prog w) A (.call (.ref a) args) R s := by
  refine codeG_of_tree ?_
  show wpG _ A.in1 (callAny (.ref a) args) _ _ s
  simp only [callAny]
  refine wpG_step (wpAny_load ho ?_)
  obtain ⟨c, oc, vs, tq, hc, hoc, hdc, hq⟩ := hcd
  simp only [hdata, callFunction, hco, hgen, hbody, hc]
  refine wpG_step (m := field (.ref c) 1) (wpAny_field hoc hdc hq (wpG_step (wpAny_pure ?_)))
  refine wpG_step (hbind _ _ _ _ ?_)
  refine wpG_step ?_
  rw [← hc]
  refine wpAny_newFunctionEnv hcell hloc (fun h₀ hns₀ hsb₀ => ?_) hk
  refine wpG_step (wpAny_enterFrame (hlim.fresh _ hsb₀) hroom (wpG_pure ⟨⟨rfl, rfl⟩, ?_⟩))
  exact codeG_func (h h₀ hns₀ fun b o e => hsb₀.extBut b o (Nat.ne_of_lt (Heap.lt_size e)) (Heap.get?_push_of_some _ e))
end
section
variable {c : Cx} {A : Around} {E : Value → Shared → Prop} {s : Shared} {env : Env} {T : List (Value × D)} {mu : List (Addr × MD)} {L : Addr} {σ : List (Str × D)} {d : D}
/-- a def of the text's is entered, over clean contexts -/
theorem fn_enterG {f : Addr} {oc : Value} {od : Option Addr} {fd : FuncData} {osl : Array (Option Value)} {body : List Stmt} {args : List Value} {kw : List (Str × Value)} {binds : List (Str × Value)} {mp mr : List (Addr × MD)} {Q : Value → Shared → Prop}
    (σ : List (Str × D)) (H : St c T (mp ++ mr) s) (hroom : A.depth < recursionLimit) (ho : (KH c.w).lookup f = some ⟨oc, od, .func fd, osl⟩) (hbody : fd.body = .stmts body)
    (hcd : codeIn (KH c.w) fd.code fd.qualname = true) (hbind : BindsTo s fd ⟨args, kw⟩ binds) (hloc : (binds.all fun x => decide (fd.scope.names.lookup x.1 = some .local)) = true)
    (hcell : fd.scope.names.all (fun x => x.2 != .cell) = true) (hb : Binds binds T σ)
    (k : ∀ (c' : Cx) L s', c'.w = c.w → St c' T ((L, .ns σ) :: mp) s' → (∀ v d T' p mp' s'', (v, d) ∈ T' → St c' T' (p :: mp') s'' → St c ((v, d) :: T) (mp' ++ mr) s'') →
      wpG (Mo c') (A.deeper (callEnv fd L f)) (execs body (callEnv fd L f)) (fun fl s'' => Q (match fl with | .ret v => v | _ => .none) s'') (fun _ _ => False) s')
    (hco : fd.scope.isCoroutine = false := by rfl) (hgen : fd.scope.isGenerator = false := by rfl) (hk : fd.scope.kind = .function := by rfl) :
    wpG (Mo c) A (call (.ref f) args kw) Q E s := by
  have X := H.top.1
  have hl := H.noLimit
  obtain ⟨c', hw, H1, back⟩ := H.aside
  refine wpG_call (codeG_call_def (fd := fd) (body := body) (binds := binds) hroom (X _ _ ho) rfl hl (codeRec_of X hcd) hbody hbind (fun x hx => by simpa using List.all_eq_true.mp hcell x hx) (locs hloc) (fun h₀ hns hk₀ => ?_) hco hgen hk)
  have Hs : St c' T ((s.heap.objs.size, .ns σ) :: mp) { s with heap := h₀, toks := s.toks + binds.length } := by
    refine H1.push (o := default) _ ?_ hk₀ fun g ht => ⟨_, hns, fun p hp => ?_⟩
    · cases e : s.heap.get? s.heap.objs.size with
      | none => rfl
      | some o => exact absurd (Heap.lt_size e) (Nat.lt_irrefl _)
    · obtain ⟨v, hv, hm⟩ := hb.all p hp
      exact ⟨v, hv, ht _ hm⟩
  have := k c' _ _ hw Hs fun v d T' p mp' s'' hm h => back [(v, d)] mp' s'' ((h.sub (T' := [(v, d)]) fun q hq => by rw [List.mem_singleton.mp hq]; exact hm).forget)
  rw [show Mo c' = Mo c from congrArg (model pw) hw] at this
  exact wpG_mono this (fun fl s' h => h) fun _ _ h => h.elim
end
/-! ZBS -/
section
variable {c : Cx} {A : Around} {E : Value → Shared → Prop} {s : Shared} {env : Env} {T : List (Value × D)} {mu : List (Addr × MD)} {L : Addr} {σ : List (Str × D)} {d : D} {x y : Value}
noncomputable def swp (l : List UInt8) : Nat → Array UInt8
  | 0 => Array.replicate 12 0
  | j + 1 => (swp l j).setIfInBounds (11 - j) (l.getD j 0)
theorem swp_size (l : List UInt8) : ∀ j, (swp l j).size = 12
  | 0 => by simp [swp]
  | j + 1 => by simp [swp, swp_size l j]
theorem op_lenB {b : Array UInt8} {Q : Value → Shared → Prop} (H : St c T mu s) (hx : (x, .byt b) ∈ T) (hz : b.size ≤ 1000) (k : ∀ v s', St c ((v, .int b.size) :: T) mu s' → Q v s') :
    wpAny (Mo c) A (call (.builtin "len") [x]) Q E s := by
  obtain ⟨t, rfl⟩ := H.isByt hx
  exact len_bytes (by omega) (k _ _ ((H.toks (k := s.toks + 1 + 1)).intv _ _))
theorem op_setB {i : Nat} {l : Addr} {b : Array UInt8} {p : Int} {q : UInt8} {v z : Value} {Q : Unit → Shared → Prop} (H : St c T mu s) (hi : mu[i]? = some (l, .bar b)) (hz : (z, .lit (.ref l)) ∈ T) (hx : (x, .int p) ∈ T) (hv : (v, .int q.toNat) ∈ T) (h0 : 0 ≤ p) (hp : p < b.size) (hs : b.size ≤ 1000)
    (k : ∀ s', St c T (mu.set i (l, .bar (b.setIfInBounds p.toNat q))) s' → Q () s') : wpAny (Mo c) A (setItem z x v) Q E s := by
  cases H.isLit hz
  obtain ⟨t, rfl⟩ := H.isInt hx
  obtain ⟨u, rfl⟩ := H.isInt hv
  have hb : s.heap.get? l = some { cls := .type "bytearray", data := .bytearray b } := by
    obtain ⟨_, _, g, _, C⟩ := H
    exact C.mr _ (List.mem_of_getElem? hi)
  have hq := q.toNat_lt
  refine setItem_ba hb h0 hp hs (by omega) (by omega) fun h' hb' hs' => k _ ?_
  refine H.set (k := s.toks) hi (fun a o ha e => hs'.extBut a o ha e) fun g ht _ => ?_
  show h'.get? l = _
  rw [hb', Int.toNat_natCast]
  simp
theorem op_itemBT {value slice : Expr} {l : List UInt8} {i : Nat} {Q : Value → Shared → Prop} (H : St c T mu s) (hx : (x, .byt l.toArray) ∈ T) (hy : (y, .int i) ∈ T) (hi : i < l.length) (hz : l.length ≤ 1000)
    (k : ∀ v s', St c ((v, .int (l.getD i 0).toNat) :: T) mu s' → Q v s') (hs : ∀ b t r, letTemporaryGo value (.bytes b t) r = pure () := by intro _ _ _; with_unfolding_all rfl)
    (hs2 : ∀ b t n u, subscripted slice false (.bytes b t) (.int n u) = operate [.bytes b t, .int n u] (getItem (.bytes b t) (.int n u)) := by intro _ _ _ _; with_unfolding_all rfl) :
    wpAny (Mo c) A (subscriptTail value slice x y) Q E s := by
  obtain ⟨t, rfl⟩ := H.isByt hx
  obtain ⟨u, rfl⟩ := H.isInt hy
  exact subscriptTail_builtin (typeIs_bytes _ _ _) FB.slot_bytes_getitem.lookup (getItem_bytes (by omega) (by omega) (by omega) (by rw [Int.toNat_natCast]; exact k _ _ ((H.toks (k := s.toks + 1)).intv _ _))) (hs := hs2 _ _ _ _) (ht := fun r => hs _ _ r)
theorem boot_bytearray : bootBuiltins "bytearray" = some (.type "bytearray") := by decide +kernel
noncomputable abbrev BsN (o : Addr) (l : List UInt8) : List (Str × D) := [("swapped_data", .lit (.ref o)), ("data", .byt l.toArray), ("width", .int 12)]
noncomputable def BsO (L o : Addr) (l : List UInt8) (i : Nat) (mu : List (Addr × MD)) : Prop := mu = [(L, .ns (BsN o l)), (o, .bar (swp l (12 * i)))]
noncomputable def BsI (L o : Addr) (l : List UInt8) (tl : List (Addr × MD)) (j : Nat) (mu : List (Addr × MD)) : Prop := mu = (L, .ns (("i", .int 0) :: BsN o l)) :: (o, .bar (swp l j)) :: tl
theorem byteswap_ok {v y : Value} {l : List UInt8} {Q : Value → Shared → Prop} (H : St c T mu s) (hr : Rm A 2) (hv : (v, .byt l.toArray) ∈ T) (hy : (y, .int 12) ∈ T) (hn : l.length = 12)
    (k : ∀ r s', St c ((r, .byt (swp l 12)) :: T) mu s' → Q r s') : wpG (Mo c) A (call (.ref 118) [v, y] []) Q E s := by
  refine fn_enterG (f := 118) (mp := []) (mr := mu) (binds := [("data", v), ("width", y)]) [("data", .byt l.toArray), ("width", .int 12)] H hr.rm rfl rfl rfl (kp_binds H.top.1 fun _ => rfl) rfl rfl (by ktr_units) fun c₂ L s' hw₂ H back => ?_
  refine execsG_cons (assignG (callNameG ?_))
  refine nm_built (by assumption) (by rfl) boot_bytearray (by decide) ?_
  refine callWithG_type1 ?_
  repeat ktr_rel
  rename_i H
  refine op_lenB H (.head _) (by simp; omega) fun v s' H => ?_
  have e12 : ((l.toArray.size : Nat) : Int) = 12 := by simp [hn]
  rw [e12] at H
  repeat ktr_rel
  obtain ⟨t, rfl⟩ := H.isInt (.head _)
  refine call_bytearrayG (by decide) (by decide) fun h' hk hb => ?_
  replace H := H.push (h' := h') (k := s'.toks) (o := default) (.bar (swp l 0)) (a := s'.heap.objs.size) (get?_size_none _) hk fun g ht => hb
  generalize ho : s'.heap.objs.size = o at H ⊢
  refine sto (σ' := [("swapped_data", .lit (.ref o)), ("data", .byt l.toArray), ("width", .int 12)]) (H.swap.lit (.ref o)) (.head _) (by ktr_room) fun s' H => ?_
  replace H := H.drop
  have hr2 : ∀ env, Rm (A.deeper env) 1 := fun _ => hr.deeper
  refine wpG_of ?_
  refine seq (P := fun s' => St c₂ [] [(L, .ns (BsN o l)), (o, .bar (swp l 12))] s') ?_ fun s' H => ?_
  · refine wpAny_For ?_
    repeat ktr_rel
    rename_i H
    refine op_lenB H (.head _) (by simp; omega) fun v s' H => ?_
    rw [e12] at H
    repeat ktr_rel
    rename_i H
    refine op_range3 H (by tb_start) (by tb_start) (by tb_start) (by decide) (by decide) fun r t u v s' H => ?_
    refine it_range (n := 1) H (by tb_start) (by decide) (by decide) fun it s' H => ?_
    refine for_its (mu := [(L, .ns (BsN o l)), (o, .bar (swp l 0))]) (BsO L o l) (fun c' _ => its_range (hr2 _).handled) rfl H ?_ ?_
    · rintro c₃ i d mu₁ v s E hw₃ up hd rfl H
      have hi : i < 1 := by simpa using (List.getElem?_eq_some_iff.mp hd).1
      obtain rfl : i = 0 := by omega
      obtain rfl : d = .int 0 := by simpa using hd.symm
      generalize htl : tlR it 0 12 1 (0 + 1) = tl at H ⊢
      refine own_name (wpAny_assign_Name (sto (σ' := ("i", .int 0) :: BsN o l) H (.head _) (by ktr_room) fun s' H => ?_))
      replace H := H.drop
      refine one' (wpAny_For ?_)
      repeat ktr_rel
      rename_i H
      refine op_range1 H (by tb_start) fun r t u v s' H => ?_
      refine it_range (n := 12) H (by tb_start) (size_to 12) (small_to (n := 12) (by decide)) fun it2 s' H => ?_
      refine for_its (mu := (L, .ns (("i", .int 0) :: BsN o l)) :: (o, .bar (swp l 0)) :: tl) (BsI L o l tl) (fun c' _ => its_range (hr2 _).handled) rfl H ?_ ?_
      · rintro c₄ j d mu₁ v s E hw₄ up hd rfl H
        have hj : j < 12 := by simpa using (List.getElem?_eq_some_iff.mp hd).1
        obtain rfl : d = .int j := by rw [List.getElem?_map, List.getElem?_range hj] at hd; simpa using hd.symm
        generalize htl2 : tlR it2 0 1 12 (j + 1) = tl2 at H ⊢
        refine own_name (wpAny_assign_Name (sto (σ' := ("j", .int j) :: ("i", .int 0) :: BsN o l) H (.head _) (by ktr_room) fun s' H => ?_))
        replace H := H.drop
        refine one' ?_
        repeat ktr_rel
        rename_i H
        rw [Int.zero_add] at H
        refine op_itemBT (i := j) H (by tb_start) (.head _) (by omega) (by omega) (fun v s' H => ?_)
        repeat ktr_rel
        rename_i H
        have e1 : (0 : Int) + 12 - 1 - (j : Int) = ((11 - j : Nat) : Int) := by omega
        rw [e1] at H
        have hsz := swp_size l j
        refine op_setB (i := 1) H rfl (by tb_start) (.head _) (by tb_start) (by omega) (by omega) (by omega) fun s' H => ?_
        refine ⟨rfl, _, [], rfl, ?_⟩
        rw [Int.toNat_natCast] at H
        exact H.drop.nsSub (by simp)
      · rintro mu₁ s rfl H
        rw [List.length_map, List.length_range] at H
        exact ⟨rfl, _, [], rfl, H.drop.nsSub (by simp)⟩
    · rintro mu₁ s rfl H
      exact ⟨rfl, H.drop⟩
  refine wpAny_execs_cons ?_
  repeat ktr_rel
  rename_i H
  cases H.isLit (.head _)
  have hb : ∀ s, St c₂ [(Value.ref o, D.lit (.ref o))] [(L, .ns (BsN o l)), (o, .bar (swp l 12))] s → s.heap.get? o = some { cls := .type "bytearray", data := .bytearray (swp l 12) } := fun s H => by
    obtain ⟨_, _, g, _, C⟩ := H
    exact C.mr _ (.tail _ (.head _))
  have := swp_size l 12
  refine bytes_ba (hb _ H) (by omega) fun t kk => ?_
  repeat ktr_rel
  exact k _ _ (back _ _ _ _ [] _ (.head _) ((H.toks (k := kk)).know (fun g => .byt _ t)).swap.forget)
end
/-! ZP1 -/
/-! the plain law: rows told by counts -/
theorem laid_append : ∀ (a b r : List Int), laid r (a ++ b) = ((laid (laid r a).1 b).1, (laid r a).2 ++ (laid (laid r a).1 b).2)
  | [], b, r => by simp [laid]
  | x :: a, b, r => by simp [laid, laid_append a b, List.append_assoc]
theorem bR_split {L B : List Int} {j : Int} (hL : ∀ x ∈ L, x ≤ j) (hB : ∀ x ∈ B, j < x) : bR (L ++ B) j = L.length := by
  unfold bR
  rw [List.filter_append, List.filter_eq_self.mpr (by simpa using hL), List.filter_eq_nil_iff.mpr (by intro x hx; have := hB x hx; simp; omega), List.append_nil]
theorem laid_rep : ∀ (n : Nat) (L B : List Int) (j : Int), (∀ x ∈ L, x ≤ j) → (∀ x ∈ B, j < x) → laid (L ++ B) (List.replicate n j) = (L ++ (List.replicate n j ++ B.drop n), B.take n)
  | 0, L, B, j, _, _ => by simp [laid]
  | n + 1, L, B, j, hL, hB => by
    have hb := bR_split hL hB
    have hL' : ∀ x ∈ L ++ [j], x ≤ j := fun x hx => by
      rcases List.mem_append.mp hx with hx | hx
      · exact hL x hx
      · rw [List.mem_singleton.mp hx]; exact Int.le_refl _
    rw [List.replicate_succ, laid]
    cases B with
    | nil =>
      have hi : ins (L ++ []) j = (L ++ [j]) ++ [] := by unfold ins; rw [hb, if_pos (by simp)]; simp
      have ho : outs (L ++ []) j = [] := by unfold outs; rw [hb, List.getElem?_eq_none (by simp)]; rfl
      rw [hi, ho, laid_rep n (L ++ [j]) [] j hL' (by simp)]
      simp
    | cons b B =>
      have hi : ins (L ++ b :: B) j = (L ++ [j]) ++ B := by
        unfold ins; rw [hb, if_neg (by simp), List.set_append_right _ _ (Nat.le_refl _)]; simp
      have ho : outs (L ++ b :: B) j = [b] := by unfold outs; rw [hb, List.getElem?_append_right (Nat.le_refl _)]; simp
      rw [hi, ho, laid_rep n (L ++ [j]) B j hL' (fun x hx => hB x (.tail _ hx))]
      simp

noncomputable abbrev rp (n : Nat) (j : Int) : List Int := List.replicate n j
theorem rp_add (n m : Nat) (j : Int) : List.replicate (n + m) j = List.replicate n j ++ List.replicate m j := List.replicate_append_replicate.symm
noncomputable def rw4 (p q r u : Nat) : List Int := rp p 0 ++ (rp q 1 ++ (rp r 2 ++ rp u 3))
noncomputable def rw3 (s t v : Nat) : List Int := rp s 1 ++ (rp t 2 ++ rp v 3)
theorem mem_rp {n : Nat} {j x : Int} (h : x ∈ rp n j) : x = j := (List.mem_replicate.mp h).2
theorem lay0 (p q r u n : Nat) : laid (rw4 p q r u) (rp n 0) = (rw4 (p + n) (q - n) (r - (n - q)) (u - (n - q - r)), rw3 (min n q) (min (n - q) r) (min (n - q - r) u)) := by
  have h := laid_rep n (rp p 0) (rp q 1 ++ (rp r 2 ++ rp u 3)) 0 (fun x hx => by rw [mem_rp hx]; decide) (fun x hx => by
    simp only [List.mem_append] at hx
    rcases hx with hx | hx | hx <;> rw [mem_rp hx] <;> decide)
  unfold rw4 rw3
  rw [h]
  simp only [List.take_append, List.drop_append, List.take_replicate, List.drop_replicate, List.length_replicate, rp, rp_add, List.append_assoc]
theorem lay1 (p q r u n : Nat) : laid (rw4 p q r u) (rp n 1) = (rw4 p (q + n) (r - n) (u - (n - r)), rw3 0 (min n r) (min (n - r) u)) := by
  have h := laid_rep n (rp p 0 ++ rp q 1) (rp r 2 ++ rp u 3) 1 (fun x hx => by
    simp only [List.mem_append] at hx
    rcases hx with hx | hx <;> rw [mem_rp hx] <;> decide) (fun x hx => by
    simp only [List.mem_append] at hx
    rcases hx with hx | hx <;> rw [mem_rp hx] <;> decide)
  unfold rw4 rw3
  rw [List.append_assoc] at h
  rw [h]
  simp only [List.take_append, List.drop_append, List.take_replicate, List.drop_replicate, List.length_replicate, List.append_assoc, List.replicate_zero, List.nil_append]
  simp only [rp, rp_add, List.append_assoc]
theorem lay2 (p q r u n : Nat) : laid (rw4 p q r u) (rp n 2) = (rw4 p q (r + n) (u - n), rw3 0 0 (min n u)) := by
  have h := laid_rep n (rp p 0 ++ (rp q 1 ++ rp r 2)) (rp u 3) 2 (fun x hx => by
    simp only [List.mem_append] at hx
    rcases hx with hx | hx | hx <;> rw [mem_rp hx] <;> decide) (fun x hx => by rw [mem_rp hx]; decide)
  unfold rw4 rw3
  simp only [List.append_assoc] at h
  rw [h]
  simp only [List.take_replicate, List.drop_replicate, List.append_assoc, List.replicate_zero, List.nil_append]
  simp only [rp, rp_add, List.append_assoc]
theorem lay3 (p q r u n : Nat) : laid (rw4 p q r u) (rp n 3) = (rw4 p q r (u + n), rw3 0 0 0) := by
  have h := laid_rep n (rp p 0 ++ (rp q 1 ++ (rp r 2 ++ rp u 3))) [] 3 (fun x hx => by
    simp only [List.mem_append] at hx
    rcases hx with hx | hx | hx | hx <;> rw [mem_rp hx] <;> decide) (fun x hx => nomatch hx)
  unfold rw4 rw3
  simp only [List.append_nil] at h
  rw [h]
  simp only [List.take_nil, List.drop_nil, List.append_nil, List.append_assoc, List.replicate_zero]
  simp only [rp, rp_add, List.append_assoc]
theorem rw3_eq (s t v : Nat) : rw3 s t v = rw4 0 s t v := by simp [rw3, rw4]
theorem laySec (s t v x y z : Nat) : (laid (rw3 s t v) (rw3 x y z)).1 = rw3 (s + x) (t - x + y) (v - (x - t) - y + z) := by
  rw [rw3_eq s t v, show rw3 x y z = rp x 1 ++ (rp y 2 ++ rp z 3) from rfl]
  simp only [laid_append, lay1, lay2, lay3]
  exact (rw3_eq _ _ _).symm

/-- how many letters are at most j -/
theorem bR0 (p q r u : Nat) : bR (rw4 p q r u) 0 = p := by
  have h := bR_split (L := rp p 0) (B := rp q 1 ++ (rp r 2 ++ rp u 3)) (j := 0) (fun x hx => by rw [mem_rp hx]; decide) (fun x hx => by
    simp only [List.mem_append] at hx
    rcases hx with hx | hx | hx <;> rw [mem_rp hx] <;> decide)
  rw [List.length_replicate] at h; exact h
theorem bR1 (p q r u : Nat) : bR (rw4 p q r u) 1 = p + q := by
  have h := bR_split (L := rp p 0 ++ rp q 1) (B := rp r 2 ++ rp u 3) (j := 1) (fun x hx => by
    simp only [List.mem_append] at hx
    rcases hx with hx | hx <;> rw [mem_rp hx] <;> decide) (fun x hx => by
    simp only [List.mem_append] at hx
    rcases hx with hx | hx <;> rw [mem_rp hx] <;> decide)
  rw [List.append_assoc, List.length_append, List.length_replicate, List.length_replicate] at h; exact h
theorem bR2 (p q r u : Nat) : bR (rw4 p q r u) 2 = p + q + r := by
  have h := bR_split (L := rp p 0 ++ (rp q 1 ++ rp r 2)) (B := rp u 3) (j := 2) (fun x hx => by
    simp only [List.mem_append] at hx
    rcases hx with hx | hx | hx <;> rw [mem_rp hx] <;> decide) (fun x hx => by rw [mem_rp hx]; decide)
  simp only [List.append_assoc, List.length_append, List.length_replicate, ← Nat.add_assoc] at h; exact h
theorem bR3 (p q r u : Nat) : bR (rw4 p q r u) 3 = p + q + r + u := by
  have h := bR_split (L := rp p 0 ++ (rp q 1 ++ (rp r 2 ++ rp u 3))) (B := []) (j := 3) (fun x hx => by
    simp only [List.mem_append] at hx
    rcases hx with hx | hx | hx | hx <;> rw [mem_rp hx] <;> decide) (fun x hx => nomatch hx)
  simp only [List.append_nil, List.length_append, List.length_replicate, ← Nat.add_assoc] at h; exact h

/-! the book -/
theorem sumL_cons (x : Int) (l : List Int) : sumL (x :: l) = x + sumL l := by
  have : ∀ (l : List Int) (a : Int), l.foldl (· + ·) a = a + l.foldl (· + ·) 0 := by
    intro l
    induction l with
    | nil => simp
    | cons y l ih => intro a; rw [List.foldl_cons, ih, List.foldl_cons, ih (0 + y)]; omega
  unfold sumL; rw [List.foldl_cons, this]; omega
noncomputable def keysD (b : List (Int × Int)) : List Int := b.map (·.1)
theorem any_key {b : List (Int × Int)} {k : Int} : (b.any fun e => decide (e.1 = k)) = true ↔ k ∈ keysD b := by
  simp [keysD]
theorem dget_none {b : List (Int × Int)} {k : Int} : dget b k = none ↔ k ∉ keysD b := by
  simp only [dget, keysD, Option.map_eq_none_iff, List.find?_eq_none, List.mem_map, decide_eq_true_eq]
  exact ⟨fun h ⟨e, he, q⟩ => h e he q, fun h e he q => h ⟨e, he, q⟩⟩
theorem dput_new {b : List (Int × Int)} {k x : Int} (h : k ∉ keysD b) : dput b k x = b ++ [(k, x)] := by
  unfold dput; rw [if_neg]; rw [any_key]; exact h
theorem dput_old {b : List (Int × Int)} {k x : Int} (h : k ∈ keysD b) : dput b k x = b.map (fun e => if e.1 = k then (e.1, x) else e) := by
  unfold dput; rw [if_pos]; rw [any_key]; exact h
theorem keys_dput (b : List (Int × Int)) (k x : Int) : keysD (dput b k x) = if k ∈ keysD b then keysD b else keysD b ++ [k] := by
  split
  · rename_i h
    rw [dput_old h]; unfold keysD
    rw [List.map_map]
    refine List.map_congr_left fun e _ => ?_
    simp only [Function.comp_def]; split <;> rfl
  · rename_i h
    rw [dput_new h]; simp [keysD]
theorem dget_cons (e : Int × Int) (b : List (Int × Int)) (k : Int) : dget (e :: b) k = if e.1 = k then some e.2 else dget b k := by
  unfold dget; rw [List.find?_cons]
  by_cases h : e.1 = k <;> simp [h]
theorem dget_append (a b : List (Int × Int)) (k : Int) : dget (a ++ b) k = (dget a k).or (dget b k) := by
  induction a with
  | nil => simp [dget]
  | cons e a ih => rw [List.cons_append, dget_cons, dget_cons, ih]; split <;> simp
theorem dget_dput (b : List (Int × Int)) (k x k' : Int) : dget (dput b k x) k' = if k' = k then some x else dget b k' := by
  by_cases h : k ∈ keysD b
  · rw [dput_old h]
    induction b with
    | nil => simp [keysD] at h
    | cons e b ih =>
      rw [List.map_cons, dget_cons, dget_cons]
      by_cases hb : k ∈ keysD b
      · rw [ih hb]
        by_cases h1 : e.1 = k <;> by_cases h2 : k' = k
        · subst h2; simp [h1]
        · rw [if_pos h1]; have : ¬ e.1 = k' := fun q => h2 (q ▸ h1); simp [this, h2]
        · subst h2; rw [if_pos rfl, if_pos rfl, if_neg h1, if_neg h1]
        · rw [if_neg h1]; simp [h2]
      · have h1 : e.1 = k := by
          rcases List.mem_cons.mp (show k ∈ e.1 :: keysD b from h) with h | h
          · exact h.symm
          · exact absurd h hb
        have hm : b.map (fun e => if e.1 = k then (e.1, x) else e) = b := by
          conv => rhs; rw [← List.map_id b]
          refine List.map_congr_left fun f hf => ?_
          rw [if_neg (fun (q : f.1 = k) => hb (q ▸ List.mem_map.mpr ⟨f, hf, rfl⟩))]; rfl
        rw [hm, if_pos h1]
        by_cases h2 : k' = k
        · subst h2; simp [h1]
        · have : ¬ e.1 = k' := fun q => h2 (q ▸ h1)
          simp [this, h2]
  · rw [dput_new h, dget_append]
    by_cases h2 : k' = k
    · subst h2; rw [dget_none.mpr h]; simp [dget]
    · have : dget [(k, x)] k' = none := by rw [dget_none]; simp [keysD, h2]
      rw [this, if_neg h2]; simp
theorem valSum_append (a b : List (Int × Int)) : valSum (a ++ b) = valSum a + valSum b := by
  induction a with
  | nil => simp [valSum, sumL]
  | cons e a ih => simp only [valSum, List.cons_append, List.map_cons, sumL_cons] at ih ⊢; omega
theorem valSum_dput {b : List (Int × Int)} (hn : (keysD b).Nodup) (k x : Int) : valSum (dput b k x) = valSum b - (dget b k).getD 0 + x := by
  by_cases h : k ∈ keysD b
  · rw [dput_old h]
    induction b with
    | nil => simp [keysD] at h
    | cons e b ih =>
      have hn' := List.nodup_cons.mp (show (e.1 :: keysD b).Nodup from hn)
      rw [List.map_cons, dget_cons]
      by_cases h1 : e.1 = k
      · have hb : k ∉ keysD b := h1 ▸ hn'.1
        have hm : b.map (fun e => if e.1 = k then (e.1, x) else e) = b := by
          conv => rhs; rw [← List.map_id b]
          refine List.map_congr_left fun f hf => ?_
          rw [if_neg (fun (q : f.1 = k) => hb (q ▸ List.mem_map.mpr ⟨f, hf, rfl⟩))]; rfl
        rw [hm, if_pos h1, if_pos h1]
        simp only [valSum, List.map_cons, sumL_cons, Option.getD_some]; omega
      · have hb : k ∈ keysD b := by
          rcases List.mem_cons.mp (show k ∈ e.1 :: keysD b from h) with h | h
          · exact absurd h.symm h1
          · exact h
        have := ih hn'.2 hb
        rw [if_neg h1, if_neg h1]
        simp only [valSum, List.map_cons, sumL_cons] at this ⊢; omega
  · rw [dput_new h, valSum_append, dget_none.mpr h]
    simp [valSum, sumL]
theorem copyD_eq {b : List (Int × Int)} (hn : (keysD b).Nodup) : copyD b = b := by
  have : ∀ (b a : List (Int × Int)), (keysD (a ++ b)).Nodup → b.foldl (fun a e => dput a e.1 e.2) a = a ++ b := by
    intro b
    induction b with
    | nil => intro a _; simp
    | cons e b ih =>
      intro a h
      have hk : e.1 ∉ keysD a := by
        have h' : (keysD a ++ e.1 :: keysD b).Nodup := by simpa [keysD] using h
        intro q
        exact (List.nodup_append.mp h').2.2 _ q _ (.head _) rfl
      rw [List.foldl_cons, dput_new hk, ih (a ++ [e]) (by simpa using h)]
      simp
  exact this b [] (by simpa using hn)
/-- how often a letter stands in the book -/
noncomputable def gf (f1 f2 f3 : Nat) (k : Int) : Nat := if k = 1 then f1 else if k = 2 then f2 else if k = 3 then f3 else 0
noncomputable def gO (n : Nat) : Option Int := if n = 0 then none else some (n : Int)
noncomputable def nz (n : Nat) : Nat := if n = 0 then 0 else 1
structure BI (b : List (Int × Int)) (f1 f2 f3 : Nat) : Prop where
  nd : (keysD b).Nodup
  get : ∀ k, dget b k = gO (gf f1 f2 f3 k)
  len : b.length = nz f1 + nz f2 + nz f3
  sum : valSum b = (f1 : Int) + f2 + f3
theorem BI.nil : BI [] 0 0 0 := ⟨.nil, fun k => by simp [dget, gO, gf], rfl, rfl⟩
theorem length_dput (b : List (Int × Int)) (k x : Int) : (dput b k x).length = b.length + if k ∈ keysD b then 0 else 1 := by
  have := congrArg List.length (keys_dput b k x)
  split at this <;> rename_i h
  · rw [if_pos h]; simpa [keysD] using this
  · rw [if_neg h]; simpa [keysD] using this
/-- a letter more -/
theorem BI.one {b : List (Int × Int)} {f1 f2 f3 g1 g2 g3 : Nat} {k : Int} (h : BI b f1 f2 f3) (hk : k = 1 ∨ k = 2 ∨ k = 3) (e : ∀ j, gf g1 g2 g3 j = gf f1 f2 f3 j + if j = k then 1 else 0) : BI (addD b [(k, 1)]) g1 g2 g3 := by
  have hadd : addD b [(k, 1)] = dput b k (gf f1 f2 f3 k + 1) := by
    unfold addD
    rw [copyD_eq h.nd, List.foldl_cons, List.foldl_nil, mergeD, h.get k]
    unfold gO
    by_cases hz : gf f1 f2 f3 k = 0
    · rw [if_pos hz, hz]; rfl
    · rw [if_neg hz]
  have hin : k ∈ keysD b ↔ gf f1 f2 f3 k ≠ 0 := by
    have := dget_none (b := b) (k := k)
    rw [h.get k] at this
    unfold gO at this
    by_cases hz : gf f1 f2 f3 k = 0
    · rw [if_pos hz] at this; exact ⟨fun q => absurd q (this.mp rfl), fun q => absurd hz q⟩
    · rw [if_neg hz] at this
      refine ⟨fun _ => hz, fun _ => ?_⟩
      by_cases q : k ∈ keysD b
      · exact q
      · exact absurd (this.mpr q) (by simp)
  have e1 := e 1
  have e2 := e 2
  have e3 := e 3
  have n1 : ∀ n, nz (n + 1) = 1 := fun n => rfl
  rw [hadd]
  refine ⟨?_, fun j => ?_, ?_, ?_⟩
  · rw [keys_dput]
    split
    · exact h.nd
    · rename_i q
      rw [List.nodup_append]
      exact ⟨h.nd, by simp, fun x hx y hy e => q (by rw [List.mem_singleton.mp hy] at e; exact e ▸ hx)⟩
  · rw [dget_dput, e j]
    by_cases hj : j = k
    · subst hj; rw [if_pos rfl, if_pos rfl]; unfold gO; rw [if_neg (by omega)]; rfl
    · rw [if_neg hj, if_neg hj, h.get j]; rfl
  · rw [length_dput, h.len]
    have hl : (if k ∈ keysD b then 0 else 1) = (if gf f1 f2 f3 k = 0 then 1 else 0) := by
      by_cases hz : gf f1 f2 f3 k = 0
      · rw [if_pos hz, if_neg (fun q => hin.mp q hz)]
      · rw [if_neg hz, if_pos (hin.mpr hz)]
    rw [hl]
    rcases hk with rfl | rfl | rfl <;> simp [gf] at e1 e2 e3 ⊢ <;> rw [e1, e2, e3] <;> unfold nz <;> split <;> split <;> split <;> simp_all <;> omega
  · rw [valSum_dput h.nd, h.sum, h.get k]
    have hg : (gO (gf f1 f2 f3 k)).getD 0 = (gf f1 f2 f3 k : Int) := by unfold gO; split <;> simp_all
    rw [hg]
    rcases hk with rfl | rfl | rfl <;> simp [gf] at e1 e2 e3 ⊢ <;> rw [e1, e2, e3] <;> push_cast <;> omega
theorem bookAll_append (b : List (Int × Int)) (l m : List Int) : bookAll b (l ++ m) = bookAll (bookAll b l) m := by unfold bookAll; rw [List.foldl_append]
theorem BI.rep1 {f1 f2 f3 : Nat} : ∀ (n : Nat) {b : List (Int × Int)}, BI b f1 f2 f3 → BI (bookAll b (rp n 1)) (f1 + n) f2 f3
  | 0, b, h => h
  | n + 1, b, h => by
    rw [rp, List.replicate_succ', bookAll_append]
    exact (BI.rep1 n h).one (k := 1) (.inl rfl) (fun j => by unfold gf; (repeat' split) <;> omega)
theorem BI.rep2 {f1 f2 f3 : Nat} : ∀ (n : Nat) {b : List (Int × Int)}, BI b f1 f2 f3 → BI (bookAll b (rp n 2)) f1 (f2 + n) f3
  | 0, b, h => h
  | n + 1, b, h => by
    rw [rp, List.replicate_succ', bookAll_append]
    exact (BI.rep2 n h).one (k := 2) (.inr (.inl rfl)) (fun j => by unfold gf; (repeat' split) <;> omega)
theorem BI.rep3 {f1 f2 f3 : Nat} : ∀ (n : Nat) {b : List (Int × Int)}, BI b f1 f2 f3 → BI (bookAll b (rp n 3)) f1 f2 (f3 + n)
  | 0, b, h => h
  | n + 1, b, h => by
    rw [rp, List.replicate_succ', bookAll_append]
    exact (BI.rep3 n h).one (k := 3) (.inr (.inr rfl)) (fun j => by unfold gf; (repeat' split) <;> omega)
theorem BI.rw3 {b : List (Int × Int)} {f1 f2 f3 : Nat} (h : BI b f1 f2 f3) (x y z : Nat) : BI (bookAll b (rw3 x y z)) (f1 + x) (f2 + y) (f3 + z) := by
  show BI (bookAll b (rp x 1 ++ (rp y 2 ++ rp z 3))) _ _ _
  rw [bookAll_append, bookAll_append]
  exact BI.rep3 z (BI.rep2 y (BI.rep1 x h))
theorem BI.same {b c : List (Int × Int)} {f1 f2 f3 : Nat} (h : BI b f1 f2 f3) (hc : ∀ k, dget c k = gO (gf f1 f2 f3 k)) (hl : c.length = nz f1 + nz f2 + nz f3) : sameD b c = true := by
  unfold sameD
  rw [Bool.and_eq_true, beq_iff_eq, List.all_eq_true]
  refine ⟨by rw [h.len, hl], fun e he => ?_⟩
  rw [decide_eq_true_eq, hc, ← h.get]
  have : ∀ (b : List (Int × Int)), (keysD b).Nodup → e ∈ b → dget b e.1 = some e.2 := by
    intro b
    induction b with
    | nil => intro _ q; cases q
    | cons f b ih =>
      intro hn q
      have hn' := List.nodup_cons.mp (show (f.1 :: keysD b).Nodup from hn)
      rw [dget_cons]
      rcases List.mem_cons.mp q with rfl | q
      · rw [if_pos rfl]
      · rw [if_neg (fun (w : f.1 = e.1) => hn'.1 (w ▸ List.mem_map.mpr ⟨e, q, rfl⟩)), ih hn'.2 q]
  exact this b h.nd he
/-! ZP2 -/
/-! the plain law: one letter at a time -/
structure Rel (h : HS) (p q r u s t v f1 f2 f3 : Nat) : Prop where
  row : h.row = rw4 p q r u
  sec : h.sec = rw3 s t v
  bk : BI h.book f1 f2 f3
theorem Rel.st0 {h : HS} {p q r u s t v f1 f2 f3 : Nat} (H : Rel h p q r u s t v f1 f2 f3) (n : Nat) :
    Rel (h.step (0, n)) (p + n) (q - n) (r - (n - q)) (u - (n - q - r)) (s + min n q) (t - min n q + min (n - q) r) (v - (min n q - t) - min (n - q) r + min (n - q - r) u) (f1 + min n q) (f2 + min (n - q) r) (f3 + min (n - q - r) u) ∧
      (h.step (0, n)).told = h.told ++ [((p + n : Nat) : Int)] := by
  have e := lay0 p q r u n
  refine ⟨⟨?_, ?_, ?_⟩, ?_⟩
  · show (laid h.row (rp n 0)).1 = _
    rw [H.row, e]
  · show (laid h.sec (laid h.row (rp n 0)).2).1 = _
    rw [H.row, e, H.sec, laySec]
  · show BI (bookAll h.book (laid h.row (rp n 0)).2) _ _ _
    rw [H.row, e]; exact H.bk.rw3 _ _ _
  · show h.told ++ [((bR (laid h.row (rp n 0)).1 0 : Nat) : Int)] = _
    rw [H.row, e, bR0]
theorem Rel.st1 {h : HS} {p q r u s t v f1 f2 f3 : Nat} (H : Rel h p q r u s t v f1 f2 f3) (n : Nat) :
    Rel (h.step (1, n)) p (q + n) (r - n) (u - (n - r)) s (t + min n r) (v - min n r + min (n - r) u) f1 (f2 + min n r) (f3 + min (n - r) u) ∧
      (h.step (1, n)).told = h.told ++ [((p + (q + n) : Nat) : Int)] := by
  have e := lay1 p q r u n
  refine ⟨⟨?_, ?_, ?_⟩, ?_⟩
  · show (laid h.row (rp n 1)).1 = _
    rw [H.row, e]
  · show (laid h.sec (laid h.row (rp n 1)).2).1 = _
    rw [H.row, e, H.sec, laySec]; simp
  · show BI (bookAll h.book (laid h.row (rp n 1)).2) _ _ _
    rw [H.row, e]; exact H.bk.rw3 0 _ _
  · show h.told ++ [((bR (laid h.row (rp n 1)).1 1 : Nat) : Int)] = _
    rw [H.row, e, bR1]
theorem Rel.st2 {h : HS} {p q r u s t v f1 f2 f3 : Nat} (H : Rel h p q r u s t v f1 f2 f3) (n : Nat) :
    Rel (h.step (2, n)) p q (r + n) (u - n) s t (v + min n u) f1 f2 (f3 + min n u) ∧ (h.step (2, n)).told = h.told ++ [((p + q + (r + n) : Nat) : Int)] := by
  have e := lay2 p q r u n
  refine ⟨⟨?_, ?_, ?_⟩, ?_⟩
  · show (laid h.row (rp n 2)).1 = _
    rw [H.row, e]
  · show (laid h.sec (laid h.row (rp n 2)).2).1 = _
    rw [H.row, e, H.sec, laySec]; simp
  · show BI (bookAll h.book (laid h.row (rp n 2)).2) _ _ _
    rw [H.row, e]; exact H.bk.rw3 0 0 _
  · show h.told ++ [((bR (laid h.row (rp n 2)).1 2 : Nat) : Int)] = _
    rw [H.row, e, bR2]
theorem Rel.st3 {h : HS} {p q r u s t v f1 f2 f3 : Nat} (H : Rel h p q r u s t v f1 f2 f3) (n : Nat) :
    Rel (h.step (3, n)) p q r (u + n) s t v f1 f2 f3 ∧ (h.step (3, n)).told = h.told ++ [((p + q + r + (u + n) : Nat) : Int)] := by
  have e := lay3 p q r u n
  refine ⟨⟨?_, ?_, ?_⟩, ?_⟩
  · show (laid h.row (rp n 3)).1 = _
    rw [H.row, e]
  · show (laid h.sec (laid h.row (rp n 3)).2).1 = _
    rw [H.row, e, H.sec, laySec]; simp
  · show BI (bookAll h.book (laid h.row (rp n 3)).2) _ _ _
    rw [H.row, e]; exact H.bk.rw3 0 0 0
  · show h.told ++ [((bR (laid h.row (rp n 3)).1 3 : Nat) : Int)] = _
    rw [H.row, e, bR3]

theorem minS (x n : Nat) : x - n + min n x = x := by rw [Nat.min_comm]; exact Nat.sub_add_min_cancel x n
theorem minG (k o v : Nat) : min o v + min k (v - o) = min (o + k) v := by
  rcases Nat.le_total o v with h | h
  · obtain ⟨e, rfl⟩ := Nat.exists_eq_add_of_le h
    rw [Nat.min_eq_left h, Nat.add_sub_cancel_left, Nat.add_min_add_left]
  · rw [Nat.min_eq_right h, Nat.sub_eq_zero_of_le h, Nat.min_zero, Nat.min_eq_right (Nat.le_trans h (Nat.le_add_right _ _)), Nat.add_zero]
theorem minF (x k t v : Nat) : min x (t + v) + min k (v - (x - t)) = min (x + min k v) (t + v) := by
  rcases Nat.le_total x t with h | h
  · rw [Nat.sub_eq_zero_of_le h, Nat.sub_zero, Nat.min_eq_left (Nat.le_trans h (Nat.le_add_right _ _)), Nat.min_eq_left (Nat.add_le_add h (Nat.min_le_right _ _))]
  · obtain ⟨d, rfl⟩ := Nat.exists_eq_add_of_le h
    have e : min (d + min k v) v = min (d + k) v := by rw [← Nat.add_min_add_left, Nat.min_assoc, Nat.min_eq_right (Nat.le_add_left v d)]
    rw [Nat.add_sub_cancel_left, Nat.add_min_add_left, Nat.add_assoc, minG, Nat.add_assoc t d, Nat.add_min_add_left, e]
theorem mins1 (q r u t v a b : Nat) :
   min (min a q) (t + v) + min (min (a - q) r) (v - (min a q - t)) + min (min b (r - (a - q))) (v - (min a q - t) - min (a - q) r + min (a - q - r) u) = min (min (q + min r v) (t + v)) (min (min r v + a) (a + b)) := by
  rcases Nat.le_total a q with h | h
  · simp only [Nat.sub_eq_zero_of_le h, Nat.min_eq_left h, Nat.zero_min, Nat.sub_zero, Nat.zero_sub, Nat.add_zero]
    rw [minF, Nat.min_assoc b, ← Nat.add_min_add_left]
    generalize min r v = m
    have e : min (q + m) (m + a) = a + m := by rw [Nat.add_comm m a]; exact Nat.min_eq_right (Nat.add_le_add_right h m)
    rw [← e]
    ac_rfl
  · obtain ⟨d, rfl⟩ := Nat.exists_eq_add_of_le h
    rw [Nat.add_sub_cancel_left, Nat.min_eq_right h]
    rcases Nat.le_total d r with h2 | h2
    · obtain ⟨e, rfl⟩ := Nat.exists_eq_add_of_le h2
      have e1 : d + min b e = min (d + b) (d + e) := (Nat.add_min_add_left ..).symm
      rw [Nat.sub_eq_zero_of_le h2, Nat.zero_min, Nat.add_zero, Nat.add_sub_cancel_left, Nat.min_eq_left h2, Nat.add_assoc, minG, e1, minF, Nat.min_assoc (d + b), ← Nat.add_min_add_left]
      generalize min (d + e) v = m
      have e2 : min (q + m) (m + (q + d)) = q + m := Nat.min_eq_left (by rw [Nat.add_comm m]; exact Nat.add_le_add_right h m)
      conv => lhs; rw [← e2, ← Nat.add_assoc q d b]
      ac_rfl
    · rw [Nat.min_eq_right h2, Nat.sub_eq_zero_of_le h2, Nat.min_zero, Nat.zero_min, Nat.add_zero, minF]
      refine (Nat.min_eq_left (Nat.le_trans (Nat.min_le_left _ _) (Nat.le_min.mpr ⟨?_, ?_⟩))).symm
      · rw [Nat.add_comm (min r v)]; exact Nat.add_le_add_right h _
      · exact Nat.le_trans (Nat.add_le_add_left (Nat.le_trans (Nat.min_le_left _ _) h2) q) (Nat.le_add_right _ _)
theorem cm1 (P x n : Nat) : P + n + (x - n) = max (P + x) (P + n) := by rw [Nat.add_assoc, Nat.add_comm n, Nat.sub_add_eq_max, Nat.add_max_add_left]
theorem cm2 (q r a : Nat) : q - a + (r - (a - q)) = q + r - a := by
  rcases Nat.le_total a q with h | h
  · rw [Nat.sub_eq_zero_of_le h, Nat.sub_zero, Nat.sub_add_comm h]
  · obtain ⟨d, rfl⟩ := Nat.exists_eq_add_of_le h
    rw [Nat.add_sub_cancel_left, Nat.sub_eq_zero_of_le h, Nat.zero_add, Nat.add_sub_add_left]
theorem cm3 (q r u a : Nat) : q - a + (r - (a - q)) + (u - (a - q - r)) = q + r + u - a := by rw [cm2, Nat.sub_sub, cm2]
theorem cm4 (t v o : Nat) : t - o + (v - (o - t)) + min o (t + v) = t + v := by rw [cm2, minS]
theorem ws1 (p q a b : Nat) : p + a + (q - a + b) = max (p + q) (p + a) + b := by rw [← Nat.add_assoc, cm1]
theorem ws2 (p q r a b c : Nat) : p + a + (q - a + b) + (r - (a - q) - b + c) = max (p + q + r) (p + a + (q - a + b)) + c := by
  have h : p + a ≤ p + a + (q - a) + b := by rw [Nat.add_assoc (p + a)]; exact Nat.le_add_right _ _
  rw [← Nat.add_assoc (p + a), ← Nat.add_assoc _ _ c, cm1, Nat.add_assoc (p + a) (q - a), cm2, cm1, Nat.max_assoc, Nat.max_eq_right h, Nat.add_assoc p q r]
theorem ws6 (p q r u a b c d : Nat) : p + a + (q - a + b) + (r - (a - q) - b + c) + (u - (a - q - r) - (b - (r - (a - q))) - c + d) = max (p + q + r + u) (p + a + (q - a + b) + (r - (a - q) - b + c)) + d := by
  have h : p + a ≤ p + a + (q - a) + b := by rw [Nat.add_assoc (p + a)]; exact Nat.le_add_right _ _
  have h2 : p + a + (q - a) + b ≤ p + a + (q - a) + b + (r - (a - q) - b) + c := by rw [Nat.add_assoc (p + a + (q - a) + b)]; exact Nat.le_add_right _ _
  rw [← Nat.add_assoc (p + a), ← Nat.add_assoc _ _ c, ← Nat.add_assoc _ _ d, cm1]
  rw [Nat.add_assoc (p + a + (q - a) + b) (r - (a - q) - b), cm2, cm1, ← Nat.add_assoc (p + a + (q - a)), Nat.add_assoc (p + a) (q - a), Nat.add_assoc (p + a), cm3, cm1]
  rw [← Nat.add_assoc p, ← Nat.add_assoc p, Nat.max_assoc, Nat.max_assoc, Nat.max_eq_right h2, Nat.max_eq_right (Nat.le_trans h h2)]
theorem ws4 (T a q t : Nat) : T + min (min a q) t = min (T + a) (T + min q t) := by rw [Nat.min_assoc, Nat.add_min_add_left]
theorem ws5 (r a q b t T : Nat) : T + min (min a q) t + min (q - a + b) (t - min a q + min (a - q) r + min b (r - (a - q))) = min (T + min q t + b) (T + t + r) := by
  rcases Nat.le_total a q with h | h
  · obtain ⟨q', rfl⟩ := Nat.exists_eq_add_of_le h
    rw [Nat.min_eq_left h, Nat.sub_eq_zero_of_le h, Nat.zero_min, Nat.sub_zero, Nat.add_zero, Nat.add_sub_cancel_left]
    rcases Nat.le_total a t with h2 | h2
    · obtain ⟨t', rfl⟩ := Nat.exists_eq_add_of_le h2
      have e : min (q' + b) (t' + min b r) = min (min q' t' + b) (t' + r) := by
        rw [← Nat.add_min_add_left, ← Nat.min_assoc, Nat.add_min_add_right]
      rw [Nat.min_eq_left h2, Nat.add_sub_cancel_left, e, Nat.add_min_add_left, ← Nat.add_min_add_left]
      simp only [Nat.add_assoc]
    · have e : min (q' + b) (min b r) = min b r := by rw [← Nat.min_assoc, Nat.min_eq_right (Nat.le_add_left b q')]
      rw [Nat.min_eq_right h2, Nat.sub_eq_zero_of_le h2, Nat.zero_add, e, Nat.min_eq_right (Nat.le_trans h2 h), Nat.add_min_add_left]
  · obtain ⟨d, rfl⟩ := Nat.exists_eq_add_of_le h
    rw [Nat.min_eq_right h, Nat.sub_eq_zero_of_le h, Nat.zero_add, Nat.add_sub_cancel_left, Nat.add_assoc (t - q), minG]
    rcases Nat.le_total q t with h2 | h2
    · obtain ⟨t', rfl⟩ := Nat.exists_eq_add_of_le h2
      have e : min b (t' + min (d + b) r) = min b (t' + r) := by
        rw [← Nat.add_min_add_left, ← Nat.min_assoc, ← Nat.add_assoc, Nat.min_eq_left (Nat.le_add_left b _)]
      rw [Nat.min_eq_left h2, Nat.add_sub_cancel_left, e, ← Nat.add_min_add_left]
      simp only [Nat.add_assoc]
    · have e : min b (min (d + b) r) = min b r := by rw [← Nat.min_assoc, Nat.min_eq_left (Nat.le_add_left b d)]
      rw [Nat.min_eq_right h2, Nat.sub_eq_zero_of_le h2, Nat.zero_add, e, Nat.add_min_add_left]
theorem zor (q a : Nat) : q - a = 0 ∨ a - q = 0 := (Nat.le_total a q).elim (fun h => .inr (Nat.sub_eq_zero_of_le h)) fun h => .inl (Nat.sub_eq_zero_of_le h)
theorem mq1 (D r u c : Nat) : min (r - D + c) (min (D - r + c) u) = min u c := by
  rw [← Nat.min_assoc]
  rcases zor r D with h | h
  · rw [h, Nat.zero_add, Nat.min_eq_left (Nat.le_add_left c _), Nat.min_comm]
  · rw [h, Nat.zero_add, Nat.min_eq_right (Nat.le_add_left c _), Nat.min_comm]
theorem mq2 (D r u c : Nat) : min D r + min (D - r + c) u = min (D + c) (min (r + u) (D + u)) := by
  rcases Nat.le_total D r with h | h
  · rw [Nat.min_eq_left h, Nat.sub_eq_zero_of_le h, Nat.zero_add, Nat.min_eq_right (Nat.add_le_add_right h u), Nat.add_min_add_left]
  · obtain ⟨f, rfl⟩ := Nat.exists_eq_add_of_le h
    rw [Nat.min_eq_right h, Nat.add_sub_cancel_left, Nat.min_eq_left (Nat.add_le_add_right h u), ← Nat.add_min_add_left, ← Nat.add_assoc]
theorem mq3 (d e b x : Nat) (h : e = 0 ∨ d = 0) : min (e + b + x) (d + b + x) = b + x := by
  rcases h with rfl | rfl
  · rw [Nat.zero_add]; exact Nat.min_eq_left (Nat.add_le_add_right (Nat.le_add_left b d) x)
  · rw [Nat.zero_add]; exact Nat.min_eq_right (Nat.add_le_add_right (Nat.le_add_left b e) x)
theorem mq4 (d r u b c : Nat) : min (d - r) u + min (b - (r - d)) (u - (d - r)) + min c (u - (d - r) - (b - (r - d))) = min (d + b - r + c) u := by
  rw [minG, Nat.add_comm (d - r), Nat.sub_sub, Nat.add_comm (b - (r - d)), cm2, minG]
theorem mq5 (d r b : Nat) : min d r + min b (r - d) = min (d + b) r := minG b d r
theorem mins2 (q r u a b c : Nat) :
   min (r - (a - q) - b + c) (min (a - q - r) u + min (b - (r - (a - q))) (u - (a - q - r)) + min c (u - (a - q - r) - (b - (r - (a - q))))) = min u c ∧
   min (q - a + b + min u c) (min (a - q) r + min b (r - (a - q)) + (min (a - q - r) u + min (b - (r - (a - q))) (u - (a - q - r)) + min c (u - (a - q - r) - (b - (r - (a - q)))))) = min (r + u) (min (u + b) (b + c)) := by
  have h := zor q a
  rw [mq4, mq5, Nat.sub_sub r, mq1, mq2, ← Nat.add_min_add_left]
  generalize a - q = d at *
  generalize q - a = e at *
  refine ⟨rfl, ?_⟩
  have e1 := mq3 d e b u h
  have e2 := mq3 d e b c h
  rw [Nat.add_comm u b, ← e1, ← e2]
  ac_rfl
/-- one work, desk by desk: three letters. T: what the second row has pushed out. -/
theorem work3 {h : HS} {p q r s t f1 f2 T : Nat} (H : Rel h p q r 0 s t 0 f1 f2 0) (hT : f1 + f2 = s + t + T) (a b c : Nat) :
    ∃ p' q' r' s' t' f1' f2' T', Rel (((h.step (0, a)).step (1, b)).step (2, c)) p' q' r' 0 s' t' 0 f1' f2' 0 ∧ f1' + f2' = s' + t' + T' ∧
      (((h.step (0, a)).step (1, b)).step (2, c)).told = h.told ++ [((p' : Nat) : Int), ((p' + q' : Nat) : Int), ((p' + q' + r' : Nat) : Int)] ∧
      p' = p + a ∧ p' + q' = max (p + q) p' + b ∧ p' + q' + r' = max (p + q + r) (p' + q') + c ∧ q' + f1' = q + f1 + b ∧ r' + f2' = r + f2 + c ∧
      T' = min (T + a) (T + min q t) ∧ T' + min q' t' = min (T + min q t + b) (T + t + r) ∧ T' + t' + r' = T + t + r + c := by
  obtain ⟨H1, t1⟩ := H.st0 a
  obtain ⟨H2, t2⟩ := H1.st1 b
  obtain ⟨H3, t3⟩ := H2.st2 c
  simp only [Nat.zero_sub, Nat.min_zero, Nat.add_zero, Nat.zero_add, Nat.sub_zero] at H3
  have k1 : t - min a q + min (min a q) t = t := minS _ _
  have k2 : q - a + min a q = q := minS _ _
  have k3 : r - (a - q) + min (a - q) r = r := minS _ _
  have k4 : r - (a - q) - b + min b (r - (a - q)) = r - (a - q) := minS _ _
  refine ⟨_, _, _, _, _, _, _, T + min (min a q) t, H3, ?_, ?_, rfl, ws1 _ _ _ _, ws2 _ _ _ _ _ _, ?_, ?_, ws4 _ _ _ _, ws5 _ _ _ _ _ _, ?_⟩
  · generalize min (min a q) t = x1 at *
    generalize min a q = x2 at *
    generalize min b (r - (a - q)) = x3 at *
    generalize min (a - q) r = x4 at *
    clear k2 k3 k4 H1 H2 H3 t1 t2 t3
    omega
  · rw [t3, t2, t1]; simp
  · clear k1 k3 k4 t1 t2 t3 H1 H2 H3; generalize min a q = x2 at *; omega
  · clear k1 k2 t1 t2 t3 H1 H2 H3
    generalize min b (r - (a - q)) = x3 at *
    generalize min (a - q) r = x4 at *
    generalize r - (a - q) = x5 at *
    omega
  · clear k2 t1 t2 t3 H1 H2 H3
    generalize min (min a q) t = x1 at *
    generalize min a q = x2 at *
    generalize min b (r - (a - q)) = x3 at *
    generalize min (a - q) r = x4 at *
    generalize r - (a - q) = x5 at *
    omega

/-- one desk, work by work: four letters -/
theorem desk4 {h : HS} {p q r u s t v f1 f2 f3 T : Nat} (H : Rel h p q r u s t v f1 f2 f3) (hT : f1 + f2 + f3 = s + t + v + T) (a b c d : Nat) :
    ∃ p' q' r' u' s' t' v' f1' f2' f3' T', Rel ((((h.step (0, a)).step (1, b)).step (2, c)).step (3, d)) p' q' r' u' s' t' v' f1' f2' f3' ∧ f1' + f2' + f3' = s' + t' + v' + T' ∧
      ((((h.step (0, a)).step (1, b)).step (2, c)).step (3, d)).told = h.told ++ [((p' : Nat) : Int), ((p' + q' : Nat) : Int), ((p' + q' + r' : Nat) : Int), ((p' + q' + r' + u' : Nat) : Int)] ∧
      p' = p + a ∧ p' + q' = max (p + q) p' + b ∧ p' + q' + r' = max (p + q + r) (p' + q') + c ∧ p' + q' + r' + u' = max (p + q + r + u) (p' + q' + r') + d ∧
      q' + f1' = q + f1 + b ∧ r' + f2' = r + f2 + c ∧ u' + f3' = u + f3 + d ∧
      T' = T + min (min (q + min r v) (t + v)) (min (min r v + a) (a + b)) ∧
      (t = 0 → v = 0 → min r' v' = min u c ∧ min (q' + min u c) (t' + v') = min (r + u) (min (u + b) (b + c))) := by
  obtain ⟨H1, t1⟩ := H.st0 a
  obtain ⟨H2, t2⟩ := H1.st1 b
  obtain ⟨H3, t3⟩ := H2.st2 c
  obtain ⟨H4, t4⟩ := H3.st3 d
  have k1 := cm4 t v (min a q)
  have k2 : q - a + min a q = q := minS _ _
  have k3 : r - (a - q) + min (a - q) r = r := minS _ _
  have k4 : r - (a - q) - b + min b (r - (a - q)) = r - (a - q) := minS _ _
  have k5 := minS (v - (min a q - t)) (min (a - q) r)
  have k6 := minS (v - (min a q - t) - min (a - q) r + min (a - q - r) u) (min b (r - (a - q)))
  have k7 := minS u (a - q - r)
  have k8 := minS (u - (a - q - r)) (b - (r - (a - q)))
  have k9 := minS (u - (a - q - r) - (b - (r - (a - q)))) c
  have m1 := mins1 q r u t v a b
  refine ⟨_, _, _, _, _, _, _, _, _, _, T + min (min (q + min r v) (t + v)) (min (min r v + a) (a + b)), H4, ?_, ?_, rfl, ws1 _ _ _ _, ws2 _ _ _ _ _ _, ws6 _ _ _ _ _ _ _ _, ?_, ?_, ?_, rfl, ?_⟩
  · rw [← m1]
    clear m1 t1 t2 t3 t4 H1 H2 H3 H4 k2 k3 k4 k7 k8 k9
    generalize min (min b (r - (a - q))) (v - (min a q - t) - min (a - q) r + min (a - q - r) u) = y1 at *
    generalize min b (r - (a - q)) = y2 at *
    generalize min (min a q) (t + v) = y3 at *
    generalize min (min (a - q) r) (v - (min a q - t)) = y4 at *
    generalize min a q = y5 at *
    generalize min (a - q) r = y6 at *
    generalize min (a - q - r) u = y7 at *
    generalize v - (y5 - t) = y8 at *
    generalize t - y5 = y9 at *
    generalize y8 - y6 = y10 at *
    generalize y10 + y7 - y2 = y11 at *
    omega
  · rw [t4, t3, t2, t1]; simp
  · clear k1 k3 k4 k5 k6 k7 k8 k9 m1 t1 t2 t3 t4 H1 H2 H3 H4
    generalize min a q = x2 at *; omega
  · clear k1 k2 k5 k6 k7 k8 k9 m1 t1 t2 t3 t4 H1 H2 H3 H4
    generalize min b (r - (a - q)) = x3 at *
    generalize min (a - q) r = x4 at *
    generalize r - (a - q) = x5 at *
    omega
  · clear k1 k2 k3 k4 k5 k6 m1 t1 t2 t3 t4 H1 H2 H3 H4
    generalize min (b - (r - (a - q))) (u - (a - q - r)) = x3 at *
    generalize min (a - q - r) u = x4 at *
    generalize min c (u - (a - q - r) - (b - (r - (a - q)))) = x6 at *
    generalize u - (a - q - r) - (b - (r - (a - q))) = x7 at *
    generalize u - (a - q - r) = x5 at *
    omega
  · intro h1 h2
    subst h1 h2
    have e : 0 - (min a q - 0) - min (a - q) r + min (a - q - r) u - min b (r - (a - q)) + min (b - (r - (a - q))) (u - (a - q - r)) + min c (u - (a - q - r) - (b - (r - (a - q)))) = min (a - q - r) u + min (b - (r - (a - q))) (u - (a - q - r)) + min c (u - (a - q - r) - (b - (r - (a - q)))) := by
      rw [Nat.zero_sub, Nat.zero_sub, Nat.zero_add]
      rcases Nat.le_total (a - q) r with h | h
      · rw [Nat.sub_eq_zero_of_le h, Nat.zero_min, Nat.zero_sub]
      · rw [Nat.sub_eq_zero_of_le h, Nat.min_zero, Nat.sub_zero]
    rw [e, Nat.zero_sub, Nat.zero_add]
    exact mins2 q r u a b c
/-! ZP3 -/
/-! the plain law: what _law_holds asks -/
structure Good (lv : List Int) (sv : List Nat) (ends lasts totals : List Int) (two : Int) : Prop where
  hl1 : lv.length = 12
  hl2 : sv.length = 12
  hs : ∀ n ∈ sv, n ≤ 3
  hm0 : 0 < lasts.length
  hm : lasts.length ≤ 12
  htm : totals.length = lasts.length
  hsz2 : ∀ n, n < lasts.length → 0 ≤ sizeAt lasts n ∧ sizeAt lasts n ≤ 100
  htot : ∀ t ∈ totals, 0 ≤ t ∧ t ≤ 1000000
  e1 : (HS.run (lv.zip sv)).told = ends
  e2 : (HS.run (lv.zip sv)).row = dueTo lasts lasts.length
  e3 : sameD (HS.run (lv.zip sv)).book (overTo lasts totals lasts.length) = true
  e4 : valSum (HS.run (lv.zip sv)).book = sumL totals - lasts.getD (lasts.length - 1) 0
  e5 : ((HS.run (lv.zip sv)).row.length : Int) + ((HS.run (lv.zip sv)).sec.length : Int) = two
theorem over_keys (lasts totals : List Int) : ∀ i, ∀ k ∈ keysD (overTo lasts totals i), k < (i : Int)
  | 0, k, h => by simp [overTo, keysD] at h
  | i + 1, k, h => by
    have ih := over_keys lasts totals i
    rw [overTo] at h
    split at h
    · rw [keys_dput] at h
      split at h
      · have := ih k h; omega
      · rcases List.mem_append.mp h with h | h
        · have := ih k h; omega
        · rw [List.mem_singleton.mp h]; omega
    · have := ih k h; omega
noncomputable def nzs (F : Nat → Nat) : Nat → Nat
  | 0 => 0
  | n + 1 => nzs F n + nz (F n)
theorem over_spec {lasts totals : List Int} {F : Nat → Nat} {m : Nat} (hF : ∀ n, n < m → totals.getD n 0 - sizeAt lasts n = (F n : Int)) : ∀ i, i ≤ m →
    (∀ k : Int, dget (overTo lasts totals i) k = if 0 ≤ k ∧ k < (i : Int) then gO (F k.toNat) else none) ∧ (overTo lasts totals i).length = nzs F i
  | 0, _ => ⟨fun k => by rw [if_neg (by omega)]; rfl, rfl⟩
  | i + 1, hi => by
    obtain ⟨h1, h2⟩ := over_spec hF i (by omega)
    have hk := over_keys lasts totals i
    have hf := hF i (by omega)
    have hni : (i : Int) ∉ keysD (overTo lasts totals i) := fun q => by have := hk _ q; omega
    rw [overTo]
    by_cases hz : F i = 0
    · rw [if_neg (by rw [hz] at hf; omega)]
      refine ⟨fun k => ?_, by rw [h2, nzs, hz]; rfl⟩
      rw [h1 k]
      by_cases hki : k = i
      · subst hki; rw [if_neg (by omega), if_pos (by omega), Int.toNat_natCast, hz]; rfl
      · by_cases hh : 0 ≤ k ∧ k < (i : Int)
        · rw [if_pos hh, if_pos (by omega)]
        · rw [if_neg hh, if_neg (by omega)]
    · rw [if_pos (by omega), hf]
      refine ⟨fun k => ?_, ?_⟩
      · rw [dget_dput, h1 k]
        by_cases hki : k = i
        · subst hki; rw [if_pos rfl, if_pos (by omega), Int.toNat_natCast]; unfold gO; rw [if_neg hz]
        · rw [if_neg hki]
          by_cases hh : 0 ≤ k ∧ k < (i : Int)
          · rw [if_pos hh, if_pos (by omega)]
          · rw [if_neg hh, if_neg (by omega)]
      · rw [length_dput, h2, if_neg hni, nzs, nz, if_neg hz]
theorem due1 {lasts : List Int} {p : Nat} (h0 : lasts.getD 0 0 = p) : sizeAt lasts 0 = p ∧ dueTo lasts 1 = rp p 0 := by
  have : sizeAt lasts 0 = p := by unfold sizeAt; rw [h0]; simp [dueTo]
  refine ⟨this, ?_⟩
  show dueTo lasts 0 ++ List.replicate (sizeAt lasts 0).toNat ((0 : Nat) : Int) = _
  rw [this]; simp [dueTo]
theorem due2 {lasts : List Int} {p q : Nat} (h0 : lasts.getD 0 0 = p) (h1 : lasts.getD 1 0 = ((p + q : Nat) : Int)) : sizeAt lasts 1 = q ∧ dueTo lasts 2 = rp p 0 ++ rp q 1 := by
  have d := (due1 h0).2
  have : sizeAt lasts 1 = q := by unfold sizeAt; rw [h1, d, List.length_replicate]; omega
  refine ⟨this, ?_⟩
  show dueTo lasts 1 ++ List.replicate (sizeAt lasts 1).toNat ((1 : Nat) : Int) = _
  rw [this, d]; simp
theorem due3 {lasts : List Int} {p q r : Nat} (h0 : lasts.getD 0 0 = p) (h1 : lasts.getD 1 0 = ((p + q : Nat) : Int)) (h2 : lasts.getD 2 0 = ((p + q + r : Nat) : Int)) : sizeAt lasts 2 = r ∧ dueTo lasts 3 = rp p 0 ++ rp q 1 ++ rp r 2 := by
  have d := (due2 h0 h1).2
  have : sizeAt lasts 2 = r := by unfold sizeAt; rw [h2, d, List.length_append, List.length_replicate, List.length_replicate]; omega
  refine ⟨this, ?_⟩
  show dueTo lasts 2 ++ List.replicate (sizeAt lasts 2).toNat ((2 : Nat) : Int) = _
  rw [this, d]; simp
theorem due4 {lasts : List Int} {p q r u : Nat} (h0 : lasts.getD 0 0 = p) (h1 : lasts.getD 1 0 = ((p + q : Nat) : Int)) (h2 : lasts.getD 2 0 = ((p + q + r : Nat) : Int)) (h3 : lasts.getD 3 0 = ((p + q + r + u : Nat) : Int)) :
    sizeAt lasts 3 = u ∧ dueTo lasts 4 = rp p 0 ++ rp q 1 ++ rp r 2 ++ rp u 3 := by
  have d := (due3 h0 h1 h2).2
  have : sizeAt lasts 3 = u := by unfold sizeAt; rw [h3, d]; simp only [List.length_append, List.length_replicate]; omega
  refine ⟨this, ?_⟩
  show dueTo lasts 3 ++ List.replicate (sizeAt lasts 3).toNat ((3 : Nat) : Int) = _
  rw [this, d]; simp
theorem rw4_len (p q r u : Nat) : (rw4 p q r u).length = p + q + r + u := by
  unfold rw4; rw [List.length_append, List.length_append, List.length_append, List.length_replicate, List.length_replicate, List.length_replicate, List.length_replicate, Nat.add_assoc, Nat.add_assoc]
theorem rw3_len (s t v : Nat) : (rw3 s t v).length = s + t + v := by
  unfold rw3; rw [List.length_append, List.length_append, List.length_replicate, List.length_replicate, List.length_replicate, Nat.add_assoc]
theorem lt3 {n : Nat} (h : n < 3) : n = 0 ∨ n = 1 ∨ n = 2 := by omega
theorem lt4 {n : Nat} (h : n < 4) : n = 0 ∨ n = 1 ∨ n = 2 ∨ n = 3 := by omega
theorem bnd {n m : Nat} (h : m ≤ 100) (h' : n ≤ m) : 0 ≤ (n : Int) ∧ (n : Int) ≤ 100 := ⟨Int.natCast_nonneg n, Int.ofNat_le.mpr (Nat.le_trans h' h)⟩
theorem bnd' {n m : Nat} (h : m ≤ 100) (h' : n ≤ m) : 0 ≤ (n : Int) ∧ (n : Int) ≤ 1000000 := ⟨Int.natCast_nonneg n, Int.ofNat_le.mpr (Nat.le_trans (Nat.le_trans h' h) (by decide))⟩
theorem sub_f (q f : Nat) : ((q + f : Nat) : Int) - (q : Int) = (f : Int) := by rw [Int.natCast_add, Int.add_comm]; exact Int.add_sub_cancel _ _
theorem gf_out {f1 f2 f3 : Nat} {k : Int} {m : Nat} (hk : ¬ (0 ≤ k ∧ k < (m : Int))) (h : 4 ≤ m ∨ (3 ≤ m ∧ f3 = 0)) : gf f1 f2 f3 k = 0 := by
  unfold gf
  rw [if_neg (by omega), if_neg (by omega)]
  split
  · rcases h with h | h
    · omega
    · exact h.2
  · rfl
theorem nzs4 (f1 f2 f3 : Nat) : nzs (fun n => gf f1 f2 f3 n) 4 = nz f1 + nz f2 + nz f3 := by
  show 0 + nz 0 + nz f1 + nz f2 + nz f3 = _
  rw [show nz 0 = 0 from rfl, Nat.add_zero, Nat.zero_add]
theorem nzs3 (f1 f2 : Nat) : nzs (fun n => gf f1 f2 0 n) 3 = nz f1 + nz f2 + nz 0 := by
  show 0 + nz 0 + nz f1 + nz f2 = _
  rw [show nz 0 = 0 from rfl, Nat.add_zero, Nat.zero_add, Nat.add_zero]
/-- from the counts to what is asked -/
theorem good_of {lv : List Int} {sv : List Nat} {ends lasts totals : List Int} {two : Int} {p q r u s t v f1 f2 f3 m : Nat} (hl1 : lv.length = 12) (hl2 : sv.length = 12) (hs : ∀ n ∈ sv, n ≤ 3) (R : Rel (HS.run (lv.zip sv)) p q r u s t v f1 f2 f3) (ht : (HS.run (lv.zip sv)).told = ends)
    (hlen : lasts.length = m) (hm0 : 0 < m) (hm : m ≤ 12) (htm : totals.length = m) (h4 : 4 ≤ m ∨ (3 ≤ m ∧ f3 = 0)) (hsz : ∀ n, n < m → 0 ≤ sizeAt lasts n ∧ sizeAt lasts n ≤ 100) (htot : ∀ x ∈ totals, 0 ≤ x ∧ x ≤ 1000000) (hF : ∀ n : Nat, n < m → totals.getD n 0 - sizeAt lasts n = (gf f1 f2 f3 n : Int))
    (hdue : rw4 p q r u = dueTo lasts m) (hnz : nzs (fun n => gf f1 f2 f3 n) m = nz f1 + nz f2 + nz f3) (hsum : (f1 : Int) + f2 + f3 = sumL totals - lasts.getD (m - 1) 0) (h2 : two = ((p + q + r + u + (s + t + v) : Nat) : Int)) : Good lv sv ends lasts totals two := by
  have hov := over_spec hF m (Nat.le_refl _)
  subst hlen
  refine ⟨hl1, hl2, hs, hm0, hm, htm, hsz, htot, ht, R.row.trans hdue, ?_, R.bk.sum.trans hsum, ?_⟩
  · refine R.bk.same (fun k => ?_) (hov.2.trans hnz)
    rw [hov.1 k]
    by_cases hk : 0 ≤ k ∧ k < (lasts.length : Int)
    · rw [if_pos hk, Int.toNat_of_nonneg hk.1]
    · rw [if_neg hk, gf_out hk h4]; rfl
  · rw [R.row, R.sec, rw4_len, rw3_len, h2, Int.natCast_add (p + q + r + u)]
theorem good4 {lv : List Int} {sv : List Nat} {ends lasts totals : List Int} {two : Int} {p q r u s t v f1 f2 f3 : Nat} (hl1 : lv.length = 12) (hl2 : sv.length = 12) (hs : ∀ n ∈ sv, n ≤ 3)
    (R : Rel (HS.run (lv.zip sv)) p q r u s t v f1 f2 f3) (ht : (HS.run (lv.zip sv)).told = ends) (hl : lasts = [((p : Nat) : Int), ((p + q : Nat) : Int), ((p + q + r : Nat) : Int), ((p + q + r + u : Nat) : Int)]) (htot : totals = [((p : Nat) : Int), ((q + f1 : Nat) : Int), ((r + f2 : Nat) : Int), ((u + f3 : Nat) : Int)])
    (hb : p + (q + f1) + (r + f2) + (u + f3) ≤ 100) (h2 : two = ((p + q + r + u + (s + t + v) : Nat) : Int)) : Good lv sv ends lasts totals two := by
  have g0 : lasts.getD 0 0 = p := by rw [hl]; rfl
  have g1 : lasts.getD 1 0 = ((p + q : Nat) : Int) := by rw [hl]; rfl
  have g2 : lasts.getD 2 0 = ((p + q + r : Nat) : Int) := by rw [hl]; rfl
  have g3 : lasts.getD 3 0 = ((p + q + r + u : Nat) : Int) := by rw [hl]; rfl
  have s0 := (due1 g0).1
  have s1 := (due2 g0 g1).1
  have s2 := (due3 g0 g1 g2).1
  obtain ⟨s3, d4⟩ := due4 g0 g1 g2 g3
  have b1 : p + (q + f1) + (r + f2) ≤ 100 := Nat.le_trans (Nat.le_add_right _ _) hb
  have b2 : p + (q + f1) ≤ 100 := Nat.le_trans (Nat.le_add_right _ _) b1
  have c1 : q + f1 ≤ p + (q + f1) := Nat.le_add_left _ _
  have c2 : r + f2 ≤ p + (q + f1) + (r + f2) := Nat.le_add_left _ _
  have c3 : u + f3 ≤ p + (q + f1) + (r + f2) + (u + f3) := Nat.le_add_left _ _
  refine good_of (m := 4) hl1 hl2 hs R ht (by rw [hl]; rfl) (by decide) (by decide) (by rw [htot]; rfl) (.inl (Nat.le_refl _)) (fun n hn => ?_) (fun x hx => ?_) (fun n hn => ?_) ?_ (nzs4 _ _ _) ?_ h2
  · rcases lt4 hn with rfl | rfl | rfl | rfl
    · rw [s0]; exact bnd b2 (Nat.le_add_right _ _)
    · rw [s1]; exact bnd b2 (Nat.le_trans (Nat.le_add_right _ _) c1)
    · rw [s2]; exact bnd b1 (Nat.le_trans (Nat.le_add_right _ _) c2)
    · rw [s3]; exact bnd hb (Nat.le_trans (Nat.le_add_right _ _) c3)
  · rw [htot] at hx
    simp only [List.mem_cons, List.not_mem_nil, or_false] at hx
    rcases hx with rfl | rfl | rfl | rfl
    · exact bnd' b2 (Nat.le_add_right _ _)
    · exact bnd' b2 c1
    · exact bnd' b1 c2
    · exact bnd' hb c3
  · rw [htot]
    rcases lt4 hn with rfl | rfl | rfl | rfl
    · rw [s0]; exact Int.sub_self _
    · rw [s1]; exact sub_f q f1
    · rw [s2]; exact sub_f r f2
    · rw [s3]; exact sub_f u f3
  · rw [d4, rw4]; simp only [List.append_assoc]
  · show _ = sumL totals - lasts.getD 3 0
    rw [g3, htot, sumL_cons, sumL_cons, sumL_cons, sumL_cons, show sumL [] = 0 from rfl]
    clear g0 g1 g2 g3 s0 s1 s2 s3 d4 b1 b2 c1 c2 c3 hl htot R ht h2
    omega
theorem good3 {lv : List Int} {sv : List Nat} {ends lasts totals : List Int} {two : Int} {p q r s t f1 f2 : Nat} (hl1 : lv.length = 12) (hl2 : sv.length = 12) (hs : ∀ n ∈ sv, n ≤ 3)
    (R : Rel (HS.run (lv.zip sv)) p q r 0 s t 0 f1 f2 0) (ht : (HS.run (lv.zip sv)).told = ends) (hl : lasts = [((p : Nat) : Int), ((p + q : Nat) : Int), ((p + q + r : Nat) : Int)]) (htot : totals = [((p : Nat) : Int), ((q + f1 : Nat) : Int), ((r + f2 : Nat) : Int)])
    (hb : p + (q + f1) + (r + f2) ≤ 100) (h2 : two = ((p + q + r + (s + t) : Nat) : Int)) : Good lv sv ends lasts totals two := by
  have g0 : lasts.getD 0 0 = p := by rw [hl]; rfl
  have g1 : lasts.getD 1 0 = ((p + q : Nat) : Int) := by rw [hl]; rfl
  have g2 : lasts.getD 2 0 = ((p + q + r : Nat) : Int) := by rw [hl]; rfl
  have s0 := (due1 g0).1
  have s1 := (due2 g0 g1).1
  obtain ⟨s2, d3⟩ := due3 g0 g1 g2
  have b2 : p + (q + f1) ≤ 100 := Nat.le_trans (Nat.le_add_right _ _) hb
  have c1 : q + f1 ≤ p + (q + f1) := Nat.le_add_left _ _
  have c2 : r + f2 ≤ p + (q + f1) + (r + f2) := Nat.le_add_left _ _
  refine good_of (m := 3) hl1 hl2 hs R ht (by rw [hl]; rfl) (by decide) (by decide) (by rw [htot]; rfl) (.inr ⟨Nat.le_refl _, rfl⟩) (fun n hn => ?_) (fun x hx => ?_) (fun n hn => ?_) ?_ ?_ ?_ h2
  · rcases lt3 hn with rfl | rfl | rfl
    · rw [s0]; exact bnd b2 (Nat.le_add_right _ _)
    · rw [s1]; exact bnd b2 (Nat.le_trans (Nat.le_add_right _ _) c1)
    · rw [s2]; exact bnd hb (Nat.le_trans (Nat.le_add_right _ _) c2)
  · rw [htot] at hx
    simp only [List.mem_cons, List.not_mem_nil, or_false] at hx
    rcases hx with rfl | rfl | rfl
    · exact bnd' b2 (Nat.le_add_right _ _)
    · exact bnd' b2 c1
    · exact bnd' hb c2
  · rw [htot]
    rcases lt3 hn with rfl | rfl | rfl
    · rw [s0]; exact Int.sub_self _
    · rw [s1]; exact sub_f q f1
    · rw [s2]; exact sub_f r f2
  · rw [d3, rw4]; simp only [List.append_assoc, List.replicate_zero, List.append_nil]
  · exact nzs3 _ _
  · show _ = sumL totals - lasts.getD 2 0
    rw [g2, htot, sumL_cons, sumL_cons, sumL_cons, show sumL [] = 0 from rfl]
    clear g0 g1 g2 s0 s1 s2 d3 b2 c1 c2 hl htot R ht h2
    omega
/-! ZP4 -/
/-! the plain law: two ways at most -/
noncomputable def nonneg (hs : List Int) : Prop := ∀ k : Nat, 0 ≤ hs.getD k 0
theorem sumL_append (a b : List Int) : sumL (a ++ b) = sumL a + sumL b := by
  induction a with
  | nil => simp [sumL]
  | cons x a ih => rw [List.cons_append, sumL_cons, sumL_cons, ih]; omega
theorem sumL_perm {a b : List Int} (h : a.Perm b) : sumL a = sumL b := by
  induction h with
  | nil => rfl
  | cons x _ ih => rw [sumL_cons, sumL_cons, ih]
  | swap x y l => rw [sumL_cons, sumL_cons, sumL_cons, sumL_cons]; omega
  | trans _ _ i j => exact i.trans j
theorem hat_le {hs : List Int} (h : nonneg hs) : ∀ (u v : List Int), u.Nodup → (∀ k ∈ u, k ∈ v) → sumL (hat hs u) ≤ sumL (hat hs v)
  | [], v, _, _ => by
    have : ∀ v : List Int, 0 ≤ sumL (hat hs v) := by
      intro v
      induction v with
      | nil => exact Int.le_refl _
      | cons k v ih => unfold hat at ih ⊢; rw [List.map_cons, sumL_cons]; have := h k.toNat; omega
    exact this v
  | k :: u, v, hn, hu => by
    have hn' := List.nodup_cons.mp hn
    have hp := List.perm_cons_erase (hu k (.head _))
    have e : sumL (hat hs v) = sumL (hat hs (k :: v.erase k)) := sumL_perm (hp.map _)
    have ih := hat_le h u (v.erase k) hn'.2 (fun j hj => by
      refine (List.mem_erase_of_ne (fun (q : j = k) => hn'.1 (q ▸ hj))).mpr (hu j (.tail _ hj)))
    rw [e]
    unfold hat at ih ⊢
    rw [List.map_cons, List.map_cons, sumL_cons, sumL_cons]; omega
noncomputable def both (a b : Nat) : List Int := (waysAt 5).getD a [] ++ others ((waysAt 5).getD a []) ((waysAt 5).getD b [])
theorem pairW_eq (hs : List Int) (a b : Nat) : pairW hs a b = sumL (hat hs (both a b)) := by
  unfold pairW both hat; rw [List.map_append, sumL_append]
/-- the six unions, each by the two cells it lacks -/
noncomputable def lacks : List (Int × Int) := [(6, 9), (4, 9), (4, 7), (2, 9), (2, 7), (2, 5)]
noncomputable def all12 : List Int := [0, 1, 2, 3, 4, 5, 6, 7, 8, 9, 10, 11]
noncomputable def full (p : Int × Int) : List Int := all12.filter fun k => k != p.1 && k != p.2
theorem ways5 : waysAt 5 = [[0, 3, 6, 9, 10, 11], [0, 3, 6, 7, 10, 11], [0, 3, 6, 7, 8, 11], [0, 3, 4, 7, 10, 11], [0, 3, 4, 7, 8, 11], [0, 3, 4, 5, 8, 11], [0, 1, 4, 7, 10, 11], [0, 1, 4, 7, 8, 11], [0, 1, 4, 5, 8, 11], [0, 1, 2, 5, 8, 11]] := by decide +kernel
theorem both_in : ∀ b, b < 10 → ∀ a, a < b → (both a b).Nodup ∧ ∃ p ∈ lacks, ∀ k ∈ both a b, k ∈ full p := by unfold both; rw [ways5]; decide +kernel
theorem full_in : ∀ p ∈ lacks, (full p).Nodup ∧ ∃ b, b < 10 ∧ ∃ a, a < b ∧ ∀ k ∈ full p, k ∈ both a b := by unfold both; rw [ways5]; decide +kernel
theorem full_perm : ∀ p ∈ lacks, all12.Perm (p.1 :: p.2 :: full p) := by decide +kernel
/-- the hours that a union lacks -/
noncomputable def lackH (hs : List Int) (p : Int × Int) : Int := hs.getD p.1.toNat 0 + hs.getD p.2.toNat 0
theorem full_sum (hs : List Int) {p : Int × Int} (h : p ∈ lacks) : lackH hs p + sumL (hat hs (full p)) = sumL (hat hs all12) := by
  have e : sumL (hat hs all12) = sumL (hat hs (p.1 :: p.2 :: full p)) := sumL_perm ((full_perm p h).map _)
  rw [e]
  show lackH hs p + sumL (hat hs (full p)) = sumL (hs.getD p.1.toNat 0 :: hs.getD p.2.toNat 0 :: hat hs (full p))
  rw [sumL_cons, sumL_cons, ← Int.add_assoc]; rfl
theorem bestA_le {hs : List Int} {b : Nat} {m M : Int} (hm : m ≤ M) : ∀ n, (∀ a, a < n → pairW hs a b ≤ M) → bestA hs b m n ≤ M
  | 0, _ => hm
  | n + 1, h => by
    have := bestA_le hm n fun a ha => h a (by omega)
    have := h n (by omega)
    rw [bestA]; omega
theorem bestB_le {hs : List Int} {M : Int} (hM : 0 ≤ M) : ∀ n, (∀ b, b < n → ∀ a, a < b → pairW hs a b ≤ M) → bestB hs n ≤ M
  | 0, _ => hM
  | n + 1, h => by
    rw [bestB]
    exact bestA_le (bestB_le hM n fun b hb => h b (by omega)) n (h n (by omega))
theorem bestA_ge (hs : List Int) (b : Nat) (m : Int) : ∀ n, m ≤ bestA hs b m n ∧ ∀ a, a < n → pairW hs a b ≤ bestA hs b m n
  | 0 => ⟨Int.le_refl _, fun a h => absurd h (Nat.not_lt_zero _)⟩
  | n + 1 => by
    obtain ⟨h1, h2⟩ := bestA_ge hs b m n
    rw [bestA]
    refine ⟨by omega, fun a ha => ?_⟩
    by_cases e : a = n
    · subst e; omega
    · have := h2 a (by omega); omega
theorem bestB_ge (hs : List Int) : ∀ n b a, b < n → a < b → pairW hs a b ≤ bestB hs n
  | 0, b, a, h, _ => absurd h (Nat.not_lt_zero _)
  | n + 1, b, a, h, ha => by
    rw [bestB]
    obtain ⟨h1, h2⟩ := bestA_ge hs n (bestB hs n) n
    by_cases e : b = n
    · subst e; exact h2 a ha
    · have := bestB_ge hs n b a (by omega) ha; omega
noncomputable def H12 (x0 x1 x2 x3 x4 x5 x6 x7 x8 x9 x10 x11 : Nat) : List Int := [(x0 : Int), (x1 : Int), (x2 : Int), (x3 : Int), (x4 : Int), (x5 : Int), (x6 : Int), (x7 : Int), (x8 : Int), (x9 : Int), (x10 : Int), (x11 : Int)]
theorem le_sub {S m x t : Int} (f : x + S = t) (h : m ≤ x) : S ≤ t - m := by omega
theorem ge_sub {B S m x t : Int} (f : x + S = t) (h : m = x) (g : S ≤ B) (l : B ≤ t - m) : B + m = t := by omega
theorem two_of {hs : List Int} (hn : nonneg hs) {m : Int} (h1 : ∀ p ∈ lacks, m ≤ lackH hs p) (h2 : ∃ p ∈ lacks, m = lackH hs p) : bestB hs 10 + m = sumL (hat hs all12) := by
  have hfull : ∀ p ∈ lacks, sumL (hat hs (full p)) ≤ sumL (hat hs all12) - m := fun p hp => le_sub (full_sum hs hp) (h1 p hp)
  have hle : ∀ b, b < 10 → ∀ a, a < b → pairW hs a b ≤ sumL (hat hs all12) - m := fun b hb a ha => by
    obtain ⟨h1, p, hp, h2⟩ := both_in b hb a ha
    rw [pairW_eq]
    exact Int.le_trans (hat_le hn _ _ h1 h2) (hfull p hp)
  have h0 : 0 ≤ sumL (hat hs all12) - m := Int.le_trans (hat_le hn [] _ .nil (fun k hk => nomatch hk)) (hfull (6, 9) (.head _))
  obtain ⟨p, hp, e⟩ := h2
  obtain ⟨q1, b, hb, a, ha, q2⟩ := full_in p hp
  have g := bestB_ge hs 10 b a hb ha
  rw [pairW_eq] at g
  exact ge_sub (full_sum hs hp) e (Int.le_trans (hat_le hn _ _ q1 q2) g) (bestB_le h0 10 hle)
section
variable (x0 x1 x2 x3 x4 x5 x6 x7 x8 x9 x10 x11 : Nat)
noncomputable def tot12 : Nat := x0 + x1 + x2 + x3 + x4 + x5 + x6 + x7 + x8 + x9 + x10 + x11
noncomputable def lack6 : Nat := min (x6 + x9) (min (x4 + x9) (min (x4 + x7) (min (x2 + x9) (min (x2 + x7) (x2 + x5)))))
theorem H12_nonneg : nonneg (H12 x0 x1 x2 x3 x4 x5 x6 x7 x8 x9 x10 x11) := by
  intro k
  have : H12 x0 x1 x2 x3 x4 x5 x6 x7 x8 x9 x10 x11 = [x0, x1, x2, x3, x4, x5, x6, x7, x8, x9, x10, x11].map fun n : Nat => (n : Int) := rfl
  rw [this, List.getD_eq_getElem?_getD, List.getElem?_map]
  cases ([x0, x1, x2, x3, x4, x5, x6, x7, x8, x9, x10, x11][k]?) with
  | none => exact Int.le_refl 0
  | some h => exact Int.natCast_nonneg h
theorem minC (a b : Nat) : min a b = a ∨ min a b = b := (Nat.le_total a b).imp Nat.min_eq_left Nat.min_eq_right
theorem tot_eq : sumL (hat (H12 x0 x1 x2 x3 x4 x5 x6 x7 x8 x9 x10 x11) all12) = tot12 x0 x1 x2 x3 x4 x5 x6 x7 x8 x9 x10 x11 := by
  show (0 + (x0 : Int) + x1 + x2 + x3 + x4 + x5 + x6 + x7 + x8 + x9 + x10 + x11) = _
  rw [Int.zero_add, tot12]; simp only [Int.natCast_add]
theorem two_eq : bestB (H12 x0 x1 x2 x3 x4 x5 x6 x7 x8 x9 x10 x11) 10 + (lack6 x2 x4 x5 x6 x7 x9 : Nat) = tot12 x0 x1 x2 x3 x4 x5 x6 x7 x8 x9 x10 x11 := by
  rw [← tot_eq]
  have l1 : ∀ a b : Nat, min a b ≤ b := Nat.min_le_right
  have hle : ∀ {a b c : Nat}, a ≤ b + c → (a : Int) ≤ (b : Int) + c := fun h => Int.natCast_add _ _ ▸ Int.ofNat_le.mpr h
  refine two_of (H12_nonneg x0 x1 x2 x3 x4 x5 x6 x7 x8 x9 x10 x11) (fun p hp => ?_) ?_
  · simp only [lacks, List.mem_cons, List.not_mem_nil, or_false] at hp
    unfold lack6
    rcases hp with rfl | rfl | rfl | rfl | rfl | rfl
    · exact hle (Nat.min_le_left _ _)
    · exact hle (Nat.le_trans (l1 _ _) (Nat.min_le_left _ _))
    · exact hle (Nat.le_trans (l1 _ _) (Nat.le_trans (l1 _ _) (Nat.min_le_left _ _)))
    · exact hle (Nat.le_trans (l1 _ _) (Nat.le_trans (l1 _ _) (Nat.le_trans (l1 _ _) (Nat.min_le_left _ _))))
    · exact hle (Nat.le_trans (l1 _ _) (Nat.le_trans (l1 _ _) (Nat.le_trans (l1 _ _) (Nat.le_trans (l1 _ _) (Nat.min_le_left _ _)))))
    · exact hle (Nat.le_trans (l1 _ _) (Nat.le_trans (l1 _ _) (Nat.le_trans (l1 _ _) (Nat.le_trans (l1 _ _) (l1 _ _)))))
  · unfold lack6
    rcases minC (x6 + x9) (min (x4 + x9) (min (x4 + x7) (min (x2 + x9) (min (x2 + x7) (x2 + x5))))) with h | h <;> rw [h]
    · exact ⟨(6, 9), .head _, Int.natCast_add _ _⟩
    rcases minC (x4 + x9) (min (x4 + x7) (min (x2 + x9) (min (x2 + x7) (x2 + x5)))) with h | h <;> rw [h]
    · exact ⟨(4, 9), .tail _ (.head _), Int.natCast_add _ _⟩
    rcases minC (x4 + x7) (min (x2 + x9) (min (x2 + x7) (x2 + x5))) with h | h <;> rw [h]
    · exact ⟨(4, 7), .tail _ (.tail _ (.head _)), Int.natCast_add _ _⟩
    rcases minC (x2 + x9) (min (x2 + x7) (x2 + x5)) with h | h <;> rw [h]
    · exact ⟨(2, 9), .tail _ (.tail _ (.tail _ (.head _))), Int.natCast_add _ _⟩
    rcases minC (x2 + x7) (x2 + x5) with h | h <;> rw [h]
    · exact ⟨(2, 7), .tail _ (.tail _ (.tail _ (.tail _ (.head _)))), Int.natCast_add _ _⟩
    · exact ⟨(2, 5), .tail _ (.tail _ (.tail _ (.tail _ (.tail _ (.head _))))), Int.natCast_add _ _⟩
end
/-! ZP5 -/
/-! the plain law: the three readings -/
theorem ends_step {hs E : List Int} {k : Nat} {e : Int} (h : endsTo hs k = E) (he : max (ahead E k) (before E k) + hs.getD k 0 = e) : endsTo hs (k + 1) = E ++ [e] := by rw [endsTo, h, he]
section
variable {x0 x1 x2 x3 x4 x5 x6 x7 x8 x9 x10 x11 : Nat}
/-- the clock, cell by cell -/
structure Clock (x0 x1 x2 x3 x4 x5 x6 x7 x8 x9 x10 x11 e0 e1 e2 e3 e4 e5 e6 e7 e8 e9 e10 e11 : Nat) : Prop where
  h0 : e0 = x0
  h1 : e1 = e0 + x1
  h2 : e2 = e1 + x2
  h3 : e3 = e0 + x3
  h4 : e4 = max e1 e3 + x4
  h5 : e5 = max e2 e4 + x5
  h6 : e6 = e3 + x6
  h7 : e7 = max e4 e6 + x7
  h8 : e8 = max e5 e7 + x8
  h9 : e9 = e6 + x9
  h10 : e10 = max e7 e9 + x10
  h11 : e11 = max e8 e10 + x11
theorem Clock.ends {e0 e1 e2 e3 e4 e5 e6 e7 e8 e9 e10 e11 : Nat} (C : Clock x0 x1 x2 x3 x4 x5 x6 x7 x8 x9 x10 x11 e0 e1 e2 e3 e4 e5 e6 e7 e8 e9 e10 e11) :
    endsTo (H12 x0 x1 x2 x3 x4 x5 x6 x7 x8 x9 x10 x11) 12 = [(e0 : Int), (e1 : Int), (e2 : Int), (e3 : Int), (e4 : Int), (e5 : Int), (e6 : Int), (e7 : Int), (e8 : Int), (e9 : Int), (e10 : Int), (e11 : Int)] := by
  obtain ⟨h0, h1, h2, h3, h4, h5, h6, h7, h8, h9, h10, h11⟩ := C
  have s0 : endsTo (H12 x0 x1 x2 x3 x4 x5 x6 x7 x8 x9 x10 x11) 0 = [] := rfl
  have s1 := ends_step s0 (e := e0) (by simp [ahead, before, H12]; omega)
  have s2 := ends_step s1 (e := e1) (by simp [ahead, before, H12]; omega)
  have s3 := ends_step s2 (e := e2) (by simp [ahead, before, H12]; omega)
  have s4 := ends_step s3 (e := e3) (by simp [ahead, before, H12]; omega)
  have s5 := ends_step s4 (e := e4) (by simp [ahead, before, H12]; omega)
  have s6 := ends_step s5 (e := e5) (by simp [ahead, before, H12]; omega)
  have s7 := ends_step s6 (e := e6) (by simp [ahead, before, H12]; omega)
  have s8 := ends_step s7 (e := e7) (by simp [ahead, before, H12]; omega)
  have s9 := ends_step s8 (e := e8) (by simp [ahead, before, H12]; omega)
  have s10 := ends_step s9 (e := e9) (by simp [ahead, before, H12]; omega)
  have s11 := ends_step s10 (e := e10) (by simp [ahead, before, H12]; omega)
  have s12 := ends_step s11 (e := e11) (by simp [ahead, before, H12]; omega)
  exact s12
noncomputable def lv3 : List Int := [0, 1, 2, 0, 1, 2, 0, 1, 2, 0, 1, 2]
noncomputable def lv4 : List Int := [0, 1, 2, 3, 0, 1, 2, 3, 0, 1, 2, 3]
theorem Rel.start : Rel ⟨[], [], [], []⟩ 0 0 0 0 0 0 0 0 0 0 := ⟨rfl, rfl, .nil⟩
theorem z0 {s t v : Nat} (h : 0 + 0 + 0 = s + t + v + 0) : t = 0 ∧ v = 0 := by omega
theorem dp3 (x2 x4 x5 x6 x7 x9 : Nat) : min (min x6 (min x4 x2) + x9) (min (min x4 x2 + x7) (x2 + x5)) = lack6 x2 x4 x5 x6 x7 x9 := by
  unfold lack6
  simp only [← Nat.add_min_add_right]
  ac_rfl
theorem dp4 (x2 x4 x5 x6 x7 x9 : Nat) : min (min (x6 + x9) (min (x9 + x4) (x4 + x7))) (min (min x9 x7 + x2) (x2 + x5)) = lack6 x2 x4 x5 x6 x7 x9 := by
  unfold lack6
  rw [Nat.add_comm (min x9 x7)]
  simp only [← Nat.add_min_add_left]
  rw [Nat.add_comm x9 x4]
  ac_rfl
theorem fin3 {two : Int} {p q r s t f g T a b c n : Nat} (c1 : f + g = s + t + T) (hp : p = a) (hq : q + f = b) (hr : r + g = c) (h2 : two + (T : Int) = n) (hn : n = a + b + c) : two = ((p + q + r + (s + t) : Nat) : Int) := by omega
theorem fin4 {two : Int} {p q r u s t v f g h T a b c d n : Nat} (c1 : f + g + h = s + t + v + T) (hp : p = a) (hq : q + f = b) (hr : r + g = c) (hu : u + h = d) (h2 : two + (T : Int) = n) (hn : n = a + b + c + d) : two = ((p + q + r + u + (s + t + v) : Nat) : Int) := by omega
theorem le3 {a b c d e f g h i j k l : Nat} (hb : a ≤ 3 ∧ b ≤ 3 ∧ c ≤ 3 ∧ d ≤ 3 ∧ e ≤ 3 ∧ f ≤ 3 ∧ g ≤ 3 ∧ h ≤ 3 ∧ i ≤ 3 ∧ j ≤ 3 ∧ k ≤ 3 ∧ l ≤ 3) : a + b + c + d + e + f + g + h + i + j + k + l ≤ 100 := by omega
structure V3 where
  (p q r s t f g T : Nat)
/-- one work, told -/
structure W3 (h h' : HS) (x y : V3) (a b c : Nat) : Prop where
  rel : Rel h' y.p y.q y.r 0 y.s y.t 0 y.f y.g 0
  cT : y.f + y.g = y.s + y.t + y.T
  told : h'.told = h.told ++ [((y.p : Nat) : Int), ((y.p + y.q : Nat) : Int), ((y.p + y.q + y.r : Nat) : Int)]
  e1 : y.p = x.p + a
  e2 : y.p + y.q = max (x.p + x.q) y.p + b
  e3 : y.p + y.q + y.r = max (x.p + x.q + x.r) (y.p + y.q) + c
  k1 : y.q + y.f = x.q + x.f + b
  k2 : y.r + y.g = x.r + x.g + c
  m : y.T = min (x.T + a) (x.T + min x.q x.t)
  n : y.T + min y.q y.t = min (x.T + min x.q x.t + b) (x.T + x.t + x.r)
  z : y.T + y.t + y.r = x.T + x.t + x.r + c
theorem w3 {h : HS} {x : V3} (H : Rel h x.p x.q x.r 0 x.s x.t 0 x.f x.g 0) (hT : x.f + x.g = x.s + x.t + x.T) (a b c : Nat) : ∃ y h', h' = ((h.step (0, a)).step (1, b)).step (2, c) ∧ W3 h h' x y a b c := by
  obtain ⟨p', q', r', s', t', f', g', T', R, c1, o, e1, e2, e3, k1, k2, m, n, z⟩ := work3 H hT a b c
  exact ⟨⟨p', q', r', s', t', f', g', T'⟩, _, rfl, R, c1, o, e1, e2, e3, k1, k2, m, n, z⟩
structure V4 where
  (p q r u s t v f g k T : Nat)
/-- one desk, told -/
structure W4 (h h' : HS) (x y : V4) (a b c d : Nat) : Prop where
  rel : Rel h' y.p y.q y.r y.u y.s y.t y.v y.f y.g y.k
  cT : y.f + y.g + y.k = y.s + y.t + y.v + y.T
  told : h'.told = h.told ++ [((y.p : Nat) : Int), ((y.p + y.q : Nat) : Int), ((y.p + y.q + y.r : Nat) : Int), ((y.p + y.q + y.r + y.u : Nat) : Int)]
  e1 : y.p = x.p + a
  e2 : y.p + y.q = max (x.p + x.q) y.p + b
  e3 : y.p + y.q + y.r = max (x.p + x.q + x.r) (y.p + y.q) + c
  e4 : y.p + y.q + y.r + y.u = max (x.p + x.q + x.r + x.u) (y.p + y.q + y.r) + d
  k1 : y.q + y.f = x.q + x.f + b
  k2 : y.r + y.g = x.r + x.g + c
  k3 : y.u + y.k = x.u + x.k + d
  n : y.T = x.T + min (min (x.q + min x.r x.v) (x.t + x.v)) (min (min x.r x.v + a) (a + b))
  z : x.t = 0 → x.v = 0 → min y.r y.v = min x.u c ∧ min (y.q + min x.u c) (y.t + y.v) = min (x.r + x.u) (min (x.u + b) (b + c))
theorem w4 {h : HS} {x : V4} (H : Rel h x.p x.q x.r x.u x.s x.t x.v x.f x.g x.k) (hT : x.f + x.g + x.k = x.s + x.t + x.v + x.T) (a b c d : Nat) : ∃ y h', h' = (((h.step (0, a)).step (1, b)).step (2, c)).step (3, d) ∧ W4 h h' x y a b c d := by
  obtain ⟨p', q', r', u', s', t', v', f', g', k', T', R, c1, o, e1, e2, e3, e4, k1, k2, k3, n, z⟩ := desk4 H hT a b c d
  exact ⟨⟨p', q', r', u', s', t', v', f', g', k', T'⟩, _, rfl, R, c1, o, e1, e2, e3, e4, k1, k2, k3, n, z⟩
theorem max0 {a b c d : Nat} (h : a = max b c + d) (h0 : b = 0) : a = c + d := by rw [h, h0, Nat.zero_max]
theorem cz {y f x : Nat} (h : y + f = 0 + 0 + x) (hy : y = x) : f = 0 := by subst hy; rw [Nat.zero_add] at h; exact Nat.add_left_cancel (h.trans (Nat.add_zero _).symm)
theorem cat3 {A : List Int} {a b c : Int} {E : List Int} (h : A = E) : A ++ [a, b, c] = E ++ [a, b, c] := by rw [h]
theorem sum4 {a b c d e : Nat} {x1 x2 x3 x4 : Nat} (h4 : e = d + x4) (h3 : d = c + x3) (h2 : c = b + x2) (h1 : b = a + x1) (h0 : a = 0) : e = x1 + x2 + x3 + x4 := by rw [h4, h3, h2, h1, h0, Nat.zero_add]
theorem sum3 {a b c d : Nat} {x1 x2 x3 : Nat} (h3 : d = c + x3) (h2 : c = b + x2) (h1 : b = a + x1) (h0 : a = 0) : d = x1 + x2 + x3 := by rw [h3, h2, h1, h0, Nat.zero_add]
/-- by works -/
theorem good_works (hb : ∀ n ∈ [x0, x1, x2, x3, x4, x5, x6, x7, x8, x9, x10, x11], n ≤ 3) {E : List Int} {two : Int} (hE : endsTo (H12 x0 x1 x2 x3 x4 x5 x6 x7 x8 x9 x10 x11) 12 = E) (h2 : two + (lack6 x2 x4 x5 x6 x7 x9 : Nat) = tot12 x0 x1 x2 x3 x4 x5 x6 x7 x8 x9 x10 x11) :
    Good lv3 [x0, x1, x2, x3, x4, x5, x6, x7, x8, x9, x10, x11] E [E.getD 9 0, E.getD 10 0, E.getD 11 0] [((x0 + x3 + x6 + x9 : Nat) : Int), ((x1 + x4 + x7 + x10 : Nat) : Int), ((x2 + x5 + x8 + x11 : Nat) : Int)] two := by
  obtain ⟨y1, h1, g1, w1⟩ := w3 (x := ⟨0, 0, 0, 0, 0, 0, 0, 0⟩) Rel.start rfl x0 x1 x2
  obtain ⟨y2, h2', g2, w2⟩ := w3 w1.rel w1.cT x3 x4 x5
  obtain ⟨y3, h3, g3, w3'⟩ := w3 w2.rel w2.cT x6 x7 x8
  obtain ⟨y4, h4, g4, w4'⟩ := w3 w3'.rel w3'.cT x9 x10 x11
  have hrun : HS.run (lv3.zip [x0, x1, x2, x3, x4, x5, x6, x7, x8, x9, x10, x11]) = h4 := by rw [g4, g3, g2, g1]; rfl
  have C : Clock x0 x1 x2 x3 x4 x5 x6 x7 x8 x9 x10 x11 y1.p (y1.p + y1.q) (y1.p + y1.q + y1.r) y2.p (y2.p + y2.q) (y2.p + y2.q + y2.r) y3.p (y3.p + y3.q) (y3.p + y3.q + y3.r) y4.p (y4.p + y4.q) (y4.p + y4.q + y4.r) :=
    ⟨w1.e1.trans (Nat.zero_add _), max0 w1.e2 rfl, max0 w1.e3 rfl, w2.e1, w2.e2, w2.e3, w3'.e1, w3'.e2, w3'.e3, w4'.e1, w4'.e2, w4'.e3⟩
  have hE' := hE.symm.trans C.ends
  have hT : y4.T = lack6 x2 x4 x5 x6 x7 x9 := by
    have m1 := w1.m
    have n1 := w1.n
    have z1 := w1.z
    simp only [Nat.zero_add, Nat.min_zero] at m1 n1 z1
    have m2 := w2.m
    have n2 := w2.n
    have z2 := w2.z
    rw [n1] at m2 n2; rw [z1] at n2 z2
    rw [Nat.min_zero] at m2
    rw [Nat.zero_add] at n2
    have m3 := w3'.m
    have n3 := w3'.n
    rw [n2, m2, Nat.zero_add] at m3; rw [n2, z2] at n3
    have m4 := w4'.m
    rw [n3, m3] at m4
    rw [m4, dp3]
  have hp : y4.p = x0 + x3 + x6 + x9 := sum4 w4'.e1 w3'.e1 w2.e1 w1.e1 rfl
  have hq : y4.q + y4.f = x1 + x4 + x7 + x10 := sum4 w4'.k1 w3'.k1 w2.k1 w1.k1 rfl
  have hr : y4.r + y4.g = x2 + x5 + x8 + x11 := sum4 w4'.k2 w3'.k2 w2.k2 w1.k2 rfl
  rw [← hT] at h2
  rw [hE']
  refine good3 (p := y4.p) (q := y4.q) (r := y4.r) (s := y4.s) (t := y4.t) (f1 := y4.f) (f2 := y4.g) rfl rfl hb (hrun ▸ w4'.rel) (hrun ▸ w4'.told.trans (cat3 (w3'.told.trans (cat3 (w2.told.trans (cat3 w1.told)))))) rfl (by rw [hp, hq, hr]) ?_ (fin3 w4'.cT hp hq hr h2 (by unfold tot12; ac_rfl))
  rw [hp, hq, hr]
  simp only [List.mem_cons, List.not_mem_nil, or_false, forall_eq_or_imp, forall_eq] at hb
  exact Nat.le_trans (Nat.le_of_eq (by ac_rfl)) (le3 hb)
theorem cat4 {A : List Int} {a b c d : Int} {E : List Int} (h : A = E) : A ++ [a, b, c, d] = E ++ [a, b, c, d] := by rw [h]
theorem perm12 {α : Type} (x0 x1 x2 x3 x4 x5 x6 x7 x8 x9 x10 x11 : α) : [x0, x3, x6, x9, x1, x4, x7, x10, x2, x5, x8, x11].Perm [x0, x1, x2, x3, x4, x5, x6, x7, x8, x9, x10, x11] := by
  have h : ([0, 3, 6, 9, 1, 4, 7, 10, 2, 5, 8, 11] : List (Fin 12)).Perm [0, 1, 2, 3, 4, 5, 6, 7, 8, 9, 10, 11] := by decide +kernel
  exact h.map (fun i => ([x0, x1, x2, x3, x4, x5, x6, x7, x8, x9, x10, x11] : List α)[i.val])
/-- by desks -/
theorem good_desks (hb : ∀ n ∈ [x0, x1, x2, x3, x4, x5, x6, x7, x8, x9, x10, x11], n ≤ 3) {E : List Int} {two : Int} (hE : endsTo (H12 x0 x1 x2 x3 x4 x5 x6 x7 x8 x9 x10 x11) 12 = E) (h2 : two + (lack6 x2 x4 x5 x6 x7 x9 : Nat) = tot12 x0 x1 x2 x3 x4 x5 x6 x7 x8 x9 x10 x11) :
    Good lv4 [x0, x3, x6, x9, x1, x4, x7, x10, x2, x5, x8, x11] [E.getD 0 0, E.getD 3 0, E.getD 6 0, E.getD 9 0, E.getD 1 0, E.getD 4 0, E.getD 7 0, E.getD 10 0, E.getD 2 0, E.getD 5 0, E.getD 8 0, E.getD 11 0]
      [E.getD 2 0, E.getD 5 0, E.getD 8 0, E.getD 11 0] [((x0 + x1 + x2 : Nat) : Int), ((x3 + x4 + x5 : Nat) : Int), ((x6 + x7 + x8 : Nat) : Int), ((x9 + x10 + x11 : Nat) : Int)] two := by
  obtain ⟨y1, h1, g1, w1⟩ := w4 (x := ⟨0, 0, 0, 0, 0, 0, 0, 0, 0, 0, 0⟩) Rel.start rfl x0 x3 x6 x9
  obtain ⟨y2, h2', g2, w2⟩ := w4 w1.rel w1.cT x1 x4 x7 x10
  obtain ⟨y3, h3, g3, w3'⟩ := w4 w2.rel w2.cT x2 x5 x8 x11
  have hrun : HS.run (lv4.zip [x0, x3, x6, x9, x1, x4, x7, x10, x2, x5, x8, x11]) = h3 := by rw [g3, g2, g1]; rfl
  have a1 := w1.e1.trans (Nat.zero_add _)
  have b1 := max0 w1.e2 rfl
  have d1 := max0 w1.e3 rfl
  have e1 := max0 w1.e4 rfl
  have sw : ∀ {a b c d : Nat}, a = max b c + d → a = max c b + d := fun h => h.trans (by rw [Nat.max_comm])
  have C : Clock x0 x1 x2 x3 x4 x5 x6 x7 x8 x9 x10 x11 y1.p y2.p y3.p (y1.p + y1.q) (y2.p + y2.q) (y3.p + y3.q) (y1.p + y1.q + y1.r) (y2.p + y2.q + y2.r) (y3.p + y3.q + y3.r) (y1.p + y1.q + y1.r + y1.u) (y2.p + y2.q + y2.r + y2.u) (y3.p + y3.q + y3.r + y3.u) :=
    ⟨a1, w2.e1, w3'.e1, b1, sw w2.e2, sw w3'.e2, d1, sw w2.e3, sw w3'.e3, e1, sw w2.e4, sw w3'.e4⟩
  have hE' := hE.symm.trans C.ends
  have z5 : y1.r = x6 := Nat.add_left_cancel d1
  have z6 : y1.u = x9 := Nat.add_left_cancel e1
  have hT : y3.T = lack6 x2 x4 x5 x6 x7 x9 := by
    have n1 := w1.n
    simp only [Nat.zero_add, Nat.min_zero, Nat.zero_min] at n1
    have z4 : y1.q = x3 := Nat.add_left_cancel b1
    have c1 := w1.cT
    rw [cz w1.k1 z4, cz w1.k2 z5, cz w1.k3 z6, n1] at c1
    obtain ⟨q1, q2⟩ := z0 c1
    obtain ⟨u1, u2⟩ := w2.z q1 q2
    have n2 := w2.n
    simp only [q1, q2, Nat.zero_add, Nat.add_zero, Nat.min_zero, Nat.zero_min, n1] at n2
    have n3 := w3'.n
    rw [u1, u2, z5, z6] at n3
    rw [n3, n2, Nat.zero_add, dp4]
  have hp : y3.p = x0 + x1 + x2 := sum3 w3'.e1 w2.e1 w1.e1 rfl
  have hq : y3.q + y3.f = x3 + x4 + x5 := sum3 w3'.k1 w2.k1 w1.k1 rfl
  have hr : y3.r + y3.g = x6 + x7 + x8 := sum3 w3'.k2 w2.k2 w1.k2 rfl
  have hu : y3.u + y3.k = x9 + x10 + x11 := sum3 w3'.k3 w2.k3 w1.k3 rfl
  rw [← hT] at h2
  rw [hE']
  refine good4 (p := y3.p) (q := y3.q) (r := y3.r) (u := y3.u) (s := y3.s) (t := y3.t) (v := y3.v) (f1 := y3.f) (f2 := y3.g) (f3 := y3.k) rfl rfl ?_ (hrun ▸ w3'.rel) (hrun ▸ w3'.told.trans (cat4 (w2.told.trans (cat4 w1.told)))) rfl (by rw [hp, hq, hr, hu]) ?_ (fin4 w3'.cT hp hq hr hu h2 (by unfold tot12; ac_rfl))
  · intro n hn
    refine hb n ?_
    have hp : [x0, x3, x6, x9, x1, x4, x7, x10, x2, x5, x8, x11].Perm [x0, x1, x2, x3, x4, x5, x6, x7, x8, x9, x10, x11] := perm12 ..
    exact hp.subset hn
  rw [hp, hq, hr, hu]
  simp only [List.mem_cons, List.not_mem_nil, or_false, forall_eq_or_imp, forall_eq] at hb
  exact Nat.le_trans (Nat.le_of_eq (by ac_rfl)) (le3 hb)
end
/-! ZX1 -/
section
variable {prog : Program} {w : World} {A : Around} {s : Shared} {R : Result → Shared → Prop}
theorem codeG_call_cells {a : Addr} {o : Obj} {fd : FuncData} {body : List Stmt} {vals : List Value} {binds : List (Str × Value)}
    (hroom : A.depth < recursionLimit) (ho : s.heap.get? a = some o) (hdata : o.data = .func fd) (hlim : s.heap.NoLimit) (hcd : s.heap.CodeRec fd.code fd.qualname)
    (hbody : fd.body = .stmts body) (hbind : bindArgs fd ⟨vals, []⟩ = pure binds) (hclo : fd.closure = [])
    (hkind : ∀ x ∈ binds, fd.scope.names.lookup x.1 = some .local ∨ (fd.scope.names.lookup x.1 = some .cell ∧ ((cellsFrom (s.heap.objs.size + 1) fd.scope.names []).lookup x.1).isSome = true))
    (h : ∀ s₁, InCallC s (callEnvC fd s.heap.objs.size a).locals (bindL (callEnvC fd s.heap.objs.size a).kindOf binds fun _ => none) (callEnvC fd s.heap.objs.size a).cells
        (bindC (callEnvC fd s.heap.objs.size a).kindOf binds fun _ => none) s₁ →
      wpG (model prog w) (A.deeper (callEnvC fd s.heap.objs.size a)) (execs body (callEnvC fd s.heap.objs.size a)) (fun f s' => R (.ok (.ret (match f with | .ret v => v | _ => .none))) s') (fun _ _ => False) s₁)
    (hco : fd.scope.isCoroutine = false := by rfl) (hgen : fd.scope.isGenerator = false := by rfl) (hk : fd.scope.kind = .function := by rfl) :
    codeG (model prog w) A (.call (.ref a) ⟨vals, []⟩) R s := by
  refine codeG_of_tree ?_
  show wpG _ A.in1 (callAny (.ref a) ⟨vals, []⟩) _ _ s
  simp only [callAny]
  refine wpG_step (wpAny_load ho ?_)
  obtain ⟨c, oc, vs, tq, hc, hoc, hdc, hq⟩ := hcd
  simp only [hdata, callFunction, hco, hgen, hbody, hc]
  refine wpG_step (m := field (.ref c) 1) (wpAny_field hoc hdc hq (wpG_step (wpAny_pure ?_)))
  rw [hbind, hclo]
  refine wpG_step (wpAny_pure ?_)
  refine wpG_step ?_
  rw [← hc]
  refine wpAny_newFunctionEnv_cells hk hkind fun env he s' x => ?_
  subst he
  refine wpG_step (wpAny_enterFrame (hlim.keeps x.toInCall.keep) hroom (wpG_pure ⟨⟨rfl, rfl⟩, ?_⟩))
  exact codeG_func (h s' x)
end
section
variable {c : Cx} {A : Around} {E : Value → Shared → Prop} {s : Shared} {env : Env} {T : List (Value × D)} {mu : List (Addr × MD)} {L : Addr} {σ : List (Str × D)} {d : D}
/-- a def with cells is entered, over clean contexts -/
theorem fn_enterCG {f : Addr} {oc : Value} {od : Option Addr} {fd : FuncData} {osl : Array (Option Value)} {body : List Stmt} {args : List Value} {binds : List (Str × Value)} {mp mr : List (Addr × MD)} {Q : Value → Shared → Prop}
    (σ : List (Str × D)) (γ : Nat → List (Addr × MD)) (H : St c T (mp ++ mr) s) (hroom : A.depth < recursionLimit) (ho : (KH c.w).lookup f = some ⟨oc, od, .func fd, osl⟩) (hbody : fd.body = .stmts body)
    (hcd : codeIn (KH c.w) fd.code fd.qualname = true) (hbind : bindArgs fd ⟨args, []⟩ = pure binds) (hclo : fd.closure = [])
    (hkind : ∀ L : Nat, (binds.all fun x => decide (fd.scope.names.lookup x.1 = some .local) || (decide (fd.scope.names.lookup x.1 = some .cell) && ((cellsFrom (L + 1) fd.scope.names []).lookup x.1).isSome)) = true)
    (hb : ∀ L, BindsF (bindL (callEnvC fd L f).kindOf binds fun _ => none) T σ) (hγ : ∀ L, CellsTo (cellsFrom (L + 1) fd.scope.names []) (bindC (callEnvC fd L f).kindOf binds fun _ => none) T (cellsFrom (L + 1) fd.scope.names []) (γ L))
    (k : ∀ (c' : Cx) L s', c'.w = c.w → St c' T ((L, .ns σ) :: (γ L ++ mp)) s' → (∀ v d T' mx mp' s'', (v, d) ∈ T' → St c' T' (mx ++ mp') s'' → St c ((v, d) :: T) (mp' ++ mr) s'') →
      wpG (Mo c') (A.deeper (callEnvC fd L f)) (execs body (callEnvC fd L f)) (fun fl s'' => Q (match fl with | .ret v => v | _ => .none) s'') (fun _ _ => False) s')
    (hco : fd.scope.isCoroutine = false := by rfl) (hgen : fd.scope.isGenerator = false := by rfl) (hk : fd.scope.kind = .function := by rfl) :
    wpG (Mo c) A (call (.ref f) args) Q E s := by
  have X := H.top.1
  have hl := H.noLimit
  obtain ⟨c', hw, H1, back⟩ := H.aside
  refine wpG_call (codeG_call_cells (fd := fd) (body := body) (binds := binds) hroom (X _ _ ho) rfl hl (codeRec_of X hcd) hbody hbind hclo (fun x hx => ?_) (fun s₁ x => ?_) hco hgen hk)
  · have := List.all_eq_true.mp (hkind s.heap.objs.size) x hx
    simpa using this
  · obtain ⟨⟨⟨h₀, tk, rfl⟩, hns, keep, fresh⟩, hcell, hap, habove⟩ := x
    obtain ⟨hg1, hg2⟩ := (hγ s.heap.objs.size).all
    have hnew : ∀ b, s.heap.objs.size ≤ b → s.heap.get? b = none := fun b hb => by
      cases e : s.heap.get? b with
      | none => rfl
      | some o => exact absurd (Heap.lt_size e) (Nat.not_lt.mpr hb)
    have Hs : St c' T (((s.heap.objs.size, .ns σ) :: γ s.heap.objs.size) ++ mp) { s with heap := h₀, toks := tk } := by
      refine H1.pushes keep _ ?_ (fun p hp => ?_) fun p hp g ht => ?_
      · rw [List.map_cons, hg1]
        refine List.nodup_cons.mpr ⟨fun q => ?_, ?_⟩
        · obtain ⟨⟨n, a⟩, hp, e⟩ := List.mem_map.mp q
          have := habove n a hp
          dsimp only at e
          exact absurd this (by rw [e]; exact Nat.lt_irrefl _)
        · show List.Pairwise _ _
          rw [List.pairwise_map]; exact hap
      · rcases List.mem_cons.mp hp with rfl | hp
        · exact hnew _ (Nat.le_refl _)
        · have : p.1 ∈ (γ s.heap.objs.size).map (·.1) := List.mem_map_of_mem hp
          rw [hg1] at this
          obtain ⟨⟨n, a⟩, hq, e⟩ := List.mem_map.mp this
          have h1 : s.heap.objs.size < a := habove n a hq
          dsimp only at e
          rw [← e]; exact hnew _ (Nat.le_of_lt h1)
      · rcases List.mem_cons.mp hp with rfl | hp
        · exact ⟨_, hns, fun p hp => let ⟨v, hv, hm⟩ := (hb _).all p hp; ⟨v, hv, ht _ hm⟩⟩
        · obtain ⟨x, hx, h⟩ := hg2 p hp
          obtain ⟨a, md⟩ := p
          have hc := hcell x a hx
          rcases h with ⟨e, hm⟩ | ⟨v, d, e, hm, hT⟩
          · dsimp only at e; subst e; rw [hm] at hc; exact hc
          · dsimp only at e; subst e; rw [hm] at hc; exact ⟨v, hc, ht _ hT⟩
    have := k c' _ _ hw Hs fun v d T' mx mp' s'' hm h => back [(v, d)] mp' s'' (St.sub (T := T') (T' := [(v, d)]) h.forgets fun q hq => by rw [List.mem_singleton.mp hq]; exact hm)
    rw [show Mo c' = Mo c from congrArg (model pw) hw] at this
    exact wpG_mono this (fun fl s' h => h) fun _ _ h => h.elim

end
/-! ZX2 -/
section
variable {c : Cx} {A : Around} {E : Value → Shared → Prop} {s : Shared} {env : Env} {T : List (Value × D)} {mu : List (Addr × MD)} {L : Addr} {σ : List (Str × D)} {d : D}
/-! comprehensions over a range and over a list of triples -/
theorem range_sel {α : Type} (n : Nat) (f : Nat → α) : (List.range n).filterMap (fun i => some (f i)) = (List.range n).map f := by rw [List.filterMap_eq_map']
theorem list_sel {α β : Type} (l : List α) (f : α → β) : (List.range l.length).filterMap (fun i => (l[i]?).map f) = l.map f := by
  have := range_pick (fun a => some (f a)) l
  rw [List.filterMap_eq_map'] at this
  rw [← this]
  congr 1
  funext i
  cases l[i]? <;> rfl
/-- what a comprehension over a range asks -/
inductive RngV (c : Cx) (A : Around) (elt : Expr) (scope : Scope) (cl : List (Str × Addr)) (env : Env) (x : Str) (n : Nat) (f : Nat → D) (Q : Value → Shared → Prop) (x' : Value) (s₁ : Shared) : Prop
  | mk (T : List (Value × D)) (mu : List (Addr × MD)) (t : Tok) (u : Tok) (v : Tok)
    (hx : (x', .obj (rngObj 0 n 1 t u v)) ∈ T)
    (H : St c T mu s₁)
    (turn : ∀ (c' : Cx) C Dd (i : Nat) s E acc tl, c'.w = c.w → i < n → St c' T ((C, .ns [(x, .int i)]) :: (Dd, .lst acc) :: (mu ++ tl)) s →
        wpAny (Mo c') A (eval elt (compEnvC scope cl C env)) (fun y s₄ => ∃ T', (y, f i) ∈ T' ∧ St c' T' ((C, .ns [(x, .int i)]) :: (Dd, .lst acc) :: (mu ++ tl)) s₄) E s)
    (k : ∀ v s', St c ((v, .lst ((List.range n).map f)) :: T) mu s' → Q v s')
theorem rng_val {elt : Expr} {x : Str} {np pos : Pos} {iter : Expr} {scope : Scope} {cl : List (Str × Addr)} {n : Nat} (f : Nat → D) {Q : Value → Shared → Prop} (hclos : closureFor scope env = pure cl) (hh : A.handled = none) (hn : n ≤ 100)
    (h : wpAny (Mo c) A (eval iter env) (fun x' s₁ => RngV c A elt scope cl env x n f Q x' s₁) E s)
    (hnames : (scope.names.all fun y => y.2 != .local || scope.names.lookup y.1 == some .local) = true := by rfl) (hcell : (scope.names.all fun y => y.2 != .cell) = true := by rfl) (hkind : scope.kind = .function := by rfl)
    (hs : ∀ x, foldedSetIterable iter env x = pure x := by intro _; rfl)
    (hl : ∀ C, (compEnvC scope cl C env).kindOf x = some .local := by intro _; rfl) (hL : ∀ C, (compEnvC scope cl C env).locals = C := by intro _; rfl)
    (hp : ∀ C, ((compEnvC scope cl C env).scope.kind == .class || ((compEnvC scope cl C env).scope.kind == .module && (compEnvC scope cl C env).locals != (compEnvC scope cl C env).globals)) = false := by intro _; rfl) :
    wpAny (Mo c) A (eval (.ListComp elt [⟨.Name x np, iter, [], 0⟩] scope pos) env) Q E s := by
  refine ev_comp hclos (wpAny_mono h (fun x' s₁ hask => ?_) fun _ _ e => e) hnames hcell hkind hs
  obtain ⟨T, mu, t, u, v, hx, H, turn, k⟩ := hask
  refine it_range (n := n) H hx (size_to n) (small_to (n := n) (by omega)) fun it s' H => ?_
  refine ⟨it, _, _, _, _, _, fun i => some (f i), rfl, fun c' _ => its_range hh, by simp; omega, H, ?_, fun v s' H => k v s' ?_⟩
  · intro c' C Dd i d v s E acc hw hd H
    have hi : i < n := by simpa using (List.getElem?_eq_some_iff.mp hd).1
    obtain rfl : d = .int i := by rw [List.getElem?_map, List.getElem?_range hi] at hd; simpa using hd.symm
    refine own_name (wpAny_assign_Name (sto (σ' := [(x, .int i)]) H (.head _) (.new rfl .nil) (fun s' H => ?_) (hL C) (hl C) (hp C)))
    refine wpAny_tests_nil ?_
    rw [if_pos rfl]
    refine wpAny_mono (turn c' C Dd i _ _ acc _ hw hi (H.sub fun p hp => .tail _ hp)) (fun y s₄ ⟨T', hy, H⟩ => ⟨T', _, _, rfl, hy, H⟩) fun _ _ e => e
  · rw [List.length_map, List.length_range, range_sel] at H; exact H
/-- the same, a local takes it over -/
inductive RngS (c : Cx) (A : Around) (elt : Expr) (scope : Scope) (cl : List (Str × Addr)) (env : Env) (x : Str) (z : Str) (n : Nat) (f : Nat → D) (P : Shared → Prop) (x' : Value) (s₁ : Shared) : Prop
  | mk (T : List (Value × D)) (σ : List (Str × D)) (σ' : List (Str × D)) (mu : List (Addr × MD)) (t : Tok) (u : Tok) (v : Tok)
    (hx : (x', .obj (rngObj 0 n 1 t u v)) ∈ T)
    (H : St c T ((env.locals, .ns σ) :: mu) s₁)
    (turn : ∀ (c' : Cx) C Dd (i : Nat) s E acc tl, c'.w = c.w → i < n → St c' T ((C, .ns [(x, .int i)]) :: (Dd, .lst acc) :: (env.locals, .ns σ) :: (mu ++ tl)) s →
        wpAny (Mo c') A (eval elt (compEnvC scope cl C env)) (fun y s₄ => ∃ T', (y, f i) ∈ T' ∧ St c' T' ((C, .ns [(x, .int i)]) :: (Dd, .lst acc) :: (env.locals, .ns σ) :: (mu ++ tl)) s₄) E s)
    (hu : Upto z (.lst ((List.range n).map f)) σ σ')
    (k : ∀ s', St c [] ((env.locals, .ns σ') :: mu) s' → P s')
theorem rng_sto {elt : Expr} {x z : Str} {np pos spos py : Pos} {iter : Expr} {scope : Scope} {cl : List (Str × Addr)} {n : Nat} (f : Nat → D) {P : Shared → Prop} (hclos : closureFor scope env = pure cl) (hh : A.handled = none) (hn : n ≤ 100)
    (h : wpAny (Mo c) A (eval iter env) (fun x' s₁ => RngS c A elt scope cl env x z n f P x' s₁) E s)
    (hsw : swapsWith (.ListComp elt [⟨.Name x np, iter, [], 0⟩] scope pos) (some (.Name z py)) spos.line env = pure true := by rfl)
    (hl' : env.kindOf z = some .local := by rfl) (hp' : (env.scope.kind == .class || (env.scope.kind == .module && env.locals != env.globals)) = false := by rfl)
    (hnames : (scope.names.all fun y => y.2 != .local || scope.names.lookup y.1 == some .local) = true := by rfl) (hcell : (scope.names.all fun y => y.2 != .cell) = true := by rfl) (hkind : scope.kind = .function := by rfl)
    (hs : ∀ x, foldedSetIterable iter env x = pure x := by intro _; rfl)
    (hl : ∀ C, (compEnvC scope cl C env).kindOf x = some .local := by intro _; rfl) (hL : ∀ C, (compEnvC scope cl C env).locals = C := by intro _; rfl)
    (hp : ∀ C, ((compEnvC scope cl C env).scope.kind == .class || ((compEnvC scope cl C env).scope.kind == .module && (compEnvC scope cl C env).locals != (compEnvC scope cl C env).globals)) = false := by intro _; rfl) :
    wpAny (Mo c) A (exec (.Assign [.Name z py] (.ListComp elt [⟨.Name x np, iter, [], 0⟩] scope pos) spos) env) (fun f s' => f = .next ∧ P s') E s := by
  refine st_comp hclos (wpAny_mono h (fun x' s₁ hask => ?_) fun _ _ e => e) hsw hl' hp' hnames hcell hkind hs
  obtain ⟨T, σ, σ', mu, t, u, v, hx, H, turn, hu, k⟩ := hask
  refine it_range (mu := (env.locals, .ns σ) :: mu) (n := n) H hx (size_to n) (small_to (n := n) (by omega)) fun it s' H => ?_
  refine ⟨it, _, _, _, _, _, _, _, fun i => some (f i), rfl, fun c' _ => its_range hh, by simp; omega, H, ?_, ?_, fun s' H => k s' H⟩
  · intro c' C Dd i d v s E acc hw hd H
    have hi : i < n := by simpa using (List.getElem?_eq_some_iff.mp hd).1
    obtain rfl : d = .int i := by rw [List.getElem?_map, List.getElem?_range hi] at hd; simpa using hd.symm
    refine own_name (wpAny_assign_Name (sto (σ' := [(x, .int i)]) H (.head _) (.new rfl .nil) (fun s' H => ?_) (hL C) (hl C) (hp C)))
    refine wpAny_tests_nil ?_
    rw [if_pos rfl]
    refine wpAny_mono (turn c' C Dd i _ _ acc _ hw hi (H.sub fun p hp => .tail _ hp)) (fun y s₄ ⟨T', hy, H⟩ => ⟨T', _, _, rfl, hy, H⟩) fun _ _ e => e
  · rw [List.length_map, List.length_range, range_sel]; exact hu

/-- the names of a turn over triples -/
noncomputable abbrev triNs (t : Int × Int × Int) : List (Str × D) := [("size", .int t.2.2), ("desk", .int t.2.1), ("work", .int t.1)]
theorem tri_turn {c' : Cx} {C Dd : Addr} {t : Int × Int × Int} {v : Value} {it l : Addr} {i : Nat} {p1 p2 p3 p4 : Pos} {n5 : Nat} {env : Env} {E : Value → Shared → Prop} {Q : Unit → Shared → Prop} {T : List (Value × D)} {acc : List D} {mu : List (Addr × MD)} {s : Shared}
    (hh : A.handled = none) (H : St c' ((v, trip t) :: T) ((C, .ns []) :: (Dd, .lst acc) :: (mu ++ tlL it l (i + 1))) s)
    (hl1 : env.kindOf "work" = some .local) (hl2 : env.kindOf "desk" = some .local) (hl3 : env.kindOf "size" = some .local) (hL : env.locals = C)
    (hp : (env.scope.kind == .class || (env.scope.kind == .module && env.locals != env.globals)) = false)
    (k : ∀ s', St c' T ((C, .ns (triNs t)) :: (Dd, .lst acc) :: (mu ++ tlL it l (i + 1))) s' → Q () s') :
    wpAny (Mo c') A (letOwnedTupleGo (.Tuple [.Name "work" p1, .Name "desk" p2, .Name "size" p3] n5 p4) (.ref it) v) (fun _ s₁ => wpAny (Mo c') A (assign (.Tuple [.Name "work" p1, .Name "desk" p2, .Name "size" p3] n5 p4) env v) Q E s₁) E s := by
  refine own_tup_list (mu := (C, .ns []) :: (Dd, .lst acc) :: mu) H ?_
  refine asg_tup3 hh H (.head _) fun a b b' s' H => ?_
  refine wpAny_assign_Name (sto (σ' := [("work", .int t.1)]) H (.head _) (.new rfl .nil) (fun s' H => ?_) hL hl1 hp)
  refine wpAny_assign_Name (sto (σ' := [("desk", .int t.2.1), ("work", .int t.1)]) H (.tail _ (.head _)) (.new rfl (.old .here (by decide) .nil)) (fun s' H => ?_) hL hl2 hp)
  refine wpAny_assign_Name (sto (σ' := triNs t) H (.tail _ (.tail _ (.head _))) (.new rfl (.old .here (by decide) (.old (.there .here) (by decide) .nil))) (fun s' H => ?_) hL hl3 hp)
  exact k _ (H.sub fun p hp => .tail _ (.tail _ (.tail _ (.tail _ hp))))
/-- what a comprehension over triples asks -/
inductive TriV (c : Cx) (A : Around) (elt : Expr) (scope : Scope) (cl : List (Str × Addr)) (env : Env) (l : List (Int × Int × Int)) (f : Int × Int × Int → D) (Q : Value → Shared → Prop) (x' : Value) (s₁ : Shared) : Prop
  | mk (T : List (Value × D)) (mu : List (Addr × MD))
    (hx : (x', .lst (l.map trip)) ∈ T)
    (H : St c T mu s₁)
    (turn : ∀ (c' : Cx) C Dd t s E acc tl, c'.w = c.w → t ∈ l → St c' T ((C, .ns (triNs t)) :: (Dd, .lst acc) :: (mu ++ tl)) s →
        wpAny (Mo c') A (eval elt (compEnvC scope cl C env)) (fun y s₄ => ∃ T', (y, f t) ∈ T' ∧ St c' T' ((C, .ns (triNs t)) :: (Dd, .lst acc) :: (mu ++ tl)) s₄) E s)
    (k : ∀ v s', St c ((v, .lst (l.map f)) :: T) mu s' → Q v s')
theorem tri_val {elt : Expr} {p1 p2 p3 p4 pos : Pos} {n5 : Nat} {iter : Expr} {scope : Scope} {cl : List (Str × Addr)} {l : List (Int × Int × Int)} (f : Int × Int × Int → D) {Q : Value → Shared → Prop} (hclos : closureFor scope env = pure cl) (hh : A.handled = none) (hn : l.length ≤ 100)
    (h : wpAny (Mo c) A (eval iter env) (fun x' s₁ => TriV c A elt scope cl env l f Q x' s₁) E s)
    (hnames : (scope.names.all fun y => y.2 != .local || scope.names.lookup y.1 == some .local) = true := by rfl) (hcell : (scope.names.all fun y => y.2 != .cell) = true := by rfl) (hkind : scope.kind = .function := by rfl)
    (hs : ∀ x, foldedSetIterable iter env x = pure x := by intro _; rfl)
    (hl1 : ∀ C, (compEnvC scope cl C env).kindOf "work" = some .local := by intro _; rfl) (hl2 : ∀ C, (compEnvC scope cl C env).kindOf "desk" = some .local := by intro _; rfl) (hl3 : ∀ C, (compEnvC scope cl C env).kindOf "size" = some .local := by intro _; rfl)
    (hL : ∀ C, (compEnvC scope cl C env).locals = C := by intro _; rfl)
    (hp : ∀ C, ((compEnvC scope cl C env).scope.kind == .class || ((compEnvC scope cl C env).scope.kind == .module && (compEnvC scope cl C env).locals != (compEnvC scope cl C env).globals)) = false := by intro _; rfl) :
    wpAny (Mo c) A (eval (.ListComp elt [⟨.Tuple [.Name "work" p1, .Name "desk" p2, .Name "size" p3] n5 p4, iter, [], 0⟩] scope pos) env) Q E s := by
  refine ev_comp hclos (wpAny_mono h (fun x' s₁ hask => ?_) fun _ _ e => e) hnames hcell hkind hs
  obtain ⟨T, mu, hx, H, turn, k⟩ := hask
  obtain ⟨a1, _, rfl, _⟩ := H.isLst hx
  refine it_list H (.inl hx) fun it s' H => ?_
  refine ⟨it, _, _, _, _, _, fun i => (l[i]?).map f, rfl, fun c' _ => its_list hh hx, by simp; omega, H, ?_, fun v s' H => k v s' ?_⟩
  · intro c' C Dd i d v s E acc hw hd H
    rw [List.getElem?_map] at hd
    obtain ⟨t, ht, rfl⟩ := Option.map_eq_some_iff.mp hd
    refine tri_turn hh H (hl1 C) (hl2 C) (hl3 C) (hL C) (hp C) fun s' H => ?_
    refine wpAny_tests_nil ?_
    rw [if_pos rfl]
    refine wpAny_mono (turn c' C Dd t _ _ acc _ hw (List.mem_of_getElem? ht) H) (fun y s₄ ⟨T', hy, H⟩ => ⟨T', _, _, by (try dsimp only); rw [ht]; rfl, hy, H⟩) fun _ _ e => e
  · rw [List.length_map, list_sel] at H; exact H
/-- the same, a local takes it over -/
inductive TriS (c : Cx) (A : Around) (elt : Expr) (scope : Scope) (cl : List (Str × Addr)) (env : Env) (z : Str) (l : List (Int × Int × Int)) (f : Int × Int × Int → D) (P : Shared → Prop) (x' : Value) (s₁ : Shared) : Prop
  | mk (T : List (Value × D)) (σ : List (Str × D)) (σ' : List (Str × D)) (mu : List (Addr × MD))
    (hx : (x', .lst (l.map trip)) ∈ T)
    (H : St c T ((env.locals, .ns σ) :: mu) s₁)
    (turn : ∀ (c' : Cx) C Dd t s E acc tl, c'.w = c.w → t ∈ l → St c' T ((C, .ns (triNs t)) :: (Dd, .lst acc) :: (env.locals, .ns σ) :: (mu ++ tl)) s →
        wpAny (Mo c') A (eval elt (compEnvC scope cl C env)) (fun y s₄ => ∃ T', (y, f t) ∈ T' ∧ St c' T' ((C, .ns (triNs t)) :: (Dd, .lst acc) :: (env.locals, .ns σ) :: (mu ++ tl)) s₄) E s)
    (hu : Upto z (.lst (l.map f)) σ σ')
    (k : ∀ s', St c [] ((env.locals, .ns σ') :: mu) s' → P s')
theorem tri_sto {elt : Expr} {z : Str} {p1 p2 p3 p4 pos spos py : Pos} {n5 : Nat} {iter : Expr} {scope : Scope} {cl : List (Str × Addr)} {l : List (Int × Int × Int)} (f : Int × Int × Int → D) {P : Shared → Prop} (hclos : closureFor scope env = pure cl) (hh : A.handled = none) (hn : l.length ≤ 100)
    (h : wpAny (Mo c) A (eval iter env) (fun x' s₁ => TriS c A elt scope cl env z l f P x' s₁) E s)
    (hsw : swapsWith (.ListComp elt [⟨.Tuple [.Name "work" p1, .Name "desk" p2, .Name "size" p3] n5 p4, iter, [], 0⟩] scope pos) (some (.Name z py)) spos.line env = pure true := by rfl)
    (hl' : env.kindOf z = some .local := by rfl) (hp' : (env.scope.kind == .class || (env.scope.kind == .module && env.locals != env.globals)) = false := by rfl)
    (hnames : (scope.names.all fun y => y.2 != .local || scope.names.lookup y.1 == some .local) = true := by rfl) (hcell : (scope.names.all fun y => y.2 != .cell) = true := by rfl) (hkind : scope.kind = .function := by rfl)
    (hs : ∀ x, foldedSetIterable iter env x = pure x := by intro _; rfl)
    (hl1 : ∀ C, (compEnvC scope cl C env).kindOf "work" = some .local := by intro _; rfl) (hl2 : ∀ C, (compEnvC scope cl C env).kindOf "desk" = some .local := by intro _; rfl) (hl3 : ∀ C, (compEnvC scope cl C env).kindOf "size" = some .local := by intro _; rfl)
    (hL : ∀ C, (compEnvC scope cl C env).locals = C := by intro _; rfl)
    (hp : ∀ C, ((compEnvC scope cl C env).scope.kind == .class || ((compEnvC scope cl C env).scope.kind == .module && (compEnvC scope cl C env).locals != (compEnvC scope cl C env).globals)) = false := by intro _; rfl) :
    wpAny (Mo c) A (exec (.Assign [.Name z py] (.ListComp elt [⟨.Tuple [.Name "work" p1, .Name "desk" p2, .Name "size" p3] n5 p4, iter, [], 0⟩] scope pos) spos) env) (fun f s' => f = .next ∧ P s') E s := by
  refine st_comp hclos (wpAny_mono h (fun x' s₁ hask => ?_) fun _ _ e => e) hsw hl' hp' hnames hcell hkind hs
  obtain ⟨T, σ, σ', mu, hx, H, turn, hu, k⟩ := hask
  obtain ⟨a1, _, rfl, _⟩ := H.isLst hx
  refine it_list (mu := (env.locals, .ns σ) :: mu) H (.inl hx) fun it s' H => ?_
  refine ⟨it, _, _, _, _, _, _, _, fun i => (l[i]?).map f, rfl, fun c' _ => its_list hh hx, by simp; omega, H, ?_, ?_, fun s' H => k s' H⟩
  · intro c' C Dd i d v s E acc hw hd H
    rw [List.getElem?_map] at hd
    obtain ⟨t, ht, rfl⟩ := Option.map_eq_some_iff.mp hd
    refine tri_turn (mu := (env.locals, .ns σ) :: mu) hh H (hl1 C) (hl2 C) (hl3 C) (hL C) (hp C) fun s' H => ?_
    refine wpAny_tests_nil ?_
    rw [if_pos rfl]
    refine wpAny_mono (turn c' C Dd t _ _ acc _ hw (List.mem_of_getElem? ht) H) (fun y s₄ ⟨T', hy, H⟩ => ⟨T', _, _, by (try dsimp only); rw [ht]; rfl, hy, H⟩) fun _ _ e => e
  · rw [List.length_map, list_sel]; exact hu
end
/-! ZP6 -/
/-! the plain law: what the law's lists are -/
noncomputable def dflt : List Int := [2, 1, 3, 1, 2, 0, 1, 0, 2, 3, 1, 1]
noncomputable def fill (ns : List Int) : List Int := ns.take 12 ++ dflt.drop ns.length
theorem fill_length (ns : List Int) : (fill ns).length = 12 := by simp [fill, dflt]; omega
noncomputable def hrs (ns : List Int) : List Int := (fill ns).map fun x => x.fmod 4
theorem hrs_length (ns : List Int) : (hrs ns).length = 12 := by rw [hrs, List.length_map, fill_length]
theorem hrs_bd (ns : List Int) : ∀ h ∈ hrs ns, 0 ≤ h ∧ h ≤ 3 := by
  intro h hh
  obtain ⟨x, _, rfl⟩ := List.mem_map.mp hh
  have h1 : x.fmod 4 = x % 4 := Int.fmod_eq_emod_of_nonneg _ (by decide)
  rw [h1]; omega
theorem pick_map {α β : Type} (f : α → β) (l : List α) (lo hi : Option Int) : pick (l.map f) lo hi = (pick l lo hi).map f := by
  unfold pick; rw [List.length_map, List.map_filterMap]; congr 1; funext i; rw [List.getElem?_map]
theorem range_take {α : Type} (l : List α) : ∀ n, (List.range n).filterMap (l[·]?) = l.take n
  | 0 => by simp
  | n + 1 => by
    rw [List.range_succ, List.filterMap_append, range_take l n, List.take_add_one]
    cases h : l[n]? <;> simp [h]
theorem slice12 : ∀ n, n ≤ 63 → sliceRange (sliceBounds none (some 12) none n).1 (sliceBounds none (some 12) none n).2.1 (sliceBounds none (some 12) none n).2.2 = List.range (min 12 n) := by decide +kernel
theorem slice12b : ∀ n : Nat, n ≤ 63 → (sliceRange (sliceBounds (some (n : Int)) none none 12).1 (sliceBounds (some (n : Int)) none none 12).2.1 (sliceBounds (some (n : Int)) none none 12).2.2).filterMap (dflt[·]?) = dflt.drop n := by decide +kernel
theorem pick12 {ns : List Int} (h : ns.length ≤ 63) : pick ns none (some 12) = ns.take 12 := by
  unfold pick; rw [slice12 _ h, range_take]
  by_cases e : 12 ≤ ns.length
  · rw [Nat.min_eq_left e]
  · rw [Nat.min_eq_right (by omega), List.take_of_length_le (Nat.le_refl _), List.take_of_length_le (by omega)]
theorem pickd {n : Nat} (h : n ≤ 63) : pick dflt (some (n : Int)) none = dflt.drop n := slice12b n h
noncomputable def ksW : List Nat := List.range 12
noncomputable def ksD : List Nat := [0, 3, 6, 9, 1, 4, 7, 10, 2, 5, 8, 11]
noncomputable def ksT : List Nat := [11, 10, 9, 8, 7, 6, 5, 4, 3, 2, 1, 0]
noncomputable def ksC (st : Nat) : List Nat := (List.range 12).map fun n => (st + 5 * n) % 12
noncomputable def goodDec (cols : List (Int × Int)) (ks : List Nat) : Decidable (GoodSort cols ks) := by unfold GoodSort; infer_instance
noncomputable def goodQ (cols : List (Int × Int)) (ks : List Nat) : Bool := @decide (GoodSort cols ks) (goodDec cols ks)
theorem goodQ_ok {cols : List (Int × Int)} {ks : List Nat} (h : goodQ cols ks = true) : GoodSort cols ks := @of_decide_eq_true _ (goodDec cols ks) h
theorem sorts : ∀ st, st < 12 → (goodQ [(0, 1), (1, 1)] (ksC st) = true ∧ stageK [(0, 1), (1, 1)] (ksC st) 12 = ksW) ∧ (goodQ [(1, 1), (0, 1)] (ksC st) = true ∧ stageK [(1, 1), (0, 1)] (ksC st) 12 = ksD) ∧
    (goodQ [(0, -1), (1, -1)] (ksC st) = true ∧ stageK [(0, -1), (1, -1)] (ksC st) 12 = ksT) := by decide +kernel
noncomputable def trips (hs : List Int) (ks : List Nat) : List (Int × Int × Int) := ks.map (tri hs)
noncomputable def rvs (hs : List Int) : List Int := (List.range 12).map fun k => hs.getD (11 - k) 0
noncomputable def desksL (hs : List Int) : List Int := (List.range 3).map fun j => hs.getD j 0 + hs.getD (3 + j) 0 + hs.getD (6 + j) 0 + hs.getD (9 + j) 0
noncomputable def worksL (hs : List Int) : List Int := (List.range 4).map fun i => hs.getD (3 * i) 0 + hs.getD (3 * i + 1) 0 + hs.getD (3 * i + 2) 0
noncomputable def acrossL (E : List Int) : List Int := ksD.map fun k => E.getD k 0
theorem explicit {hs : List Int} (hl : hs.length = 12) (hb : ∀ h ∈ hs, 0 ≤ h ∧ h ≤ 3) : ∃ x0 x1 x2 x3 x4 x5 x6 x7 x8 x9 x10 x11 : Nat, hs = H12 x0 x1 x2 x3 x4 x5 x6 x7 x8 x9 x10 x11 ∧ ∀ n ∈ [x0, x1, x2, x3, x4, x5, x6, x7, x8, x9, x10, x11], n ≤ 3 := by
  have key : hs = (hs.map Int.toNat).map fun n : Nat => (n : Int) := by
    rw [List.map_map]
    conv => lhs; rw [← List.map_id hs]
    refine List.map_congr_left fun h hh => ?_
    have := hb h hh
    simp only [id, Function.comp_def]; omega
  have hle : ∀ n ∈ hs.map Int.toNat, n ≤ 3 := fun n hn => by
    obtain ⟨h, hh, rfl⟩ := List.mem_map.mp hn
    have := hb h hh; omega
  have hlen : (hs.map Int.toNat).length = 12 := by rw [List.length_map, hl]
  generalize hs.map Int.toNat = xs at *
  match xs, hlen with
  | [x0, x1, x2, x3, x4, x5, x6, x7, x8, x9, x10, x11], _ => exact ⟨x0, x1, x2, x3, x4, x5, x6, x7, x8, x9, x10, x11, key, hle⟩
section
variable {hs : List Int}
theorem good1 (hl : hs.length = 12) (hb : ∀ h ∈ hs, 0 ≤ h ∧ h ≤ 3) : Good ((trips hs ksW).map fun t => t.2.1) (hs.map Int.toNat) (endsTo hs 12) [(endsTo hs 12).getD 9 0, (endsTo hs 12).getD 10 0, (endsTo hs 12).getD 11 0] (desksL hs) (bestB hs 10) := by
  obtain ⟨x0, x1, x2, x3, x4, x5, x6, x7, x8, x9, x10, x11, rfl, hb2⟩ := explicit hl hb
  have := good_works hb2 rfl (two_eq x0 x1 x2 x3 x4 x5 x6 x7 x8 x9 x10 x11)
  exact this
theorem good2 (hl : hs.length = 12) (hb : ∀ h ∈ hs, 0 ≤ h ∧ h ≤ 3) : Good ((trips hs ksD).map fun t => t.1) (ksD.map fun k => (hs.getD k 0).toNat) (acrossL (endsTo hs 12)) [(endsTo hs 12).getD 2 0, (endsTo hs 12).getD 5 0, (endsTo hs 12).getD 8 0, (endsTo hs 12).getD 11 0] (worksL hs) (bestB hs 10) := by
  obtain ⟨x0, x1, x2, x3, x4, x5, x6, x7, x8, x9, x10, x11, rfl, hb2⟩ := explicit hl hb
  have := good_desks hb2 rfl (two_eq x0 x1 x2 x3 x4 x5 x6 x7 x8 x9 x10 x11)
  exact this
theorem lack_rev (x2 x4 x5 x6 x7 x9 : Nat) : lack6 x9 x7 x6 x5 x4 x2 = lack6 x2 x4 x5 x6 x7 x9 := by unfold lack6; rw [Nat.add_comm x5, Nat.add_comm x7 x2, Nat.add_comm x7 x4, Nat.add_comm x9 x2, Nat.add_comm x9 x4, Nat.add_comm x9 x6]; ac_rfl
theorem tot_rev (x0 x1 x2 x3 x4 x5 x6 x7 x8 x9 x10 x11 : Nat) : tot12 x11 x10 x9 x8 x7 x6 x5 x4 x3 x2 x1 x0 = tot12 x0 x1 x2 x3 x4 x5 x6 x7 x8 x9 x10 x11 := by unfold tot12; ac_rfl
theorem good3r (hl : hs.length = 12) (hb : ∀ h ∈ hs, 0 ≤ h ∧ h ≤ 3) : Good ((trips hs ksT).map fun t => 2 - t.2.1) ((rvs hs).map Int.toNat) (endsTo (rvs hs) 12) [(endsTo (rvs hs) 12).getD 9 0, (endsTo (rvs hs) 12).getD 10 0, (endsTo (rvs hs) 12).getD 11 0]
    [(desksL hs).getD 2 0, (desksL hs).getD 1 0, (desksL hs).getD 0 0] (bestB hs 10) := by
  obtain ⟨x0, x1, x2, x3, x4, x5, x6, x7, x8, x9, x10, x11, rfl, hb2⟩ := explicit hl hb
  have h2 := two_eq x0 x1 x2 x3 x4 x5 x6 x7 x8 x9 x10 x11
  rw [← lack_rev, ← tot_rev] at h2
  have hb' : ∀ n ∈ [x11, x10, x9, x8, x7, x6, x5, x4, x3, x2, x1, x0], n ≤ 3 := fun n hn => hb2 n (by
    simp only [List.mem_cons, List.not_mem_nil, or_false] at hn ⊢
    rcases hn with h | h | h | h | h | h | h | h | h | h | h | h <;> simp [h])
  have := good_works hb' rfl h2
  have e1 : rvs (H12 x0 x1 x2 x3 x4 x5 x6 x7 x8 x9 x10 x11) = H12 x11 x10 x9 x8 x7 x6 x5 x4 x3 x2 x1 x0 := rfl
  have e2 : ([(desksL (H12 x0 x1 x2 x3 x4 x5 x6 x7 x8 x9 x10 x11)).getD 2 0, (desksL (H12 x0 x1 x2 x3 x4 x5 x6 x7 x8 x9 x10 x11)).getD 1 0, (desksL (H12 x0 x1 x2 x3 x4 x5 x6 x7 x8 x9 x10 x11)).getD 0 0] : List Int) =
      [((x11 + x8 + x5 + x2 : Nat) : Int), ((x10 + x7 + x4 + x1 : Nat) : Int), ((x9 + x6 + x3 + x0 : Nat) : Int)] := by
    show ([(x2 : Int) + x5 + x8 + x11, (x1 : Int) + x4 + x7 + x10, (x0 : Int) + x3 + x6 + x9] : List Int) = _
    simp only [List.cons.injEq, and_true]
    refine ⟨?_, ?_, ?_⟩ <;> push_cast <;> omega
  rw [e1, e2]
  exact this
noncomputable def bts (l : List Int) : List UInt8 := l.map fun n => n.toNat.toUInt8
theorem byteArr_eq (l : List Int) : byteArr l = (bts l).toArray := rfl
theorem u8 {n : Int} (h0 : 0 ≤ n) (h3 : n ≤ 3) : (n.toNat.toUInt8).toNat = n.toNat := by
  obtain rfl | rfl | rfl | rfl : n = 0 ∨ n = 1 ∨ n = 2 ∨ n = 3 := by omega
  all_goals rfl
theorem bts_nat {l : List Int} (hb : ∀ h ∈ l, 0 ≤ h ∧ h ≤ 3) : (byteArr l).toList.map (fun u => u.toNat) = l.map Int.toNat := by
  rw [byteArr_eq, List.toList_toArray, bts, List.map_map]
  exact List.map_congr_left fun h hh => u8 (hb h hh).1 (hb h hh).2
theorem sizesW (hl : hs.length = 12) : (trips hs ksW).map (fun t => t.2.2) = hs := by
  match hs, hl with
  | [x0, x1, x2, x3, x4, x5, x6, x7, x8, x9, x10, x11], _ => rfl
theorem sizesD : (trips hs ksD).map (fun t => t.2.2) = ksD.map fun k => hs.getD k 0 := rfl
theorem sizesT : (trips hs ksT).map (fun t => t.2.2) = rvs hs := rfl
theorem swp12 {l : List Int} (hl : l.length = 12) : swp (bts l) 12 = byteArr (rvs l) := by
  match l, hl with
  | [x0, x1, x2, x3, x4, x5, x6, x7, x8, x9, x10, x11], _ => kernel_rfl
theorem rvs_bd (hl : hs.length = 12) (hb : ∀ h ∈ hs, 0 ≤ h ∧ h ≤ 3) : ∀ h ∈ rvs hs, 0 ≤ h ∧ h ≤ 3 := by
  intro h hh
  obtain ⟨k, hk, rfl⟩ := List.mem_map.mp hh
  have : 11 - k < hs.length := by omega
  rw [List.getD_eq_getElem?_getD, List.getElem?_eq_getElem this]
  exact hb _ (List.getElem_mem this)
theorem rvs_length : (rvs hs).length = 12 := by simp [rvs]
end
/-! ZLW -/
section
variable {c : Cx} {A : Around} {E : Value → Shared → Prop} {s : Shared} {env : Env} {T : List (Value × D)} {mu : List (Addr × MD)} {L : Addr} {σ : List (Str × D)} {d : D}
theorem seqG {st : Stmt} {rest : List Stmt} {Q : Flow → Shared → Prop} {P : Shared → Prop} (h : wpAny (Mo c) A (exec st env) (fun f s' => f = .next ∧ P s') E s)
    (k : ∀ s', P s' → wpG (Mo c) A (execs rest env) Q E s') : wpG (Mo c) A (execs (st :: rest) env) Q E s :=
  execsG_cons (wpG_of (wpAny_mono h (fun f s' ⟨e, p⟩ => by subst e; exact k s' p) fun _ _ e => e))
/-- a def of the text's is called, over clean contexts -/
theorem callWithG_K {pos : Pos} {f : Value} {e : Expr} {rest : List Expr} {Q : Value → Shared → Prop} (hk : keepIn (KH c.w) f = true)
    (h : wpAny (Mo c) A (spliced (backTo pos (starEach (e :: rest) env))) (fun vs s₁ => (KH c.w).In s₁.heap ∧ wpG (Mo c) A (call f vs) Q E s₁) E s)
    (he : starEach (e :: rest) env = (false, eval e env) :: starEach rest env := by rfl) (hplain : (backTo pos (starEach rest env)).any (·.1) = false := by rfl) :
    wpG (Mo c) A (callWith pos f [] (backTo pos (starEach (e :: rest) env)) []) Q E s := by
  have h' : wpAny (Mo c) A (evalArgs f true (backTo pos (starEach (e :: rest) env)) []) (fun a s₁ => (KH c.w).In s₁.heap ∧ wpG (Mo c) A (call f ([] ++ a.pos) a.kw) Q E s₁) E s := by
    rw [he] at h ⊢
    exact evalArgs_plain h
  have hp : ((backTo pos (starEach (e :: rest) env)).any (·.1) || ([] : List (Option Str × Sem Value)).any (·.1.isNone)) = false := by
    rw [he]; show ((false || (backTo pos (starEach rest env)).any (·.1)) || false) = false; rw [hplain]; rfl
  unfold callWith
  refine wpG_step (wpAny_holding (wpAny_mono h' (fun a s₁ h₁ => wpG_step (wpAny_standAt ?_)) fun _ _ x => x))
  obtain ⟨k, hk', L⟩ := keeps_K (M := Mo c) hk _ h₁.1
  simp only [hp]
  refine wpG_step (L.here ?_)
  have tail : ∀ {t : Sem Value}, wpG (Mo c) A t Q E s₁ → wpG (Mo c) A (t >>= fun r => holding [r] point >>= fun _ => pure r) Q E s₁ :=
    fun ht => wpG_bind (wpG_mono ht (fun r s₂ hr => wpG_step (wpAny_holding (wpAny_point (wpG_pure hr)))) fun _ _ x => x)
  have marked (mk : Value) : wpG (Mo c) A (callMarked mk f ([] ++ a.pos) a.kw) Q E s₁ := by
    unfold callMarked
    intro Γ p hΓ hc
    rw [Sem.wp_keep]; exact h₁.2 Γ p hΓ hc
  rcases hk' with rfl | rfl | rfl <;> dsimp only <;> first | exact tail h₁.2 | (split <;> first | exact tail h₁.2 | exact tail (marked _))
/-- bytes of a list of ints -/
theorem op_bytesL {x : Value} {l : List Int} {Q : Value → Shared → Prop} (hh : A.handled = none) (H : St c T mu s) (hx : (x, .lst (l.map .int)) ∈ T) (hr : ∀ n ∈ l, 0 ≤ n ∧ n < 256) (hz : l.length ≤ 1000)
    (k : ∀ v s', St c ((v, .byt (byteArr l)) :: T) mu s' → Q v s') : wpAny (Mo c) A (call (.type "bytes") [x]) Q E s := by
  obtain ⟨a, vs, rfl, hl, hi⟩ := H.ints (.inl hx)
  refine call_bytes_ints hl hi hr (by rw [hi.length, sizeLine_eq]; omega) hh fun h' t tk hk => ?_
  exact k _ _ ((H.ext (k := tk) hk).know (fun g => .byt _ t))
/-- the law's cells -/
noncomputable abbrev lc (L : Nat) (hours start plain ends : Option D) : List (Addr × MD) := [(L + 1 + 1 + 1 + 1, .cell ends), (L + 1 + 1 + 1, .cell plain), (L + 1 + 1, .cell start), (L + 1, .cell hours)]
/-- a slice of a list, its list known -/
theorem ev_sliceT {value : Expr} {lower upper : Option Expr} {p : Pos} {o : Value} {Q : Value → Shared → Prop}
    (h : wpAny (Mo c) A (evalPart lower env) (fun vl s₂ => wpAny (Mo c) A (evalPart upper env) (fun vu s₃ =>
      ∃ T mu ds lo hi, St c T mu s₃ ∧ ((o, .lst ds) ∈ T ∨ (o, .lsi ds) ∈ T) ∧ ds.length ≤ 100000 ∧ Part T vl lo ∧ Part T vu hi ∧ ∀ v s', St c ((v, .lst (pick ds lo hi)) :: T) mu s' → Q v s') E s₂) E s) :
    wpAny (Mo c) A (eval (.Slice lower upper none p) env) (fun i s₂ => wpAny (Mo c) A (subscriptTail value (.Slice lower upper none p) o i) Q E s₂) E s := by
  refine wpAny_Slice (wpAny_mono h (fun vl s₂ h₂ => wpAny_mono h₂ (fun vu s₃ h₃ => wpAny_evalPart_none ?_) fun _ _ e => e) fun _ _ e => e)
  obtain ⟨T, mu, ds, lo, hi, H, ho, hn, pl, pu, k⟩ := h₃
  obtain ⟨l, vs, rfl, hl, e, H'⟩ : ∃ (a : Addr) (vs : List Value), o = .ref a ∧ s₃.heap.IsList a vs.toArray ∧ vs.length = ds.length ∧ St c (vs.zip ds ++ T) mu s₃ := by
    have key : ∀ (ge : s₃.gens = c.gens) (os : s₃.os = c.os) (g : GH) (le : GLe c.g₀ g) (C : Core c.w T mu g c.fr s₃.heap) (vs : List Value), RepAll c.w g vs ds → St c (vs.zip ds ++ T) mu s₃ := by
      intro ge os g le C vs hr
      refine ⟨ge, os, g, le, C.gd, C.kg, C.kf, C.gf, fun p hp => ?_, C.mr, C.gm, C.nd⟩
      rcases List.mem_append.mp hp with hp | hp
      · obtain ⟨i, hi⟩ := List.mem_iff_getElem?.mp hp
        rw [List.getElem?_zip_eq_some] at hi
        exact hr.2 i _ _ hi.1 hi.2
      · exact C.tm p hp
    obtain ⟨ge, os, g, le, C⟩ := H
    rcases ho with ho | ho
    · cases C.tm _ ho with
      | lst ho' hl he => exact ⟨_, _, rfl, ⟨_, C.kg _ _ ho', rfl, _, rfl⟩, hl, key ge os g le C _ ⟨hl, he⟩⟩
    · cases C.tm _ ho with
      | lsi ho' hc hd hl he => exact ⟨_, _, rfl, ⟨_, C.kg _ _ ho', hc, _, hd⟩, hl, key ge os g le C _ ⟨hl, he⟩⟩
  refine tail_any (hl.push _).typeIs slot_list_getitem.lookup (wpAny_getItem_list_slice (hl.push _) (Heap.IsSliceOf.new ..) (pl.is H) (pu.is H) .none (by simp) ?_ (by rw [sizeLine_eq]; simp; omega)) (by with_unfolding_all rfl)
  have H1 := (H'.newObj (k := s₃.toks) (o := { cls := .type "slice", data := .fields #[vl, vu, .none] }))
  have e2 : slicePick vs.toArray lo hi none = (pick vs lo hi).toArray := by
    unfold slicePick pick; simp
  rw [e2]
  have H2 := H1.newPick (vs := vs) (us := pick vs lo hi) (ds := ds) (es := pick ds lo hi) (k := s₃.toks) fun g ht => by
    have hr : RepAll c.w g vs ds := ⟨e, fun i u d hu hd => ht (u, d) (.tail _ (List.mem_append_left _ (List.mem_iff_getElem?.mpr ⟨i, by rw [List.getElem?_zip_eq_some]; exact ⟨hu, hd⟩⟩)))⟩
    unfold pick
    rw [e]
    exact filterMap_rep hr _
  exact k _ _ (H2.sub fun p hp => by
    rcases List.mem_cons.mp hp with rfl | hp
    · exact .head _
    · exact .tail _ (.tail _ (List.mem_append_right _ hp)))
/-- an expression v[lo:hi] of a list -/
theorem ev_sliceV {value : Expr} {lower upper : Option Expr} {p pos : Pos} {Q : Value → Shared → Prop}
    (h : wpAny (Mo c) A (eval value env) (fun o s₁ => wpAny (Mo c) A (evalPart lower env) (fun vl s₂ => wpAny (Mo c) A (evalPart upper env) (fun vu s₃ =>
      ∃ T mu ds lo hi, St c T mu s₃ ∧ ((o, .lst ds) ∈ T ∨ (o, .lsi ds) ∈ T) ∧ ds.length ≤ 100000 ∧ Part T vl lo ∧ Part T vu hi ∧ ∀ v s', St c ((v, .lst (pick ds lo hi)) :: T) mu s' → Q v s') E s₂) E s₁) E s) :
    wpAny (Mo c) A (eval (.Subscript value (.Slice lower upper none p) pos) env) Q E s :=
  Subscript_ (wpAny_mono h (fun o s₁ h₁ => ev_sliceT h₁) fun _ _ e => e)
/-- v[i] of a list of ints, i a number from 0 on -/
theorem op_itemN {value slice : Expr} {v : Value} {l : List Int} {i : Nat} {y : Value} {Q : Value → Shared → Prop} (H : St c T mu s) (hv : LstV T mu v (l.map .int)) (hi : (y, .int (i : Int)) ∈ T) (hl : i < l.length) (hn : l.length ≤ 1000)
    (k : ∀ v, St c ((v, .int (l.getD i 0)) :: T) mu s → Q v s)
    (hs : ∀ a u, subscripted slice false (.ref a) (.int (i : Int) u) = operate [.ref a, .int (i : Int) u] (getItem (.ref a) (.int (i : Int) u)) := by intro _ _; with_unfolding_all rfl) :
    wpAny (Mo c) A (subscriptTail value slice v y) Q E s :=
  op_item (i := (i : Int)) H hv hi (Int.natCast_nonneg i) (by rw [Int.toNat_natCast]; exact getmap hl) (by omega) k hs
/-- constants, one by one -/
inductive CInts : List Expr → List Int → Prop
  | nil : CInts [] []
  | cons {i : Int} {n : Nat} {pos : Pos} {r : List Expr} {l : List Int} : CInts r l → CInts (.Constant (.int i) n pos :: r) (i :: l)
theorem args_ints {elts : List Expr} {l : List Int} {pos : Pos} (hc : CInts elts l) : ∀ {T : List (Value × D)} {s : Shared} {Q : List Value → Shared → Prop}, St c T mu s →
    (∀ vs s' T', St c T' mu s' → (∀ p ∈ T, p ∈ T') → vs.length = l.length → (∀ p ∈ vs.zip (l.map D.int), p ∈ T') → Q vs s') → wpAny (Mo c) A (spliced (backTo pos (starEach elts env))) Q E s := by
  induction hc with
  | nil => intro T s Q H k; exact args_nil (k [] s T H (fun _ h => h) rfl (fun p hp => nomatch hp))
  | cons h ih =>
    intro T s Q H k
    refine args_cons (ct_int H fun v s₁ H₁ => ih H₁ fun vs s' T' H' hT hl hz => k (v :: vs) s' T' H' (fun p hp => hT p (.tail _ hp)) (by simp [hl]) fun p hp => ?_) rfl
    rcases List.mem_cons.mp hp with rfl | hp
    · exact hT _ (.head _)
    · exact hz p hp
theorem op_lenS {v : Value} {ds : List D} {Q : Value → Shared → Prop} (H : St c T mu s) (hv : (v, .lsi ds) ∈ T) (hn : ds.length ≤ 1048576) (k : ∀ v s', St c ((v, .int ds.length) :: T) mu s' → Q v s') :
    wpAny (Mo c) A (call (.builtin "len") [v]) Q E s := by
  obtain ⟨l, vs, rfl, hl, e, _⟩ := H.isLsi hv
  refine call_len_list hl (by simp only [List.size_toArray]; omega) ?_
  have : ((vs.toArray.size : Nat) : Int) = (ds.length : Int) := by simp [e]
  rw [this]
  exact k _ _ (H.toks.intv _ _)
theorem pick9 {E : List Int} (h : E.length = 12) : pick E (some 9) none = [E.getD 9 0, E.getD 10 0, E.getD 11 0] := by
  have e : sliceRange (sliceBounds (some 9) none none 12).1 (sliceBounds (some 9) none none 12).2.1 (sliceBounds (some 9) none none 12).2.2 = [9, 10, 11] := by decide +kernel
  unfold pick
  rw [h, e]
  match E, h with
  | [e0, e1, e2, e3, e4, e5, e6, e7, e8, e9, e10, e11], _ => rfl
theorem trips_mem {hs : List Int} {ks : List Nat} {t : Int × Int × Int} (h : t ∈ trips hs ks) (hk : ∀ k ∈ ks, k < 12) : ∃ k : Nat, k < 12 ∧ t = tri hs k := by
  obtain ⟨k, hk', rfl⟩ := List.mem_map.mp h
  exact ⟨k, hk k hk', rfl⟩
theorem sizesD_eq {hs : List Int} (hl : hs.length = 12) (hb : ∀ h ∈ hs, 0 ≤ h ∧ h ≤ 3) : (trips hs ksD).map (fun t => D.int t.2.2) = (ksD.map fun k => (hs.getD k 0).toNat).map fun n : Nat => D.int (n : Int) := by
  have key : ∀ k : Nat, (((hs.getD k 0).toNat : Nat) : Int) = hs.getD k 0 := fun k => by
    rw [List.getD_eq_getElem?_getD]
    cases e : hs[k]? with
    | none => rfl
    | some h => have := hb h (List.mem_of_getElem? e); simp; omega
  rw [trips, List.map_map, List.map_map]
  refine List.map_congr_left fun k _ => ?_
  simp only [Function.comp_def, key, tri]
noncomputable abbrev ln0 (hs : List Int) (st : Nat) : List (Str × D) := [("two", .int (bestB hs 10)), ("works", lst (worksL hs)), ("desks", lst (desksL hs)), ("rests", lst (endsTo (rvs hs) 12)), ("mirror", .byt (byteArr (rvs hs))), ("table", .byt (byteArr hs)), ("turned", lsT hs ksT), ("by_desks", lsT hs ksD), ("by_works", lsT hs ksW)]
noncomputable abbrev ln1 (hs : List Int) (st : Nat) : List (Str × D) := [("across", lst (acrossL (endsTo hs 12))), ("two", .int (bestB hs 10)), ("works", lst (worksL hs)), ("desks", lst (desksL hs)), ("rests", lst (endsTo (rvs hs) 12)), ("mirror", .byt (byteArr (rvs hs))), ("turned", lsT hs ksT), ("by_desks", lsT hs ksD)]
noncomputable abbrev ln2 (hs : List Int) (st : Nat) : List (Str × D) := [("works", lst (worksL hs)), ("desks", lst (desksL hs)), ("rests", lst (endsTo (rvs hs) 12)), ("mirror", .byt (byteArr (rvs hs))), ("table", .byt (byteArr hs)), ("turned", lsT hs ksT), ("by_desks", lsT hs ksD), ("by_works", lsT hs ksW)]
noncomputable abbrev ln3 (hs : List Int) (st : Nat) : List (Str × D) := [("two", .int (bestB hs 10)), ("works", lst (worksL hs)), ("desks", lst (desksL hs)), ("rests", lst (endsTo (rvs hs) 12)), ("mirror", .byt (byteArr (rvs hs))), ("turned", lsT hs ksT), ("by_desks", lsT hs ksD)]
noncomputable abbrev ln4 (hs : List Int) (st : Nat) : List (Str × D) := [("desks", lst (desksL hs)), ("rests", lst (endsTo (rvs hs) 12)), ("mirror", .byt (byteArr (rvs hs))), ("table", .byt (byteArr hs)), ("turned", lsT hs ksT), ("by_desks", lsT hs ksD), ("by_works", lsT hs ksW)]
noncomputable abbrev ln5 (hs : List Int) (st : Nat) : List (Str × D) := [("rests", lst (endsTo (rvs hs) 12)), ("mirror", .byt (byteArr (rvs hs))), ("table", .byt (byteArr hs)), ("turned", lsT hs ksT), ("by_desks", lsT hs ksD), ("by_works", lsT hs ksW)]
noncomputable abbrev ln6 (hs : List Int) (st : Nat) : List (Str × D) := [("two", .int (bestB hs 10)), ("desks", lst (desksL hs)), ("rests", lst (endsTo (rvs hs) 12)), ("mirror", .byt (byteArr (rvs hs))), ("turned", lsT hs ksT)]
noncomputable abbrev ln7 (hs : List Int) (st : Nat) : List (Str × D) := [("mirror", .byt (byteArr (rvs hs))), ("table", .byt (byteArr hs)), ("turned", lsT hs ksT), ("by_desks", lsT hs ksD), ("by_works", lsT hs ksW)]
noncomputable abbrev ln8 (hs : List Int) (st : Nat) : List (Str × D) := [("table", .byt (byteArr hs)), ("turned", lsT hs ksT), ("by_desks", lsT hs ksD), ("by_works", lsT hs ksW)]
noncomputable abbrev ln9 (hs : List Int) (st : Nat) : List (Str × D) := [("by_desks", lsT hs ksD), ("by_works", lsT hs ksW), ("cells", lsT hs (ksC st))]
noncomputable abbrev ln10 (hs : List Int) (st : Nat) : List (Str × D) := [("turned", lsT hs ksT), ("by_desks", lsT hs ksD), ("by_works", lsT hs ksW)]
noncomputable abbrev ln11 (hs : List Int) (st : Nat) : List (Str × D) := [("by_works", lsT hs ksW), ("cells", lsT hs (ksC st))]
noncomputable abbrev lcP (L : Nat) (hs : List Int) (st : Nat) (tc : List (Addr × MD)) : List (Addr × MD) := lc L (some (lst hs)) (some (.int st)) (some (lsT hs ksW)) none ++ tc
noncomputable abbrev lcE (L : Nat) (hs : List Int) (st : Nat) (tc : List (Addr × MD)) : List (Addr × MD) := lc L (some (lst hs)) (some (.int st)) (some (lsT hs ksW)) (some (lst (endsTo hs 12))) ++ tc
theorem law_ok {v : Value} {ns : List Int} {Q : Value → Shared → Prop} (H : St c T [(120, .obj (tabObj #[]))] s) (hr : Rm A 10) (hv : (v, .lsi (ns.map .int)) ∈ T) (hn : ns.length ≤ 63)
    (k : ∀ tc s', TabCh tc → St c [] tc s' → Q (.bool true) s') : wpG (Mo c) A (call (.ref 156) [v]) Q E s := by
  refine fn_enterCG (f := 156) (mp := [(120, .obj (tabObj #[]))]) (mr := []) (binds := [("script", v)]) [("script", .lsi (ns.map .int))] (fun L => lc L none none none none) H hr.rm rfl rfl rfl rfl rfl
    (fun L => rfl) (fun L => .cons rfl hv .nil) (fun L => .empty rfl rfl (.empty rfl rfl (.empty rfl rfl (.empty rfl rfl .nil)))) fun c₂ L s' hw₂ H back => ?_
  replace H := H.drop
  have hr2 : ∀ env, Rm (A.deeper env) 9 := fun _ => hr.deeper
  -- filled
  refine seqG (P := St c₂ [] ((L, .ns [("filled", lst (fill ns))]) :: (lc L none none none none ++ [(120, .obj (tabObj #[]))]))) ?_ ?_
  · iterate 2 ktr_rel
    refine ev_sliceV ?_
    ktr_rel
    rename_i H
    refine wpAny_evalPart_none (wpAny_evalPart_some ?_)
    ktr_rel
    rename_i H
    refine ⟨_, _, ns.map .int, none, some 12, H, .inr (by tb_start), by simp; omega, .none, .int (by tb_start), fun v s' H => ?_⟩
    rw [pick_map, pick12 hn] at H
    refine ev_sliceV ?_
    with_reducible refine List_ ?_
    with_reducible refine args_ints (l := dflt) ?hc H fun vs s' T' H hT hlv hz => ?_
    case hc => unfold dflt; repeat constructor
    have hv1 := hT _ (.head _)
    refine op_newList (ds := dflt.map .int) H hz (by rw [hlv, List.length_map]) (by decide) fun v s' H => ?_
    refine wpAny_evalPart_some ?_
    repeat ktr_rel
    rename_i H
    refine op_lenS H (by tb_start) (by simp; omega) fun v s' H => ?_
    rw [List.length_map] at H
    refine wpAny_evalPart_none ⟨_, _, dflt.map .int, some ns.length, none, H, .inl (by tb_start), by decide, .int (by tb_start), .none, fun v s' H => ?_⟩
    rw [pick_map, pickd hn] at H
    refine op_addL H (.inl (by repeat (first | exact hv1 | apply List.Mem.tail))) (.inl (.head _)) (by simp [dflt]; omega) fun v s' H => ?_
    rw [← List.map_append] at H
    exact sto_end H (.head _) (by ktr_room)
  clear H
  intro s' H
  have hfl := fill_length ns
  have hhl := hrs_length ns
  have hhb := hrs_bd ns
  have hhr : hrs ns = (fill ns).map fun x => x.fmod 4 := rfl
  generalize hrs ns = hs at *
  -- hours
  refine seqG (P := St c₂ [] ((L, .ns []) :: (lc L (some (lst hs)) none none none ++ [(120, .obj (tabObj #[]))]))) ?_ ?_
  · ktr_rel
    refine ev_comp (cl := []) rfl ?_
    ktr_rel
    rename_i H
    obtain ⟨a1, _, rfl, _⟩ := H.isLst (.head _)
    refine it_list H (.inl (.head _)) fun it s' H => ?_
    refine ⟨it, _, _, _, _, _, fun i => ((fill ns)[i]?).map fun x => .int (x.fmod 4), rfl, fun c' _ => its_list (hr2 _).handled (.head _), by simp; omega, H, ?_, fun v s' H => ?_⟩
    · intro c' C Dd i d v s E acc hw hd H
      rw [List.getElem?_map] at hd
      obtain ⟨x, hx, rfl⟩ := Option.map_eq_some_iff.mp hd
      generalize htl : tlL it a1 (i + 1) = tl at H ⊢
      refine own_name (wpAny_assign_Name (sto (σ' := [("x", .int x)]) H (.head _) (by ktr_room) fun s' H => ?_))
      refine wpAny_tests_nil ?_
      rw [if_pos rfl]
      repeat ktr_rel
      rename_i H
      exact ⟨_, _, _, by (try dsimp only); rw [hx]; rfl, .head _, H⟩
    · rw [List.length_map, list_sel] at H
      have e : (fill ns).map (fun x => D.int (x.fmod 4)) = hs.map .int := by rw [hhr, List.map_map]; rfl
      rw [e] at H
      exact sto_cell (i := 4) H (.head _) rfl rfl fun s' H => ⟨rfl, H.drop.nsSub (by simp)⟩
  clear H
  intro s' H
  clear hhr
  -- start
  obtain ⟨st, hst, hst12⟩ : ∃ st : Nat, (sumL hs).fmod 12 = st ∧ st < 12 := by
    refine ⟨((sumL hs).fmod 12).toNat, ?_, ?_⟩ <;> rw [Int.fmod_eq_emod_of_nonneg _ (by decide)] <;> omega
  refine seqG (P := St c₂ [] ((L, .ns []) :: (lc L (some (lst hs)) (some (.int st)) none none ++ [(120, .obj (tabObj #[]))]))) ?_ ?_
  · repeat ktr_rel
    rename_i H
    refine op_sum (hr2 _).handled H (.inl (.head _)) (fun i hi => by have := hhb i hi; omega) (by omega) fun v s' H => ?_
    repeat ktr_rel
    rename_i H
    rw [hst] at H
    exact sto_cell (i := 3) H (.head _) rfl rfl fun s' H => ⟨rfl, H.drop⟩
  clear H
  intro s' H
  -- plain
  have hf3 : ∀ i : Nat, (i : Int).fdiv 3 = ((i / 3 : Nat) : Int) := fun i => by rw [Int.fdiv_eq_ediv_of_nonneg _ (by decide)]; push_cast; rfl
  have hm3 : ∀ i : Nat, (i : Int).fmod 3 = ((i % 3 : Nat) : Int) := fun i => by rw [Int.fmod_eq_emod_of_nonneg _ (by decide)]; push_cast; rfl
  refine seqG (P := St c₂ [] ((L, .ns []) :: (lc L (some (lst hs)) (some (.int st)) (some (lsT hs ksW)) none ++ [(120, .obj (tabObj #[]))]))) ?_ ?_
  · ktr_rel
    refine rng_val (n := 12) (fun k => trip (tri hs k)) (cl := [("hours", L + 1)]) rfl (hr2 _).handled (by omega) ?_
    repeat ktr_rel
    rename_i H
    refine op_range1 H (by tb_start) fun r t u v s' H => ?_
    refine ⟨_, _, t, u, v, .head _, H, ?_, fun v s' H => ?_⟩
    · intro c' C Dd i s E acc tl hw hi H
      repeat ktr_rel
      rename_i H
      refine op_itemN (i := i) H (.inl (by tb_start)) (by tb_start) (by omega) (by omega) (fun v H => ?_)
      repeat ktr_rel
      rename_i H
      rw [hf3, hm3] at H
      refine op_newTup (ds := [.int ((i / 3 : Nat) : Int), .int ((i % 3 : Nat) : Int), .int (hs.getD i 0)]) H (mem3 (by tb_start) (by tb_start) (by tb_start)) rfl (Nat.le_of_ble_eq_true rfl) fun v s' H => ?_
      exact ⟨_, .head _, H⟩
    · have e : (List.range 12).map (fun k => trip (tri hs k)) = (ksW.map (tri hs)).map trip := by rw [List.map_map]; rfl
      rw [e] at H
      exact sto_cell (i := 2) H (.head _) rfl rfl fun s' H => ⟨rfl, H.drop⟩
  clear H
  intro s' H
  -- cells
  refine seqG (P := St c₂ [] ((L, .ns [("cells", lsT hs (ksC st))]) :: (lc L (some (lst hs)) (some (.int st)) (some (lsT hs ksW)) none ++ [(120, .obj (tabObj #[]))]))) ?_ ?_
  · refine rng_sto (n := 12) (fun n => trip (tri hs ((st + 5 * n) % 12))) (cl := [("start", L + 1 + 1), ("plain", L + 1 + 1 + 1)]) rfl (hr2 _).handled (by omega) ?_
    repeat ktr_rel
    rename_i H
    refine op_range1 H (by tb_start) fun r t u v s' H => ?_
    refine ⟨_, _, [("cells", lsT hs (ksC st))], _, t, u, v, .head _, H, ?_, ?_, fun s' H => H⟩
    · intro c' C Dd i s E acc tl hw hi H
      repeat ktr_rel
      rename_i H
      refine op_mul H (by tb_start) (by tb_start) (by mul_fits) fun v s' H => ?_
      repeat ktr_rel
      rename_i H
      have e : ((st : Int) + 5 * (i : Int)).fmod 12 = (((st + 5 * i) % 12 : Nat) : Int) := by rw [Int.fmod_eq_emod_of_nonneg _ (by decide)]; push_cast; rfl
      rw [e] at H
      generalize hj : (st + 5 * i) % 12 = j at *
      refine op_item (i := j) H (.inl (by tb_start)) (by tb_start) (by omega) (d := trip (tri hs j)) ?_ (by omega) (fun v H => ?_)
      · have : j < 12 := by omega
        rw [Int.toNat_natCast, List.getElem?_map, List.getElem?_map, ksW, List.getElem?_range this]; rfl
      exact ⟨_, .head _, H⟩
    · refine .new (congrArg D.lst ?_) .nil
      rw [ksC, List.map_map, List.map_map]; rfl
  clear H
  intro s' H
  -- by_works
  refine seqG (P := fun s' => ∃ tc, TabCh tc ∧ St c₂ [] ((L, .ns (ln11 hs st)) :: lcP L hs st tc) s') ?_ ?_
  · repeat ktr_rel
    rename_i H
    refine op_newTup (ds := [.int 0, .int 1]) H (mem2 (by tb_start) (by tb_start)) rfl (Nat.le_of_ble_eq_true rfl) fun v s' H => ?_
    repeat ktr_rel
    rename_i H
    refine op_newTup (ds := [.int 1, .int 1]) H (mem2 (by tb_start) (by tb_start)) rfl (Nat.le_of_ble_eq_true rfl) fun v s' H => ?_
    repeat ktr_rel
    refine op_newList (ds := [pairD (0, 1), pairD (1, 1)]) H (mem2 (by tb_start) (by tb_start)) rfl (Nat.le_of_ble_eq_true rfl) fun v s' H => ?_
    repeat ktr_rel
    refine law_listed_ok (hs := hs) (ks := ksC st) (cols := [(0, 1), (1, 1)]) (tc := [(120, .obj (tabObj #[]))]) (St.fwd (mx := (L, _) :: lc L _ _ _ _) H) .none ((hr2 _).less (by decide)) (by tb_start) (.head _) (by simp [ksC]) (goodQ_ok (sorts st hst12).1.1) fun r tc' s' htc' H => ?_
    rw [show (ksC st).length = 12 by simp [ksC], (sorts st hst12).1.2] at H
    refine sto (σ' := (ln11 hs st)) (St.fwd (mu := (L, _) :: lc L _ _ _ _) H) (.head _) (by ktr_room) fun s' H => ⟨rfl, tc', htc', H.drop⟩
  clear H
  rintro s' ⟨tc, htc, H⟩
  -- by_desks
  refine seqG (P := fun s' => ∃ tc, TabCh tc ∧ St c₂ [] ((L, .ns (ln9 hs st)) :: lcP L hs st tc) s') ?_ ?_
  · repeat ktr_rel
    rename_i H
    refine op_newTup (ds := [.int 1, .int 1]) H (mem2 (by tb_start) (by tb_start)) rfl (Nat.le_of_ble_eq_true rfl) fun v s' H => ?_
    repeat ktr_rel
    rename_i H
    refine op_newTup (ds := [.int 0, .int 1]) H (mem2 (by tb_start) (by tb_start)) rfl (Nat.le_of_ble_eq_true rfl) fun v s' H => ?_
    repeat ktr_rel
    refine op_newList (ds := [pairD (1, 1), pairD (0, 1)]) H (mem2 (by tb_start) (by tb_start)) rfl (Nat.le_of_ble_eq_true rfl) fun v s' H => ?_
    repeat ktr_rel
    refine law_listed_ok (hs := hs) (ks := ksC st) (cols := [(1, 1), (0, 1)]) (tc := tc) (St.fwd (mx := (L, _) :: lc L _ _ _ _) H) htc ((hr2 _).less (by decide)) (by tb_start) (.head _) (by simp [ksC]) (goodQ_ok (sorts st hst12).2.1.1) fun r tc' s' htc' H => ?_
    rw [show (ksC st).length = 12 by simp [ksC], (sorts st hst12).2.1.2] at H
    refine sto (σ' := (ln9 hs st)) (St.fwd (mu := (L, _) :: lc L _ _ _ _) H) (.head _) (by ktr_room) fun s' H => ⟨rfl, tc', htc', H.drop⟩
  clear H htc
  rintro s' ⟨tc, htc, H⟩
  -- turned
  refine seqG (P := fun s' => ∃ tc, TabCh tc ∧ St c₂ [] ((L, .ns (ln10 hs st)) :: lcP L hs st tc) s') ?_ ?_
  · repeat ktr_rel
    rename_i H
    refine op_newTup (ds := [.int 0, .int (-1)]) H (mem2 (by tb_start) (by tb_start)) rfl (Nat.le_of_ble_eq_true rfl) fun v s' H => ?_
    repeat ktr_rel
    rename_i H
    refine op_newTup (ds := [.int 1, .int (-1)]) H (mem2 (by tb_start) (by tb_start)) rfl (Nat.le_of_ble_eq_true rfl) fun v s' H => ?_
    repeat ktr_rel
    refine op_newList (ds := [pairD (0, -1), pairD (1, -1)]) H (mem2 (by tb_start) (by tb_start)) rfl (Nat.le_of_ble_eq_true rfl) fun v s' H => ?_
    repeat ktr_rel
    refine law_listed_ok (hs := hs) (ks := ksC st) (cols := [(0, -1), (1, -1)]) (tc := tc) (St.fwd (mx := (L, _) :: lc L _ _ _ _) H) htc ((hr2 _).less (by decide)) (by tb_start) (.head _) (by simp [ksC]) (goodQ_ok (sorts st hst12).2.2.1) fun r tc' s' htc' H => ?_
    rw [show (ksC st).length = 12 by simp [ksC], (sorts st hst12).2.2.2] at H
    refine sto (σ' := (ln10 hs st)) (St.fwd (mu := (L, _) :: lc L _ _ _ _) H) (.head _) (by ktr_room) fun s' H => ⟨rfl, tc', htc', H.drop⟩
  clear H htc
  rintro s' ⟨tc, htc, H⟩
  have hu : ∀ env, (A.deeper env).units + 64 < cLine := fun env => by have := (hr2 env).units; omega
  -- asked1
  refine seqG (P := St c₂ [] ((L, .ns (ln10 hs st)) :: lcP L hs st tc)) ?_ ?_
  · refine wpAny_If ?_
    repeat ktr_rel
    rename_i H
    refine op_neT (l := trips hs ksW) (m := trips hs ksW) H (by exact hu _) (by tb_start) (by tb_start) ?_
    rw [show (!decide (trips hs ksW = trips hs ksW)) = false by simp]
    repeat ktr_rel
    refine rng_val (n := 12) (fun n => trip (tri hs (11 - n))) (cl := [("plain", L + 1 + 1 + 1)]) rfl (hr2 _).handled (by omega) ?_
    repeat ktr_rel
    rename_i H
    refine op_range1 H (by tb_start) fun r t u v s' H => ?_
    refine ⟨_, _, t, u, v, .head _, H, ?_, fun v s' H => ?_⟩
    · intro c' C Dd i s E acc tl hw hi H
      repeat ktr_rel
      rename_i H
      have e : (11 : Int) - (i : Int) = ((11 - i : Nat) : Int) := by omega
      rw [e] at H
      generalize hj : 11 - i = j at *
      refine op_item (i := j) H (.inl (by tb_start)) (by tb_start) (by omega) (d := trip (tri hs j)) ?_ (by omega) (fun v H => ?_)
      · have : j < 12 := by omega
        rw [Int.toNat_natCast, List.getElem?_map, List.getElem?_map, ksW, List.getElem?_range this]; rfl
      exact ⟨_, .head _, H⟩
    · have e : (List.range 12).map (fun n => trip (tri hs (11 - n))) = (ksT.map (tri hs)).map trip := by rw [List.map_map]; rfl
      rw [e] at H
      refine op_neT (l := trips hs ksT) (m := trips hs ksT) H (by exact hu _) (by tb_start) (by tb_start) ?_
      rw [show (!decide (trips hs ksT = trips hs ksT)) = false by simp]
      repeat ktr_rel
  clear H
  intro s' H
  -- asked2
  refine seqG (P := St c₂ [] ((L, .ns (ln10 hs st)) :: lcP L hs st tc)) ?_ ?_
  · refine wpAny_If ?_
    repeat ktr_rel
    refine ev_comp2 (cl := [("plain", L + 1 + 1 + 1)]) rfl ?_
    repeat ktr_rel
    rename_i H
    refine op_range1 H (by tb_start) fun r t u v s' H => ?_
    refine it_range (n := 3) H (by tb_start) (size_to 3) (small_to (n := 3) (by decide)) fun it s' H => ?_
    refine ⟨it, _, _, _, _, _, fun desk => (List.range 4).map fun work => trip (tri hs (3 * work + desk)), rfl, fun c' _ => its_range (hr2 _).handled, by simp, by simp, H, ?_, fun v s' H => ?_⟩
    · rintro c₄ C Dd j d v s E acc hw₄ hd H
      have hj : j < 3 := by simpa using (List.getElem?_eq_some_iff.mp hd).1
      obtain rfl : d = .int j := by rw [List.getElem?_map, List.getElem?_range hj] at hd; simpa using hd.symm
      generalize htl1 : tlR it 0 1 3 (j + 1) = tl1 at H ⊢
      refine own_name (wpAny_assign_Name (sto (σ' := [("desk", .int j)]) H (.head _) (by ktr_room) fun s' H => ?_))
      repeat ktr_rel
      rename_i H
      refine op_range1 H (by tb_start) fun r t u v s' H => ?_
      refine it_range (n := 4) H (by tb_start) (size_to 4) (small_to (n := 4) (by decide)) fun it2 s' H => ?_
      refine ⟨it2, _, _, _, _, _, fun work => some (trip (tri hs (3 * work + j))), rfl, fun c' _ => its_range (hr2 _).handled, by simp, H, ?_, ?_⟩
      · rw [List.length_map, List.length_range, range_sel]
      · rintro c₅ i d v s E acc hw₅ hd H
        have hi : i < 4 := by simpa using (List.getElem?_eq_some_iff.mp hd).1
        obtain rfl : d = .int i := by rw [List.getElem?_map, List.getElem?_range hi] at hd; simpa using hd.symm
        generalize htl2 : tlR it2 0 1 4 (i + 1) = tl2 at H ⊢
        refine own_name (wpAny_assign_Name (sto (σ' := [("work", .int i), ("desk", .int j)]) H (.head _) (by ktr_room) fun s' H => ?_))
        refine wpAny_tests_nil ?_
        rw [if_pos rfl]
        repeat ktr_rel
        rename_i H
        refine op_mul H (by tb_start) (by tb_start) (by mul_fits) fun v s' H => ?_
        repeat ktr_rel
        rename_i H
        have e : (3 : Int) * (i : Int) + (j : Int) = ((3 * i + j : Nat) : Int) := by push_cast; rfl
        rw [e] at H
        generalize hk : 3 * i + j = kk at *
        refine op_item (i := kk) H (.inl (by tb_start)) (by tb_start) (by omega) (d := trip (tri hs kk)) ?_ (by omega) (fun v H => ?_)
        · have : kk < 12 := by omega
          rw [Int.toNat_natCast, List.getElem?_map, List.getElem?_map, ksW, List.getElem?_range this]; rfl
        exact ⟨_, trip (tri hs kk), by rw [← hk], .head _, H.nsSub (fun p hp => .tail _ hp)⟩
    · rw [List.length_map, List.length_range] at H
      have e : (List.range 3).flatMap (fun desk => (List.range 4).map fun work => trip (tri hs (3 * work + desk))) = (ksD.map (tri hs)).map trip := rfl
      rw [e] at H
      refine op_neT (l := trips hs ksD) (m := trips hs ksD) H (by exact hu _) (by tb_start) (by tb_start) ?_
      rw [show (!decide (trips hs ksD = trips hs ksD)) = false by simp]
      repeat ktr_rel
  clear H
  intro s' H
  have hb256 : ∀ l : List Int, (∀ h ∈ l, 0 ≤ h ∧ h ≤ 3) → ∀ n ∈ l, 0 ≤ n ∧ n < 256 := fun l hl n hn => by have := hl n hn; omega
  have hrb := rvs_bd hhl hhb
  have hrl := rvs_length (hs := hs)
  have hsW := sizesW hhl
  -- table
  refine seqG (P := St c₂ [] ((L, .ns (ln8 hs st)) :: lcP L hs st tc)) ?_ ?_
  · repeat ktr_rel
    refine tri_val (l := trips hs ksW) (fun t => .int t.2.2) (cl := []) rfl (hr2 _).handled (by simp [trips, ksW]) ?_
    repeat ktr_rel
    rename_i H
    refine ⟨_, _, .head _, H, ?_, fun v s' H => ?_⟩
    · intro c' C Dd t s E acc tl hw ht H
      repeat ktr_rel
      rename_i H
      exact ⟨_, .head _, H⟩
    · have e : (trips hs ksW).map (fun t => D.int t.2.2) = hs.map .int := by rw [← hsW, List.map_map]; rw [hsW]; rfl
      rw [e] at H
      repeat ktr_rel
      refine op_bytesL (hr2 _).handled H (.head _) (hb256 _ hhb) (by omega) fun v s' H => ?_
      exact sto_end H (.head _) (by ktr_room)
  clear H
  intro s' H
  -- mirror
  refine execsG_cons (assignG (callNameG ?_))
  repeat ktr_rel
  refine callWithG_K (by rfl) ?_
  repeat ktr_rel
  rename_i H
  refine byteswap_ok (l := bts hs) H ((hr2 _).less (by decide)) (by tb_start) (.head _) (by rw [bts, List.length_map, hhl]) fun r s' H => ?_
  rw [swp12 hhl] at H
  refine sto (σ' := (ln7 hs st)) H (.head _) (by ktr_room) fun s' H => ?_
  replace H := H.drop
  refine wpG_of ?_
  -- asked3
  refine seq (P := St c₂ [] ((L, .ns (ln7 hs st)) :: lcP L hs st tc)) ?_ ?_
  · refine wpAny_If ?_
    repeat ktr_rel
    refine tri_val (l := trips hs ksT) (fun t => .int t.2.2) (cl := []) rfl (hr2 _).handled (by simp [trips, ksT]) ?_
    repeat ktr_rel
    rename_i H
    refine ⟨_, _, .head _, H, ?_, fun v s' H => ?_⟩
    · intro c' C Dd t s E acc tl hw ht H
      repeat ktr_rel
      rename_i H
      exact ⟨_, .head _, H⟩
    · have e : (trips hs ksT).map (fun t => D.int t.2.2) = (rvs hs).map .int := rfl
      rw [e] at H
      repeat ktr_rel
      refine op_bytesL (hr2 _).handled H (.head _) (hb256 _ hrb) (by omega) fun v s' H => ?_
      refine op_neB H (by tb_start) (.head _) ?_
      rw [show ((byteArr (rvs hs)).toList != (byteArr (rvs hs)).toList) = false by simp]
      repeat ktr_rel
  clear H
  intro s' H
  have hEl : (endsTo hs 12).length = 12 := endsTo_length hs 12
  have hRl : (endsTo (rvs hs) 12).length = 12 := endsTo_length (rvs hs) 12
  have G1 := good1 hhl hhb
  have G2 := good2 hhl hhb
  have G3 := good3r hhl hhb
  have hb1000 : ∀ h ∈ hs, 0 ≤ h ∧ h ≤ 1000 := fun h hh => by have := hhb h hh; omega
  -- ends
  refine seq (P := St c₂ [] ((L, .ns (ln7 hs st)) :: lcE L hs st tc)) ?_ ?_
  · repeat ktr_rel
    rename_i H
    refine law_ends_ok (hs := hs) H ((hr2 _).less (by decide)) (.head _) hhl fun r s' H => ?_
    exact sto_cell (i := 1) H (.head _) rfl rfl fun s' H => ⟨rfl, H.drop⟩
  clear H
  intro s' H
  -- rests
  refine seq (P := St c₂ [] ((L, .ns (ln5 hs st)) :: lcE L hs st tc)) ?_ ?_
  · repeat ktr_rel
    refine rng_val (n := 12) (fun k => .int (hs.getD (11 - k) 0)) (cl := [("hours", L + 1)]) rfl (hr2 _).handled (by omega) ?_
    repeat ktr_rel
    rename_i H
    refine op_range1 H (by tb_start) fun r t u v s' H => ?_
    refine ⟨_, _, t, u, v, .head _, H, ?_, fun v s' H => ?_⟩
    · intro c' C Dd i s E acc tl hw hi H
      repeat ktr_rel
      rename_i H
      have e : (11 : Int) - (i : Int) = ((11 - i : Nat) : Int) := by omega
      rw [e] at H
      refine op_itemN (i := (11 - i)) H (.inl (by tb_start)) (by tb_start) (by omega) (by omega) (fun v H => ?_)
      exact ⟨_, .head _, H⟩
    · have e : (List.range 12).map (fun k => D.int (hs.getD (11 - k) 0)) = (rvs hs).map .int := by rw [rvs, List.map_map]; rfl
      rw [e] at H
      repeat ktr_rel
      refine law_ends_ok (hs := rvs hs) H ((hr2 _).less (by decide)) (.head _) hrl fun r s' H => ?_
      exact sto_end H (.head _) (by ktr_room)
  clear H
  intro s' H
  -- desks
  refine seq (P := St c₂ [] ((L, .ns (ln4 hs st)) :: lcE L hs st tc)) ?_ ?_
  · refine rng_sto (n := 3) (fun j => .int (hs.getD j 0 + hs.getD (3 + j) 0 + hs.getD (6 + j) 0 + hs.getD (9 + j) 0)) (cl := [("hours", L + 1)]) rfl (hr2 _).handled (by omega) ?_
    repeat ktr_rel
    rename_i H
    refine op_range1 H (by tb_start) fun r t u v s' H => ?_
    refine ⟨_, _, (ln4 hs st), _, t, u, v, .head _, H, ?_, ?_, fun s' H => H⟩
    · intro c' C Dd i s E acc tl hw hi H
      have e3 : (3 : Int) + (i : Int) = ((3 + i : Nat) : Int) := by push_cast; rfl
      have e6 : (6 : Int) + (i : Int) = ((6 + i : Nat) : Int) := by push_cast; rfl
      have e9 : (9 : Int) + (i : Int) = ((9 + i : Nat) : Int) := by push_cast; rfl
      repeat ktr_rel
      rename_i H
      refine op_itemN (i := i) H (.inl (by tb_start)) (by tb_start) (by omega) (by omega) (fun v H => ?_)
      repeat ktr_rel
      rename_i H
      rw [e3] at H
      refine op_itemN (i := (3 + i)) H (.inl (by tb_start)) (by tb_start) (by omega) (by omega) (fun v H => ?_)
      repeat ktr_rel
      rename_i H
      rw [e6] at H
      refine op_itemN (i := (6 + i)) H (.inl (by tb_start)) (by tb_start) (by omega) (by omega) (fun v H => ?_)
      repeat ktr_rel
      rename_i H
      rw [e9] at H
      refine op_itemN (i := (9 + i)) H (.inl (by tb_start)) (by tb_start) (by omega) (by omega) (fun v H => ?_)
      repeat ktr_rel
      rename_i H
      exact ⟨_, .head _, H⟩
    · refine .new (congrArg D.lst ?_) ?_
      · rw [desksL, List.map_map]; rfl
      · ktr_room
  clear H
  intro s' H
  -- works
  refine seq (P := St c₂ [] ((L, .ns (ln2 hs st)) :: lcE L hs st tc)) ?_ ?_
  · refine rng_sto (n := 4) (fun i => .int (hs.getD (3 * i) 0 + hs.getD (3 * i + 1) 0 + hs.getD (3 * i + 2) 0)) (cl := [("hours", L + 1)]) rfl (hr2 _).handled (by omega) ?_
    repeat ktr_rel
    rename_i H
    refine op_range1 H (by tb_start) fun r t u v s' H => ?_
    refine ⟨_, _, (ln2 hs st), _, t, u, v, .head _, H, ?_, ?_, fun s' H => H⟩
    · intro c' C Dd i s E acc tl hw hi H
      have e3 : (3 : Int) * (i : Int) = ((3 * i : Nat) : Int) := by push_cast; rfl
      have e6 : ((3 * i : Nat) : Int) + 1 = ((3 * i + 1 : Nat) : Int) := by push_cast; rfl
      have e9 : ((3 * i : Nat) : Int) + 2 = ((3 * i + 2 : Nat) : Int) := by push_cast; rfl
      repeat ktr_rel
      rename_i H
      refine op_mul H (by tb_start) (by tb_start) (by mul_fits) fun v s' H => ?_
      rw [e3] at H
      refine op_itemN (i := (3 * i)) H (.inl (by tb_start)) (by tb_start) (by omega) (by omega) (fun v H => ?_)
      repeat ktr_rel
      rename_i H
      refine op_mul H (by tb_start) (by tb_start) (by mul_fits) fun v s' H => ?_
      rw [e3] at H
      repeat ktr_rel
      rename_i H
      rw [e6] at H
      refine op_itemN (i := (3 * i + 1)) H (.inl (by tb_start)) (by tb_start) (by omega) (by omega) (fun v H => ?_)
      repeat ktr_rel
      rename_i H
      refine op_mul H (by tb_start) (by tb_start) (by mul_fits) fun v s' H => ?_
      rw [e3] at H
      repeat ktr_rel
      rename_i H
      rw [e9] at H
      refine op_itemN (i := (3 * i + 2)) H (.inl (by tb_start)) (by tb_start) (by omega) (by omega) (fun v H => ?_)
      repeat ktr_rel
      rename_i H
      exact ⟨_, .head _, H⟩
    · refine .new (congrArg D.lst ?_) ?_
      · rw [worksL, List.map_map]; rfl
      · ktr_room
  clear H
  intro s' H
  -- two
  refine seq (P := St c₂ [] ((L, .ns (ln0 hs st)) :: lcE L hs st tc)) ?_ ?_
  · repeat ktr_rel
    rename_i H
    refine law_two_ways_ok (hs := hs) H ((hr2 _).less (by decide)) (.head _) hhl hb1000 fun r s' H => ?_
    exact sto_end H (.head _) (by ktr_room)
  clear H
  intro s' H
  -- asked4
  refine seq (P := St c₂ [] ((L, .ns (ln3 hs st)) :: lcE L hs st tc)) ?_ ?_
  · refine wpAny_If (wpAny_isTrue_Not ?_)
    repeat ktr_rel
    refine tri_val (l := trips hs ksW) (fun t => .int t.2.1) (cl := []) rfl (hr2 _).handled (by simp [trips, ksW]) ?_
    repeat ktr_rel
    rename_i H
    refine ⟨_, _, .head _, H, ?_, fun v s' H => ?_⟩
    · intro c' C Dd t s E acc tl hw ht H
      repeat ktr_rel
      rename_i H
      exact ⟨_, .head _, H⟩
    · have e : (trips hs ksW).map (fun t => D.int t.2.1) = ((trips hs ksW).map fun t => t.2.1).map .int := by rw [List.map_map]; rfl
      rw [e] at H
      repeat ktr_rel
      refine ev_sliceT (wpAny_evalPart_some ?_)
      ktr_rel
      rename_i H
      refine wpAny_evalPart_none ⟨_, _, (endsTo hs 12).map .int, some 9, none, H, .inl (by tb_start), by simp; omega, .int (by tb_start), .none, fun v s' H => ?_⟩
      rw [pick_map, pick9 hEl] at H
      repeat ktr_rel
      rename_i H
      refine law_holds_ok H ((hr2 _).less (by decide)) (by tb_start) (by tb_start) (.byt _ (bts_nat hhb)) (by tb_start) (by tb_start) (by tb_start) (by tb_start) G1.hl1 G1.hl2 G1.hs G1.hm0 G1.hm G1.htm G1.hsz2 G1.htot G1.e1 G1.e2 G1.e3 G1.e4 G1.e5 fun r s' H => ?_
      cases H.isLit (.head _)
      ktr_rel
      rw [if_neg (by simp)]
      refine nil_next (H.drop.nsSub ?_)
      intro p hp
      simp at hp ⊢
      rcases hp with rfl | rfl | rfl | rfl | rfl | rfl | rfl <;> simp
  clear H
  intro s' H
  -- across
  refine seq (P := St c₂ [] ((L, .ns (ln1 hs st)) :: lcE L hs st tc)) ?_ ?_
  · refine tri_sto (l := trips hs ksD) (fun t => .int ((endsTo hs 12).getD (3 * t.1 + t.2.1).toNat 0)) (cl := [("ends", L + 1 + 1 + 1 + 1)]) rfl (hr2 _).handled (by simp [trips, ksD]) ?_
    repeat ktr_rel
    rename_i H
    refine ⟨_, _, (ln1 hs st), _, .head _, H, ?_, ?_, fun s' H => H⟩
    · intro c' C Dd t s E acc tl hw ht H
      obtain ⟨k, hk, rfl⟩ := trips_mem ht (by decide)
      have e : 3 * (tri hs k).1 + (tri hs k).2.1 = (k : Int) := by simp only [tri]; omega
      repeat ktr_rel
      rename_i H
      refine op_mul H (by tb_start) (by tb_start) (by mul_fits) fun v s' H => ?_
      repeat ktr_rel
      rename_i H
      rw [e] at H ⊢
      refine op_itemN (i := k) H (.inl (by tb_start)) (by tb_start) (by omega) (by omega) (fun v H => ?_)
      exact ⟨_, by rw [Int.toNat_natCast]; exact .head _, H⟩
    · refine .new (congrArg D.lst ?_) ?_
      · rfl
      · ktr_room
  clear H
  intro s' H
  -- asked5
  refine seq (P := St c₂ [] ((L, .ns (ln6 hs st)) :: lcE L hs st tc)) ?_ ?_
  · refine wpAny_If (wpAny_isTrue_Not ?_)
    repeat ktr_rel
    refine tri_val (l := trips hs ksD) (fun t => .int t.1) (cl := []) rfl (hr2 _).handled (by simp [trips, ksD]) ?_
    repeat ktr_rel
    rename_i H
    refine ⟨_, _, .head _, H, ?_, fun v s' H => ?_⟩
    · intro c' C Dd t s E acc tl hw ht H
      repeat ktr_rel
      rename_i H
      exact ⟨_, .head _, H⟩
    have e : (trips hs ksD).map (fun t => D.int t.1) = ((trips hs ksD).map fun t => t.1).map .int := by rw [List.map_map]; rfl
    rw [e] at H
    repeat ktr_rel
    refine tri_val (l := trips hs ksD) (fun t => .int t.2.2) (cl := []) rfl (hr2 _).handled (by simp [trips, ksD]) ?_
    repeat ktr_rel
    rename_i H
    refine ⟨_, _, .head _, H, ?_, fun v s' H => ?_⟩
    · intro c' C Dd t s E acc tl hw ht H
      repeat ktr_rel
      rename_i H
      exact ⟨_, .head _, H⟩
    rw [sizesD_eq hhl hhb] at H
    repeat ktr_rel
    rename_i H
    refine op_itemN (i := 2) H (.inl (by tb_start)) (by tb_start) (by omega) (by omega) (fun v H => ?_)
    repeat ktr_rel
    rename_i H
    refine op_itemN (i := 5) H (.inl (by tb_start)) (by tb_start) (by omega) (by omega) (fun v H => ?_)
    repeat ktr_rel
    rename_i H
    refine op_itemN (i := 8) H (.inl (by tb_start)) (by tb_start) (by omega) (by omega) (fun v H => ?_)
    repeat ktr_rel
    rename_i H
    refine op_itemN (i := 11) H (.inl (by tb_start)) (by tb_start) (by omega) (by omega) (fun v H => ?_)
    repeat ktr_rel
    refine op_newList (ds := [(endsTo hs 12).getD 2 0, (endsTo hs 12).getD 5 0, (endsTo hs 12).getD 8 0, (endsTo hs 12).getD 11 0].map .int) H (mem4 (by tb_start) (by tb_start) (by tb_start) (by tb_start)) rfl (Nat.le_of_ble_eq_true rfl) fun v s' H => ?_
    repeat ktr_rel
    rename_i H
    refine law_holds_ok H ((hr2 _).less (by decide)) (by tb_start) (by tb_start) .lst (by tb_start) (by tb_start) (by tb_start) (by tb_start) G2.hl1 G2.hl2 G2.hs G2.hm0 G2.hm G2.htm G2.hsz2 G2.htot G2.e1 G2.e2 G2.e3 G2.e4 G2.e5 fun r s' H => ?_
    cases H.isLit (.head _)
    ktr_rel
    rw [if_neg (by simp)]
    refine nil_next (H.drop.nsSub ?_)
    intro p hp
    simp at hp ⊢
    rcases hp with rfl | rfl | rfl | rfl | rfl <;> simp
  clear H
  intro s' H
  -- the last reading
  refine wpAny_execs_cons ?_
  repeat ktr_rel
  refine tri_val (l := trips hs ksT) (fun t => .int (2 - t.2.1)) (cl := []) rfl (hr2 _).handled (by simp [trips, ksT]) ?_
  repeat ktr_rel
  rename_i H
  refine ⟨_, _, .head _, H, ?_, fun v s' H => ?_⟩
  · intro c' C Dd t s E acc tl hw ht H
    repeat ktr_rel
    rename_i H
    refine isub_ok H ((hr2 _).less (by decide)) (by tb_start) (by tb_start) fun r s' H => ?_
    exact ⟨_, .head _, H⟩
  have e : (trips hs ksT).map (fun t => D.int (2 - t.2.1)) = ((trips hs ksT).map fun t => 2 - t.2.1).map .int := by rw [List.map_map]; rfl
  rw [e] at H
  repeat ktr_rel
  refine ev_sliceT (wpAny_evalPart_some ?_)
  ktr_rel
  rename_i H
  refine wpAny_evalPart_none ⟨_, _, (endsTo (rvs hs) 12).map .int, some 9, none, H, .inl (by tb_start), by simp; omega, .int (by tb_start), .none, fun v s' H => ?_⟩
  rw [pick_map, pick9 hRl] at H
  have hdl : (desksL hs).length = 3 := by simp [desksL]
  repeat ktr_rel
  rename_i H
  refine op_itemN (i := 2) H (.inl (by tb_start)) (by tb_start) (by omega) (by omega) (fun v H => ?_)
  repeat ktr_rel
  rename_i H
  refine op_itemN (i := 1) H (.inl (by tb_start)) (by tb_start) (by omega) (by omega) (fun v H => ?_)
  repeat ktr_rel
  rename_i H
  refine op_itemN (i := 0) H (.inl (by tb_start)) (by tb_start) (by omega) (by omega) (fun v H => ?_)
  repeat ktr_rel
  refine op_newList (ds := [(desksL hs).getD 2 0, (desksL hs).getD 1 0, (desksL hs).getD 0 0].map .int) H (mem3 (by tb_start) (by tb_start) (by tb_start)) rfl (Nat.le_of_ble_eq_true rfl) fun v s' H => ?_
  repeat ktr_rel
  rename_i H
  refine law_holds_ok H ((hr2 _).less (by decide)) (by tb_start) (by tb_start) (.byt _ (bts_nat hrb)) (by tb_start) (by tb_start) (by tb_start) (by tb_start) G3.hl1 G3.hl2 G3.hs G3.hm0 G3.hm G3.htm G3.hsz2 G3.htot G3.e1 G3.e2 G3.e3 G3.e4 G3.e5 fun r s' H => ?_
  cases H.isLit (.head _)
  have H1 := (back _ _ _ ((L, _) :: lc L _ _ _ _) tc _ (.head _) H).drop
  rw [List.append_nil] at H1
  exact k tc _ htc H1
end
/-! ZFN -/
theorem repAll_ints {w : World} {g : GH} {vs : List Value} {ns : List Int} (h : IntsAre vs ns) : RepAll w g vs (ns.map .int) := by
  induction h with
  | nil => exact .nil
  | cons x t _ ih => exact .cons (.int x t) ih
/-- the law's start -/
theorem start_st {w : World} {s : Shared} {la : Addr} {vs : List Value} {ns : List Int} {p : Program} {loose : List Str} {mean : ExcName → Option Value} {mg mb : Str → Option Value} (TA : TabsAt [(124, 120)] s.heap)
    (KG : (KH w).In (ghostOf s.heap [(124, 120)])) (CG : CodeAll [(124, 120)] (ghostOf s.heap [(124, 120)])) (TG : Top p loose mean mg mb (ghostOf s.heap [(124, 120)])) (hL : s.heap.IsList la vs.toArray) (hI : IntsAre vs ns) :
    St ⟨w, s.gens, s.os, (ghostOf s.heap [(124, 120)]).get?, fun _ => none⟩ [(.ref la, .lsi (ns.map .int))] [(120, .obj (tabObj #[]))] s := by
  refine ⟨rfl, rfl, (ghostOf s.heap [(124, 120)]).get?, GLe.refl _, fun h hh => ⟨fun a o e => hh _ _ (KG a o e), CG.1.keeps hh, _, _, _, _, _, TG.keeps hh⟩, fun b o e => of_hideAll _ e, fun b o e => (by cases e), fun b o e => (by cases e), fun q hq => ?_, fun q hq => ?_, fun q hq => ?_, ?_⟩
  · rw [List.mem_singleton.mp hq]
    obtain ⟨o, ho, hc, n, hd⟩ := hL
    obtain ⟨h1, h2⟩ := repAll_ints (w := w) (g := (ghostOf s.heap [(124, 120)]).get?) hI
    exact .lsi (ghost_get TA ho (fun q => by rw [q] at hc; cases hc)) hc hd h1 h2
  · rw [List.mem_singleton.mp hq]
    exact (TA (124, 120) (.head _)).2
  · rw [List.mem_singleton.mp hq]
    exact ⟨hideAll_none _ (.head _), rfl⟩
  · simp
theorem end_old {w : World} {s s' : Shared} {c : Cx} {tc : List (Addr × MD)} (hc : c.g₀ = (ghostOf s.heap [(124, 120)]).get?) (TA : TabsAt [(124, 120)] s.heap) (htc : TabCh tc) (H : St c [] tc s') : OldK s.heap s'.heap := by
  obtain ⟨ge, os, g, le, C⟩ := H
  have keep : ∀ b o, b ≠ 120 → s.heap.get? b = some o → s'.heap.get? b = some o := fun b o hb e =>
    C.kg b o (le b o (by rw [hc]; exact ghost_ne e (by simpa using hb)))
  have tab : ∃ ps, s'.heap.get? 120 = some (tabObj ps) := by
    cases htc with
    | none => exact ⟨_, C.mr _ (.head _)⟩
    | some c' oc vs t hd hv => exact ⟨_, C.mr _ (.head _)⟩
  obtain ⟨ps, hps⟩ := tab
  obtain ⟨C0, hT⟩ := TA (124, 120) (.head _)
  refine ⟨fun b o e => ?_, fun b o e => ?_⟩
  · by_cases hb : b = 120
    · subst hb
      have e0 : o = tabObj #[] := Option.some.inj (e.symm.trans hT)
      subst e0
      exact .inr (.inl ⟨(C0.tab hT).isCodeTable, rfl, #[], ps, rfl, by rw [Array.empty_append]; exact hps⟩)
    · exact .inl (keep b o hb e)
  · by_cases hb : b = 120
    · subst hb; exact ⟨_, hps⟩
    · exact ⟨o, keep b o hb e⟩
theorem caller_room : Rm callerA 10 := ⟨rfl, by decide, by decide⟩
end Zn
theorem PySem.Challenge.cw_zn0022_01_holds : PySem.Challenge.rw_zn0022_01.Holds := by
  refine PySem.W.holds_law Zn.said fun _ => Zn.hd ?_
  intro w s₀ s₁ mg mb G Y fa o pm cd doc dV kV ho hdd hcd hD hmg hg args vals as hpre hlay hrd hwl hlo
  have KX := km_in_of Y
  have hT : s₁.heap.get? 120 = some (tabObj #[]) := km_tabs_of Y 120 (.head _)
  have C : CodeHd s₁.heap 124 120 := codeHd_of_K KX (by kernel_rfl)
  have TA : TabsAt [(124, 120)] s₁.heap := fun q hq => by rw [List.mem_singleton.mp hq]; exact ⟨C, hT⟩
  have T := G.T
  have hfa : fa = 156 := by
    have e := mg_of KX T.g (n := "law") (show nsIn (Zn.hd.heap_1 w.params) mainGlobals "law" = some (some (.ref 156)) from rfl)
    rw [show mg "law" = some (.ref fa) from hmg] at e
    cases e; rfl
  subst hfa
  clear ho hdd hcd hD hmg
  have KG := ghost_K TA KX (by kernel_rfl)
  have TG := ghost_top TA T
  have CG := ghost_code TA
  wrow_args hpre hlay hrd hwl hlo
  rename_i ns _ _ _ _ _ _ _ la lvs _ hL _ _ _ hI _ hlen _
  have H := Zn.start_st (w := w) TA KG CG TG hL hI
  refine Zn.law_ok H Zn.caller_room (.head _) (by omega) fun tc s' htc H' => ?_
  refine ⟨.inl ⟨_, ofPy (.bool true), [], rfl, ?_, .bool _, ?_, ?_⟩, Zn.end_old (w := w) rfl TA htc H', H'.2.1, ?_⟩
  · intro cls; rfl
  · wrow_post
  · intro _; exact ⟨.nil, fun a ha => nomatch ha⟩
  · exact .of_eq (H'.1.trans hg)
