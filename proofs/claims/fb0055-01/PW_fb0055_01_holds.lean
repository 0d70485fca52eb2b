import PyProof.Rows.All
import Wide.All
import OpenK.AllK
import Wide.FinOn
import KE.BitLaws
import KE.KLcPair
import PySem.Challenge.RW_fb0055_01
open PySem PySem.W PySem.Calls PyProof.Rows
set_option Elab.async false
set_option maxRecDepth 100000
section
namespace Mine

/-- the ids whose presence on the stack makes a bytearray count as lent -/
def badIds : List String := Builtin.Bytes.decodersThatHold ++ ["bytearray.__contains__", "bytearray.__mod__", "bytearray.__rmod__", "_struct.pack_into.held", "bytearray.find.held"]
def okC : Code → Bool
  | .builtin id _ => !badIds.contains id
  | _ => true
def ClB (Γ : Ctx) : Prop := ∀ x ∈ Γ.below, okC x.1 = true
def Cl (Γ : Ctx) : Prop := okC Γ.code = true ∧ ClB Γ

theorem Cl.enter {Γ : Ctx} (h : Cl Γ) (c : Code) (hd : Option Value) (p : Pos) : ClB (Γ.enter c hd p) := fun x hx => by
  rcases List.mem_cons.mp hx with rfl | hx
  · exact h.1
  · exact h.2 x hx

/-- the tree runs to Q from every clean context, and never raises -/
def wpC {α : Type} (M : Model) (A : Around) (t : Sem α) (Q : α → Shared → Prop) (s : Shared) : Prop :=
  ∀ Γ p, Γ.In A → Cl Γ → Sem.wp M Γ t (fun a _ s' => Q a s') (fun _ _ _ => False) p s
/-- the code runs to a value -/
def codeC (M : Model) (A : Around) (c : Code) (R : Flow → Shared → Prop) (s : Shared) : Prop :=
  ∀ Γ p, Γ.code = c → Γ.Below A → ClB Γ → wpCode M Γ (fun r s' => match r with | .ok f => R f s' | .error _ => False) p s

section
variable {α β : Type} {M : Model} {A : Around} {s : Shared}
theorem wpC.of {t : Sem α} {Q : α → Shared → Prop} (h : wpAny M A t Q (fun _ _ => False) s) : wpC M A t Q s := fun Γ p hΓ _ => h Γ p hΓ
theorem wpC.pure {a : α} {Q : α → Shared → Prop} (h : Q a s) : wpC M A (pure a) Q s := .of (wpAny_pure h)
theorem wpC.mono {t : Sem α} {Q Q' : α → Shared → Prop} (h : wpC M A t Q s) (hQ : ∀ a s, Q a s → Q' a s) : wpC M A t Q' s :=
  fun Γ p hΓ hc => Sem.wp_mono M Γ t (fun a _ s => hQ a s) (fun _ _ _ x => x) p s (h Γ p hΓ hc)
theorem wpC.bind {m : Sem α} {f : α → Sem β} {Q : β → Shared → Prop} (h : wpC M A m (fun a s' => wpC M A (f a) Q s') s) : wpC M A (m >>= f) Q s := fun Γ p hΓ hc => by
  rw [Sem.wp_bind']
  exact Sem.wp_mono M Γ m (fun a p' s' h' => h' Γ p' hΓ hc) (fun _ _ _ h' => h') p s (h Γ p hΓ hc)
/-- a step of the library's, then the rest -/
theorem wpC.step {m : Sem α} {f : α → Sem β} {Q : β → Shared → Prop} (h : wpAny M A m (fun a s' => wpC M A (f a) Q s') (fun _ _ => False) s) : wpC M A (m >>= f) Q s := .bind (.of h)
theorem wpC.holding {vs : List Value} {m : Sem α} {Q : α → Shared → Prop} (h : wpC M A m Q s) : wpC M A (holding vs m) Q s :=
  fun Γ p hΓ hc => by rw [Sem.wp_holding]; exact h Γ p hΓ hc
theorem wpC.keep {vs : List Value} {m : Sem α} {Q : α → Shared → Prop} (h : wpC M A m Q s) : wpC M A (m.keep vs) Q s :=
  fun Γ p hΓ hc => by rw [Sem.wp_keep]; exact h Γ p hΓ hc
theorem wpC.onRaise {m : Sem α} {k : Value → Sem Unit} {Q : α → Shared → Prop} (h : wpC M A m Q s) : wpC M A (m.onRaise k) Q s := fun Γ p hΓ hc => by
  rw [Sem.wp_onRaise]
  exact Sem.wp_mono M Γ m (fun _ _ _ h' => h') (fun _ _ _ h' => h'.elim) p s (h Γ p hΓ hc)
theorem wpC.tryCatch {m : Sem α} {k : Value → Sem α} {Q : α → Shared → Prop} (h : wpC M A m Q s) : wpC M A (tryCatch m k) Q s := fun Γ p hΓ hc => by
  rw [Sem.wp_tryCatch']
  exact Sem.wp_mono M Γ m (fun _ _ _ h' => h') (fun _ _ _ h' => h'.elim) p s (h Γ p hΓ hc)
theorem wpC.eq {t t' : Sem α} {Q : α → Shared → Prop} (e : t = t') (h : wpC M A t' Q s) : wpC M A t Q s := e ▸ h
theorem wpC.run {c : Code} {Q : Flow → Shared → Prop} (hc : codeC M A c Q s) : wpC M A (PySem.run c) Q s :=
  fun Γ p hΓ hcl => by
    rw [Sem.wp_run]
    refine wpCode_mono (fun r s' h => ?_) (hc _ p rfl (hΓ.enter c none p (by intro x; cases x)) (hcl.enter c none p))
    cases r with
    | ok f => exact h
    | error e => exact h.elim
theorem wpC.runOwn {c : Code} {env : Env} {Q : Flow → Shared → Prop} (hc : codeC M A c Q s) : wpC M A (runOwn c env) Q s := wpC.onRaise (wpC.run hc)
theorem wpC.runValue {c : Code} {Q : Value → Shared → Prop} (hc : codeC M A c (fun f s' => match f with | .ret v => Q v s' | _ => False) s) : wpC M A (runValue c) Q s := by
  refine wpC.bind (wpC.run (fun Γ p a b d => wpCode_mono (fun r s' h => ?_) (hc Γ p a b d)))
  cases r with
  | error e => exact h
  | ok f => cases f with
    | ret v => exact wpC.pure h
    | _ => exact h.elim
theorem wpC.call {f : Value} {pos : List Value} {kw : List (Str × Value)} {Q : Value → Shared → Prop}
    (hc : codeC M A (.call f ⟨pos, kw⟩) (fun f s' => match f with | .ret v => Q v s' | _ => False) s) : wpC M A (PySem.call f pos kw) Q s := wpC.runValue hc

theorem codeC.mono {c : Code} {R R' : Flow → Shared → Prop} (h : codeC M A c R s) (hR : ∀ f s, R f s → R' f s) : codeC M A c R' s := fun Γ p a b d =>
  wpCode_mono (fun r s' x => by cases r with | ok f => exact hR f s' x | error e => exact x) (h Γ p a b d)
theorem codeC.of {c : Code} {R : Flow → Shared → Prop} (h : codeAny M A c (fun r s' => match r with | .ok f => R f s' | .error _ => False) s) : codeC M A c R s := fun Γ p a b _ => h Γ p a b
theorem codeC.tree {c : Code} {R : Flow → Shared → Prop} (ho : okC c = true)
    (h : wpC M (A.under c) (M.den c) (fun fin s' => match fin with | .done f => R f s' | .again c' => c'.quiet = true ∧ codeC M A c' R s') s) : codeC M A c R s := fun Γ p hc hΓ hcl => by
  rw [wpCode_iff_wp, hc]
  refine Sem.wp_mono M Γ _ (fun fin p' s' h' => ?_) (fun _ _ _ h' => h'.elim) p s (h Γ p (hc ▸ hΓ.in) ⟨hc ▸ ho, hcl⟩)
  cases fin with
  | done f => exact h'
  | again c' => exact ⟨h'.1, h'.2 (Γ.goto c') p' rfl (hΓ.goto c') hcl⟩
end
end Mine
end
section
namespace Mine
theorem any_clean {l : List (Code × Pos)} (h : ∀ x ∈ l, okC x.1 = true) (f : Code × Pos → Bool) (hf : ∀ c q, okC c = true → f (c, q) = false) : l.any f = false := by
  rw [List.any_eq_false]
  rintro ⟨c, q⟩ hx h2
  rw [hf c q (h _ hx)] at h2
  cases h2
theorem not_bad {id : String} (h : (!badIds.contains id) = true) : Builtin.Bytes.decodersThatHold.contains id = false := by
  cases q : Builtin.Bytes.decodersThatHold.contains id with
  | false => rfl
  | true =>
    exfalso
    have : badIds.contains id = true := by
      rw [List.contains_iff_mem] at q ⊢
      exact List.mem_append_left _ q
    rw [this] at h; cases h

theorem exported_C {M : Model} {A : Around} {s : Shared} {v : Value} {Q : Bool → Shared → Prop} (h : Q false s) : wpC M A (Builtin.Bytes.exported v) Q s := fun Γ p _ hc => by
  show Q (((Γ.code, p) :: Γ.below).any _) s
  rw [any_clean (l := (Γ.code, p) :: Γ.below) (fun x hx => by
      rcases List.mem_cons.mp hx with rfl | hx
      · exact hc.1
      · exact hc.2 _ hx) _ fun c q ho => ?_]
  · exact h
  · split <;> (try rfl) <;> rename_i e <;> (simp only [Prod.mk.injEq] at e; obtain ⟨rfl, _⟩ := e)
    · exact absurd ho (by show ¬ (!badIds.contains "bytearray.__contains__") = true; decide +kernel)
    · exact absurd ho (by show ¬ (!badIds.contains "bytearray.__mod__") = true; decide +kernel)
    · exact absurd ho (by show ¬ (!badIds.contains "bytearray.__rmod__") = true; decide +kernel)
    · exact absurd ho (by show ¬ (!badIds.contains "_struct.pack_into.held") = true; decide +kernel)
    · exact absurd ho (by show ¬ (!badIds.contains "bytearray.find.held") = true; decide +kernel)
    · rw [not_bad ho, Bool.and_false]
end Mine
end
section
namespace Mine
theorem callFrom_C {c : ClaimW} {tree : List Value → Sem Fin} {w : World} {s : Shared} {free : Addr → Prop} {gens : Prop} {kept : Heap → Prop} (hz : s.asleep) (hgens : s.gens = #[])
    (hspec : ∀ args, c.pre args = true → WData.layableAll args = true →
      ∀ ord : List DictEntry → List DictEntry, (∀ l, (ord l).Perm l) →
      ∃ vs s₁, layAllW c.records (classAt s.heap) w.params ord args s = some (vs, s₁) ∧
        wpC (model c.prog w) callerA (tree vs) (fun fin s' => ∃ f, fin = .done f ∧ (c.Ends s args vs s₁ (.ok f) s' ∧ s'.os = s.os ∧ AllBare s'.gens ∧ kept s'.heap)) s₁) :
    c.CallFrom (fun vs => ⟨tree vs, .builtin "claim.caller" {}, default, []⟩) w free gens kept s := by
  intro args hpre hlay ord hord
  obtain ⟨vs, s₁, hlaid, hcode⟩ := hspec args hpre hlay ord hord
  have hal := layAllW_rest _ _ _ hlaid
  have hwp := hcode ⟨.builtin "claim.caller" {}, none, none, [], none⟩ default caller_in ⟨by show (!badIds.contains "claim.caller") = true; decide +kernel, fun _ h => nomatch h⟩
  obtain ⟨k, r, s', s'', hsched, hrun, hfo, ⟨hcase, hos, hkp⟩⟩ := wp_halts_full (M := model c.prog w) (t := tree vs) (s := s₁) (R := fun r s' => c.Ends s args vs s₁ r s' ∧ s'.os = s.os ∧ kept s'.heap)
    (Shared.asleep_of_life hal.2.2.2 hz) (Sem.wp_mono _ _ _ (fun fin p' s' h => by
      obtain ⟨f, rfl, h1, h2, h3, h4⟩ := h
      exact ⟨⟨h1, h2, h4⟩, leftWithCleanup_false_of_bare h3⟩) (fun _ _ _ h => h.elim) _ _ hwp)
  obtain ⟨eh, _, _, eo, _⟩ := Shared.forget_eq hfo
  have hcase := hcase.congr eh
  have hkp : kept s''.heap := by rw [eh]; exact hkp
  rw [← eo] at hos
  have hlife : s''.heap.life = s.heap.life := (runN_life _ _ _ hrun).trans hal.2.2.2
  refine ⟨vs, s₁, hlaid, k, _, s'', hsched, ?_, (fun _ i x hx => by rw [hgens] at hx; simp at hx), hkp, by rw [hlife], Shared.rest_eq hos⟩
  rcases hcase with ⟨v, rfl, d1, d2, d3, d4, d5⟩ | ⟨e, ob, cls, rfl, d1, d2, d3, d4, d5⟩
  · exact .inl ⟨v, rfl, d1, d2, d3, fun b o y _ => d4 b o y, d5⟩
  · exact .inr ⟨e, ob, cls, rfl, d1, d2, d3, d4, fun b o y _ => d5 b o y⟩

theorem open_anyC {r : RowW} {run : Value → List Value → Sem Value} {tree : List Value → Sem Fin} {q : Program} {loose defs kps : List Str} {writes : Bool} {Xt : Shared → Bool} {XP : (Str → Option Value) → Heap → Prop} {α : Type} {Yf : Shared → α} {Ya : World → α} {YP : World → Heap → Prop} {N : Nat}
    (left : LeftO r.prog q loose Xt Yf Ya N) (hY : ∀ w s, Yf s = Ya w → YP w s.heap) (hYk : ∀ w h h', YP w h → (∀ b o, h.get? b = some o → h'.get? b = some o) → YP w h') (hX : ∀ s, Xt s = true → XP (s.heap.nsMap mainGlobals) s.heap) (hXk : ∀ mg h h', XP mg h → (∀ b o, h.get? b = some o → h'.get? b = some o) → XP mg h')
    (hRf : ∀ s, Xt s = true → RecFacts r.records s.heap) (hwr : (!writes || r.records.isEmpty) = true) (ok : (chainsOk q && opensWell r.prog && (frees r && r.within.isEmpty)) = true) (hb : r.prog.bare) (hw : r.promised)
    (ht : ∀ vs (w : World) (s : Shared) mg f (Q : Fin → Shared → Prop), s.heap.Ns mainGlobals mg → mg r.name = some f → wpC (model r.prog w) callerA (run f vs) (fun v s' => Q (.done (.ret v)) s') s → wpC (model r.prog w) callerA (tree vs) Q s)
    (pin : ∀ w s, s.heap.isNs mainGlobals = true → Ground q loose [] XP w s (s.heap.nsMap mainGlobals) (s.heap.nsMap builtinsNs) s.heap → ∀ n ∈ defs, isTheDefsW r.prog s.heap n)
    (call : ∀ (w : World) (s₀ s₁ : Shared) (mg mb : Str → Option Value), Ground q loose r.records XP w s₀ mg mb s₁.heap → YP w s₁.heap → ∀ (args : List WData) (vs : List Value) (as : List Addr),
      r.claim.pre args = true → WData.layableAll args = true → Laid r.records w s₀ s₁ args vs as → sysModules < s₀.heap.objs.size → ∃ f, mg r.name = some f ∧
        wpC (model r.prog w) callerA (run f vs) (fun v s' => GoodWG r.claim (classAt s₀.heap) (ExcName.means s₀.heap) args s₁ (.ok (.ret v)) s') s₁) : r.claim.HoldsOpenBy (fun vs => ⟨tree vs, .builtin "claim.caller" {}, default, []⟩) defs kps writes := by
  obtain ⟨ok, k5⟩ := Bool.and_eq_true_iff.mp ok
  obtain ⟨hch, o1⟩ := Bool.and_eq_true_iff.mp ok
  obtain ⟨k5, k6⟩ := Bool.and_eq_true_iff.mp k5
  obtain ⟨hsame, hu, ha, hap, hm⟩ := frees_parts k5
  refine ⟨⟨hb, o1, by show r.makers.map _ = []; rw [hm]; rfl⟩, hw.witness, fun w => ⟨(left.behind hX hch w).1, fun s' hs' => ?_⟩⟩
  obtain ⟨s₀, hf, hg0, s, hT, hz, hgens, hg, G00, y⟩ := (left.behind (XP := fun mg h => XP mg h ∧ RecFacts r.records h) (fun s hs => ⟨hX s hs, hRf s hs⟩) hch w).2 s' hs'
  have G0 : Ground q loose [] XP w s (s.heap.nsMap mainGlobals) (s.heap.nsMap builtinsNs) s.heap := ⟨G00.T, G00.B, G00.D, G00.TE, G00.TD, G00.W, G00.X.1, G00.cls, G00.has, G00.apart, G00.once, G00.K⟩
  have RF := G00.X.2
  have hT' := hT
  refine ⟨s₀, hf, hg0, s, hT, pin w s hg G0, RF.1, RF.2.1, ?_⟩
  have hgens : s.gens = #[] := Array.eq_empty_of_size_eq_zero (beq_iff_eq.mp hgens)
  have G : Ground q loose r.records XP w s _ _ s.heap := RF.ground G0
  refine callFrom_C (c := r.claim) hz hgens fun args hpre hlay ord hord => ?_
  obtain ⟨⟨vs, s₁⟩, hlaid⟩ := Option.isSome_iff_exists.mp (layAllW_isSome (P := w.params) (ord := ord) G.has args r.args s (pre_splitW hpre).1)
  have keeps := layAllW_keeps _ _ _ hlaid
  have hal := layAllW_rest _ _ _ hlaid
  obtain ⟨as, hrd, hin, hold⟩ := reads_layAllW hord _ _ _ hlaid hlay s₁.heap (fun _ _ e => e)
  have L : Laid r.records w s s₁ args vs as := ⟨⟨ord, hord, hlaid⟩, hrd, hin, hold, keeps, hal.1.trans hgens, hal.2.2.1⟩
  have G₁ := G.keeps hXk keeps
  obtain ⟨f, hf, h⟩ := call w s s₁ _ _ G₁ (hYk _ _ _ (hY w s y) keeps) args vs as hpre hlay L G.low
  have hi := ident_freeW hu ha hap
  have hwi : r.claim.within = [] := List.isEmpty_iff.mp k6
  exact ⟨vs, s₁, hlaid, ht vs w s₁ _ f _ G₁.T.g hf (wpC.mono h fun v s' g => ⟨_, rfl, have z := g.laid (c := r.claim) hsame hwi hi L; ⟨z.1, z.2.1, z.2.2, fun q => ⟨namesKept_of hT' hg kps keeps g.2.1.old, noTable hwr q⟩⟩⟩)⟩

abbrev WalkC (q : Program) (loose : List Str) (XP : (Str → Option Value) → Heap → Prop) (YP : World → Heap → Prop) (r : RowW) (d : DefRec) (kwd : List (Str × Expr)) (run : Value → List Value → Sem Value) : Prop :=
  ∀ (w : World) (s₀ s₁ : Shared) (mg mb : Str → Option Value), Ground q loose r.records XP w s₀ mg mb s₁.heap → YP w s₁.heap → ∀ (a : Addr) (o : Obj) (pm cd doc dV kV : Value), s₁.heap.get? a = some o →
    o.data = .func { docDef d.name d.params d.body d.scope pm cd doc with defaults := dV, kwdefaults := kV } → s₁.heap.CodeRec cd d.name → Dflts mg s₁.heap d.params kwd dV kV → mg d.name = some (.ref a) → s₁.gens = #[] →
    ∀ (args : List WData) (vals : List Value) (as : List Addr), r.claim.pre args = true → WData.layableAll args = true → ReadsAllW r.records (classAt s₀.heap) s₁.heap vals args as → WellAll w.params s₁.heap vals args → (∀ a ∈ as, (a == sysModules) = false) →
      wpC (model r.prog w) callerA (run (.ref a) vals) (fun v s' => GoodWG r.claim (classAt s₀.heap) (ExcName.means s₀.heap) args s₁ (.ok (.ret v)) s') s₁

end Mine

/-- the library's head, from the caller's own context -/
theorem Mine.PySem.W.holds_open {r : OpenRow} {q : Program} {loose : List Str} {Xt : Shared → Bool} {XP : (Str → Option Value) → Heap → Prop} {α : Type} {Yf : Shared → α} {Ya : World → α} {YP : World → Heap → Prop} {d : DefRec} {kwd : List (Str × Expr)} {N : Nat}
    (left : LeftO r.prog q loose Xt Yf Ya N) (hY : ∀ w s, Yf s = Ya w → YP w s.heap) (hYk : ∀ w h h', YP w h → (∀ b o, h.get? b = some o → h'.get? b = some o) → YP w h')
    (hX : ∀ s, Xt s = true → XP (s.heap.nsMap mainGlobals) s.heap) (hXk : ∀ mg h h', XP mg h → (∀ b o, h.get? b = some o → h'.get? b = some o) → XP mg h')
    (hdef : defOf q r.name = some (d, kwd)) (hp : r.prog.theDef r.name = some (d.params, d.body, d.scope)) (hk : kwWritten? d.params.kwonlyargs d.params.kw_defaults = some kwd) (hRf : ∀ s, Xt s = true → RecFacts r.records s.heap) (hwr : (!r.writes || r.records.isEmpty) = true)
    (k1 : r.wellSaid = true) (ok : (chainsOk q && opensWell r.prog && (frees r.toRowW && r.within.isEmpty)) = true) (hb : r.prog.bare) (hw : r.toRowW.promised)
    (call : WalkC q loose XP YP r.toRowW d kwd fun f vs => PySem.call f vs) : r.Holds := by
  refine ⟨k1, hw, open_anyC (r := r.toRowW) (run := fun f vs => PySem.call f vs) (tree := fun vs => do match ← nsGet mainNs r.name with
      | some f => do ret (← PySem.call f vs)
      | none => unsupported "claim.caller:no-such-global") left hY hYk hX hXk hRf hwr ok hb hw
    (fun vs w s mg f Q hg hf h => wpC.step (wpAny_nsGet hg (by rw [hf]; exact wpC.bind (wpC.mono h (fun _ _ x => wpC.pure x)))))
    (fun w s hg G n hn => ?_) fun w s₀ s₁ mg mb G Y args vs as hpre hlay L low => ?_⟩
  · obtain rfl : n = r.name := by split at hn <;> simp_all
    exact pinned_of_view hg G hdef hp hk
  · obtain ⟨a, o, pm, cd, doc, dV, kV, h1, h2, h3, h4, h5⟩ := G.fn hdef
    exact ⟨.ref a, h1, call w s₀ s₁ mg mb G Y a o pm cd doc dV kV h2 h3 h4 h5 (defOf_name hdef ▸ h1) L.gens args vs as hpre hlay L.reads L.well (L.low low)⟩

namespace Mine
open_top hd for PySem.Challenge.rw_fb0055_01
end Mine
end
section
namespace Mine
section
variable {prog : Program} {w : World} {A : Around} {s : Shared}

theorem okC_of {id : String} {a : Args} (h : (!badIds.contains id) = true) : okC (.builtin id a) = true := h

theorem codeC.builtin {id : String} {args : Args} {b : Builtin} {R : Flow → Shared → Prop} (hb : entryFor table id = some b) (ho : (!badIds.contains id) = true)
    (h : wpC (model prog w) (A.under (.builtin id args)) (b args) (fun fin s' => match fin with | .done f => R f s' | .again c' => c'.quiet = true ∧ codeC (model prog w) A c' R s') s) :
    codeC (model prog w) A (.builtin id args) R s := by
  refine codeC.tree (okC_of ho) ?_
  show wpC _ _ (match entryFor table id with | some b => b args | none => unsupported ((withoutEnding? id "#data").getD id)) _ s
  rw [hb]; exact h

theorem codeC.call_builtin {id : String} {args : Args} {b : Builtin} {R : Flow → Shared → Prop} (hq : plainId id = true) (hb : entryFor table id = some b) (ho : (!badIds.contains id) = true)
    (hc : wpAny (model prog w) A.in1 (checkBuiltinCall id args) (fun _ s₁ => s₁ = s) (fun _ _ => False) s)
    (h : wpC (model prog w) A.in1 (b args) (fun fin s' => match fin with | .done f => R f s' | .again c' => c'.quiet = true ∧ codeC (model prog w) A c' R s') s) :
    codeC (model prog w) A (.call (.builtin id) args) R s := by
  refine codeC.tree rfl ?_
  show wpC _ A.in1 (do checkBuiltinCall id args; again (.builtin id args)) _ s
  refine wpC.step (wpAny_mono hc (fun _ s₁ e => ?_) fun _ _ x => x)
  subst e
  exact wpC.pure ⟨plainId_quiet hq args, codeC.builtin hb ho (by rw [Around.under_plainId hq args]; exact h)⟩

theorem callType_C {T newId initId : String} {Bi : Builtin} {args : List Value} {Q Q₁ : Value → Shared → Prop} (ft : TypeCalled T newId initId)
    (hct : checkTypeCall T ⟨args, []⟩ = pure ()) (entryI : entryFor table initId = some Bi) (hoI : (!badIds.contains initId) = true)
    (hnew : codeAny (model prog w) A.in1 (.call (.builtin newId) ⟨.type T :: args, []⟩) (wants Q₁ (fun _ _ => False)) s)
    (hnext : ∀ obj s₁, Q₁ obj s₁ → s₁.TypeIs obj T ∧ argsOk initId ⟨obj :: args, []⟩ ∧
      wpC (model prog w) A.in1.in1 (Bi ⟨obj :: args, []⟩)
        (fun fin s' => match fin with | .done f => (match f with | .ret r => r = .none ∧ Q obj s' | _ => False) | .again c' => c'.quiet = true ∧ codeC (model prog w) A.in1 c' (fun f s' => match f with | .ret r => r = .none ∧ Q obj s' | _ => False) s') s₁) :
    wpC (model prog w) A (call (.type T) args) Q s := by
  obtain ⟨c, tl, hmro⟩ := ft.mro
  have hmade := ft.made
  have hsub := ft.sub
  have h1 := ft.notType
  have h2 := ft.canCreate
  refine wpC.call (codeC.tree rfl ?_)
  show wpC _ _ (callAny (.type T) _) _ _
  refine wpC.pure ⟨Code.quiet_builtin _ (by decide +kernel), codeC.builtin F.entry_type_call (by decide +kernel) ?_⟩
  rw [Around.under_plain (weight_type_call_type T args []) rfl]
  unfold Builtin.«type.__call__»
  dsimp only
  simp only [h1, h2, Bool.false_eq_true, if_false]
  simp only [hct, hmro, hmade, pure_bind, List.isEmpty_cons, Bool.false_eq_true, if_false]
  refine wpC.step (wpAny_holding (wpAny_call (codeAny_mono hnew fun r s₁ hr => ?_)))
  cases r with
  | error e => exact hr
  | ok fl =>
    cases fl with
    | ret obj =>
      obtain ⟨hT, hok, hsi⟩ := hnext _ _ hr
      refine wpC.step (wpAny_isInstance hT hsub ?_)
      simp only [Bool.not_true, Bool.false_eq_true, if_false]
      refine wpC.bind (wpC.holding ?_)
      unfold callSpecial?
      refine wpC.step (wpAny_specialOf hT ft.init.lookup ?_)
      dsimp only
      rw [ft.init.bind obj]
      simp only [pure_bind, List.cons_append, List.nil_append]
      refine wpC.holding (wpC.bind (wpC.call (codeC.mono (codeC.call_builtin (R := fun f s' => match f with | .ret r => r = .none ∧ Q obj s' | _ => False) ft.init.plain entryI hoI (ft.init.check _ _ _ _ _ _ _ _ hT hok rfl) hsi) fun f s₂ hf => ?_)))
      cases f with
      | ret r =>
        obtain ⟨rfl, hq⟩ := hf
        refine wpC.pure ?_
        exact wpC.pure hq
      | _ => exact hf.elim
    | _ => exact hr.elim
end
end Mine
end
section
namespace Mine
abbrev baObj (b : Array UInt8) : Obj := { cls := .type "bytearray", data := .bytearray b }

namespace FA
theorem slot_init : Slot "bytearray" "__init__" "bytearray.__init__" :=
  .of (owner := "bytearray") (n := "__init__") (by rw [typeLookup_type, builtinLookup_eq_fast]; kernel_rfl) (by decide +kernel) (by decide +kernel) (by decide +kernel)
    (by first | exact .inl (by decide +kernel) | exact .inr (by decide +kernel)) (by rw [isSubtype_type]; kernel_rfl)
theorem mro : mroOf (.type "bytearray") = pure [.type "bytearray", .type "object"] := by rw [mroOf_type]; kernel_rfl
theorem look_new : typeLookup (.type "bytearray") "__new__" = pure (some (.builtin "bytearray.__new__")) := by rw [typeLookup_type, builtinLookup_eq_fast]; kernel_rfl
theorem called : TypeCalled "bytearray" "bytearray.__new__" "bytearray.__init__" :=
  ⟨by decide +kernel, by decide +kernel, ⟨_, _, mro⟩, madeBy_type mro look_new (by decide +kernel), by decide +kernel, by rw [isSubtype_type]; kernel_rfl, slot_init⟩
theorem typeCall_1 (a : Value) : checkTypeCall "bytearray" ⟨[a], []⟩ = pure () := by kernel_rfl
theorem newCall_1 (a : Value) : checkBuiltinCall "bytearray.__new__" ⟨[.type "bytearray", a], []⟩ = pure () := by kernel_rfl
theorem entry_new : entryFor table "bytearray.__new__" = some Builtin.«list.__new__» := entryFor_alias (id' := "list.__new__") (by kernel_rfl) rfl (by decide +kernel) (by kernel_rfl)
theorem plain_new : plainId "bytearray.__new__" = true := by decide +kernel
theorem entry_init : entryFor table "bytearray.__init__" = some Builtin.«bytearray.__init__» := entryFor_of_tree (by kernel_rfl)
theorem entry_loop : entryFor table "bytearray.__init__.loop" = some Builtin.«bytearray.__init__.loop» := entryFor_of_tree (by kernel_rfl)
theorem plain_loop : plainId "bytearray.__init__.loop" = true := by decide +kernel
theorem args_init (a b : Value) : argsOk "bytearray.__init__" ⟨[a, b], []⟩ := by unfold argsOk; kernel_rfl
theorem look_release : typeLookup (.type "bytearray") "__release_buffer__" = pure (some (.builtin "bytearray.__release_buffer__")) := by rw [typeLookup_type, builtinLookup_eq_fast]; kernel_rfl
theorem look_buffer : typeLookup (.type "bytearray") "__buffer__" = pure (some (.builtin "bytearray.__buffer__")) := by rw [typeLookup_type, builtinLookup_eq_fast]; kernel_rfl
theorem ba_no_index : typeLookup (.type "bytearray") "__index__" = pure none := by rw [typeLookup_type, builtinLookup_eq_fast]; kernel_rfl
theorem bytes_no_index : typeLookup (.type "bytes") "__index__" = pure none := by rw [typeLookup_type, builtinLookup_eq_fast]; kernel_rfl
theorem gen_no_index : typeLookup (.type "generator") "__index__" = pure none := by rw [typeLookup_type, builtinLookup_eq_fast]; kernel_rfl
theorem gen_no_buffer : typeLookup (.type "generator") "__buffer__" = pure none := by rw [typeLookup_type, builtinLookup_eq_fast]; kernel_rfl
theorem sub_self : isSubtype (.type "bytearray") (.type "bytearray") = pure true := by rw [isSubtype_type]; kernel_rfl
theorem bind_init (v : Value) : Builtin.Bytes.bindOptional "bytearray.__init__" "bytearray" ["source", "encoding", "errors"] [v] [] = pure [some v, none, none] := by kernel_rfl
set_option maxHeartbeats 4000000 in
theorem owner_new : ("bytearray.__new__".splitOn ".__new__").headD "" = "bytearray" := by simp +decide [String.splitOn, String.splitOnAux]
end FA

section
variable {prog : Program} {w : World} {A : Around} {E : Value → Shared → Prop} {s : Shared}
theorem code_ba_new (a : Value) {Q₁ : Value → Shared → Prop}
    (h : Q₁ (.ref s.heap.objs.size) { s with heap := s.heap.push (baObj #[]) }) :
    codeAny (model prog w) A (.call (.builtin "bytearray.__new__") ⟨[.type "bytearray", a], []⟩) (wants Q₁ E) s := by
  refine codeAny_of_tree ?_
  show wpAny _ A.in1 (do checkBuiltinCall "bytearray.__new__" ⟨[.type "bytearray", a], []⟩; again (.builtin "bytearray.__new__" ⟨[.type "bytearray", a], []⟩)) _ _ s
  refine wpAny_bind (wpAny_of_eq (FA.newCall_1 a) (wpAny_pure ⟨plainId_quiet FA.plain_new _, codeAny_builtin_stack FA.entry_new rfl fun p st => ?_⟩))
  rw [Around.under_plainId FA.plain_new _]
  have hsub := FA.sub_self
  have hown := FA.owner_new
  obtain ⟨hp, g, d, tk, os⟩ := s
  simp only [hown]
  wp_walk
  exact h
end
end Mine
end
section
namespace Mine
section
variable {M : Model} {A : Around} {E : Value → Shared → Prop} {s : Shared}
theorem ba_type {a : Addr} {b : Array UInt8} (h : s.heap.get? a = some (baObj b)) : s.TypeIs (.ref a) "bytearray" := ⟨_, h, rfl⟩
theorem drop_release : ("bytearray.__release_buffer__" : String).dropRight ("__release_buffer__".length + 1) = "bytearray" := by decide +kernel
theorem drop_buffer : ("bytearray.__buffer__" : String).dropRight ("__buffer__".length + 1) = "bytearray" := by decide +kernel
theorem slotOwn_release {v : Value} {Q : Bool → Shared → Prop} (hT : s.TypeIs v "bytearray") (h : Q true s) : wpAny M A (Builtin.Bytes.slotIsOwn v "__release_buffer__") Q E s := by
  unfold Builtin.Bytes.slotIsOwn
  refine wpAny_bind (wpAny_specialOf hT FA.look_release ?_)
  dsimp only
  rw [if_neg (by decide +kernel), drop_release]
  exact wpAny_isInstance hT FA.sub_self h
theorem slotOwn_buffer {v : Value} {Q : Bool → Shared → Prop} (hT : s.TypeIs v "bytearray") (h : Q true s) : wpAny M A (Builtin.Bytes.slotIsOwn v "__buffer__") Q E s := by
  unfold Builtin.Bytes.slotIsOwn
  refine wpAny_bind (wpAny_specialOf hT FA.look_buffer ?_)
  dsimp only
  rw [if_neg (by decide +kernel), drop_buffer]
  exact wpAny_isInstance hT FA.sub_self h
theorem ownRelease_ba {v : Value} {Q : Bool → Shared → Prop} (hT : s.TypeIs v "bytearray") (h : Q false s) : wpAny M A (Builtin.Bytes.ownRelease v) Q E s := by
  unfold Builtin.Bytes.ownRelease
  exact wpAny_bind (slotOwn_release hT (wpAny_pure h))
theorem payload_ba {a : Addr} {b : Array UInt8} {Q : Array UInt8 → Shared → Prop} (ha : s.heap.get? a = some (baObj b)) (h : Q b s) : wpAny M A (Builtin.Bytes.payload (.ref a)) Q E s := by
  unfold Builtin.Bytes.payload Builtin.Bytes.payload?
  exact wpAny_bind (wpAny_bind (wpAny_load ha (wpAny_pure (wpAny_pure h))))
theorem buffer_ba {id : String} {full : Bool} {a : Addr} {b : Array UInt8} {Q : Option (Array UInt8) → Shared → Prop} (ha : s.heap.get? a = some (baObj b)) (h : Q (some b) s) : wpAny M A (Builtin.Bytes.buffer? id (.ref a) full) Q E s := by
  have hT := ba_type ha
  unfold Builtin.Bytes.buffer?
  refine wpAny_bind (wpAny_specialOf hT FA.look_buffer ?_)
  refine wpAny_bind (slotOwn_buffer hT ?_)
  simp only [Bool.not_true, Bool.false_eq_true, if_false]
  refine wpAny_bind (wpAny_specialOf hT FA.look_buffer ?_)
  show wpAny M A (Builtin.Bytes.ownRelease (.ref a) >>= _) Q E s
  refine wpAny_bind (ownRelease_ba hT ?_)
  simp only [Bool.false_eq_true, if_false]
  exact wpAny_bind (payload_ba ha (wpAny_pure h))
theorem quiet_ba {id : String} {a : Addr} {b : Array UInt8} {Q : Option (Array UInt8) → Shared → Prop} (ha : s.heap.get? a = some (baObj b)) (h : Q (some b) s) : wpAny M A (Builtin.Bytes.bufferQuiet? id (.ref a)) Q E s := by
  unfold Builtin.Bytes.bufferQuiet?
  exact wpAny_bind (wpAny_attempt (buffer_ba ha (wpAny_pure h)))
theorem write_ba {a : Addr} {b : Array UInt8} {f : Array UInt8 → Array UInt8} {Q : Unit → Shared → Prop} (ha : s.heap.get? a = some (baObj b)) (hz : (f b).size ≤ sizeLine)
    (h : ∀ h', h'.get? a = some (baObj (f b)) → Heap.SameBut a s.heap h' → Q () { s with heap := h' }) : wpAny M A (Builtin.Bytes.write (.ref a) f) Q E s := by
  unfold Builtin.Bytes.write
  dsimp only
  unfold updateBytearray
  refine wpAny_bind (wpAny_load ha ?_)
  show wpAny M A (update a (Obj.mapBytearray f) >>= fun _ => lookBehind a) Q E s
  refine wpAny_bind (wpAny_update ha ?_)
  have h2 : (s.heap.update a (Obj.mapBytearray f)).get? a = some (baObj (f b)) := Heap.get?_update_self (Obj.mapBytearray f) ha rfl
  refine wpAny_lookBehind h2 ?_ (h _ h2 (Heap.SameBut.update ..))
  show (if (f b).size > sizeLine then some "bytearray:memory" else none) = none
  rw [if_neg (Nat.not_lt.mpr hz)]
end

/-- what the source of bytes lets itself be asked, in every heap that keeps this one -/
structure Source (M : Model) (A : Around) (v : Value) (b : Array UInt8) (h : Heap) : Prop where
  str : ∀ (s : Shared) (Q : Option Str → Shared → Prop) E, (∀ c o, h.get? c = some o → s.heap.get? c = some o) → Q none s → wpAny M A (asStr? v) Q E s
  index : ∀ (s : Shared) (Q : Option Value → Shared → Prop) E, (∀ c o, h.get? c = some o → s.heap.get? c = some o) → Q none s → wpAny M A (specialOf v "__index__") Q E s
  buffer : ∀ (s : Shared) (Q : Option (Array UInt8) → Shared → Prop) E, (∀ c o, h.get? c = some o → s.heap.get? c = some o) → Q (some b) s → wpAny M A (Builtin.Bytes.buffer? "bytearray.__init__" v true) Q E s

theorem Source.bytes {M : Model} {A : Around} {b : Array UInt8} {t : Tok} {h : Heap} : Source M A (.bytes b t) b h where
  str := fun s Q E _ hQ => wpAny_of_eq (a := none) rfl hQ
  index := fun s Q E _ hQ => wpAny_specialOf (typeIs_bytes s b t) FA.bytes_no_index hQ
  buffer := fun s Q E _ hQ => by
    have : Builtin.Bytes.buffer? "bytearray.__init__" (.bytes b t) true = pure (some b) := by
      unfold Builtin.Bytes.buffer?
      rw [KBy.special_eq KBy.look_buffer, KBy.own_buffer, KBy.own_release]
      kernel_rfl
    exact wpAny_of_eq this hQ
theorem Source.ba {M : Model} {A : Around} {a : Addr} {b : Array UInt8} {h : Heap} (ha : h.get? a = some (baObj b)) : Source M A (.ref a) b h where
  str := fun s Q E k hQ => by
    show wpAny M A (load a >>= _) Q E s
    exact wpAny_bind (wpAny_load (k _ _ ha) (wpAny_pure hQ))
  index := fun s Q E k hQ => wpAny_specialOf (ba_type (k _ _ ha)) FA.ba_no_index hQ
  buffer := fun s Q E k hQ => buffer_ba (k _ _ ha) hQ

section
variable {prog : Program} {w : World} {A : Around} {s : Shared}
theorem call_ba_src {v : Value} {b : Array UInt8} {Q : Value → Shared → Prop} (S : Source (model prog w) A.in1.in1 v b s.heap) (hz : b.size ≤ sizeLine)
    (hQ : ∀ h', h'.get? s.heap.objs.size = some (baObj b) → (∀ c o, s.heap.get? c = some o → h'.get? c = some o) → h'.objs.size = s.heap.objs.size + 1 → Q (.ref s.heap.objs.size) { s with heap := h' }) :
    wpC (model prog w) A (call (.type "bytearray") [v]) Q s := by
  refine callType_C (Q₁ := fun obj s₁ => obj = .ref s.heap.objs.size ∧ s₁ = { s with heap := s.heap.push (baObj #[]) }) FA.called (FA.typeCall_1 v) FA.entry_init (by decide +kernel) (code_ba_new v ⟨rfl, rfl⟩) ?_
  rintro obj s₁ ⟨rfl, rfl⟩
  have h0 : (s.heap.push (baObj #[])).get? s.heap.objs.size = some (baObj #[]) := Heap.get?_push_size _ rfl
  have k0 : ∀ c o, s.heap.get? c = some o → (s.heap.push (baObj #[])).get? c = some o := fun c o e => Heap.get?_push_of_some _ e
  have ne : ∀ c o, s.heap.get? c = some o → c ≠ s.heap.objs.size := fun c o e => Nat.ne_of_lt (Heap.lt_size e)
  refine ⟨⟨_, h0, rfl⟩, FA.args_init _ _, ?_⟩
  unfold Builtin.«bytearray.__init__»
  dsimp only
  refine wpC.step (ownRelease_ba ⟨_, h0, rfl⟩ ?_)
  simp only [Bool.false_eq_true, if_false]
  rw [FA.bind_init]
  simp only [pure_bind]
  refine wpC.step (wpAny_of_eq (a := ()) rfl ?_)
  refine wpC.step (wpAny_of_eq (a := ()) rfl ?_)
  refine wpC.bind ?_
  refine wpC.bind (exported_C ?_)
  show wpC _ _ (Builtin.Bytes.exportsOf (.ref s.heap.objs.size) >>= _) _ _
  refine wpC.step ?_
  unfold Builtin.Bytes.exportsOf
  refine wpAny_bind (wpAny_load h0 (wpAny_pure ?_))
  refine wpC.pure ?_
  rw [if_neg (by decide)]
  refine wpC.step (write_ba h0 (Nat.zero_le _) fun h1 e1 s1 => ?_)
  have k1 : ∀ c o, s.heap.get? c = some o → h1.get? c = some o := fun c o e => s1.extBut c o (ne c o e) (k0 c o e)
  refine wpC.step (S.str _ _ _ k1 ?_)
  rw [if_neg (by decide)]
  rw [if_neg (by decide), if_neg (by decide)]
  refine wpC.step (wpAny_pure ?_)
  refine wpC.step (S.index _ _ _ k1 ?_)
  rw [if_neg (by decide)]
  refine wpC.step (S.buffer _ _ _ k1 ?_)
  dsimp only
  refine wpC.step (wpAny_rule ?_)
  refine wpC.step (write_ba e1 hz fun h2 e2 s2 => ?_)
  refine wpC.bind (wpC.pure (wpC.pure ⟨rfl, hQ h2 e2 (fun c o e => s2.extBut c o (ne c o e) (k1 c o e)) ?_⟩))
  rw [s2.1, s1.1, Heap.size_push]
end
end Mine
end
section
namespace Mine
section
variable {prog : Program} {w : World} {A : Around} {s : Shared}
variable {I : Addr} {fp wr : List Addr} {G : Array GenState → Array GenState → Prop} {n : Nat} {P : Nat → Value → Prop} {St : Nat → Shared → Prop}

def firstOf (val : Nat → UInt8) (n : Nat) : Array UInt8 := ((List.range n).map val).toArray
theorem firstOf_succ (val : Nat → UInt8) (n : Nat) : (firstOf val n).push (val n) = firstOf val (n + 1) := by
  simp [firstOf, List.range_succ]
theorem firstOf_size (val : Nat → UInt8) (n : Nat) : (firstOf val n).size = n := by simp [firstOf]

theorem ba_loop (W : WalksS prog w A.in1 I fp wr G n P St) (S : Addr) (hSf : S ∉ fp) (val : Nat → UInt8) (hP : ∀ j v, P j v → ∃ t, v = .int ((val j).toNat : Int) t) (hz : n ≤ sizeLine) {R : Result → Shared → Prop} :
    ∀ (k i : Nat) (s : Shared), n - i = k → i ≤ n → St i s → s.heap.get? S = some (baObj (firstOf val i)) →
      (∀ s', Moved (S :: wr) G s s' → s'.heap.get? S = some (baObj (firstOf val n)) → R (.ok (.ret .none)) s') →
      codeAny (model prog w) A (.builtin "bytearray.__init__.loop" ⟨[.ref S, .ref I], []⟩) R s := by
  have hSw : S ∉ wr := fun h => hSf (W.sub _ h)
  have hsub : ∀ b ∈ wr, b ∈ S :: wr := fun b hb => List.mem_cons_of_mem _ hb
  intro k
  induction k with
  | zero =>
    intro i s hk hi hst hS hR
    have hin : i = n := by omega
    subst hin
    refine codeAny_builtin FA.entry_loop ?_
    rw [Around.under_plainId FA.plain_loop _]
    show wpAny _ A.in1 (pyNext (.ref I) >>= _) _ _ s
    refine wpAny_bind (W.done s _ _ hst fun s' hm => ?_)
    exact wpAny_pure (hR s' (hm.mono hsub) (hm.heap S _ hSw hS))
  | succ k ih =>
    intro i s hk hi hst hS hR
    have hlt : i < n := by omega
    refine codeAny_builtin FA.entry_loop ?_
    rw [Around.under_plainId FA.plain_loop _]
    show wpAny _ A.in1 (pyNext (.ref I) >>= _) _ _ s
    refine wpAny_bind (W.item i s _ _ hlt hst fun v s' hPv hst' hm => ?_)
    obtain ⟨t, rfl⟩ := hP i v hPv
    have hS' := hm.heap S _ hSw hS
    show wpAny _ A.in1 (holding _ (Builtin.Bytes.byteValue (.int ((val i).toNat : Int) t)) >>= _) _ _ s'
    have hb : Builtin.Bytes.byteValue (.int ((val i).toNat : Int) t) = pure (val i) := by
      have hlt := (val i).toNat_lt
      show (if ((val i).toNat : Int) < 0 || ((val i).toNat : Int) ≥ 256 then _ else _ : Sem UInt8) = _
      rw [if_neg (by simp only [Bool.or_eq_true, decide_eq_true_eq]; omega)]
      show (pure (((val i).toNat : Int).toNat.toUInt8) : Sem UInt8) = _
      rw [Int.toNat_natCast]
      congr 1
      exact UInt8.ofNat_toNat
    refine wpAny_bind (wpAny_holding (wpAny_of_eq hb ?_))
    refine wpAny_bind (wpAny_letGo ?_)
    refine wpAny_bind (write_ba hS' (by rw [firstOf_succ, firstOf_size]; omega) fun h2 e2 s2 => ?_)
    rw [firstOf_succ] at e2
    refine wpAny_pure ⟨plainId_quiet FA.plain_loop _, ih (i + 1) _ (by omega) hlt (W.frame _ s' h2 s'.toks hst' (Nat.le_refl _) fun b hb o e => s2.extBut b o (fun q => hSf (q ▸ hb)) e) e2 fun s'' hm'' hS'' => ?_⟩
    refine hR s'' (Moved.trans W.gtrans ((hm.mono hsub).then_heap (tk := s'.toks) (Nat.le_refl _) fun b o hb e => s2.extBut b o (fun q => hb (q ▸ List.mem_cons_self)) e) hm'') hS''

theorem call_ba_gen {Q : Value → Shared → Prop} (W : WalksS prog w A.in1.in1 I fp wr G n P St) (hT : ∀ i s, St i s → ∃ g, s.heap.IsGen I g) (hst : St 0 s) (hfp : ∀ b ∈ fp, b < s.heap.objs.size)
    (val : Nat → UInt8) (hP : ∀ j v, P j v → ∃ t, v = .int ((val j).toNat : Int) t) (hz : n ≤ sizeLine)
    (hQ : ∀ s', Moved wr G s s' → s'.heap.get? s.heap.objs.size = some (baObj (firstOf val n)) → Q (.ref s.heap.objs.size) s') :
    wpC (model prog w) A (call (.type "bytearray") [.ref I]) Q s := by
  refine callType_C (Q₁ := fun obj s₁ => obj = .ref s.heap.objs.size ∧ s₁ = { s with heap := s.heap.push (baObj #[]) }) FA.called (FA.typeCall_1 _) FA.entry_init (by decide +kernel) (code_ba_new _ ⟨rfl, rfl⟩) ?_
  rintro obj s₁ ⟨rfl, rfl⟩
  have h0 : (s.heap.push (baObj #[])).get? s.heap.objs.size = some (baObj #[]) := Heap.get?_push_size _ rfl
  have k0 : ∀ c o, s.heap.get? c = some o → (s.heap.push (baObj #[])).get? c = some o := fun c o e => Heap.get?_push_of_some _ e
  have ne : ∀ c o, s.heap.get? c = some o → c ≠ s.heap.objs.size := fun c o e => Nat.ne_of_lt (Heap.lt_size e)
  have hSf : s.heap.objs.size ∉ fp := fun hm => Nat.lt_irrefl _ (hfp _ hm)
  refine ⟨⟨_, h0, rfl⟩, FA.args_init _ _, ?_⟩
  unfold Builtin.«bytearray.__init__»
  dsimp only
  refine wpC.step (ownRelease_ba ⟨_, h0, rfl⟩ ?_)
  simp only [Bool.false_eq_true, if_false]
  rw [FA.bind_init]
  simp only [pure_bind]
  refine wpC.step (wpAny_of_eq (a := ()) rfl ?_)
  refine wpC.step (wpAny_of_eq (a := ()) rfl ?_)
  refine wpC.bind ?_
  refine wpC.bind (exported_C ?_)
  show wpC _ _ (Builtin.Bytes.exportsOf (.ref s.heap.objs.size) >>= _) _ _
  refine wpC.step ?_
  unfold Builtin.Bytes.exportsOf
  refine wpAny_bind (wpAny_load h0 (wpAny_pure ?_))
  refine wpC.pure ?_
  rw [if_neg (by decide)]
  refine wpC.step (write_ba h0 (Nat.zero_le _) fun h1 e1 s1 => ?_)
  have k1 : ∀ c o, s.heap.get? c = some o → h1.get? c = some o := fun c o e => s1.extBut c o (ne c o e) (k0 c o e)
  have hst1 : St 0 { s with heap := h1 } := W.frame 0 s h1 s.toks hst (Nat.le_refl _) fun b hb o e => k1 b o e
  obtain ⟨g, hg1⟩ := hT 0 _ hst1
  have hT1 := hg1.typeIs
  obtain ⟨oI, nm, qn, hoI, hcI, hdI, _⟩ := hg1
  refine wpC.step ?_
  show wpAny _ _ (load I >>= _) _ _ _
  refine wpAny_bind (wpAny_load hoI ?_)
  rw [hdI]
  refine wpAny_pure ?_
  rw [if_neg (by decide)]
  rw [if_neg (by decide), if_neg (by decide)]
  refine wpC.step (wpAny_pure ?_)
  refine wpC.step (wpAny_specialOf hT1 FA.gen_no_index ?_)
  rw [if_neg (by decide)]
  refine wpC.step ?_
  unfold Builtin.Bytes.buffer?
  refine wpAny_bind (wpAny_specialOf hT1 FA.gen_no_buffer ?_)
  refine wpAny_bind (wpAny_specialOf hT1 FA.gen_no_buffer ?_)
  refine wpAny_pure ?_
  dsimp only
  refine wpC.step (wpAny_typeOf hT1 ?_)
  rw [if_neg (by decide)]
  refine wpC.step (wpAny_tryCatch (W.self 0 _ _ _ hst1 ?_))
  refine wpC.bind (wpC.pure (wpC.pure ⟨plainId_quiet FA.plain_loop _, ?_⟩))
  refine codeC.of (ba_loop W _ hSf val hP hz n 0 _ (Nat.sub_zero _) (Nat.zero_le _) hst1 e1 fun s' hm hS' => ?_)
  refine ⟨rfl, hQ s' ⟨fun b o hb e => hm.heap b o (fun hq => ?_) (k1 b o e), hm.gens, hm.drawn, hm.os, hm.toks⟩ hS'⟩
  rcases List.mem_cons.mp hq with rfl | hq
  · exact absurd (Heap.lt_size e) (Nat.lt_irrefl _)
  · exact hb hq
end
end Mine
end
section
namespace Mine
namespace FA
theorem noBool : typeLookup (.type "bytearray") "__bool__" = pure none := by rw [typeLookup_type, builtinLookup_eq_fast]; kernel_rfl
theorem slot_len : Slot "bytearray" "__len__" "bytearray.__len__" :=
  .of (owner := "bytearray") (n := "__len__") (by rw [typeLookup_type, builtinLookup_eq_fast]; kernel_rfl) (by decide +kernel) (by decide +kernel) (by decide +kernel)
    (by first | exact .inl (by decide +kernel) | exact .inr (by decide +kernel)) (by rw [isSubtype_type]; kernel_rfl)
theorem entry_len' : entryFor table "bytearray.__len__" = some Builtin.«bytearray.__len__» := entryFor_of_tree (by kernel_rfl)
theorem args_len (a : Value) : argsOk "bytearray.__len__" ⟨[a], []⟩ := by unfold argsOk; kernel_rfl
theorem slot_iter : Slot "bytearray" "__iter__" "bytearray.__iter__" :=
  .of (owner := "bytearray") (n := "__iter__") (by rw [typeLookup_type, builtinLookup_eq_fast]; kernel_rfl) (by decide +kernel) (by decide +kernel) (by decide +kernel)
    (by first | exact .inl (by decide +kernel) | exact .inr (by decide +kernel)) (by rw [isSubtype_type]; kernel_rfl)
theorem entry_iter : entryFor table "bytearray.__iter__" = some Builtin.«bytearray.__iter__» := entryFor_of_tree (by kernel_rfl)
theorem args_iter (a : Value) : argsOk "bytearray.__iter__" ⟨[a], []⟩ := by unfold argsOk; kernel_rfl
theorem slot_getitem : Slot "bytearray" "__getitem__" "bytearray.__getitem__" :=
  .of (owner := "bytearray") (n := "__getitem__") (by rw [typeLookup_type, builtinLookup_eq_fast]; kernel_rfl) (by decide +kernel) (by decide +kernel) (by decide +kernel)
    (by first | exact .inl (by decide +kernel) | exact .inr (by decide +kernel)) (by rw [isSubtype_type]; kernel_rfl)
theorem entry_getitem : entryFor table "bytearray.__getitem__" = some Builtin.«bytearray.__getitem__» := entryFor_of_tree (by kernel_rfl)
theorem args_getitem (a b : Value) : argsOk "bytearray.__getitem__" ⟨[a, b], []⟩ := by unfold argsOk; kernel_rfl
theorem slot_add : Slot "bytearray" (dunder "add") "bytearray.__add__" :=
  .of (owner := "bytearray") (n := "__add__") (by rw [typeLookup_type, builtinLookup_eq_fast]; kernel_rfl) (by decide +kernel) (by decide +kernel) (by decide +kernel)
    (by first | exact .inl (by decide +kernel) | exact .inr (by decide +kernel)) (by rw [isSubtype_type]; kernel_rfl)
theorem entry_add : entryFor table "bytearray.__add__" = some Builtin.«bytearray.__add__» := entryFor_of_tree (by kernel_rfl)
theorem args_add (a b : Value) : argsOk "bytearray.__add__" ⟨[a, b], []⟩ := by unfold argsOk; kernel_rfl
theorem noR_add : typeLookup (.type "bytearray") (dunderR "add") = pure none := by rw [typeLookup_type, builtinLookup_eq_fast]; kernel_rfl
theorem noFill_add : fillsNumberSlot (.type "bytearray") "add" = pure false := PySem.fillsNumberSlot_seq (id := "bytearray.__add__") (r := none) slot_add.lookup (by decide +kernel) noR_add rfl
theorem seq_add : seqSlot? (.type "bytearray") "__add__" = pure (some (.builtin "bytearray.__add__")) := PySem.seqSlot_of slot_add.lookup (by decide +kernel)
theorem slot_next : Slot "bytearray_iterator" "__next__" "bytearray_iterator.__next__" :=
  .of (owner := "bytearray_iterator") (n := "__next__") (by rw [typeLookup_type, builtinLookup_eq_fast]; kernel_rfl) (by decide +kernel) (by decide +kernel) (by decide +kernel)
    (by first | exact .inl (by decide +kernel) | exact .inr (by decide +kernel)) (by rw [isSubtype_type]; kernel_rfl)
theorem entry_next : entryFor table "bytearray_iterator.__next__" = some Builtin.«bytearray_iterator.__next__» := entryFor_of_tree (by kernel_rfl)
theorem args_next (a : Value) : argsOk "bytearray_iterator.__next__" ⟨[a], []⟩ := by unfold argsOk; kernel_rfl
theorem slot_self : Slot "bytearray_iterator" "__iter__" "bytearray_iterator.__iter__" :=
  .of (owner := "bytearray_iterator") (n := "__iter__") (by rw [typeLookup_type, builtinLookup_eq_fast]; kernel_rfl) (by decide +kernel) (by decide +kernel) (by decide +kernel)
    (by first | exact .inl (by decide +kernel) | exact .inr (by decide +kernel)) (by rw [isSubtype_type]; kernel_rfl)
theorem entry_self : entryFor table "bytearray_iterator.__iter__" = some Builtin.«dict_keyiterator.__iter__» := entryFor_alias (id' := "dict_keyiterator.__iter__") (by kernel_rfl) rfl (by decide +kernel) (by kernel_rfl)
theorem args_self (a : Value) : argsOk "bytearray_iterator.__iter__" ⟨[a], []⟩ := by unfold argsOk; kernel_rfl
end FA

section
variable {prog : Program} {w : World} {A : Around} {E : Value → Shared → Prop} {s : Shared} {a : Addr} {b c : Array UInt8}

theorem meets_len : Meets (Builtin.«bytearray.__len__» ⟨[.ref a], []⟩) (fun _ R s => s.heap.get? a = some (baObj b) ∧ R (.ok (.ret (.int b.size s.toks))) { s with toks := s.toks + 1 }) :=
  .of_wp fun prog w A R s h => by
    show wpAny _ _ (Builtin.Bytes.payload (.ref a) >>= _) _ _ s
    refine wpAny_bind (payload_ba h.1 ?_)
    exact wpAny_bind (wpAny_mkInt (wpAny_pure ⟨_, rfl, h.2⟩))
theorem len_ba {Q : Value → Shared → Prop} (ha : s.heap.get? a = some (baObj b)) (hfit : b.size ≤ 1099511627776) (h : Q (.int b.size (s.toks + 1)) { s with toks := s.toks + 1 + 1 }) : wpAny (model prog w) A (call (.builtin "len") [.ref a]) Q E s :=
  call_len_meets (S := fun _ R s => s.heap.get? a = some (baObj b) ∧ R (.ok (.ret (.int b.size s.toks))) { s with toks := s.toks + 1 }) (ba_type ha) FA.slot_len FA.entry_len' (FA.args_len _) meets_len (by omega) (by omega) (fun Q' hq => ⟨ha, hq⟩) h

theorem truthy_ba {Q : Bool → Shared → Prop} (ha : s.heap.get? a = some (baObj b)) (hfit : b.size ≤ 1099511627776) (h : Q ((b.size : Int) != 0) { s with toks := s.toks + 1 + 1 }) : wpAny (model prog w) A (truthy (.ref a)) Q E s := by
  have hT := ba_type ha
  have key : wpAny (model prog w) A (runValue (.builtin "len" ⟨[.ref a], []⟩)) (fun r s' => r = .int b.size (s.toks + 1) ∧ Q ((b.size : Int) != 0) s') E s := by
    refine wpAny_runValue (codeAny_builtin entry_len ?_)
    rw [Around.under_plainId plain_len _]
    unfold Builtin.«len»
    refine wpAny_bind (m := oneArg "len" _) (wpAny_pure ?_)
    refine wpAny_bind (m := callSpecial? (.ref a) (Str.ofString "__len__")) (wpAny_callSpecial?_slot (name := Str.ofString "__len__") hT FA.slot_len (call_meets (S := fun _ R s => s.heap.get? a = some (baObj b) ∧ R (.ok (.ret (.int b.size s.toks))) { s with toks := s.toks + 1 }) FA.slot_len hT FA.entry_len' (FA.args_len _) meets_len ⟨ha, ?_⟩))
    show wpAny _ _ _ _ _ { s with toks := s.toks + 1 }
    refine wpAny_bind (wpAny_holding (wpAny_pure ?_))
    refine wpAny_bind (wpAny_letGo ?_)
    show wpAny _ _ (if (b.size : Int) < 0 then _ else _) _ _ _
    rw [if_neg (by omega)]
    show wpAny _ _ (if (b.size : Int) ≥ 2 ^ 63 then _ else _) _ _ _
    rw [if_neg (by omega)]
    exact wpAny_bind (wpAny_mkInt (wpAny_pure ⟨rfl, h⟩))
  unfold truthy
  first
    | refine wpAny_bind (wpAny_callSpecial?_none (name := Str.ofString "__bool__") hT FA.noBool ?_)
    | refine wpAny_bind (wpAny_pure (wpAny_bind (wpAny_callSpecial?_none (name := Str.ofString "__bool__") hT FA.noBool ?_)))
  first
    | refine wpAny_bind (wpAny_specialOf (name := Str.ofString "__len__") hT FA.slot_len.lookup ?_)
    | refine wpAny_bind (wpAny_pure (wpAny_bind (wpAny_specialOf (name := Str.ofString "__len__") hT FA.slot_len.lookup ?_)))
  first
    | exact wpAny_bind (wpAny_mono key (fun r s' h' => by obtain ⟨rfl, hq⟩ := h'; exact wpAny_pure hq) fun _ _ e => e)
    | exact wpAny_bind (wpAny_pure (wpAny_bind (wpAny_mono key (fun r s' h' => by obtain ⟨rfl, hq⟩ := h'; exact wpAny_pure hq) fun _ _ e => e)))

theorem add_ba {a' : Addr} {Q : Value → Shared → Prop} (ha : s.heap.get? a = some (baObj b)) (ha' : s.heap.get? a' = some (baObj c)) (hz : b.size + c.size ≤ 16777216)
    (h : Q (.ref s.heap.objs.size) { s with heap := s.heap.push (baObj (b ++ c)) }) : wpAny (model prog w) A (binaryOp .Add (.ref a) (.ref a')) Q E s := by
  refine wpAny_binaryOp_concat (ba_type ha) (ba_type ha') FA.noFill_add FA.seq_add (wpAny_call_entry FA.slot_add (ba_type ha) FA.entry_add ?_ (FA.args_add _ _))
  show wpAny _ _ (Builtin.Bytes.buffer? "bytearray.__add__" (.ref a) >>= _) _ _ s
  refine wpAny_bind (buffer_ba ha ?_)
  show wpAny _ _ (Builtin.Bytes.bufferQuiet? "bytearray.__add__" (.ref a') >>= _) _ _ s
  refine wpAny_bind (quiet_ba ha' ?_)
  show wpAny _ _ (if Builtin.Bytes.tooLong (b.size + c.size) = true then _ else _) _ _ s
  rw [if_neg (by rw [KBy.tooLong_not hz]; exact Bool.false_ne_true)]
  unfold Builtin.Bytes.newBytearray
  refine wpAny_bind (wpAny_newObj_type ?_ (by show (b ++ c).size ≤ sizeLine; rw [Array.size_append, sizeLine_eq]; exact hz))
  exact wpAny_pure ⟨_, rfl, h⟩
end
end Mine
end
section
namespace Mine
/-- an iterator over a bytearray -/
def IsBaIter (h : Heap) (a d : Addr) (i : Nat) : Prop := ∃ o, h.get? a = some o ∧ o.cls = .type "bytearray_iterator" ∧ o.data = .fields #[.ref d, .int i 0]
theorem IsBaIter.typeIs {s : Shared} {a d : Addr} {i : Nat} (y : IsBaIter s.heap a d i) : s.TypeIs (.ref a) "bytearray_iterator" := let ⟨o, ho, hc, _⟩ := y; ⟨o, ho, hc⟩
theorem IsBaIter.at {h h' : Heap} {a d : Addr} {i : Nat} (y : IsBaIter h a d i) (k : ∀ o, h.get? a = some o → h'.get? a = some o) : IsBaIter h' a d i := let ⟨o, ho, r⟩ := y; ⟨o, k o ho, r⟩

section
variable {prog : Program} {w : World} {A : Around} {E : Value → Shared → Prop} {s : Shared} {d : Addr} {b : Array UInt8}
theorem pyIter_ba {Q : Value → Shared → Prop} (hd : s.heap.get? d = some (baObj b))
    (hQ : Q (.ref s.heap.objs.size) { s with heap := s.heap.push { cls := .type "bytearray_iterator", data := .fields #[.ref d, .int 0 0] } }) : wpAny (model prog w) A (pyIter (.ref d)) Q E s := by
  refine wpAny_pyIter_slot (ba_type hd) FA.slot_iter (wpAny_call_entry FA.slot_iter (ba_type hd) FA.entry_iter ?_ (FA.args_iter _))
  show wpAny _ _ (do ret (← newFields "bytearray_iterator" [.ref d, rawInt 0])) _ _ s
  exact wpAny_bind (wpAny_newObj_type (wpAny_pure ⟨_, rfl, "bytearray_iterator", _, ⟨_, Heap.get?_push_size _ rfl, rfl⟩, FA.slot_next.lookup, hQ⟩))
theorem pyIter_baSelf {it : Addr} {i : Nat} {Q : Value → Shared → Prop} (hit : IsBaIter s.heap it d i) (h : Q (.ref it) s) : wpAny (model prog w) A (pyIter (.ref it)) Q E s := by
  refine wpAny_pyIter_slot hit.typeIs FA.slot_self (wpAny_call_entry FA.slot_self hit.typeIs FA.entry_self ?_ (FA.args_self _))
  show wpAny _ _ (ret (.ref it)) _ _ s
  exact wpAny_pure ⟨_, rfl, "bytearray_iterator", _, hit.typeIs, FA.slot_next.lookup, h⟩

/-- the built-in's own body, one item -/
theorem baNext_item {it : Addr} {i : Nat} {c : UInt8} {Q : Value → Shared → Prop} (hit : IsBaIter s.heap it d i) (hd : s.heap.get? d = some (baObj b)) (hx : b[i]? = some c)
    (hQ : ∀ h', IsBaIter h' it d (i + 1) → Heap.SameBut it s.heap h' → Q (.int (c.toNat : Int) s.toks) { s with heap := h', toks := s.toks + 1 }) :
    wpAny (model prog w) A (Builtin.«bytearray_iterator.__next__» ⟨[.ref it], []⟩) (fun fin s' => ∃ v, fin = .done (.ret v) ∧ Q v s') E s := by
  obtain ⟨o, ho, hc, hdt⟩ := id hit
  show wpAny _ _ (field (.ref it) 0 >>= _) _ _ s
  refine wpAny_bind (wpAny_field ho hdt (x := .ref d) rfl ?_)
  show wpAny _ _ (load d >>= _) _ _ s
  refine wpAny_bind (wpAny_load hd ?_)
  show wpAny _ _ (field (.ref it) 1 >>= _) _ _ s
  refine wpAny_bind (wpAny_field ho hdt (x := .int i 0) rfl ?_)
  simp only [Int.toNat_natCast, hx]
  refine wpAny_bind (wpAny_setField ho hdt (by simp) (wpAny_bind (wpAny_mkInt (wpAny_pure ⟨_, rfl, hQ _ ?_ (Heap.SameBut.update ..)⟩))))
  exact ⟨_, Heap.get?_update_self _ ho (Obj.isFreed_of_fields (Obj.data_mapFields hdt _)), (Obj.cls_mapFields ..).trans hc, by
    rw [Obj.data_mapFields hdt]; simp [rawInt]⟩

theorem baNext_end {it : Addr} {i : Nat} {Q : Value → Shared → Prop} (hh : A.handled = none) (hit : IsBaIter s.heap it d i) (hd : s.heap.get? d = some (baObj b)) (hx : b[i]? = none)
    (hE : ∀ h' e, Heap.ExtBut it s.heap h' → (∃ o, h'.get? e = some o ∧ o.cls = .type "StopIteration") → E (.ref e) { s with heap := h' }) :
    wpAny (model prog w) A.in1 (Builtin.«bytearray_iterator.__next__» ⟨[.ref it], []⟩) (fun fin s' => ∃ v, fin = .done (.ret v) ∧ Q v s') E s := by
  obtain ⟨o, ho, hc, hdt⟩ := id hit
  show wpAny _ _ (field (.ref it) 0 >>= _) _ _ s
  refine wpAny_bind (wpAny_field ho hdt (x := .ref d) rfl ?_)
  show wpAny _ _ (load d >>= _) _ _ s
  refine wpAny_bind (wpAny_load hd ?_)
  show wpAny _ _ (field (.ref it) 1 >>= _) _ _ s
  refine wpAny_bind (wpAny_field ho hdt (x := .int i 0) rfl ?_)
  simp only [Int.toNat_natCast, hx]
  refine wpAny_bind (wpAny_rule (wpAny_bind (wpAny_setField ho hdt (by simp) (wpAny_bind (wpAny_letGo ?_)))))
  show wpAny _ _ (newExc (.type "StopIteration") [] >>= _) _ _ _
  refine wpAny_bind ?_
  simp only [newExc, newTuple]
  refine wpAny_bind (wpAny_newObj_type ?_ (by size_fits))
  refine wpAny_bind (m := firstArgMember _ _) (wpAny_of_eq (a := Value.none) (by first | rfl | (simp only [firstArgMember]; rfl)) ?_)
  refine wpAny_newObj_type ?_ (by size_fits)
  simp only [raiseNew]
  refine wpAny_bind (wpAny_handled ?_)
  rw [show A.in1.handled = none from hh]
  refine wpAny_bind (wpAny_pure (wpAny_throw ?_))
  exact hE _ _ (((Heap.SameBut.update ..).extBut.push _).push _) ⟨_, Heap.get?_push_size _ rfl, rfl⟩

theorem next_ba_item {it : Addr} {i : Nat} {c : UInt8} {Q : Option Value → Shared → Prop} (hit : IsBaIter s.heap it d i) (hd : s.heap.get? d = some (baObj b)) (hx : b[i]? = some c)
    (hQ : ∀ h', IsBaIter h' it d (i + 1) → Heap.SameBut it s.heap h' → Q (some (.int (c.toNat : Int) s.toks)) { s with heap := h', toks := s.toks + 1 }) : wpAny (model prog w) A (pyNext (.ref it)) Q E s := by
  unfold pyNext
  exact wpAny_bind (wpAny_attempt (wpAny_callSpecial?_slot (name := Str.ofString "__next__") hit.typeIs FA.slot_next
    (wpAny_call_entry FA.slot_next hit.typeIs FA.entry_next (baNext_item hit hd hx fun h' a b => wpAny_pure (hQ h' a b)) (FA.args_next _))))
theorem next_ba_end {it : Addr} {i : Nat} {Q : Option Value → Shared → Prop} (hh : A.handled = none) (hit : IsBaIter s.heap it d i) (hd : s.heap.get? d = some (baObj b)) (hx : b[i]? = none)
    (hQ : ∀ h', Heap.ExtBut it s.heap h' → Q none { s with heap := h' }) : wpAny (model prog w) A (pyNext (.ref it)) Q E s := by
  unfold pyNext
  refine wpAny_bind (wpAny_attempt (wpAny_callSpecial?_slot (name := Str.ofString "__next__") hit.typeIs FA.slot_next
    (wpAny_call_entry FA.slot_next hit.typeIs FA.entry_next (baNext_end hh hit hd hx fun h' e he hx' => ?_) (FA.args_next _))))
  obtain ⟨o, ho, hc⟩ := hx'
  refine wpAny_bind (wpAny_isInstance (T := "StopIteration") (b := true) ⟨o, ho, hc⟩ isSubtype_stop ?_)
  exact wpAny_pure (hQ _ he)

theorem nextOf_ba_item {it : Addr} {i : Nat} {c : UInt8} {Q : Value → Shared → Prop} (hit : IsBaIter s.heap it d i) (hd : s.heap.get? d = some (baObj b)) (hx : b[i]? = some c)
    (hQ : ∀ h', IsBaIter h' it d (i + 1) → Heap.SameBut it s.heap h' → Q (.int (c.toNat : Int) s.toks) { s with heap := h', toks := s.toks + 1 }) :
    wpAny (model prog w) A (Builtin.SmallTypes.nextOf (.ref it)) Q E s := by
  unfold Builtin.SmallTypes.nextOf
  exact wpAny_bind (wpAny_callSpecial?_slot (name := Str.ofString "__next__") hit.typeIs FA.slot_next
    (wpAny_call_entry FA.slot_next hit.typeIs FA.entry_next (baNext_item hit hd hx fun h' a b => wpAny_pure (hQ h' a b)) (FA.args_next _)))
theorem nextOf_ba_end {it : Addr} {i : Nat} {Q : Value → Shared → Prop} (hh : A.handled = none) (hit : IsBaIter s.heap it d i) (hd : s.heap.get? d = some (baObj b)) (hx : b[i]? = none)
    (hE : ∀ h' e, Heap.ExtBut it s.heap h' → (∃ o, h'.get? e = some o ∧ o.cls = .type "StopIteration") → E (.ref e) { s with heap := h' }) :
    wpAny (model prog w) A (Builtin.SmallTypes.nextOf (.ref it)) Q E s := by
  unfold Builtin.SmallTypes.nextOf
  exact wpAny_bind (wpAny_callSpecial?_slot (name := Str.ofString "__next__") hit.typeIs FA.slot_next
    (wpAny_call_entry FA.slot_next hit.typeIs FA.entry_next (baNext_end hh hit hd hx fun h' e he hx' => hE h' e he hx') (FA.args_next _)))
end
end Mine
end
section
open AutoSeq1 (wpAny_loadPart')

namespace Mine
theorem meets_enum_new (l : Addr) (b : Array UInt8) :
    Meets (Builtin.«enumerate.__new__» ⟨[.type "enumerate", .ref l], []⟩) (fun _ R s => s.heap.get? l = some (baObj b) ∧
      R (.ok (.ret (.ref (s.heap.push { cls := .type "bytearray_iterator", data := .fields #[.ref l, .int 0 0] }).objs.size)))
        { s with heap := (s.heap.push { cls := .type "bytearray_iterator", data := .fields #[.ref l, .int 0 0] }).push { cls := .type "enumerate", data := .fields #[.none, .bool false, .ref s.heap.objs.size, rawInt 0, .none, .none] } }) :=
  .of_wp fun prog w A R s h => by
    obtain ⟨hp, g, d, tk, os⟩ := s; obtain ⟨hl, h⟩ := h
    have hsub := sub_enumerate
    have hL : (Shared.heap ⟨hp, g, d, tk, os⟩).get? l = some (baObj b) := hl
    wp_walk using wpAny_loadPart' hl
    refine wpAny_stack_any fun st => wpAny_pure ?_
    split
    · rename_i c _ _ _ _ _
      cases (c == Value.type "enumerate")
      · wp_walk using wpAny_loadPart' hl, pyIter_ba hL
        exact ⟨_, rfl, h⟩
      · wp_walk using wpAny_loadPart' hl, pyIter_ba hL
        exact ⟨_, rfl, h⟩
    · wp_walk using wpAny_loadPart' hl, pyIter_ba hL
      exact ⟨_, rfl, h⟩

section
variable {prog : Program} {w : World} {A : Around} {E : Value → Shared → Prop} {s : Shared}

theorem call_enum_ba {l : Addr} {b : Array UInt8} {Q : Value → Shared → Prop} (hl : s.heap.get? l = some (baObj b))
    (h : ∀ h', IsEnum h' (s.heap.objs.size + 1) s.heap.objs.size 0 .none → IsBaIter h' s.heap.objs.size l 0 → h'.objs.size = s.heap.objs.size + 2 →
      (∀ b o, s.heap.get? b = some o → h'.get? b = some o) → Q (.ref (s.heap.objs.size + 1)) { s with heap := h' }) :
    wpAny (model prog w) A (call (.type "enumerate") [.ref l]) Q E s := by
  refine callType_new F.called_enumerate (by decide) (F.typeCall_enumerate_1 _) (F.newCall_enumerate_1 _) (fun obj => F.args_object_init_2 obj _) F.entry_enumerate_new
    (meets_enum_new l b) ⟨hl, ?_⟩
  have hz : (s.heap.push { cls := .type "bytearray_iterator", data := .fields #[.ref l, .int 0 0] }).objs.size = s.heap.objs.size + 1 := Heap.size_push ..
  show _ ∧ _
  rw [hz]
  have he : IsEnum ((s.heap.push { cls := .type "bytearray_iterator", data := .fields #[.ref l, .int 0 0] }).push
      { cls := .type "enumerate", data := .fields #[.none, .bool false, .ref s.heap.objs.size, rawInt 0, .none, .none] }) (s.heap.objs.size + 1) s.heap.objs.size 0 .none := by
    have := Heap.get?_push_size (s.heap.push { cls := .type "bytearray_iterator", data := .fields #[.ref l, .int 0 0] })
      (o := { cls := .type "enumerate", data := .fields #[.none, .bool false, .ref s.heap.objs.size, rawInt 0, .none, .none] }) rfl
    rw [hz] at this; exact this
  refine ⟨⟨_, he, rfl⟩, h _ he ⟨_, Heap.get?_push_of_some _ (Heap.get?_push_size _ rfl), rfl, rfl⟩ (by rw [Heap.size_push, hz]) fun b o x => Heap.get?_push_of_some _ (Heap.get?_push_of_some _ x)⟩

theorem enum_next_item {e it l : Addr} {i : Nat} {b : Array UInt8} {x : UInt8} {old : Value} {Q : Value → Shared → Prop}
    (he : IsEnum s.heap e it i old) (hit : IsBaIter s.heap it l i) (hl : s.heap.get? l = some (baObj b)) (hx : b[i]? = some x) (hne : e ≠ it)
    (hQ : ∀ h', IsEnumOut h' e it ((i : Int) + 1) (.int (x.toNat : Int) s.toks) s.heap.objs.size → IsBaIter h' it l (i + 1) →
      h'.get? s.heap.objs.size = some { cls := .type "tuple", data := .seq #[.int i (s.toks + 1), .int (x.toNat : Int) s.toks] } → h'.objs.size = s.heap.objs.size + 1 →
      (∀ b o, b ≠ e → b ≠ it → s.heap.get? b = some o → h'.get? b = some o) → Q (.ref s.heap.objs.size) { s with heap := h', toks := s.toks + 1 + 1 }) :
    wpAny (model prog w) A (Builtin.«enumerate.__next__» ⟨[.ref e], []⟩) (fun fin s' => ∃ v, fin = .done (.ret v) ∧ Q v s') E s := by
  obtain ⟨hp, g, d, tk, os⟩ := s
  show wpAny _ _ (field (.ref e) 2 >>= _) _ _ _
  refine wpAny_bind (wpAny_field he rfl (x := .ref it) rfl ?_)
  refine wpAny_bind (nextOf_ba_item hit hl hx fun h₁ hit₁ hs₁ => ?_)
  replace hs₁ : Heap.SameBut it hp h₁ := hs₁
  have he₁ : IsEnum h₁ e it i old := (hs₁.2 e hne).trans he
  show wpAny _ _ (field (.ref e) 3 >>= _) _ _ ⟨h₁, g, d, tk + 1, os⟩
  refine wpAny_bind (wpAny_field he₁ rfl (x := rawInt i) rfl ?_)
  show wpAny _ _ (field (.ref e) 4 >>= _) _ _ ⟨h₁, g, d, tk + 1, os⟩
  refine wpAny_bind (wpAny_field he₁ rfl (x := .none) rfl ?_)
  show wpAny _ _ (mkInt i >>= _) _ _ ⟨h₁, g, d, tk + 1, os⟩
  refine wpAny_bind (wpAny_mkInt ?_)
  show wpAny _ _ (setField (.ref e) 3 (rawInt ((i : Int) + 1)) >>= _) _ _ ⟨h₁, g, d, tk + 1 + 1, os⟩
  refine wpAny_bind (wpAny_setField_rec he₁ (by simp) fun h₂ he₂ hs₂ => ?_)
  replace hs₂ : Heap.SameBut e h₁ h₂ := hs₂
  replace he₂ : IsEnum h₂ e it ((i : Int) + 1) old := he₂
  show wpAny _ _ (setField (.ref e) 4 .none >>= _) _ _ ⟨h₂, g, d, tk + 1 + 1, os⟩
  refine wpAny_bind (wpAny_setField_rec he₂ (by simp) fun h₃ he₃ hs₃ => ?_)
  replace hs₃ : Heap.SameBut e h₂ h₃ := hs₃
  replace he₃ : IsEnum h₃ e it ((i : Int) + 1) old := he₃
  show wpAny _ _ (newTuple [.int i (tk + 1), .int (x.toNat : Int) tk] >>= _) _ _ ⟨h₃, g, d, tk + 1 + 1, os⟩
  refine wpAny_bind (wpAny_newTuple ?_)
  have he₄ : IsEnum (h₃.push { cls := .type "tuple", data := .seq #[.int i (tk + 1), .int (x.toNat : Int) tk] }) e it ((i : Int) + 1) old := Heap.get?_push_of_some _ he₃
  generalize hh₄ : h₃.push { cls := .type "tuple", data := .seq #[.int i (tk + 1), .int (x.toNat : Int) tk] } = h₄ at he₄
  have hsz : h₃.objs.size = hp.objs.size := by rw [hs₃.1, hs₂.1, hs₁.1]
  have hel : e < hp.objs.size := Heap.lt_size he
  have ht₄ : h₄.get? hp.objs.size = some { cls := .type "tuple", data := .seq #[.int i (tk + 1), .int (x.toNat : Int) tk] } := by rw [← hh₄, ← hsz]; exact Heap.get?_push_size _ rfl
  have hz₄ : h₄.objs.size = hp.objs.size + 1 := by rw [← hh₄, Heap.size_push, hsz]
  have hk₄ : ∀ b o, b ≠ e → b ≠ it → hp.get? b = some o → h₄.get? b = some o := fun b o hbe hbi hb => by
    rw [← hh₄]; exact Heap.get?_push_of_some _ (hs₃.extBut b o hbe (hs₂.extBut b o hbe (hs₁.extBut b o hbi hb)))
  have hit₄ : IsBaIter h₄ it l (i + 1) := by
    rw [← hh₄]
    exact hit₁.at fun o ho => Heap.get?_push_of_some _ (hs₃.extBut it o (Ne.symm hne) (hs₂.extBut it o (Ne.symm hne) ho))
  show wpAny _ _ (Builtin.SmallTypes.ownedTupleIsFree (.ref e) >>= _) _ _ ⟨h₄, g, d, tk + 1 + 1, os⟩
  rw [hsz]
  clear hh₄ he₃ hs₃ he₂ hs₂ he₁ hs₁ hit₁ hsz h₃ h₂ h₁
  refine wpAny_bind ?_
  unfold Builtin.SmallTypes.ownedTupleIsFree
  refine wpAny_bind (wpAny_field he₄ rfl (x := .none) rfl (wpAny_pure ?_))
  simp only [if_true]
  refine wpAny_bind (wpAny_rule ?_)
  refine wpAny_bind (wpAny_field he₄ rfl (x := old) rfl ?_)
  refine wpAny_bind (wpAny_setField_rec he₄ (by simp) fun h₅ he₅ hs₅ => ?_)
  replace hs₅ : Heap.SameBut e h₄ h₅ := hs₅
  replace he₅ : IsEnum h₅ e it ((i : Int) + 1) (.int (x.toNat : Int) tk) := he₅
  show wpAny _ _ (Builtin.SmallTypes.ownedTupleHandOut (.ref e) (.ref hp.objs.size) >>= _) _ _ ⟨h₅, g, d, tk + 1 + 1, os⟩
  refine wpAny_bind ?_
  unfold Builtin.SmallTypes.ownedTupleHandOut
  refine wpAny_bind (wpAny_setField_rec he₅ (by simp) fun h₆ he₆ hs₆ => ?_)
  replace hs₆ : Heap.SameBut e h₅ h₆ := hs₆
  replace he₆ : IsEnumOut h₆ e it ((i : Int) + 1) (.int (x.toNat : Int) tk) hp.objs.size := he₆
  refine wpAny_setField_rec he₆ (by simp) fun h₇ he₇ hs₇ => ?_
  replace hs₇ : Heap.SameBut e h₆ h₇ := hs₇
  replace he₇ : IsEnumOut h₇ e it ((i : Int) + 1) (.int (x.toNat : Int) tk) hp.objs.size := he₇
  refine wpAny_bind (wpAny_letGo (wpAny_pure ⟨_, rfl, hQ h₇ he₇ ?_ ?_ ?_ ?_⟩))
  · exact hit₄.at fun o ho => hs₇.extBut it o (Ne.symm hne) (hs₆.extBut it o (Ne.symm hne) (hs₅.extBut it o (Ne.symm hne) ho))
  · exact hs₇.extBut _ _ (Nat.ne_of_gt hel) (hs₆.extBut _ _ (Nat.ne_of_gt hel) (hs₅.extBut _ _ (Nat.ne_of_gt hel) ht₄))
  · rw [hs₇.1, hs₆.1, hs₅.1, hz₄]
  · exact fun b o hbe hbi hb => hs₇.extBut b o hbe (hs₆.extBut b o hbe (hs₅.extBut b o hbe (hk₄ b o hbe hbi hb)))

theorem pyNext_enum_ba_item {e it l : Addr} {i : Nat} {b : Array UInt8} {x : UInt8} {old : Value} {Q : Option Value → Shared → Prop}
    (he : IsEnum s.heap e it i old) (hit : IsBaIter s.heap it l i) (hl : s.heap.get? l = some (baObj b)) (hx : b[i]? = some x) (hne : e ≠ it)
    (hQ : ∀ h', IsEnumOut h' e it ((i : Int) + 1) (.int (x.toNat : Int) s.toks) s.heap.objs.size → IsBaIter h' it l (i + 1) →
      h'.get? s.heap.objs.size = some { cls := .type "tuple", data := .seq #[.int i (s.toks + 1), .int (x.toNat : Int) s.toks] } → h'.objs.size = s.heap.objs.size + 1 →
      (∀ b o, b ≠ e → b ≠ it → s.heap.get? b = some o → h'.get? b = some o) → Q (some (.ref s.heap.objs.size)) { s with heap := h', toks := s.toks + 1 + 1 }) :
    wpAny (model prog w) A (pyNext (.ref e)) Q E s := by
  have hT : s.TypeIs (.ref e) "enumerate" := ⟨_, he, rfl⟩
  unfold pyNext
  exact wpAny_bind (wpAny_attempt (wpAny_callSpecial?_slot (name := Str.ofString "__next__") hT F.slot_enumerate_next
    (wpAny_call_entry F.slot_enumerate_next hT F.entry_enumerate_next
      (enum_next_item he hit hl hx hne fun h' a b c d k => wpAny_pure (hQ h' a b c d k)) (F.args_enumerate_next_1 _))))

theorem pyNext_enum_ba_end {e it l : Addr} {i : Nat} {b : Array UInt8} {old : Value} {Q : Option Value → Shared → Prop} (hh : A.handled = none)
    (he : IsEnum s.heap e it i old) (hit : IsBaIter s.heap it l i) (hl : s.heap.get? l = some (baObj b)) (hx : b[i]? = none)
    (hQ : ∀ h', Heap.ExtBut it s.heap h' → Q none { s with heap := h' }) : wpAny (model prog w) A (pyNext (.ref e)) Q E s := by
  have hT : s.TypeIs (.ref e) "enumerate" := ⟨_, he, rfl⟩
  unfold pyNext
  refine wpAny_bind (wpAny_attempt (wpAny_callSpecial?_slot (name := Str.ofString "__next__") hT F.slot_enumerate_next
    (wpAny_call_entry F.slot_enumerate_next hT F.entry_enumerate_next ?_ (F.args_enumerate_next_1 _))))
  show wpAny _ _ (field (.ref e) 2 >>= _) _ _ _
  refine wpAny_bind (wpAny_field he rfl (x := .ref it) rfl ?_)
  refine wpAny_bind (nextOf_ba_end hh hit hl hx fun h' x he' hx' => ?_)
  obtain ⟨o, ho, hc⟩ := hx'
  refine wpAny_bind (wpAny_isInstance (T := "StopIteration") (b := true) ⟨o, ho, hc⟩ isSubtype_stop ?_)
  exact wpAny_pure (hQ _ he')
end

theorem walks_enum {prog : Program} {w : World} {A : Around} (hh : A.handled = none) (e it l : Addr) (hei : e ≠ it) (hle : l ≠ e) (hli : l ≠ it) (b : Array UInt8) :
    WalksU prog w A e [e, it, l] [e, it] b.size
      (fun i vals => ∃ t x u, b[i]? = some x ∧ vals = #[.int i t, .int (x.toNat : Int) u])
      (fun i h => (∃ old, IsEnum h e it i old) ∧ IsBaIter h it l i ∧ h.get? l = some (baObj b))
      (fun i T h => (∃ x, IsEnumOut h e it ((i : Int) + 1) x T) ∧ IsBaIter h it l (i + 1) ∧ h.get? l = some (baObj b) ∧ T ≠ e ∧ T ≠ it) where
  sub := fun b hb => by
    rcases List.mem_cons.mp hb with rfl | hb
    · exact List.mem_cons_self ..
    · exact List.mem_cons_of_mem _ (by rcases List.mem_cons.mp hb with rfl | hb; exact List.mem_cons_self ..; cases hb)
  frame := fun i h h' hst hk => by
    obtain ⟨⟨old, he⟩, hit, hl⟩ := hst
    exact ⟨⟨old, hk e (by simp) _ he⟩, hit.at fun o x => hk it (by simp) o x, hk l (by simp) _ hl⟩
  item := fun i s Q E hi hst hQ => by
    obtain ⟨⟨old, he⟩, hit, hl⟩ := hst
    have hx : b[i]? = some b[i] := Array.getElem?_eq_getElem hi
    refine pyNext_enum_ba_item he hit hl hx hei fun h' ho hit' hT hsz hk => ?_
    have helt : e < s.heap.objs.size := Heap.lt_size he
    have hilt : it < s.heap.objs.size := by obtain ⟨_, x, _⟩ := hit; exact Heap.lt_size x
    exact hQ s.heap.objs.size #[.int i (s.toks + 1), .int (b[i].toNat : Int) s.toks] h' (s.toks + 1 + 1) ⟨_, _, _, hx, rfl⟩ ⟨_, hT, rfl, _, rfl⟩
      ⟨⟨_, ho⟩, hit', hk l _ hle hli hl, Nat.ne_of_gt helt, Nat.ne_of_gt hilt⟩
      fun b o hb x => hk b o (fun e' => hb (by simp [e'])) (fun e' => hb (by simp [e'])) x
  go := fun elts k pos i T s Q E hm hQ => by
    obtain ⟨⟨x, ho⟩, hit, hl, hTe, hTi⟩ := hm
    refine wpAny_letOwnedTupleGo_enum ho fun h' he' hs' => hQ h' ⟨⟨x, by simpa using he'⟩, hit.at fun o y => (hs'.2 it hei.symm).trans y, (hs'.2 l hle).trans hl⟩ fun b o hb y => ?_
    exact (hs'.2 b fun e' => hb (by simp [e'])).trans y
  apart := fun i T h hm hT => by
    obtain ⟨_, _, _, hTe, hTi⟩ := hm
    rcases List.mem_cons.mp hT with rfl | hT
    · exact hTe rfl
    · rcases List.mem_cons.mp hT with rfl | hT
      · exact hTi rfl
      · cases hT
  done := fun s Q E hst hQ => by
    obtain ⟨⟨old, he⟩, hit, hl⟩ := hst
    exact pyNext_enum_ba_end hh he hit hl (Array.getElem?_eq_none (Nat.le_refl _)) fun h' hx => hQ h' s.toks fun b o hb y => hx b o (fun e' => hb (by simp [e'])) y
  self := fun i s Q E hst hQ => by
    obtain ⟨⟨old, he⟩, _, _⟩ := hst
    exact wpAny_pyIter_enum he hQ
end Mine
end
section
namespace Mine
theorem FA.no_dunder_bytes : typeLookup (.type "bytearray") "__bytes__" = pure none := by rw [typeLookup_type, builtinLookup_eq_fast]; kernel_rfl
section
variable {prog : Program} {w : World} {A : Around} {E : Value → Shared → Prop} {s : Shared}
/-- the last part of a subscript, of a thing whose type has a built-in __getitem__ -/
theorem sub_tail {value slice : Expr} {o i : Value} {T id : String} {Q : Value → Shared → Prop} (hT : s.TypeIs o T)
    (hl : typeLookup (.type T) "__getitem__" = pure (some (.builtin id))) (h : wpAny (model prog w) A (getItem o i) Q E s) : wpAny (model prog w) A (subscriptTail value slice o i) Q E s := by
  unfold subscriptTail
  refine wpAny_bind ?_
  rw [getitemInPython_of_ne hT.not_modules]
  refine wpAny_bind (wpAny_specialOf hT hl ?_)
  have fin : wpAny (model prog w) A (subscripted slice false o i) (fun r s₃ => wpAny (model prog w) A (letTemporaryGo value o r >>= fun _ => pure r) Q E s₃) E s := by
    have go : ∀ ops, wpAny (model prog w) A (operate ops (getItem o i)) (fun r s₃ => wpAny (model prog w) A (letTemporaryGo value o r >>= fun _ => pure r) Q E s₃) E s :=
      fun ops => wpAny_operateT (wpAny_mono h (fun r s₃ h₃ => wpAny_bind (wpAny_letTemporaryGo (wpAny_pure h₃))) fun _ _ x => x)
    unfold subscripted
    split
    · exact go _
    · rename_i h2; cases h2
    · exact go _
  first
    | exact wpAny_pure (wpAny_bind fin)
    | exact wpAny_bind (wpAny_pure (wpAny_bind fin))
    | exact wpAny_bind fin

open Builtin in
theorem meets_ba_slice {d a : Addr} {b : Array UInt8} {l u : Value} {lo hi : Option Int} (hl : IsPart l lo) (hu : IsPart u hi) :
    Meets («bytearray.__getitem__» ⟨[.ref d, .ref a], []⟩) (fun _ R s => s.heap.get? d = some (baObj b) ∧ s.heap.IsSliceOf a l u .none ∧ (KBy.picked b lo hi).size ≤ sizeLine ∧
      R (.ok (.ret (.ref s.heap.objs.size))) { s with heap := s.heap.push (baObj (KBy.picked b lo hi)) }) := by
  refine .of_wp fun prog w A R s hS => ?_
  obtain ⟨hd', ⟨o, ho, hc, hd⟩, hsz, h⟩ := hS
  have hT : s.TypeIs (.ref a) "slice" := ⟨o, ho, hc⟩
  show wpAny _ _ (Bytes.subscript? (.ref a) >>= fun r => _) _ _ s
  refine wpAny_bind ?_
  unfold Bytes.subscript?
  refine wpAny_bind (wpAny_specialOf hT slice_no_index (wpAny_pure ?_))
  refine wpAny_bind (wpAny_typeOf hT ?_)
  show wpAny _ _ (Bytes.sliceParts (.ref a) >>= fun r => _) _ _ s
  refine wpAny_bind ?_
  unfold Bytes.sliceParts
  refine wpAny_bind (wpAny_field (x := .none) ho hd rfl ?_)
  kby_none
  refine wpAny_ite (KBy.ite_no (show ¬ ((Value.none == rawInt 0) = true) from Bool.false_ne_true) ?_)
  refine wpAny_bind (wpAny_field (x := l) ho hd rfl ?_)
  have go : wpAny (model prog w) A.in1 (sliceIndices (rawPart lo) (rawPart hi) (rawPart none) b.size) (fun r s' => r = sliceBounds lo hi none b.size ∧ s' = s) (fun _ _ => False) s :=
    wpAny_of_eq (sliceIndices_raw lo hi none b.size (fun e => nomatch e)) ⟨rfl, rfl⟩
  cases hl <;> cases hu <;> (first
    | (kby_none; (refine wpAny_bind (wpAny_field (x := .none) ho hd rfl ?_)); kby_none)
    | (kby_none; (refine wpAny_bind (wpAny_field (x := .int _ _) ho hd rfl ?_)); kby_int)
    | (kby_int; (refine wpAny_bind (wpAny_field (x := .none) ho hd rfl ?_)); kby_none)
    | (kby_int; (refine wpAny_bind (wpAny_field (x := .int _ _) ho hd rfl ?_)); kby_int)) <;> refine wpAny_pure ?_
  all_goals
    refine wpAny_bind (payload_ba hd' ?_)
    refine wpAny_bind (wpAny_mono go (fun r s' hr => ?_) fun _ _ e => e.elim)
    obtain ⟨hr1, hr2⟩ := hr
    subst hr1 hr2
    unfold Bytes.newBytearray
    exact wpAny_bind (wpAny_newObj_type (wpAny_pure ⟨_, rfl, h⟩) hsz)

theorem picked_size_le (b : Array UInt8) (lo hi : Option Int) : (KBy.picked b lo hi).size ≤ b.size := KBc.size_picked_le b lo hi

theorem slice_ba {value slice : Expr} {d : Addr} {b : Array UInt8} {l u : Value} {lo hi : Option Int} {Q : Value → Shared → Prop} (hd : s.heap.get? d = some (baObj b)) (hl : IsPart l lo) (hu : IsPart u hi) (hz : b.size ≤ 16777216)
    (h : ∀ h', h'.get? (s.heap.objs.size + 1) = some (baObj (KBy.picked b lo hi)) → (∀ c o, s.heap.get? c = some o → h'.get? c = some o) → h'.objs.size = s.heap.objs.size + 2 → Q (.ref (s.heap.objs.size + 1)) { s with heap := h' }) :
    wpAny (model prog w) A (subscriptTail value slice (.ref d) (.ref s.heap.objs.size)) Q E { s with heap := s.heap.push { cls := .type "slice", data := .fields #[l, u, .none] } } := by
  have hd1 : (s.heap.push { cls := .type "slice", data := .fields #[l, u, .none] }).get? d = some (baObj b) := Heap.get?_push_of_some _ hd
  refine sub_tail (ba_type (s := { s with heap := s.heap.push { cls := .type "slice", data := .fields #[l, u, .none] } }) hd1) FA.slot_getitem.lookup ?_
  refine getItem_meets (ba_type (s := { s with heap := s.heap.push { cls := .type "slice", data := .fields #[l, u, .none] } }) hd1) (by decide) FA.slot_getitem FA.entry_getitem (FA.args_getitem _ _) (meets_ba_slice (b := b) hl hu)
    ⟨hd1, Heap.IsSliceOf.new _ _ _ _, Nat.le_trans (picked_size_le b lo hi) (by rw [sizeLine_eq]; exact hz), ?_⟩
  have hz1 : (s.heap.push { cls := .type "slice", data := .fields #[l, u, .none] }).objs.size = s.heap.objs.size + 1 := Heap.size_push ..
  show Q (.ref (s.heap.push { cls := .type "slice", data := .fields #[l, u, .none] }).objs.size) _
  have e1 := Heap.get?_push_size (s.heap.push { cls := .type "slice", data := .fields #[l, u, .none] }) (o := baObj (KBy.picked b lo hi)) rfl
  rw [hz1] at e1 ⊢
  exact h _ e1 (fun c o e => Heap.get?_push_of_some _ (Heap.get?_push_of_some _ e)) (by rw [Heap.size_push, hz1])

/-- bytes(x) of a bytearray -/
theorem bytes_of_ba {a : Addr} {b : Array UInt8} {Q : Value → Shared → Prop} (ha : s.heap.get? a = some (baObj b)) (hz : b.size ≤ sizeLine)
    (hQ : Q (.bytes b s.toks) { s with toks := s.toks + 1 }) : wpAny (model prog w) A (call (.type "bytes") [.ref a]) Q E s := by
  have hT := ba_type ha
  have hnew : codeAny (model prog w) A.in1 (.call (.builtin "bytes.__new__") ⟨[.type "bytes", .ref a], []⟩) (wants (fun obj s₁ => s₁.TypeIs obj "bytes" ∧ Q obj s₁) E) s := by
    refine codeAny_of_tree ?_
    show wpAny _ A.in1.in1 (do checkBuiltinCall "bytes.__new__" ⟨[.type "bytes", .ref a], []⟩; again (.builtin "bytes.__new__" ⟨[.type "bytes", .ref a], []⟩)) _ _ s
    refine wpAny_bind (wpAny_of_eq (F.bm_newCall _) (wpAny_pure ⟨plainId_quiet F.bm_plain _, codeAny_builtin F.bm_entry ?_⟩))
    rw [Around.under_plainId F.bm_plain _]
    unfold Builtin.«bytes.__new__»
    refine wpAny_bind (wpAny_of_eq (a := true) rfl ?_)
    refine bm_if_false rfl ?_
    refine wpAny_bind (wpAny_of_eq F.bm_sub ?_)
    refine bm_if_false rfl ?_
    refine wpAny_bind (wpAny_of_eq (F.bm_bind _) ?_)
    refine wpAny_bind (wpAny_of_eq (a := ()) rfl ?_)
    refine wpAny_bind (wpAny_of_eq (a := ()) rfl ?_)
    refine bm_if_false rfl ?_
    refine wpAny_bind (wpAny_specialOf hT FA.no_dunder_bytes ?_)
    refine wpAny_bind (wpAny_bind ?_)
    show wpAny _ _ (load a >>= _) _ _ _
    refine wpAny_bind (wpAny_load ha ?_)
    refine wpAny_pure (wpAny_pure ?_)
    refine bm_if_false rfl ?_
    refine wpAny_bind (wpAny_specialOf hT FA.ba_no_index ?_)
    refine bm_if_true rfl ?_
    first
      | show wpAny _ _ (Builtin.Bytes.buffer? "bytes.__new__" (.ref a) true >>= _) _ _ _
      | (refine wpAny_bind ?_; show wpAny _ _ (Builtin.Bytes.buffer? "bytes.__new__" (.ref a) true >>= _) _ _ _)
    refine wpAny_bind (buffer_ba ha ?_)
    refine wpAny_bind (wpAny_rule ?_)
    refine wpAny_bind (wpAny_mkBytes ?_ hz)
    show wpAny _ _ (if (Value.type "bytes" == Value.type "bytes") = true then _ else _) _ _ _
    refine bm_if_true (by decide) ?_
    first
      | exact wpAny_pure ⟨typeIs_bytes _ _ _, hQ⟩
      | exact wpAny_bind (wpAny_pure (wpAny_pure ⟨typeIs_bytes _ _ _, hQ⟩))
  refine callType_codes (Q₁ := fun obj s₁ => s₁.TypeIs obj "bytes" ∧ Q obj s₁) F.bm_called (F.bm_typeCall _) F.entry_object_init hnew fun obj s₁ h₁ => ?_
  exact ⟨h₁.1, F.args_object_init_2 obj _, object_init_meets F.bm_called.init.lookup F.bm_called.made (by decide) prog w A.in1 _ s₁ ⟨h₁.1, rfl, h₁.2⟩⟩

theorem isi_ba {a : Addr} {b : Array UInt8} {Q : Value → Shared → Prop} (ha : s.heap.get? a = some (baObj b)) (h : Q (.bool true) s) : wpAny (model prog w) A (call (.builtin "isinstance") [.ref a, .type "bytearray"]) Q E s :=
  call_isinstance_yes (ba_type ha) (by kernel_rfl) FA.sub_self h
end
end Mine
end
section
namespace Mine
section
variable {prog : Program} {w : World} {A : Around} {E : Value → Shared → Prop} {s : Shared}

theorem walks_ba (hh : A.handled = none) (I d : Addr) (hne : d ≠ I) (b : Array UInt8) :
    Walks prog w A I [I, d] [I] b.size (fun i v => ∃ (c : UInt8) (u : Tok), b[i]? = some c ∧ v = .int (c.toNat : Int) u) (fun i h => IsBaIter h I d i ∧ h.get? d = some (baObj b)) where
  sub := fun b hb => by simp at hb; simp [hb]
  frame := fun _ _ _ st hk => ⟨st.1.at fun o e => hk I (by simp) o e, hk d (by simp) _ st.2⟩
  item := fun i s Q E hi st hQ => by
    refine next_ba_item st.1 st.2 (c := b[i]) (by simp [hi]) fun h' hit' hs' => ?_
    exact hQ _ h' (s.toks + 1) ⟨_, _, by simp [hi], rfl⟩ ⟨hit', (hs'.2 d hne).trans st.2⟩ fun b o hb e => hs'.extBut b o (fun h => hb (by simp [h])) e
  done := fun s Q E st hQ => next_ba_end hh st.1 st.2 (by simp) fun h' he' => hQ h' s.toks fun b o hb e => he' b o (fun h => hb (by simp [h])) e
  self := fun _ _ _ _ st hQ => pyIter_baSelf st.1 hQ

theorem draw_walks {I : Addr} {fp wr : List Addr} {n : Nat} {P : Nat → Value → Prop} {St : Nat → Heap → Prop} (W : Walks prog w A I fp wr n P St) :
    ∀ (k i : Nat) (s : Shared) (Q : List Value → Shared → Prop), i + k = n → St i s.heap →
      (∀ vs h' tk, vs.length = k → (∀ j v, vs[j]? = some v → P (i + j) v) → St n h' → (∀ b o, b ∉ wr → s.heap.get? b = some o → h'.get? b = some o) → Q vs { s with heap := h', toks := tk }) →
      wpAny (model prog w) A (draw (.ref I) k) Q E s
  | 0, i, s, Q, hn, st, hQ => by
    show wpAny _ _ (pure []) Q E s
    have : i = n := by omega
    subst this
    exact wpAny_pure (hQ [] s.heap s.toks rfl (by simp) st fun _ _ _ e => e)
  | k + 1, i, s, Q, hn, st, hQ => by
    show wpAny _ _ (pyNext (.ref I) >>= _) Q E s
    refine wpAny_bind (W.item i s _ _ (by omega) st fun v h₁ tk₁ hPv hst₁ hk₁ => ?_)
    refine wpAny_bind (wpAny_holding (draw_walks W k (i + 1) _ _ (by omega) hst₁ fun vs h' tk hl hvs hst hk => wpAny_pure ?_))
    refine hQ (v :: vs) h' tk (by simp [hl]) (fun j u hj => ?_) hst fun b o hb e => hk b o hb (hk₁ b o hb e)
    cases j with
    | zero => simp at hj; subst hj; exact hPv
    | succ j => simp at hj; have := hvs j u hj; rwa [show i + 1 + j = i + (j + 1) by omega] at this

theorem unpack_walks {v : Value} {T id : String} {n : Nat} {Q : List Value → Shared → Prop} (hT : s.TypeIs v T) (slot : Slot T "__iter__" id)
    (hit : wpAny (model prog w) A (pyIter v) (fun it s₁ => ∃ I fp wr P St h₁, it = .ref I ∧ s₁ = { s with heap := h₁ } ∧ Walks prog w A I fp wr n P St ∧ St 0 h₁ ∧ (∀ b o, s.heap.get? b = some o → h₁.get? b = some o ∧ b ∉ wr) ∧
      ∀ vs h' tk, vs.length = n → (∀ j v, vs[j]? = some v → P j v) → (∀ b o, s.heap.get? b = some o → h'.get? b = some o) → Q vs { s with heap := h', toks := tk }) E s) :
    wpAny (model prog w) A (unpackItems v n none) Q E s := by
  unfold unpackItems
  refine wpAny_bind ?_
  unfold notIterableAtAll
  refine wpAny_bind (wpAny_specialOf hT slot.lookup ?_)
  refine wpAny_pure ?_
  simp only [Bool.false_eq_true, if_false]
  refine wpAny_bind (wpAny_holding (wpAny_mono hit (fun it s₁ h₁ => ?_) fun _ _ e => e))
  obtain ⟨I, fp, wr, P, St, h₁, rfl, rfl, W, hst, hk, hQ⟩ := h₁
  refine wpAny_bind (wpAny_holding (draw_walks W n 0 _ _ (by omega) hst fun vs h' tk hl hvs hst' hk' => ?_))
  rw [if_neg (by omega)]
  refine wpAny_bind (wpAny_holding (W.done _ _ _ hst' fun h'' tk'' hk'' => ?_))
  simp only [Option.isSome_none, Bool.false_eq_true, if_false]
  refine wpAny_pure (hQ vs h'' tk'' hl (fun j v e => by have := hvs j v e; rwa [Nat.zero_add] at this) fun b o e => ?_)
  exact hk'' b o (hk b o e).2 (hk' b o (hk b o e).2 (hk b o e).1)

/-- a key: bytes, or a bytearray of the heap -/
def KeyAt (h : Heap) : Bool → Value → Array UInt8 → Prop
  | true, v, b => ∃ t, v = .bytes b t
  | false, v, b => ∃ q, v = .ref q ∧ h.get? q = some (baObj b)
theorem KeyAt.keeps {h h' : Heap} {k : Bool} {v : Value} {b : Array UInt8} (x : KeyAt h k v b) (hk : ∀ c o, h.get? c = some o → h'.get? c = some o) : KeyAt h' k v b := by
  cases k with
  | true => exact x
  | false => obtain ⟨q, e, hq⟩ := x; exact ⟨q, e, hk _ _ hq⟩

theorem ints_of_bytes {b : Array UInt8} {vs : List Value} (h4 : b.size = 4) (hl : vs.length = b.size) (hP : ∀ (j : Nat) v, vs[j]? = some v → ∃ (c : UInt8) (u : Tok), b[j]? = some c ∧ v = Value.int (c.toNat : Int) u) :
    ∃ t0 t1 t2 t3, vs = [.int ((b.getD 0 0).toNat : Int) t0, .int ((b.getD 1 0).toNat : Int) t1, .int ((b.getD 2 0).toNat : Int) t2, .int ((b.getD 3 0).toNat : Int) t3] := by
  rw [h4] at hl
  match vs, hl with
  | [v0, v1, v2, v3], _ =>
    have g : ∀ (j : Nat) (c : UInt8), b[j]? = some c → b.getD j 0 = c := fun j c e => by rw [Array.getD_eq_getD_getElem?, e]; rfl
    obtain ⟨c0, u0, e0, rfl⟩ := hP 0 v0 rfl
    obtain ⟨c1, u1, e1, rfl⟩ := hP 1 v1 rfl
    obtain ⟨c2, u2, e2, rfl⟩ := hP 2 v2 rfl
    obtain ⟨c3, u3, e3, rfl⟩ := hP 3 v3 rfl
    rw [g 0 c0 e0, g 1 c1 e1, g 2 c2 e2, g 3 c3 e3]
    exact ⟨u0, u1, u2, u3, rfl⟩

theorem unpack_key {k : Bool} {kv : Value} {b : Array UInt8} {Q : List Value → Shared → Prop} (hh : A.handled = none) (hk : KeyAt s.heap k kv b) (h4 : b.size = 4)
    (hQ : ∀ t0 t1 t2 t3 h' tk, (∀ b o, s.heap.get? b = some o → h'.get? b = some o) →
      Q [.int ((b.getD 0 0).toNat : Int) t0, .int ((b.getD 1 0).toNat : Int) t1, .int ((b.getD 2 0).toNat : Int) t2, .int ((b.getD 3 0).toNat : Int) t3] { s with heap := h', toks := tk }) :
    wpAny (model prog w) A (unpackItems kv 4 none) Q E s := by
  have fin : ∀ vs h' tk, vs.length = b.size → (∀ (j : Nat) v, vs[j]? = some v → ∃ (c : UInt8) (u : Tok), b[j]? = some c ∧ v = Value.int (c.toNat : Int) u) → (∀ b o, s.heap.get? b = some o → h'.get? b = some o) → Q vs { s with heap := h', toks := tk } := by
    intro vs h' tk hl hP hk
    obtain ⟨t0, t1, t2, t3, rfl⟩ := ints_of_bytes h4 hl hP
    exact hQ t0 t1 t2 t3 h' tk hk
  have keep : ∀ (o' : Obj) (c : Addr) (o : Obj), s.heap.get? c = some o → (s.heap.push o').get? c = some o ∧ c ∉ [s.heap.objs.size] := fun o' c o e =>
    ⟨Heap.get?_push_of_some _ e, fun hm => by rw [List.mem_singleton.mp hm] at e; exact absurd (Heap.lt_size e) (Nat.lt_irrefl _)⟩
  rw [← h4]
  cases k with
  | true =>
    obtain ⟨t, rfl⟩ := hk
    refine unpack_walks (typeIs_bytes s b t) FB.slot_bytes_iter (KBw.pyIter_bytes ?_)
    exact ⟨_, _, _, _, _, _, rfl, rfl, KBw.walks hh _ b t, ⟨_, Heap.get?_push_size _ rfl, rfl, rfl⟩, keep _, fin⟩
  | false =>
    obtain ⟨q, rfl, hq⟩ := hk
    refine unpack_walks (ba_type hq) FA.slot_iter (pyIter_ba hq ?_)
    exact ⟨_, _, _, _, _, _, rfl, rfl, walks_ba hh _ q (Nat.ne_of_lt (Heap.lt_size hq)) b, ⟨⟨_, Heap.get?_push_size _ rfl, rfl, rfl⟩, Heap.get?_push_of_some _ hq⟩, keep _, fin⟩

theorem slice_bytes {value slice : Expr} {b : Array UInt8} {t : Tok} {l u : Value} {lo hi : Option Int} {Q : Value → Shared → Prop} (hl : IsPart l lo) (hu : IsPart u hi) (hz : b.size ≤ 16777216)
    (h : ∀ t' k, Q (.bytes (KBy.picked b lo hi) t') { s with heap := s.heap.push { cls := .type "slice", data := .fields #[l, u, .none] }, toks := k }) :
    wpAny (model prog w) A (subscriptTail value slice (.bytes b t) (.ref s.heap.objs.size)) Q E { s with heap := s.heap.push { cls := .type "slice", data := .fields #[l, u, .none] } } := by
  refine sub_tail (typeIs_bytes _ b t) FB.slot_bytes_getitem.lookup ?_
  refine getItem_meets (typeIs_bytes _ _ _) (by decide) FB.slot_bytes_getitem FB.entry_bytes_getitem (FB.args_bytes_getitem_2 _ _) (KBc.meets_slice2 b t _ hl hu)
    ⟨Heap.IsSliceOf.new _ _ _ _, Nat.le_trans (picked_size_le b lo hi) (by rw [sizeLine_eq]; exact hz), fun t' k => h _ _⟩

theorem slice_key {value slice : Expr} {k : Bool} {kv : Value} {b : Array UInt8} {l u : Value} {lo hi : Option Int} {Q : Value → Shared → Prop} (hk : KeyAt s.heap k kv b) (hl : IsPart l lo) (hu : IsPart u hi) (hz : b.size ≤ 16777216)
    (h : ∀ kv' h' tk, KeyAt h' k kv' (KBy.picked b lo hi) → (∀ c o, s.heap.get? c = some o → h'.get? c = some o) → Q kv' { s with heap := h', toks := tk }) :
    wpAny (model prog w) A (subscriptTail value slice kv (.ref s.heap.objs.size)) Q E { s with heap := s.heap.push { cls := .type "slice", data := .fields #[l, u, .none] } } := by
  cases k with
  | true =>
    obtain ⟨t, rfl⟩ := hk
    exact slice_bytes hl hu hz fun t' k => h _ _ _ ⟨t', rfl⟩ fun c o e => Heap.get?_push_of_some _ e
  | false =>
    obtain ⟨q, rfl, hq⟩ := hk
    exact slice_ba hq hl hu hz fun h' e kp _ => h _ h' s.toks ⟨_, rfl, e⟩ kp

theorem add_key {k : Bool} {kv kv' : Value} {b c : Array UInt8} {Q : Value → Shared → Prop} (hk : KeyAt s.heap k kv b) (hk' : KeyAt s.heap k kv' c) (hz : b.size + c.size ≤ 16777216)
    (h : ∀ r h' tk, KeyAt h' k r (b ++ c) → (∀ q, r = .ref q → s.heap.get? q = none) → (∀ c o, s.heap.get? c = some o → h'.get? c = some o) → Q r { s with heap := h', toks := tk }) :
    wpAny (model prog w) A (binaryOp .Add kv kv') Q E s := by
  cases k with
  | true =>
    obtain ⟨t, rfl⟩ := hk
    obtain ⟨t', rfl⟩ := hk'
    exact KBy.add_bytes hz fun t' k => h _ s.heap _ ⟨_, rfl⟩ (fun _ e => nomatch e) fun _ _ e => e
  | false =>
    obtain ⟨q, rfl, hq⟩ := hk
    obtain ⟨q', rfl, hq'⟩ := hk'
    exact add_ba hq hq' hz (h _ _ s.toks ⟨_, rfl, Heap.get?_push_size _ rfl⟩ (fun _ e => by cases e; exact Heap.get?_none_of_le (Nat.le_refl _)) fun c o e => Heap.get?_push_of_some _ e)
end
end Mine
end
section
namespace Mine
noncomputable abbrev Kf (P : Params) : Frag := hd.heap_39 P
namespace KX
variable (P : Params)
theorem plain_mk : plainGet (Kf P) 38 "_masking_key" = true := by kernel_rfl
theorem hasDict : hasDictIn (Kf P) 38 = true := by kernel_rfl
theorem find_mk : findIn (Kf P) (.ref 38) "_masking_key" = some none := by kernel_rfl
theorem find_process : findIn (Kf P) (.ref 38) "process" = some (some (.ref 35)) := by kernel_rfl
theorem find_set : findIn (Kf P) (.ref 38) "__setattr__" = some (some (.builtin "object.__setattr__")) := by kernel_rfl
theorem plain_over : plainOver (Kf P) 38 = true := by kernel_rfl
theorem taker : takerIn (Kf P) 38 "_masking_key" = some none := by kernel_rfl
theorem noget : noGet (Kf P) none = true := by kernel_rfl
theorem no_tabs : noTabs (Kf P) = true := by kernel_rfl
theorem makes : makesIn (Kf P) 38 = true := by kernel_rfl
theorem find_init : findIn (Kf P) (.ref 38) "__init__" = some (some (.ref 28)) := by kernel_rfl
theorem fn_init : isFn (Kf P) (.ref 28) = true := by kernel_rfl
theorem ns_bytearray : nsIn (Kf P) mainGlobals "bytearray" = some none := by kernel_rfl
theorem ns_masked : nsIn (Kf P) mainGlobals "_law_masked" = some (some (.ref 49)) := by kernel_rfl
theorem ns_class : nsIn (Kf P) mainGlobals "XorMaskerSimple" = some (some (.ref 38)) := by kernel_rfl
theorem code_process : codeIn (Kf P) (.ref 34) "XorMaskerSimple.process" = true := by kernel_rfl
theorem codeHd_process : codeHdIn (Kf P) 34 30 = true := by kernel_rfl
end KX
end Mine
end
section
namespace Mine
section
variable {M : Model} {A : Around} {s : Shared} {env : Env}

theorem execs_nil_C {Q : Flow → Shared → Prop} (h : Q .next s) : wpC M A (execs [] env) Q s := wpC.of (wpAny_execs_nil h)
theorem execs_cons_C {st : Stmt} {rest : List Stmt} {Q : Flow → Shared → Prop}
    (h : wpC M A (exec st env) (fun f s' => match f with | .next => wpC M A (execs rest env) Q s' | f => Q f s') s) : wpC M A (execs (st :: rest) env) Q s := by
  rw [execs_cons]
  refine wpC.bind (wpC.mono h fun f s' h' => ?_)
  cases f with
  | next => exact h'
  | _ => exact wpC.pure h'
/-- a statement that the library walks -/
theorem execs_any_C {st : Stmt} {rest : List Stmt} {Q : Flow → Shared → Prop}
    (h : wpAny M A (exec st env) (fun f s' => match f with | .next => wpC M A (execs rest env) Q s' | f => Q f s') (fun _ _ => False) s) : wpC M A (execs (st :: rest) env) Q s :=
  execs_cons_C (wpC.of h)

theorem assignName_C {x : Str} {p' : Pos} {value : Expr} {pos : Pos} {Q : Flow → Shared → Prop} (hs : swapsWith value (some (.Name x p')) pos.line env = pure false)
    (h : wpC M A (eval value env) (fun v s' => wpC M A (storeName env x v) (fun _ s'' => Q .next s'') s') s) : wpC M A (exec (.Assign [.Name x p'] value pos) env) Q s := by
  rw [exec_Assign_Name _ _ _ _ _ hs]
  refine wpC.step (wpAny_standAt (wpC.bind (wpC.mono h fun v s' h' => ?_)))
  refine wpC.step (wpAny_standAt (wpC.bind ?_))
  unfold bindName
  refine wpC.bind (wpC.holding (wpC.of (wpAny_point ?_)))
  refine wpC.bind (wpC.mono h' fun _ s'' h'' => ?_)
  exact wpC.of (wpAny_point (wpC.pure h''))

theorem if_C {test : Expr} {body orelse : List Stmt} {pos : Pos} {Q : Flow → Shared → Prop}
    (h : wpC M A (isTrue test env (eval test env)) (fun b s' => if b = true then wpC M A (execs body env) Q s' else wpC M A (execs orelse env) Q s') s) : wpC M A (exec (.If test body orelse pos) env) Q s := by
  rw [exec_If]
  refine wpC.step (wpAny_standAt (wpC.bind (wpC.mono h fun b s' h' => ?_)))
  cases b with
  | true => exact h'
  | false => exact h'

theorem expr_C {e : Expr} {pos : Pos} {Q : Flow → Shared → Prop} (hi : interactive env = false) (hs : swapsWith e none pos.line env = pure false)
    (h : wpC M A (eval e env) (fun v s' => (∀ a, v ≠ .ref a) ∧ Q .next s') s) : wpC M A (exec (.Expr e pos) env) Q s := by
  rw [exec_Expr _ _ _ hi hs]
  refine wpC.step (wpAny_standAt (wpC.bind (wpC.mono h fun v s' h' => ?_)))
  rw [dropValue_plain h'.1]
  exact wpC.pure h'.2

theorem evalArgs_C {f : Value} {args : List (Bool × Sem Value)} {Q : Args → Shared → Prop} (hp : args.any (·.1) = false) (h : wpC M A (spliced args) (fun vs s' => Q ⟨vs, []⟩ s') s) :
    wpC M A (evalArgs f true args []) Q s := by
  rcases args with _ | ⟨⟨b, x⟩, r⟩
  · unfold evalArgs
    show wpC M A (spliced _ >>= _) Q s
    refine wpC.bind (wpC.mono h fun vs s' h' => wpC.bind (wpC.pure ?_))
    refine wpC.holding ?_
    refine wpC.bind (wpC.pure ?_)
    exact wpC.bind (wpC.pure (wpC.pure h'))
  · cases b with
    | true => simp at hp
    | false =>
      unfold evalArgs
      show wpC M A (spliced _ >>= _) Q s
      refine wpC.bind (wpC.mono h fun vs s' h' => wpC.bind (wpC.pure ?_))
      refine wpC.holding ?_
      refine wpC.bind (wpC.pure ?_)
      exact wpC.bind (wpC.pure (wpC.pure h'))

theorem callWith_C {pos : Pos} {f : Value} {first : List Value} {args : List (Bool × Sem Value)} {Q : Value → Shared → Prop} (hp : args.any (·.1) = false)
    (h : wpC M A (spliced args) (fun vs s' => wpAny M A (keeperOf f) (fun k s'' => s'' = s' ∧ (k = .frame ∨ k = .machine ∨ k = .boundFrame)) (fun _ _ => False) s' ∧ wpC M A (call f (first ++ vs)) Q s') s) :
    wpC M A (callWith pos f first args []) Q s := by
  unfold callWith
  refine wpC.bind (wpC.holding (evalArgs_C hp (wpC.mono h fun vs s' h' => ?_)))
  refine wpC.step (wpAny_standAt ?_)
  simp only [hp, List.any_nil, Bool.or_false]
  refine wpC.step (wpAny_mono h'.1 (fun k s'' hk => ?_) fun _ _ x => x)
  obtain ⟨rfl, hk⟩ := hk
  have fin : wpC M A (call f (first ++ vs)) (fun a s'_1 => wpC M A (do holding [a] point; pure a) Q s'_1) s'' :=
    wpC.mono h'.2 fun r s3 h3 => wpC.step (wpAny_holding (wpAny_point (wpC.pure h3)))
  rcases hk with rfl | rfl | rfl
  · dsimp only
    split
    · exact wpC.bind fin
    · exact wpC.bind (wpC.keep fin)
  · exact wpC.bind fin
  · dsimp only
    split
    · exact wpC.bind fin
    · exact wpC.bind (wpC.keep fin)

theorem spliced_nil_C {Q : List Value → Shared → Prop} (h : Q [] s) : wpC M A (spliced []) Q s := wpC.pure h
theorem spliced_cons_C {x : Sem Value} {rest : List (Bool × Sem Value)} {Q : List Value → Shared → Prop}
    (h : wpC M A x (fun v s' => wpC M A (spliced rest) (fun vs s'' => Q (v :: vs) s'') s') s) : wpC M A (spliced ((false, x) :: rest)) Q s := by
  show wpC M A (do let v ← x; let here ← pure [v]; return here ++ (← holding here (spliced rest))) Q s
  refine wpC.bind (wpC.mono h fun v s' h' => wpC.bind (wpC.pure (wpC.bind (wpC.holding (wpC.mono h' fun vs s'' h'' => wpC.pure h'')))))

theorem callName_C {g : Str} {gp pos : Pos} {args : List Expr} {Q : Value → Shared → Prop}
    (h : wpAny M A (eval (.Name g gp) env) (fun f s' => wpC M A (callWith pos f [] (backTo pos (starEach args env)) []) Q s') (fun _ _ => False) s) :
    wpC M A (eval (.Call (.Name g gp) args [] pos) env) Q s := by
  show wpC M A (do callWith pos (← eval (.Name g gp) env) [] (backTo pos (starEach args env)) (backToKw pos (keywordEach [] env))) Q s
  exact wpC.step h

theorem callMethod_C {o : Expr} {name : Str} {apos pos : Pos} {args : List Expr} {Q : Value → Shared → Prop} (hb : attributeBase o name env (eval o env) = eval o env)
    (h : wpAny M A (eval o env) (fun ov s₁ => wpAny M A (calleeOf (methodCallForm args.length (backTo pos (starEach args env)) []) o env ov name) (fun p s₂ =>
      wpAny M A (methodCallPos (methodCallForm args.length (backTo pos (starEach args env)) []) o env apos pos) (fun cp s₃ => wpC M A (callWith cp p.1 p.2 (backTo pos (starEach args env)) []) Q s₃) (fun _ _ => False) s₂) (fun _ _ => False) s₁) (fun _ _ => False) s) :
    wpC M A (eval (.Call (.Attribute o name apos) args [] pos) env) Q s := by
  show wpC M A (do
    let ov ← attributeBase o name env (eval o env)
    standAt apos.atName
    methodCall o name apos pos env ov (args.length + 0) (backTo pos (starEach args env)) (backToKw pos (keywordEach [] env))) Q s
  rw [hb]
  refine wpC.step (wpAny_mono h (fun ov s₁ h₁ => ?_) fun _ _ x => x)
  refine wpC.step (wpAny_standAt ?_)
  unfold methodCall
  exact wpC.step (wpAny_holding (wpAny_mono h₁ (fun p s₂ h₂ => wpC.step h₂) fun _ _ x => x))

theorem or_C {values : List Expr} {pos : Pos} {whole : Sem Value} {Q : Bool → Shared → Prop} (h : wpC M A (allTrue .Or values env) Q s) : wpC M A (isTrue (.BoolOp .Or values pos) env whole) Q s := h
theorem or_nil_C {Q : Bool → Shared → Prop} (h : Q false s) : wpC M A (allTrue .Or [] env) Q s := wpC.pure h
theorem or_cons_C {x : Expr} {rest : List Expr} {Q : Bool → Shared → Prop} (h : wpC M A (isTrue x env (eval x env)) (fun b s' => if b = true then Q true s' else wpC M A (allTrue .Or rest env) Q s') s) :
    wpC M A (allTrue .Or (x :: rest) env) Q s := by
  show wpC M A (do match BoolOp.Or, ← isTrue x env (eval x env) with | .And, false => pure false | .Or, true => pure true | _, _ => allTrue .Or rest env) Q s
  refine wpC.bind (wpC.mono h fun b s' h' => ?_)
  cases b with
  | true => exact wpC.pure h'
  | false => exact h'
end
end Mine
end
section
namespace Mine
section
variable {prog : Program} {w : World} {A : Around} {s : Shared}

theorem func_C {body : List Stmt} {env : Env} {R : Flow → Shared → Prop}
    (h : wpC (model prog w) (A.deeper env) (execs body env) (fun f s' => R (.ret (match f with | .ret v => v | _ => .none)) s') s) : codeC (model prog w) A (.func body env) R s := by
  refine codeC.tree rfl ?_
  show wpC _ (A.deeper env) (do point; match ← (execs body env).onRaise (leaving env) with | .ret v => ret v | _ => ret .none) _ s
  refine wpC.step (wpAny_point (wpC.bind (wpC.onRaise (wpC.mono h fun f s' h' => ?_))))
  cases f <;> exact wpC.pure h'

theorem enter_C {f : Addr} {fo : Obj} {name qual : Str} {params : Arguments} {body : List Stmt} {scope : Scope} {dV kV doc pm cdv ct : Value} {an : Option Addr} {args : Args} {binds : List (Str × Value)} {R : Flow → Shared → Prop}
    (hroom : A.depth < recursionLimit) (ho : s.heap.get? f = some fo) (hd : fo.data = .func (fnX name qual params body scope [] dV kV doc pm an cdv ct)) (hcd : s.heap.CodeRec cdv qual) (hlim : s.heap.NoLimit)
    (hbind : BindsTo s (fnX name qual params body scope [] dV kV doc pm an cdv ct) args binds)
    (hkind : (binds.all fun y => scope.names.lookup y.1 == some .local || scope.names.lookup y.1 == some .cell) = true) (hnd : ((cellsFrom 0 scope.names []).map (·.1)).Nodup)
    (hco : scope.isCoroutine = false) (hgen : scope.isGenerator = false) (hk : scope.kind = .function)
    (h : ∀ h₁ tk cells, Fr s.heap s.heap.objs.size h₁ (bindL (envOfC qual scope s.heap.objs.size f cdv).kindOf binds fun _ => none) → News s.heap s.heap.objs.size h₁ cells →
      CellsAre (bindC (envOfC qual scope s.heap.objs.size f cdv).kindOf binds fun _ => none) (cellsFrom (s.heap.objs.size + 1) scope.names []) cells →
      wpC (model prog w) (A.deeper (envOfC qual scope s.heap.objs.size f cdv)) (execs body (envOfC qual scope s.heap.objs.size f cdv)) (fun fl s' => R (.ret (match fl with | .ret v => v | _ => .none)) s') { s with heap := h₁, toks := tk }) :
    codeC (model prog w) A (.call (.ref f) args) R s := by
  refine codeC.tree rfl ?_
  show wpC _ A.in1 (callAny (.ref f) args) _ s
  simp only [callAny]
  refine wpC.step (wpAny_load ho ?_)
  obtain ⟨c, oc, vs, tq, hc, hoc, hdc, hq⟩ := hcd
  simp only [hd, callFunction, hco, hgen, hc]
  refine wpC.step (m := field (.ref c) 1) (wpAny_field hoc hdc hq (wpC.bind (wpC.pure ?_)))
  have hb2 := hbind
  rw [hc] at hb2
  refine wpC.step (hb2 _ _ _ _ ?_)
  refine wpC.step (wpAny_newFunctionEnv_cells hk (kindsX hkind _) fun env' he s' x => ?_)
  subst he
  refine wpC.step (wpAny_enterFrame ((hlim.keeps x.toInCall.keep)) hroom (wpC.pure ⟨rfl, ?_⟩))
  obtain ⟨h₁, tk, rfl, _⟩ := x.done
  obtain ⟨cells, NC, Y⟩ := Cl.news (h₀ := s.heap) (Nat.le_refl _) fun n c hm => ⟨x.cell n c (lookup_of_mem_nodup (cellsFrom_names scope.names 0 (s.heap.objs.size + 1) [] [] rfl ▸ hnd) hm), x.above n c hm⟩
  have := h h₁ tk cells ⟨x.toInCall.ns, x.toInCall.keep, Nat.le_refl _⟩ NC (by rw [hc] at *; exact Y)
  rw [hc] at this
  exact func_C this
end
end Mine
end
section
namespace Mine
def TabSt (h : Heap) : Prop := ∃ ps, h.get? 30 = some (tabObj ps) ∧ TriplesOk ps.toList

section
variable {M : Model} {A : Around} {E : Value → Shared → Prop} {s : Shared}
theorem genexprCode_tab {env : Env} {c : Addr} {pos : Pos} {qualname : Str} {scope : Scope} {Q : Value → Shared → Prop} (hc : env.code = .ref c) (C : CodeHd s.heap c 30) (TS : TabSt s.heap)
    (hQ : ∀ code h' tk, Heap.ExtBut 30 s.heap h' → TabSt h' → Q code { s with heap := h', toks := tk }) : wpAny M A (genexprCode env pos qualname scope) Q E s := by
  obtain ⟨ps, hP, htr⟩ := TS
  obtain ⟨o, vs, file, tf, flags, tg, inF, text, tt, ho, _, hd, _, h11, h2, h7, h9, h10, hne⟩ := C
  unfold genexprCode codeAt
  rw [hc, if_neg (show ¬ ((Value.ref c == Value.none) = true) from Bool.false_ne_true)]
  refine wpAny_bind (wpAny_fieldsOf ho hd ?_)
  rw [h11]
  refine wpAny_bind (wpAny_fieldsOf hP rfl ?_)
  cases hnf : codeAmong pos ps.toList with
  | some cv => exact wpAny_pure (hQ cv s.heap s.toks (Heap.ExtBut.refl _ _) ⟨ps, hP, htr⟩)
  | none =>
    rw [h2, h7, h9, h10]
    refine wpAny_bind (wpAny_newCode fun c' P' h' tk hk hc' hP' hcode' hrec' => ?_)
    have hop' := hk _ _ hP
    refine wpAny_bind (wpAny_updateFieldsOfTheText hop' rfl ?_)
    have hnew : Obj.mapFields (fun vs => if (codeAmong pos vs.toList).isSome = true then vs else vs ++ #[rawInt pos.line, rawInt pos.col, .ref c']) (tabObj ps) = tabObj (ps ++ #[rawInt pos.line, rawInt pos.col, .ref c']) := by
      show tabObj (if (codeAmong pos ps.toList).isSome = true then ps else ps ++ #[rawInt pos.line, rawInt pos.col, .ref c']) = _
      rw [hnf]; rfl
    have hget := Heap.get?_update_self (h := h') (fun o => Obj.mapFields (fun vs => if (codeAmong pos vs.toList).isSome = true then vs else
      vs ++ #[rawInt pos.line, rawInt pos.col, .ref c']) o) hop' (by rw [hnew]; rfl)
    rw [hnew] at hget
    refine wpAny_bind (wpAny_fieldsOf hget rfl ?_)
    have hl : (ps ++ #[rawInt pos.line, rawInt pos.col, Value.ref c']).toList = ps.toList ++ [rawInt pos.line, rawInt pos.col, .ref c'] := by simp
    rw [hl, codeAmong_snoc _ htr hnf]
    exact wpAny_pure (hQ _ _ _ (fun b o' hb e => ((Heap.SameBut.update ..).extBut b o' hb (hk b o' e))) ⟨_, hget, by rw [hl]; exact TriplesOk_snoc _ _ _ _ htr⟩)
end
end Mine
end
section
namespace Mine
/-- the base of a frame: all of the heap but what the ledger bears -/
theorem rebase {h₀ h h₁ : Heap} {L : Addr} {m : Str → Option Value} {W : List Addr} (F : Fr h L h₁ m) (st : h₀.StaysIn h) (hW : ∀ a ∈ W, h₀.get? a = none) : Fr (hideAll h W) L h₁ m ∧ h₀.StaysIn (hideAll h W) :=
  ⟨⟨F.ns, fun b o e => F.keep b o (of_hideAll _ e), Nat.le_trans (Nat.le_of_eq (hideAll_size _ _)) F.above⟩, fun b o e => hideAll_get _ (st b o e) fun q => by rw [hW b q] at e; cases e⟩

theorem renews {h h₁ : Heap} {L : Addr} {m : Str → Option Value} {W : List Addr} {cells : List (Addr × Obj)} (F : Fr h L h₁ m) (N : News h L h₁ cells) : ∀ {l : List (Addr × Obj)}, (∀ p ∈ l, h.get? p.1 = some p.2 ∧ p.1 ∈ W) → News (hideAll h W) L h₁ (cells ++ l) := fun {l} hl p hp => by
  rcases List.mem_append.mp hp with hp | hp
  · refine ⟨(N p hp).1, (N p hp).2.1, ?_⟩
    cases q : (hideAll h W).get? p.1 with
    | none => rfl
    | some o => have := of_hideAll _ q; rw [(N p hp).2.2] at this; cases this
  · exact ⟨F.keep _ _ (hl p hp).1, Nat.ne_of_lt (Nat.lt_of_lt_of_le (Heap.lt_size (hl p hp).1) F.above), hideAll_none _ (hl p hp).2⟩

def mkEntry (P : Params) (kt : Tok) (kv : Value) : DictEntry := ⟨PyData.keyHash P "_masking_key", .str "_masking_key" kt, kv⟩
def maskOf (key db : Array UInt8) : Array UInt8 := firstOf (fun k => db.getD k 0 ^^^ key.getD (k % 4) 0) db.size
def rotOf (key : Array UInt8) (n : Nat) : Array UInt8 := KBy.picked key (some ((n % 4 : Nat) : Int)) none ++ KBy.picked key none (some ((n % 4 : Nat) : Int))

theorem news_cons {g h : Heap} {L D : Addr} {m : Str → Option Value} {o : Obj} {news : List (Addr × Obj)} (F : Fr g L h m) (N : News g L h news) (e : h.get? D = some o) (hL : L < D) : News g L h ((D, o) :: news) := fun p hp => by
  rcases List.mem_cons.mp hp with rfl | hp
  · exact ⟨e, Nat.ne_of_gt hL, Heap.get?_none_of_le (Nat.le_trans F.above (Nat.le_of_lt hL))⟩
  · exact N p hp
theorem keeper_type {M : Model} {A : Around} {s : Shared} {n : String} : wpAny M A (keeperOf (.type n)) (fun k s'' => s'' = s ∧ (k = .frame ∨ k = .machine ∨ k = .boundFrame)) (fun _ _ => False) s :=
  wpAny_of_eq (a := .machine) rfl ⟨rfl, .inr (.inl rfl)⟩
theorem cls_ne {h : Heap} {a : Addr} {o o' : Obj} (e : h.get? a = some o) (e' : h.get? a = some o') (hn : o.cls ≠ o'.cls) : False := hn (by rw [e] at e'; cases e'; rfl)
theorem fr_lt {g h : Heap} {L : Addr} {m : Str → Option Value} (F : Fr g L h m) : L < h.objs.size := F.ns.lt

theorem callName_W {M : Model} {A : Around} {E : Value → Shared → Prop} {s : Shared} {env : Env} {g : Str} {gp pos : Pos} {args : List Expr} {Q : Value → Shared → Prop}
    (h : wpAny M A (eval (.Name g gp) env) (fun f s' => wpAny M A (callWith pos f [] (backTo pos (starEach args env)) []) Q E s') E s) :
    wpAny M A (eval (.Call (.Name g gp) args [] pos) env) Q E s := by
  show wpAny M A (do callWith pos (← eval (.Name g gp) env) [] (backTo pos (starEach args env)) (backToKw pos (keywordEach [] env))) Q E s
  exact wpAny_bind h
theorem KX.ns_enumerate (P : Params) : nsIn (Kf P) mainGlobals "enumerate" = some none := by kernel_rfl
theorem KX.ns_len (P : Params) : nsIn (Kf P) mainGlobals "len" = some none := by kernel_rfl

theorem nat_xor_add : ∀ a b : Nat, a + b = (a ^^^ b) + 2 * (a &&& b) := by
  intro a
  induction a using Nat.strongRecOn with
  | ind a ih =>
    intro b
    by_cases h : a = 0
    · subst h; simp
    have e := ih (a / 2) (by omega) (b / 2)
    have x1 : (a ^^^ b) / 2 = a / 2 ^^^ b / 2 := Nat.xor_div_two
    have x2 := @Nat.xor_mod_two_eq_one a b
    have y1 : (a &&& b) / 2 = a / 2 &&& b / 2 := Nat.and_div_two
    have y2 := @Nat.and_mod_two_eq_one a b
    rw [← x1, ← y1] at e
    clear ih x1 y1
    generalize a ^^^ b = X at *
    generalize a &&& b = Y at *
    rcases Nat.mod_two_eq_zero_or_one a with h1 | h1 <;> rcases Nat.mod_two_eq_zero_or_one b with h2 | h2 <;> rw [h1, h2] at x2 y2 <;> simp at x2 y2 <;> omega

theorem bitXor_u8 (a b : UInt8) : Builtin.bitXor (a.toNat : Int) (b.toNat : Int) = ((a ^^^ b).toNat : Int) := by
  rw [bitXor_and, bitAnd_pp (by omega) (by omega), UInt8.toNat_xor]
  have := nat_xor_add a.toNat b.toNat
  simp only [Int.toNat_natCast]
  omega
theorem passing_all (n : Nat) : passing (fun _ => true) n 0 = List.range n := by
  unfold passing
  simp
theorem fr_ext {g h h' : Heap} {L P : Addr} {m : Str → Option Value} (F : Fr g L h m) (hP : g.get? P = none) (hL : L ≠ P) (x : Heap.ExtBut P h h') : Fr g L h' m :=
  ⟨F.ns.at' fun o e => x L o hL e, fun b o e => x b o (fun q => by rw [q, hP] at e; cases e) (F.keep b o e), F.above⟩
theorem news_ext {g h h' : Heap} {L P : Addr} {o o' : Obj} {news news' : List (Addr × Obj)} (N : News g L h news) (x : Heap.ExtBut P h h') (e : h'.get? P = some o') (U : Upd P o o' news news') : News g L h' news' := by
  obtain ⟨pre, post, rfl, rfl, a, b⟩ := U.split
  intro p hp
  rcases List.mem_append.mp hp with hp | hp
  · have := N p (List.mem_append_left _ hp)
    exact ⟨x _ _ (a p hp) this.1, this.2⟩
  · rcases List.mem_cons.mp hp with rfl | hp
    · have := N _ (List.mem_append_right _ (.head _))
      exact ⟨e, this.2⟩
    · have := N p (List.mem_append_right _ (.tail _ hp))
      exact ⟨x _ _ (b p hp) this.1, this.2⟩
theorem quad_item (key : Array UInt8) (t0 t1 t2 t3 : Tok) (i : Nat) : ∃ t, (#[.int ((key.getD 0 0).toNat : Int) t0, .int ((key.getD 1 0).toNat : Int) t1, .int ((key.getD 2 0).toNat : Int) t2, .int ((key.getD 3 0).toNat : Int) t3] : Array Value)[i % 4]? = some (.int ((key.getD (i % 4) 0).toNat : Int) t) := by
  have : i % 4 = 0 ∨ i % 4 = 1 ∨ i % 4 = 2 ∨ i % 4 = 3 := by omega
  rcases this with h | h | h | h <;> rw [h] <;> exact ⟨_, rfl⟩

theorem gens_bare {g : Nat} {a b : Array GenState} (h : AllBare a) (x : GenOnlyQ g a b) : AllBare b := h.moved x
theorem fr_but {g h h' : Heap} {L : Addr} {m : Str → Option Value} {wr : List Addr} (F : Fr g L h m) (k : ∀ b o, b ∉ wr → h.get? b = some o → h'.get? b = some o) (hw : ∀ b ∈ wr, @LT.lt Nat _ L b) : Fr g L h' m :=
  ⟨F.ns.at' fun o e => k L o (fun q => Nat.lt_irrefl _ (hw _ q)) e, fun b o e => k b o (fun q => Nat.lt_irrefl _ (Nat.lt_trans (Nat.lt_of_lt_of_le (Heap.lt_size e) F.above) (hw _ q))) (F.keep b o e), F.above⟩
theorem news_but {g h h' : Heap} {L : Addr} {news : List (Addr × Obj)} {wr : List Addr} (N : News g L h news) (k : ∀ b o, b ∉ wr → h.get? b = some o → h'.get? b = some o) (hw : ∀ p ∈ news, p.1 ∉ wr) : News g L h' news := fun p hp =>
  ⟨k _ _ (hw p hp) (N p hp).1, (N p hp).2⟩

theorem rotOf_zero (key : Array UInt8) : rotOf key 0 = key := by
  have c0 : ∀ n, clipAt n 0 = 0 := fun n => by unfold clipAt; rw [if_neg (by decide)]; omega
  show KBy.picked key (some 0) none ++ KBy.picked key none (some 0) = key
  rw [KBc.picked_eq, KBc.picked_eq]
  simp only [Option.elim, c0, Nat.sub_zero, List.drop_zero, List.take_zero]
  rw [List.take_of_length_le (by simp)]
  simp
theorem maskOf_empty {key db : Array UInt8} (h : db.size = 0) : maskOf key db = db := by
  have : db = #[] := Array.eq_empty_of_size_eq_zero h
  subst this
  rfl

set_option maxHeartbeats 4000000 in
theorem process_C {w : World} {A : Around} {s : Shared} {h₀ : Heap} {p : Program} {loose : List Str} {mean : ExcName → Option Value} {mg mb : Str → Option Value} {x dx pd : Addr} {kt : Tok} {kb : Bool} {kv : Value} {key db : Array UInt8} {Q : Value → Shared → Prop}
    (X : (Kf w.params).In h₀) (T : Top p loose mean mg mb h₀) (st : h₀.StaysIn s.heap) (n30 : h₀.get? 30 = none) (ndx : h₀.get? dx = none)
    (TS : TabSt s.heap) (hx : s.heap.get? x = some (instObj 38 dx)) (hdx : s.heap.get? dx = some (dictOf [mkEntry w.params kt kv] 1))
    (hkv : KeyAt s.heap kb kv key) (h4 : key.size = 4) (hpd : s.heap.get? pd = some (baObj db)) (hz : db.size ≤ 1000) (hh : A.handled = none) (hroom : A.depth + 5 < recursionLimit) (hG : AllBare s.gens)
    (hQ : ∀ h' g' tk r kv', (∀ b o, b ≠ dx → b ≠ 30 → s.heap.get? b = some o → h'.get? b = some o) → TabSt h' → h'.get? dx = some (dictOf [mkEntry w.params kt kv'] 1) → KeyAt h' kb kv' (rotOf key db.size) →
      h'.get? r = some (baObj (maskOf key db)) → s.heap.get? r = none → AllBare g' → Q (.ref r) { s with heap := h', gens := g', toks := tk }) :
    wpC (model PySem.Challenge.rw_fb0055_01.row.prog w) A (call (.ref 35) [.ref x, .ref pd]) Q s := by
  refine wpC.call ?_
  have hfn := st _ _ (X 35 _ rfl)
  have Xs : (Kf w.params).In s.heap := fun a o e => st a o (X a o e)
  refine enter_C (binds := [("self", .ref x), ("data", .ref pd)]) (by omega) hfn rfl (codeRec_of Xs (KX.code_process _)) (T.nolimit.keeps st) (BindsTo.of_eq rfl) rfl (by decide) rfl rfl rfl ?_
  intro h₁ tk cells F N Y
  have hP := TS
  obtain ⟨ps, hP, htr⟩ := hP
  have hd30 : dx ≠ 30 := fun e => by subst e; exact cls_ne hP hdx (by simp)
  obtain ⟨F', st'⟩ := rebase (W := [dx, 30]) F st (fun a ha => by
    rcases List.mem_cons.mp ha with rfl | ha
    · exact ndx
    · rw [List.mem_singleton.mp ha]; exact n30)
  have N' := renews F N (W := [dx, 30]) (l := [(dx, dictOf [mkEntry w.params kt kv] 1), (30, tabObj ps)]) (fun p hp => by
    rcases List.mem_cons.mp hp with rfl | hp
    · exact ⟨hdx, List.mem_cons_self ..⟩
    · rw [List.mem_singleton.mp hp]; exact ⟨hP, by simp⟩)
  have X' := X.keeps st'
  have T' := T.keeps st'
  have hdxL : @LT.lt Nat _ dx s.heap.objs.size := Heap.lt_size hdx
  have h30L : @LT.lt Nat _ 30 s.heap.objs.size := Heap.lt_size hP
  have hx' : (hideAll s.heap [dx, 30]).get? x = some (instObj 38 dx) := hideAll_get _ hx fun q => by
    rcases List.mem_cons.mp q with rfl | q
    · exact cls_ne hdx hx (by simp)
    · rw [List.mem_singleton.mp q] at hx; exact cls_ne hP hx (by simp)
  have hpd' : (hideAll s.heap [dx, 30]).get? pd = some (baObj db) := hideAll_get _ hpd fun q => by
    rcases List.mem_cons.mp q with rfl | q
    · exact cls_ne hdx hpd (by simp)
    · rw [List.mem_singleton.mp q] at hpd; exact cls_ne hP hpd (by simp)
  have hkv' : KeyAt (hideAll s.heap [dx, 30]) kb kv key := by
    cases kb with
    | true => exact hkv
    | false =>
      obtain ⟨q, e, hq⟩ := hkv
      refine ⟨q, e, hideAll_get _ hq fun q' => ?_⟩
      rcases List.mem_cons.mp q' with rfl | q'
      · exact cls_ne hdx hq (by simp)
      · rw [List.mem_singleton.mp q'] at hq; exact cls_ne hP hq (by simp)
  have gs : (hideAll s.heap [dx, 30]).objs.size = s.heap.objs.size := hideAll_size _ _
  have fin : ∀ h' : Heap, (∀ b o, (hideAll s.heap [dx, 30]).get? b = some o → h'.get? b = some o) → ∀ b o, b ≠ dx → b ≠ 30 → s.heap.get? b = some o → h'.get? b = some o := fun h' k b o h1 h2 e =>
    k b o (hideAll_get _ e fun q => by
      rcases List.mem_cons.mp q with rfl | q
      · exact h1 rfl
      · exact h2 (List.mem_singleton.mp q))
  generalize hideAll s.heap [dx, 30] = g at *
  replace Y : CellsAre (fun _ => none) [("d", s.heap.objs.size + 1 + 1 + 1 + 1), ("c", s.heap.objs.size + 1 + 1 + 1), ("b", s.heap.objs.size + 1 + 1), ("a", s.heap.objs.size + 1)] cells := by
    exact Y
  cases Y
  rename_i d4 Y
  cases Y
  rename_i d3 Y
  cases Y
  rename_i d2 Y
  cases Y
  rename_i d1 Y
  cases Y
  have newN : ∀ a, s.heap.objs.size ≤ a → s.heap.get? a = none := fun a ha => Heap.get?_none_of_le ha
  generalize hL : s.heap.objs.size = L at *
  clear F N
  simp only [List.cons_append, List.nil_append] at N'
  -- data = bytearray(data)
  refine execs_cons_C (assignName_C rfl ?_)
  refine callName_C (nameX_B F' X' (topRead_of T') (KX.ns_bytearray _) (v := .type "bytearray") rfl (by decide) ?_)
  refine callWith_C rfl ?_
  refine spliced_cons_C (wpC.of (nameX_L F' (v := .ref pd) rfl ?_))
  refine spliced_nil_C ⟨keeper_type, ?_⟩
  refine call_ba_src (Source.ba (F'.keep _ _ hpd')) (by rw [sizeLine_eq]; omega) fun hA eA kA zA => ?_
  have lD : L + 1 + 1 + 1 + 1 < h₁.objs.size := Heap.lt_size (N' _ (.head _)).1
  replace eA : hA.get? h₁.objs.size = some (baObj db) := eA
  replace kA : ∀ c o, h₁.get? c = some o → hA.get? c = some o := kA
  have F2 := F'.keeps kA
  have N2 := news_cons F2 (N'.grown kA) eA (fr_lt F')
  show wpC _ _ (storeName _ _ (.ref h₁.objs.size)) _ _
  generalize h₁.objs.size = D at *
  refine wpC.of (storeX_L F2 N2 fun h2 F3 N3 => ?_)
  dsimp only
  have hgL : L < hA.objs.size := fr_lt F2
  -- if data:
  refine execs_cons_C (if_C (wpC.of (wpAny_isTrue_value (nameX_L F3 rfl (truthy_ba (b := db) (N3 _ (.head _)).1 (by omega) ?_)))))
  by_cases h0 : db.size = 0
  · rw [if_neg (by rw [h0]; decide)]
    refine execs_nil_C ?_
    dsimp only
    refine execs_any_C (wpAny_Return_some (nameX_L F3 rfl ?_))
    refine hQ h2 s.gens _ D kv (fin h2 F3.keep) ⟨ps, (N3 (30, tabObj ps) (by simp)).1, htr⟩ (N3 (dx, dictOf [mkEntry w.params kt kv] 1) (by simp)).1 ?_ ?_ (newN D (by omega)) hG
    · rw [h0, rotOf_zero]; exact hkv'.keeps F3.keep
    · rw [maskOf_empty h0]; exact (N3 _ (.head _)).1
  rw [if_pos (by simpa using h0)]
  -- a, b, c, d = self._masking_key
  have I3 : InstAt h2 x (instObj 38 dx) 38 (some (dictOf [mkEntry w.params kt kv] 1)) := ⟨F3.keep _ _ hx', rfl, rfl, (N3 (dx, dictOf [mkEntry w.params kt kv] 1) (by simp)).1⟩
  refine execs_any_C (Assign_Tuple ?_ rfl rfl)
  refine Attribute_name (nameX_L F3 rfl ?_)
  refine get_own F3 X' I3 (KX.plain_mk _) (KX.hasDict _) (KX.find_mk _) (KX.noget _) rfl ?_ ?_
  · cases kb with
    | true => obtain ⟨_, rfl⟩ := hkv; rfl
    | false => obtain ⟨_, rfl, _⟩ := hkv; rfl
  rw [PyProof.Rows.assign_Tuple]
  refine wpAny_bind (wpAny_standAt ?_)
  unfold unpack
  refine wpAny_bind (wpAny_holding (unpack_key hh ((hkv'.keeps F3.keep)) h4 fun t0 t1 t2 t3 h3 tk3 k3 => ?_))
  have F4 := F3.keeps k3
  have N4 := N3.grown k3
  refine wpAny_assignInOrder_more (PyProof.Rows.assign_Name (storeX_C F4 N4 rfl (by k_updF) d1 fun h4 o1' F5 N5 d1' => ?_))
  try dsimp only at N5
  refine wpAny_assignInOrder_more (PyProof.Rows.assign_Name (storeX_C F5 N5 rfl (by k_updF) d2 fun h5 o2' F6 N6 d2' => ?_))
  try dsimp only at N6
  refine wpAny_assignInOrder_more (PyProof.Rows.assign_Name (storeX_C F6 N6 rfl (by k_updF) d3 fun h6 o3' F7 N7 d3' => ?_))
  try dsimp only at N7
  refine wpAny_assignInOrder_more (PyProof.Rows.assign_Name (storeX_C F7 N7 rfl (by k_updF) d4 fun h7 o4' F8 N8 d4' => ?_))
  try dsimp only at N8
  refine wpAny_assignInOrder_none ?_
  dsimp only
  clear F4 N4 F5 N5 F6 N6 F7 N7 F3 N3 I3
  -- data_array = bytearray(..)
  refine execs_cons_C (assignName_C rfl ?_)
  refine callName_C (nameX_B F8 X' (topRead_of T') (KX.ns_bytearray _) (v := .type "bytearray") rfl (by decide) ?_)
  refine callWith_C rfl (spliced_cons_C (wpC.of ?_))
  refine wpAny_GeneratorExp_walksQT hh rfl rfl (by decide) rfl rfl rfl (by decide) rfl (by show A.depth + 1 < _; omega) ?_ (fun _ => rfl)
  refine callName_W (nameX_B F8 X' (topRead_of T') (KX.ns_enumerate _) (v := .type "enumerate") rfl (by decide) ?_)
  refine PyProof.Rows.callWith_type rfl (evalArgs_plain (spliced_cons (nameX_L F8 rfl (spliced_nil ?_))))
  refine call_enum_ba (N8 _ (.head _)).1 fun h8 he hit z8 k8 => ?_
  refine wpAny_pyIter_enum he ?_
  replace he : IsEnum h8 (h7.objs.size + 1) h7.objs.size 0 .none := he
  replace hit : IsBaIter h8 h7.objs.size D 0 := hit
  replace k8 : ∀ b o, h7.get? b = some o → h8.get? b = some o := k8
  replace z8 : h8.objs.size = h7.objs.size + 2 := z8
  have F9 := F8.keeps k8
  have N9 := N8.grown k8
  have lS : @LT.lt Nat _ D h7.objs.size := Heap.lt_size (N8 _ (.head _)).1
  show _ ∧ wpAny _ _ (genexprCode _ _ _ _) _ _ { heap := h8, gens := s.gens, drawn := s.drawn, toks := tk3, os := s.os }
  generalize h7.objs.size = S at *
  refine ⟨T'.nolimit.keeps F9.keep, genexprCode_tab (c := 34) rfl (codeHd_of_K (X'.keeps F9.keep) (KX.codeHd_process _)) ⟨ps, (N9 (30, tabObj ps) (by simp)).1, htr⟩ fun code h9 tk9 x9 TS9 => ?_⟩
  replace x9 : Heap.ExtBut 30 h8 h9 := x9
  obtain ⟨ps', hP', htr'⟩ := TS9
  have g30 : g.get? 30 = none := (N9 (30, tabObj ps) (by simp)).2.2
  have F10 := fr_ext F9 g30 (by show ¬ (@Eq Nat _ _); omega) x9
  have N10 := news_ext N9 x9 hP' (by k_upd)
  obtain ⟨bm, ob, b1, b2, b3, b4, b5, b6⟩ := T'.bmain
  refine wpAny_builtinsFor (T'.g.keeps F10.keep) b1 b2 (F10.keep _ _ b3) b4 b5 b6 ?_
  have eD := (N10 _ (.head _)).1
  have eI : h9.get? (S + 1) = _ := x9 _ _ (by show ¬ (@Eq Nat _ _); omega) he
  have eT : IsBaIter h9 S D 0 := hit.at fun o e => x9 _ _ (by show ¬ (@Eq Nat _ _); omega) e
  refine ⟨S + 1, [S + 1, S, D], [S + 1, S], db.size, _, _, _, fun _ => true, fun i y => ∃ t, y = .int ((db.getD i 0 ^^^ key.getD (i % 4) 0).toNat : Int) t, rfl, fun A' hA' => walks_enum hA' (S + 1) S D (by show ¬ (@Eq Nat _ _); omega) (by show ¬ (@Eq Nat _ _); omega) (by show ¬ (@Eq Nat _ _); omega) db, ?_, ⟨⟨_, eI⟩, eT, eD⟩, ?_, T'.nolimit.keeps F10.keep, ?_, ?_, ?_⟩
  · rintro i vals ⟨t, x, u, _, rfl⟩; exact ⟨_, _, rfl⟩
  · intro b hb
    rcases List.mem_cons.mp hb with rfl | hb
    · exact Heap.lt_size eI
    rcases List.mem_cons.mp hb with rfl | hb
    · obtain ⟨_, e, _⟩ := eT; exact Heap.lt_size e
    rw [List.mem_singleton.mp hb]; exact Heap.lt_size eD
  · intro hb
    obtain ⟨_, ⟨oS, _, _, eS, _⟩, _⟩ := T'.nolimit
    have lc : @LT.lt Nat _ cStatics L := gs ▸ Heap.lt_size eS
    rcases List.mem_cons.mp hb with hb | hb
    · rw [hb] at lc; omega
    · rw [List.mem_singleton.mp hb] at lc; omega
  · intro href hrf
    refine ⟨fun A' E' i va vb s₂ m₂ hA' hP _ _ _ _ => wpAny_pure ⟨rfl, s₂.heap, s₂.toks, rfl, fun _ _ e => e⟩, fun A' E' i va vb s₂ m₂ hA' hP _ ns ha hb hk => ?_⟩
    obtain ⟨t, x, u, hx, hv⟩ := hP
    have hv1 : va = .int i t := by injection hv with hv; injection hv
    have hv2 : vb = .int (x.toNat : Int) u := by injection hv with hv; injection hv with _ hv; injection hv
    subst hv1 hv2
    have cell : ∀ a o, h9.get? a = some o → a ≠ S + 1 → a ≠ S → s₂.heap.get? a = some o := fun a o e h1 h2 =>
      hk a (List.mem_range.mpr (Heap.lt_size e)) (fun q => by rcases List.mem_cons.mp q with q | q; exact h1 q; exact h2 (List.mem_singleton.mp q)) o (hrf a o e)
    have c1 := cell _ _ (N10 (L + 1, o1') (by simp)).1 (by show ¬ (@Eq Nat _ _); omega) (by show ¬ (@Eq Nat _ _); omega)
    have c2 := cell _ _ (N10 (L + 1 + 1, o2') (by simp)).1 (by show ¬ (@Eq Nat _ _); omega) (by show ¬ (@Eq Nat _ _); omega)
    have c3 := cell _ _ (N10 (L + 1 + 1 + 1, o3') (by simp)).1 (by show ¬ (@Eq Nat _ _); omega) (by show ¬ (@Eq Nat _ _); omega)
    have c4 := cell _ _ (N10 (L + 1 + 1 + 1 + 1, o4') (by simp)).1 (by show ¬ (@Eq Nat _ _); omega) (by show ¬ (@Eq Nat _ _); omega)
    refine wpAny_BinOp (wpAny_Name (wpAny_loadName_local rfl rfl ns hb ?_) (by decide))
    refine PyProof.Rows.Subscript_ (Tuple_ (spliced_cons (wpAny_Name (wpAny_loadName_free rfl rfl rfl ⟨o1', c1, d1'⟩ ?_ (by decide)) (by decide))))
    refine spliced_cons (wpAny_Name (wpAny_loadName_free rfl rfl rfl ⟨o2', c2, d2'⟩ ?_ (by decide)) (by decide))
    refine spliced_cons (wpAny_Name (wpAny_loadName_free rfl rfl rfl ⟨o3', c3, d3'⟩ ?_ (by decide)) (by decide))
    refine spliced_cons (wpAny_Name (wpAny_loadName_free rfl rfl rfl ⟨o4', c4, d4'⟩ ?_ (by decide)) (by decide))
    refine spliced_nil (wpAny_newTuple ?_)
    refine wpAny_BinOp (wpAny_Name (wpAny_loadName_local rfl rfl (ns.push _) ha ?_) (by decide))
    refine wpAny_Constant_int (PyProof.Rows.mod_int (by decide) ?_)
    have eT' : IsTup (s₂.heap.push { cls := .type "tuple", data := .seq #[.int ((key.getD 0 0).toNat : Int) t0, .int ((key.getD 1 0).toNat : Int) t1, .int ((key.getD 2 0).toNat : Int) t2, .int ((key.getD 3 0).toNat : Int) t3] }) s₂.heap.objs.size _ := ⟨_, Heap.get?_push_size _ rfl, rfl, _, rfl⟩
    obtain ⟨tq, hq⟩ := quad_item key t0 t1 t2 t3 i
    have hm : (i : Int).fmod 4 = ((i % 4 : Nat) : Int) := by rw [Int.fmod_eq_emod_of_nonneg _ (by decide)]; omega
    rw [hm]
    refine sub_tail (T := "tuple") ⟨_, Heap.get?_push_size _ rfl, rfl⟩ slot_tuple_getitem.lookup (getItem_tuple eT' (by omega) (by omega) (j := i % 4) ?_ hq ?_)
    · unfold seqIndex?
      simp only [if_neg (show ¬ (((i % 4 : Nat) : Int) < 0) by omega)]
      rw [if_pos (by simp; omega)]
      simp
      omega
    refine PyProof.Rows.xor_int ?_
    rw [bitXor_u8]
    refine ⟨⟨_, by rw [show db.getD i 0 = x by simp [Array.getD_eq_getD_getElem?, hx]]⟩, _, _, rfl, fun b o e => Heap.get?_push_of_some _ e⟩
  intro ag h10 tk10 gst hgb hag z10 k10 W hat
  rw [passing_all, List.length_range] at W
  replace k10 : ∀ b o, h9.get? b = some o → h10.get? b = some o := k10
  have F11 := F10.keeps k10
  have N11 := N10.grown k10
  have l9 : @LT.lt Nat _ (S + 1) h9.objs.size := Heap.lt_size eI
  refine spliced_nil_C ⟨keeper_type, ?_⟩
  refine call_ba_gen (WalksS.of_in1 (A := (A.deeper _).in1.in1) (WalksS.of_in1 W)) (fun i s' st => ⟨_, st.1⟩) hat ?_ (fun k => db.getD k 0 ^^^ key.getD (k % 4) 0) ?_ (by rw [sizeLine_eq]; omega) fun s12 hm e12 => ?_
  · intro b hb
    show b < h10.objs.size
    rw [z10]
    rcases List.mem_cons.mp hb with rfl | hb
    · exact Nat.lt_succ_self _
    rcases List.mem_cons.mp hb with rfl | hb
    · exact Nat.lt_succ_of_lt hag
    exact Nat.lt_succ_of_lt (Nat.lt_trans (List.mem_range.mp hb) hag)
  · rintro j v ⟨i, hi, t, rfl⟩
    have := List.getElem?_eq_some_iff.mp hi
    obtain ⟨hj, e⟩ := this
    simp at e
    subst e
    exact ⟨t, rfl⟩
  obtain ⟨h12, g12, d12, tk12, os12⟩ := s12
  have hos : os12 = s.os := hm.os
  have hdr : d12 = s.drawn := hm.drawn
  subst hos hdr
  have hG12 : AllBare g12 := gens_bare (AllBare.push hG hgb) hm.gens
  have k12 : ∀ b o, b ∉ [h9.objs.size, S + 1, S] → h10.get? b = some o → h12.get? b = some o := hm.heap
  replace e12 : h12.get? h10.objs.size = some (baObj (maskOf key db)) := e12
  have F12 := fr_but F11 k12 (by intro b hb; simp at hb; rcases hb with rfl | rfl | rfl <;> omega)
  have N12 := news_but N11 k12 (by
    have h30 : ¬ (@Eq Nat 30 h9.objs.size) := by omega
    simp only [List.mem_cons, List.not_mem_nil, or_false]
    rintro p (rfl | rfl | rfl | rfl | rfl | rfl | rfl) <;> (rintro (q | q | q) <;> (replace q : @Eq Nat _ _ := q; simp only at q; omega)))
  have lR : @LT.lt Nat _ h9.objs.size h10.objs.size := by rw [z10]; exact Nat.lt_succ_of_lt hag
  have N12 := news_cons F12 N12 e12 (by show @LT.lt Nat _ _ _; omega)
  show wpC _ _ (storeName _ _ (.ref h10.objs.size)) _ { heap := h12, gens := g12, drawn := s.drawn, toks := tk12, os := s.os }
  generalize h10.objs.size = R at *
  clear W hat hm
  refine wpC.of (storeX_L F12 N12 fun h13 F13 N13 => ?_)
  dsimp only
  -- key_rotation = len(data) % 4
  refine execs_any_C (wpAny_Assign_Name ?_ rfl)
  refine wpAny_BinOp (callName_W (nameX_B F13 X' (topRead_of T') (KX.ns_len _) (v := .builtin "len") rfl (by decide) ?_))
  refine callWith_builtin rfl (evalArgs_plain (spliced_cons (nameX_L F13 rfl (spliced_nil ?_))))
  refine len_ba (b := db) (N13 (D, baObj db) (by k_mem)).1 (by omega) ?_
  refine wpAny_Constant_int (PyProof.Rows.mod_int (by decide) ?_)
  have hm : (db.size : Int).fmod 4 = ((db.size % 4 : Nat) : Int) := by rw [Int.fmod_eq_emod_of_nonneg _ (by decide)]; omega
  rw [hm]
  refine storeX_L F13 N13 fun h14 F14 N14 => ?_
  dsimp only
  -- self._masking_key = self._masking_key[key_rotation:] + self._masking_key[:key_rotation]
  have hgi : handedIn kv = true := by
    cases kb with
    | true => obtain ⟨_, rfl⟩ := hkv; rfl
    | false => obtain ⟨_, rfl, _⟩ := hkv; rfl
  have I14 : InstAt h14 x (instObj 38 dx) 38 (some (dictOf [mkEntry w.params kt kv] 1)) := ⟨F14.keep _ _ hx', rfl, rfl, (N14 (dx, dictOf [mkEntry w.params kt kv] 1) (by simp)).1⟩
  refine execs_any_C (plainObj_wpAny_Assign_Attribute ?_ rfl)
  refine wpAny_BinOp (PyProof.Rows.Subscript_ (Attribute_name (nameX_L F14 rfl ?_)))
  refine get_own F14 X' I14 (KX.plain_mk _) (KX.hasDict _) (KX.find_mk _) (KX.noget _) rfl hgi ?_
  refine wpAny_Slice (nameX_L F14 rfl (wpAny_pure (wpAny_pure ?_)))
  refine slice_key (hkv'.keeps F14.keep) (IsPart.int _ _) IsPart.none (by omega) fun v1 h15 tk15 hv1 k15 => ?_
  replace k15 : ∀ b o, h14.get? b = some o → h15.get? b = some o := k15
  have F15 := F14.keeps k15
  have N15 := N14.grown k15
  have I15 : InstAt h15 x (instObj 38 dx) 38 (some (dictOf [mkEntry w.params kt kv] 1)) := ⟨F15.keep _ _ hx', rfl, rfl, (N15 (dx, dictOf [mkEntry w.params kt kv] 1) (by simp)).1⟩
  refine PyProof.Rows.Subscript_ (Attribute_name (nameX_L F15 rfl ?_))
  refine get_own F15 X' I15 (KX.plain_mk _) (KX.hasDict _) (KX.find_mk _) (KX.noget _) rfl hgi ?_
  refine wpAny_Slice (wpAny_pure (nameX_L F15 rfl (wpAny_pure ?_)))
  refine slice_key (hkv'.keeps F15.keep) IsPart.none (IsPart.int _ _) (by omega) fun v2 h16 tk16 hv2 k16 => ?_
  replace k16 : ∀ b o, h15.get? b = some o → h16.get? b = some o := k16
  have F16 := F15.keeps k16
  have N16 := N15.grown k16
  have p1 := picked_size_le key (some ((db.size % 4 : Nat) : Int)) none
  have p2 := picked_size_le key none (some ((db.size % 4 : Nat) : Int))
  refine add_key (hv1.keeps k16) hv2 (by omega) fun v3 h17 tk17 hv3 new3 k17 => ?_
  replace k17 : ∀ b o, h16.get? b = some o → h17.get? b = some o := k17
  have F17 := F16.keeps k17
  have N17 := N16.grown k17
  refine nameX_L F17 rfl ?_
  have I17 : InstAt h17 x (instObj 38 dx) 38 (some (dictOf [mkEntry w.params kt kv] 1)) := ⟨F17.keep _ _ hx', rfl, rfl, (N17 (dx, dictOf [mkEntry w.params kt kv] 1) (by simp)).1⟩
  have hd30' : @Ne Nat dx 30 := hd30
  cases kb with
  | true =>
    obtain ⟨t3, rfl⟩ := hv3
    refine set_dict F17 X' N17 I17 rfl (KX.find_set _) (KX.plain_over _) (KX.taker _) (KX.hasDict _) rfl rfl (by k_upd) (Nat.le_of_ble_eq_true rfl) fun h18 F18 N18 => ?_
    refine execs_any_C (wpAny_Return_some (nameX_L F18 rfl ?_))
    exact hQ h18 g12 _ R _ (fin h18 F18.keep) ⟨ps', (N18 (30, tabObj ps') (by simp)).1, htr'⟩ (N18 (dx, dictOf [mkEntry w.params kt _] 1) (by k_mem)).1 ⟨t3, rfl⟩ (N18 _ (.head _)).1 (newN R (by omega)) hG12
  | false =>
    obtain ⟨q, rfl, hq⟩ := hv3
    have nq := new3 q rfl
    have N17 : News g L h17 ((q, baObj (rotOf key db.size)) :: _) := fun p hp => by
      rcases List.mem_cons.mp hp with rfl | hp
      · refine ⟨hq, fun e => ?_, by cases e : g.get? q with | none => rfl | some o => rw [F16.keep _ _ e] at nq; cases nq⟩
        obtain ⟨o, _, _, eo, _⟩ := F16.ns
        rw [← e, nq] at eo
        cases eo
      · exact N17 p hp
    have q1 : ∀ p : Addr, ∀ o, h16.get? p = some o → q ≠ p := fun p o e h => by rw [← h, nq] at e; cases e
    refine set_dict F17 X' N17 I17 rfl (KX.find_set _) (KX.plain_over _) (KX.taker _) (KX.hasDict _) rfl rfl (.tail (q1 dx _ (N16 (dx, dictOf [mkEntry w.params kt kv] 1) (by simp)).1) (by k_upd)) (Nat.le_of_ble_eq_true rfl) fun h18 F18 N18 => ?_
    refine execs_any_C (wpAny_Return_some (nameX_L F18 rfl ?_))
    exact hQ h18 g12 _ R _ (fin h18 F18.keep) ⟨ps', (N18 (30, tabObj ps') (by simp)).1, htr'⟩ (N18 (dx, dictOf [mkEntry w.params kt _] 1) (by k_mem)).1 ⟨q, rfl, (N18 _ (.head _)).1⟩ (N18 _ (.tail _ (.head _))).1 (newN R (by omega)) hG12
end Mine
end
section
namespace Mine
section
variable {prog : Program} {w : World} {A : Around} {s : Shared} {env : Env}

theorem methodCall_C {M : Model} {o : Expr} {name : Str} {apos pos : Pos} {args : List Expr} {pl : Sem Bool} {Q : Value → Shared → Prop}
    (h : wpAny M A (eval o env) (fun ov s₁ => wpAny M A (getMethod ov name pl) (fun fx s₂ => wpC M A (callWith pos fx.1 fx.2 (backTo pos (starEach args env)) []) Q s₂) (fun _ _ => False) s₁) (fun _ _ => False) s)
    (he : eval (.Call (.Attribute o name apos) args [] pos) env = (do
      let ov ← eval o env
      standAt apos.atName
      let (f, first) ← holding [ov] (getMethod ov name pl)
      callWith pos f first (backTo pos (starEach args env)) []) := by rfl) :
    wpC M A (eval (.Call (.Attribute o name apos) args [] pos) env) Q s := by
  rw [he]
  refine wpC.step (wpAny_mono h (fun ov s₁ h₁ => ?_) fun _ _ x => x)
  refine wpC.step (wpAny_standAt (wpC.step (wpAny_holding (wpAny_mono h₁ (fun fx s₂ h₂ => ?_) fun _ _ x => x))))
  exact h₂

theorem forLoop_C {R : Flow → Shared → Prop} {target : Expr} {it : Value} {body : List Stmt} (I : Nat → Shared → Prop)
    (turn : ∀ n s, I n s → wpAny (model prog w) A (pyNext it) (fun r s₁ => match r with
      | none => R .next s₁
      | some v => wpAny (model prog w) A (assign target env v) (fun _ s₂ => wpC (model prog w) A (execs body env) (fun f s₃ => match f with
          | .next | .cont => ∃ m, m < n ∧ I m s₃
          | .brk => R .next s₃
          | .ret v => R (.ret v) s₃) s₂) (fun _ _ => False) s₁) (fun _ _ => False) s)
    (ht : ∀ v, letOwnedTupleGo target it v = pure ()) : ∀ n s, I n s → codeC (model prog w) A (.forLoop target it body [] env) R s := by
  intro n
  induction n using Nat.strongRecOn with
  | ind n ih =>
    intro s hI
    refine codeC.tree rfl ?_
    show wpC _ A ((forTurn target it body [] env).onRaise (fun x => do noteFrame x env; theTreesLotGoes x)) _ s
    refine wpC.onRaise ?_
    simp only [forTurn]
    refine wpC.step (wpAny_standAt (wpC.bind (wpC.onRaise (wpC.mono (wpC.of (turn n s hI)) fun r s₁ h₁ => ?_))))
    cases r with
    | none => exact wpC.pure ⟨rfl, codeC.of (codeAny_block (wpAny_execs_nil h₁))⟩
    | some v =>
      refine wpC.step (wpAny_of_eq (ht v) ?_)
      refine wpC.step (wpAny_mono h₁ (fun _ s₂ h₂ => wpC.bind (wpC.mono h₂ fun f s₃ h₃ => ?_)) fun _ _ x => x)
      cases f with
      | next => obtain ⟨m, hm, hI'⟩ := h₃; exact wpC.pure ⟨rfl, ih m hm s₃ hI'⟩
      | cont => obtain ⟨m, hm, hI'⟩ := h₃; exact wpC.pure ⟨rfl, ih m hm s₃ hI'⟩
      | brk => exact wpC.pure h₃
      | ret v => exact wpC.pure h₃

theorem for_C {M : Model} {target iter : Expr} {body : List Stmt} {pos : Pos} {Q : Flow → Shared → Prop}
    (h : wpAny M A (eval iter env) (fun x s₁ => wpAny M A (pyIter x) (fun it s₂ => codeC M A (.forLoop target it body [] env) Q s₂) (fun _ _ => False) s₁) (fun _ _ => False) s)
    (hs : ∀ x, foldedSetIterable iter env x = pure x := by intro _; rfl) : wpC M A (exec (.For target iter body [] pos) env) Q s := by
  rw [exec_For]
  refine wpC.step (wpAny_standAt ?_)
  refine wpC.step (wpAny_mono h (fun x s₁ h₁ => ?_) fun _ _ x => x)
  rw [hs]
  refine wpC.step (wpAny_pure (wpC.step (wpAny_standAt ?_)))
  exact wpC.step (wpAny_holding (wpAny_mono h₁ (fun it s₂ h₂ => wpC.runOwn h₂) fun _ _ x => x))

theorem keeper_builtin {M : Model} {n : String} : wpAny M A (keeperOf (.builtin n)) (fun k s'' => s'' = s ∧ (k = .frame ∨ k = .machine ∨ k = .boundFrame)) (fun _ _ => False) s :=
  wpAny_of_eq (a := .machine) rfl ⟨rfl, .inr (.inl rfl)⟩
theorem keeper_fn {M : Model} {f : Addr} {o : Obj} {fd : FuncData} (ho : s.heap.get? f = some o) (hd : o.data = .func fd) : wpAny M A (keeperOf (.ref f)) (fun k s'' => s'' = s ∧ (k = .frame ∨ k = .machine ∨ k = .boundFrame)) (fun _ _ => False) s := by
  unfold keeperOf
  refine wpAny_bind (wpAny_load ho ?_)
  rw [hd]
  exact wpAny_pure ⟨rfl, .inl rfl⟩
end

namespace KX
variable (P : Params)
theorem find_ga : findIn (Kf P) (.ref 38) "__getattribute__" = some (some (.builtin "object.__getattribute__")) := by kernel_rfl
theorem find_gattr : findIn (Kf P) (.ref 38) "__getattr__" = some none := by kernel_rfl
theorem type_process : typeIn (Kf P) (.ref 35) = some (.type "function") := by kernel_rfl
theorem ns_bytes : nsIn (Kf P) mainGlobals "bytes" = some none := by kernel_rfl
theorem code_init : codeIn (Kf P) (.ref 27) "XorMaskerSimple.__init__" = true := by kernel_rfl
theorem code_masked : codeIn (Kf P) (.ref 48) "_law_masked" = true := by kernel_rfl
end KX

section
variable {prog : Program} {w : World} {A : Around} {E : Value → Shared → Prop} {s : Shared} {h₀ : Heap} {L : Addr} {m mg mb : Str → Option Value} {p : Program} {loose : List Str} {mean : ExcName → Option Value} {news : List (Addr × Obj)}
theorem news_back {g h₀ h : Heap} {L L' : Addr} {l : List (Addr × Obj)} (N : News g L' h l) (k : ∀ p ∈ l, p.1 ≠ L ∧ h₀.get? p.1 = none) : News h₀ L h l := fun p hp => ⟨(N p hp).1, k p hp⟩
set_option maxHeartbeats 4000000 in
theorem make_C {kv : Value} {Q : Value → Shared → Prop} (F : Fr h₀ L s.heap m) (X : (Kf w.params).In h₀) (T : Top p loose mean mg mb h₀) (N : News h₀ L s.heap news) (hroom : A.depth + 5 < recursionLimit)
    (h : ∀ x dx h' tk kt, Fr h₀ L h' m → News h₀ L h' ((x, instObj 38 dx) :: (dx, dictOf [mkEntry w.params kt kv] 1) :: news) → (∀ p ∈ news, p.1 < dx) → dx < x → Q (.ref x) { s with heap := h', toks := tk }) :
    wpAny (model prog w) A (call (.ref 38) [kv]) Q E s := by
  refine call_cls F X N (KX.makes _) (KX.find_init _) (KX.fn_init _) fun x dx h' F' N' lo lx => ?_
  have hfn := F'.keep _ _ (X 28 _ rfl)
  have Xs : (Kf w.params).In h' := X.keeps F'.keep
  refine codeAny_call_def (binds := [("self", .ref x), ("masking_key", kv)]) (by show A.depth + 1 < _; omega) hfn rfl (T.nolimit.keeps F'.keep) (codeRec_of Xs (KX.code_init _)) rfl (BindsTo.of_eq rfl) (by decide) (by intro y hy; simp at hy; rcases hy with rfl | rfl <;> rfl) (fun h₁ hns hk₁ => ?_) rfl rfl rfl
  have hx := (N' _ (.head _)).1
  have hd := (N' _ (.tail _ (.head _))).1
  have stay : ∀ b o, h₀.get? b = some o → b ∉ (((x, instObj 38 dx) :: (dx, dictOf [] 0) :: news).map (·.1)) := fun b o e q => by
    obtain ⟨p, hp, rfl⟩ := List.mem_map.mp q
    rw [(N' p hp).2.2] at e; cases e
  have hbase : ∀ b o, h₀.get? b = some o → (hideAll h' (((x, instObj 38 dx) :: (dx, dictOf [] 0) :: news).map (·.1))).get? b = some o := fun b o e => hideAll_get _ (F'.keep _ _ e) (stay b o e)
  have hL : ∀ o, h'.get? L = some o → (hideAll h' (((x, instObj 38 dx) :: (dx, dictOf [] 0) :: news).map (·.1))).get? L = some o := fun o e => hideAll_get _ e fun q => by
    obtain ⟨p, hp, e⟩ := List.mem_map.mp q
    exact (N' p hp).2.1 e
  have hh : ∀ p ∈ ((x, instObj 38 dx) :: (dx, dictOf [] 0) :: news), (hideAll h' (((x, instObj 38 dx) :: (dx, dictOf [] 0) :: news).map (·.1))).get? p.1 = none := fun p hp => hideAll_none _ (List.mem_map_of_mem hp)
  have hof : ∀ b o, (hideAll h' (((x, instObj 38 dx) :: (dx, dictOf [] 0) :: news).map (·.1))).get? b = some o → h'.get? b = some o := fun b o e => of_hideAll _ e
  have hsz : (hideAll h' (((x, instObj 38 dx) :: (dx, dictOf [] 0) :: news).map (·.1))).objs.size = h'.objs.size := hideAll_size _ _
  generalize hideAll h' (((x, instObj 38 dx) :: (dx, dictOf [] 0) :: news).map (·.1)) = g at *
  have F2 : Fr g h'.objs.size h₁ (fun y => ([("self", Value.ref x), ("masking_key", kv)] : List (Str × Value)).reverse.lookup y) := ⟨hns, fun b o e => hk₁ b o (hof b o e), Nat.le_of_eq hsz⟩
  have N2 : News g h'.objs.size h₁ ((x, instObj 38 dx) :: (dx, dictOf [] 0) :: news) := fun p hp => ⟨hk₁ _ _ (N' p hp).1, Nat.ne_of_lt (Heap.lt_size (N' p hp).1), hh p hp⟩
  have Xg : (Kf w.params).In g := X.keeps hbase
  have I2 : InstAt h₁ x (instObj 38 dx) 38 (some (dictOf [] 0)) := ⟨hk₁ _ _ hx, rfl, rfl, hk₁ _ _ hd⟩
  refine wpAny_execs_cons (plainObj_wpAny_Assign_Attribute (nameX_L F2 rfl (nameX_L F2 rfl ?_)) rfl)
  refine set_dict F2 Xg N2 I2 rfl (KX.find_set _) (KX.plain_over _) (KX.taker _) (KX.hasDict _) rfl rfl (.tail (Nat.ne_of_gt lx) (.head fun p hp => Nat.ne_of_lt (lo p hp))) (Nat.le_of_ble_eq_true rfl) fun h3 F3 N3 => ?_
  refine wpAny_execs_nil ⟨rfl, h x dx h3 _ _ ⟨F'.ns.at' fun o e => F3.keep _ _ (hL o e), fun b o e => F3.keep _ _ (hbase b o e), F'.above⟩ (news_back N3 ?_) lo lx⟩
  intro p hp
  rcases List.mem_cons.mp hp with rfl | hp
  · exact (N' _ (.head _)).2
  rcases List.mem_cons.mp hp with rfl | hp
  · exact (N' (dx, dictOf [] 0) (.tail _ (.head _))).2
  · exact (N' p (.tail _ (.tail _ hp))).2
end
end Mine
end
section
namespace Mine
inductive BytesAre : List Value → List (Array UInt8) → Prop
  | nil : BytesAre [] []
  | cons {vs ps b t} : BytesAre vs ps → BytesAre (.bytes b t :: vs) (b :: ps)
theorem BytesAre.len {vs : List Value} {ps : List (Array UInt8)} (h : BytesAre vs ps) : vs.length = ps.length := by
  induction h with
  | nil => rfl
  | cons _ ih => simp [ih]
theorem BytesAre.at {vs : List Value} {ps : List (Array UInt8)} (h : BytesAre vs ps) : ∀ {i : Nat} {v : Value}, vs[i]? = some v → ∃ b t, v = .bytes b t ∧ ps[i]? = some b := by
  induction h with
  | nil => intro i v e; simp at e
  | cons _ ih =>
    intro i v e
    cases i with
    | zero => simp at e; exact ⟨_, _, e.symm, by simp⟩
    | succ i => simp at e; obtain ⟨b, t, e1, e2⟩ := ih e; exact ⟨b, t, e1, by simpa using e2⟩
theorem BytesAre.snoc {vs : List Value} {ps : List (Array UInt8)} {b : Array UInt8} {t : Tok} (h : BytesAre vs ps) : BytesAre (vs ++ [.bytes b t]) (ps ++ [b]) := by
  induction h with
  | nil => exact .cons .nil
  | cons _ ih => exact .cons ih
def maskAll (key : Array UInt8) : List (Array UInt8) → List (Array UInt8)
  | [] => []
  | p :: r => maskOf key p :: maskAll (rotOf key p.size) r

theorem KX.keep_class (P : Params) : keepIn (Kf P) (.ref 38) = true := by kernel_rfl

theorem rotOf_size {key : Array UInt8} (h : key.size = 4) (n : Nat) : (rotOf key n).size = 4 := by
  have hc : ∀ k : Nat, k < 4 → clipAt 4 (k : Int) = k := fun k hk => by unfold clipAt; rw [if_neg (by omega)]; omega
  have hm := Nat.mod_lt n (show 0 < 4 by decide)
  unfold rotOf
  rw [KBc.picked_eq, KBc.picked_eq, h]
  simp only [Option.elim, hc _ hm, Array.size_append, List.size_toArray, List.length_take, List.length_drop, Array.length_toList, h]
  omega
theorem fr_two {g h h' : Heap} {L P R : Addr} {m : Str → Option Value} (F : Fr g L h m) (hP : g.get? P = none) (hR : g.get? R = none) (h1 : L ≠ P) (h2 : L ≠ R) (x : ∀ b o, b ≠ P → b ≠ R → h.get? b = some o → h'.get? b = some o) : Fr g L h' m :=
  ⟨F.ns.at' fun o e => x L o h1 h2 e, fun b o e => x b o (fun q => by rw [q, hP] at e; cases e) (fun q => by rw [q, hR] at e; cases e) (F.keep b o e), F.above⟩
theorem newsNil {g h : Heap} {L : Addr} : News g L h [] := fun _ hp => nomatch hp
theorem newsCons {g h : Heap} {L a : Addr} {o : Obj} {l : List (Addr × Obj)} (e : h.get? a = some o) (k : a ≠ L ∧ g.get? a = none) (N : News g L h l) : News g L h ((a, o) :: l) := fun p hp => by
  rcases List.mem_cons.mp hp with rfl | hp
  · exact ⟨e, k⟩
  · exact N p hp

set_option maxHeartbeats 4000000 in
theorem masked_C {w : World} {A : Around} {s : Shared} {h₀ : Heap} {p : Program} {loose : List Str} {mean : ExcName → Option Value} {mg mb : Str → Option Value} {l : Addr} {tkk : Tok} {key : Array UInt8} {vs : List Value} {ps : List (Array UInt8)} {Q : Value → Shared → Prop}
    (X : (Kf w.params).In h₀) (T : Top p loose mean mg mb h₀) (st : h₀.StaysIn s.heap) (n30 : h₀.get? 30 = none)
    (TS : TabSt s.heap) (h4 : key.size = 4) (hl : s.heap.IsList l vs.toArray) (hvs : BytesAre vs ps) (hz : ∀ q ∈ ps, q.size ≤ 1000) (hn : ps.length ≤ 1000) (hh : A.handled = none) (hroom : A.depth + 20 < recursionLimit) (hG : AllBare s.gens)
    (hQ : ∀ h' g' tk r its n, (∀ b o, b ≠ 30 → s.heap.get? b = some o → h'.get? b = some o) → TabSt h' → h'.get? r = some (listOf its n) → BytesAre its.toList (maskAll key ps) → s.heap.get? r = none → AllBare g' → Q (.ref r) { s with heap := h', gens := g', toks := tk }) :
    wpC (model PySem.Challenge.rw_fb0055_01.row.prog w) A (call (.ref 49) [.bytes key tkk, .ref l]) Q s := by
  refine wpC.call ?_
  have hfn := st _ _ (X 49 _ rfl)
  have Xs : (Kf w.params).In s.heap := X.keeps st
  refine enter_C (binds := [("key", .bytes key tkk), ("parts", .ref l)]) (by omega) hfn rfl (codeRec_of Xs (KX.code_masked _)) (T.nolimit.keeps st) (BindsTo.of_eq rfl) rfl (by decide) rfl rfl rfl ?_
  intro h₁ tk cells F N Y
  replace Y : CellsAre (fun _ => none) [] cells := Y
  cases Y
  obtain ⟨ps0, hP, htr⟩ := TS
  obtain ⟨F', st'⟩ := rebase (W := [30]) F st (fun a ha => by rw [List.mem_singleton.mp ha]; exact n30)
  have N' := renews F N (W := [30]) (l := [(30, tabObj ps0)]) (fun p hp => by
    rw [List.mem_singleton.mp hp]; exact ⟨hP, by simp⟩)
  have X' := X.keeps st'
  have T' := T.keeps st'
  have h30L : @LT.lt Nat _ 30 s.heap.objs.size := Heap.lt_size hP
  have hl' : (hideAll s.heap [30]).IsList l vs.toArray := by
    obtain ⟨o, e, hc, r⟩ := hl
    exact ⟨o, hideAll_get _ e fun q => by rw [List.mem_singleton.mp q] at e; exact cls_ne hP e (by rw [hc]; simp), hc, r⟩
  have gs : (hideAll s.heap [30]).objs.size = s.heap.objs.size := hideAll_size _ _
  have fin : ∀ h' : Heap, (∀ b o, (hideAll s.heap [30]).get? b = some o → h'.get? b = some o) → ∀ b o, b ≠ 30 → s.heap.get? b = some o → h'.get? b = some o := fun h' k b o h2 e =>
    k b o (hideAll_get _ e fun q => h2 (List.mem_singleton.mp q))
  have g30 : (hideAll s.heap [30]).get? 30 = none := hideAll_none _ (by simp)
  generalize hideAll s.heap [30] = g at *
  have newN : ∀ a, s.heap.objs.size ≤ a → s.heap.get? a = none := fun a ha => Heap.get?_none_of_le ha
  generalize hL : s.heap.objs.size = L at *
  clear F N
  simp only [List.nil_append] at N'
  -- masker, out = (XorMaskerSimple(key), [])
  refine execs_any_C (Assign_Tuple_swapped ?_ rfl rfl)
  refine Tuple_ (spliced_cons (callName_W (nameX_K F' X' (topRead_of T') (KX.ns_class _) ?_)))
  refine callWith_K X' (KX.keep_class _) (spliced_cons (nameX_L F' rfl (spliced_nil ⟨X'.keeps F'.keep, ?_⟩)))
  refine make_C F' X' T' N' (by show A.depth + 1 + 5 < _; omega) fun x dx h2 tk2 kt F2 N2 lo lx => ?_
  refine spliced_cons (List_ (spliced_nil (newList_K F2 N2 fun out h3 F3 N3 lo3 => ?_)))
  refine spliced_nil (wpAny_newTuple ?_)
  refine wpAny_unpackItems_tuple hh (items := #[.ref x, .ref out]) ⟨_, Heap.get?_push_size _ rfl, rfl, _, rfl⟩ fun h5 x4 => ?_
  have k4 : ∀ b o, h3.get? b = some o → h5.get? b = some o := fun b o e => x4 b o (Nat.ne_of_lt (Heap.lt_size (Heap.get?_push_of_some _ e))) (Heap.get?_push_of_some _ e)
  have F4 := F3.keeps k4
  have N4 := N3.grown k4
  refine wpAny_assignInOrder_more (wpAny_bindName (storeX_L F4 N4 fun h6 F6 N6 => ?_))
  refine wpAny_assignInOrder_more (wpAny_bindName (storeX_L F6 N6 fun h7 F7 N7 => ?_))
  refine wpAny_assignInOrder_none ?_
  dsimp only
  clear F2 N2 F3 N3 F4 N4 F6 N6
  -- for part in parts
  refine execs_cons_C (for_C (nameX_L F7 rfl ?_))
  refine wpAny_pyIter_list (hl'.at fun o e => F7.keep _ _ e) ?_
  have k8 : ∀ b o, h7.get? b = some o → (h7.push { cls := .type "list_iterator", data := .fields #[.ref l, .int 0 0] }).get? b = some o := fun b o e => Heap.get?_push_of_some _ e
  have F8 := F7.keeps k8
  have N8 := news_cons F8 (N7.grown k8) (Heap.get?_push_size h7 (o := { cls := .type "list_iterator", data := .fields #[.ref l, .int 0 0] }) rfl) (fr_lt F7)
  have l1 : @LT.lt Nat _ 30 dx := lo (30, tabObj ps0) (.head _)
  have l2 : @LT.lt Nat _ dx x := lx
  have l3 : @LT.lt Nat _ x out := lo3 _ (.head _)
  have l4 : @LT.lt Nat _ out h7.objs.size := Heap.lt_size (N7 _ (.head _)).1
  show codeC _ _ (.forLoop _ (.ref h7.objs.size) _ _ _) _ { heap := h7.push _, gens := s.gens, drawn := s.drawn, toks := _, os := s.os }
  generalize h7.push { cls := .type "list_iterator", data := .fields #[.ref l, .int 0 0] } = h8 at *
  generalize h7.objs.size = it at *
  have gdx : g.get? dx = none := (N8 (dx, dictOf [mkEntry w.params kt (.bytes key tkk)] 1) (by simp)).2.2
  have gx : g.get? x = none := (N8 (x, instObj 38 dx) (by simp)).2.2
  have gout : g.get? out = none := (N8 (out, W.listOf [].toArray 0) (by simp)).2.2
  have git : g.get? it = none := (N8 _ (.head _)).2.2
  have Ldx : L ≠ dx := Ne.symm (N8 (dx, dictOf [mkEntry w.params kt (.bytes key tkk)] 1) (by simp)).2.1
  have Lit : L ≠ it := Ne.symm (N8 _ (.head _)).2.1
  have L30 : L ≠ 30 := Nat.ne_of_gt h30L
  have newo : s.heap.get? out = none := by
    cases e : s.heap.get? out with
    | none => rfl
    | some o =>
      have := fin g (fun _ _ e => e) out o (by show ¬ (@Eq Nat _ _); omega) e
      rw [gout] at this
      cases this
  refine forLoop_C (fun n s' => ∃ i h g' tk mm its ni oi ps' kcur kvt kt done, s' = { s with heap := h, gens := g', toks := tk } ∧ n + i = vs.length ∧ Fr g L h mm ∧ mm "masker" = some (.ref x) ∧ mm "out" = some (.ref out) ∧
    News g L h [(it, oi), (out, listOf its ni), (x, instObj 38 dx), (dx, dictOf [mkEntry w.params kt (.bytes kcur kvt)] 1), (30, tabObj ps')] ∧ oi.cls = .type "list_iterator" ∧ oi.data = .fields #[.ref l, .int (i : Int) 0] ∧ TriplesOk ps'.toList ∧
    kcur.size = 4 ∧ BytesAre its.toList done ∧ maskAll key ps = done ++ maskAll kcur (ps.drop i) ∧ its.size = i ∧ AllBare g') ?_ (fun _ => rfl) vs.length _ ⟨0, h8, s.gens, _, _, _, _, _, ps0, key, tkk, kt, [], rfl, rfl, F8, rfl, rfl, N8, rfl, rfl, htr, h4, .nil, rfl, rfl, hG⟩
  rintro n s' ⟨i, h, g', tk, mm, its, ni, oi, ps', kcur, kvt, kt, done, rfl, hni, F, hm1, hm2, N, hi1, hi2, htr', hk4, hb, hmask, hsz, hG'⟩
  have hit : h.IsListIter it l i := ⟨oi, (N _ (.head _)).1, hi1, hi2⟩
  have hlist : h.IsList l vs.toArray := hl'.at fun o e => F.keep _ _ e
  cases hv : vs[i]? with
  | none =>
    have hlen : vs.length ≤ i := List.getElem?_eq_none_iff.mp hv
    refine wpAny_pyNext_list_end hh hit hlist (by simpa using hv) fun h' x' => ?_
    replace x' : Heap.ExtBut it h h' := x'
    have F' := fr_ext F git Lit x'
    dsimp only
    refine execs_any_C (wpAny_Return_some (nameX_L F' hm2 ?_))
    refine hQ h' g' _ out its ni (fin h' F'.keep) ⟨ps', x' _ _ (by show ¬ (@Eq Nat _ _); omega) (N (30, tabObj ps') (by simp)).1, htr'⟩ (x' _ _ (by show ¬ (@Eq Nat _ _); omega) (N (out, listOf its ni) (by simp)).1) ?_ newo hG'
    rw [hmask, List.drop_eq_nil_of_le (by rw [← hvs.len]; exact hlen)]
    simpa [maskAll] using hb
  | some v =>
    obtain ⟨b, t, rfl, hpb⟩ := hvs.at hv
    have hbz : b.size ≤ 1000 := hz b (List.mem_of_getElem? hpb)
    refine wpAny_pyNext_list_item hit hlist (by simpa using hv) fun h' hit' hs' => ?_
    obtain ⟨oi', ei', ci', di'⟩ := hit'
    have F1 := fr_ext F git Lit hs'.extBut
    have N1 := news_ext N hs'.extBut ei' (by k_upd)
    dsimp only
    refine PyProof.Rows.assign_Name (storeX_L F1 N1 fun h2 F2 N2 => ?_)
    refine execs_cons_C (expr_C rfl rfl ?_)
    refine methodCall_C (nameX_L F2 (by rw [if_neg (by decide)]; exact hm2) (listMethod_K N2 (D := out) (by k_mem) PySem.F.slot_list_append PySem.F.type_list_append ?_))
    refine callWith_C rfl (spliced_cons_C (callName_C (nameX_B F2 X' (topRead_of T') (KX.ns_bytes _) (v := .type "bytes") rfl (by decide) ?_)))
    have I2 : InstAt h2 x (instObj 38 dx) 38 (some (dictOf [mkEntry w.params kt (.bytes kcur kvt)] 1)) := ⟨(N2 (x, instObj 38 dx) (by k_mem)).1, rfl, rfl, (N2 (dx, dictOf [mkEntry w.params kt (.bytes kcur kvt)] 1) (by k_mem)).1⟩
    refine callWith_C rfl (spliced_cons_C (methodCall_C (nameX_L F2 (by rw [if_neg (by decide)]; exact hm1) (method_fn (X'.keeps F2.keep) I2 (KX.find_ga _) (KX.find_gattr _) (KX.find_process _) (KX.type_process _) rfl ?_))))
    refine callWith_C rfl (spliced_cons_C (callName_C (nameX_B F2 X' (topRead_of T') (KX.ns_bytearray _) (v := .type "bytearray") rfl (by decide) ?_)))
    refine callWith_C rfl (spliced_cons_C (wpC.of (nameX_L F2 rfl ?_)))
    refine spliced_nil_C ⟨keeper_type, ?_⟩
    refine call_ba_src (Source.bytes (b := b) (t := t)) (by rw [sizeLine_eq]; omega) fun hA eA kA zA => ?_
    replace eA : hA.get? h2.objs.size = some (baObj b) := eA
    replace kA : ∀ c o, h2.get? c = some o → hA.get? c = some o := kA
    have F3 := F2.keeps kA
    have N3 := N2.grown kA
    show wpC _ _ (spliced _) _ { heap := hA, gens := g', drawn := s.drawn, toks := _, os := s.os }
    generalize h2.objs.size = B at *
    refine spliced_nil_C ⟨keeper_fn (F3.keep _ _ (X' 35 _ rfl)) rfl, ?_⟩
    refine process_C (h₀ := g) (kb := true) (kv := .bytes kcur kvt) (key := kcur) (db := b) X' T' F3.keep g30 gdx ⟨ps', (N3 (30, tabObj ps') (by k_mem)).1, htr'⟩ (N3 (x, instObj 38 dx) (by k_mem)).1
      (N3 (dx, dictOf [mkEntry w.params kt (.bytes kcur kvt)] 1) (by k_mem)).1 ⟨kvt, rfl⟩ hk4 eA hbz hh (by show A.depth + 1 + 5 < _; omega) hG' fun h4 g4 tk4 r kv4 k4 TS4 ed4 hk4' er nr hG4 => ?_
    replace k4 : ∀ b o, b ≠ dx → b ≠ 30 → hA.get? b = some o → h4.get? b = some o := k4
    obtain ⟨t4, rfl⟩ := hk4'
    obtain ⟨ps4, hP4, htr4⟩ := TS4
    have F4 := fr_two F3 gdx g30 Ldx L30 k4
    have N4 : News g L h4 [(it, oi'), (out, listOf its ni), (x, instObj 38 dx), (dx, dictOf [mkEntry w.params kt (.bytes (rotOf kcur b.size) t4)] 1), (30, tabObj ps4)] :=
      newsCons (k4 _ _ (by show ¬ (@Eq Nat _ _); omega) (by show ¬ (@Eq Nat _ _); omega) (N3 _ (.head _)).1) (N3 _ (.head _)).2
      (newsCons (k4 _ _ (by show ¬ (@Eq Nat _ _); omega) (by show ¬ (@Eq Nat _ _); omega) (N3 (out, listOf its ni) (by k_mem)).1) (N3 (out, listOf its ni) (by k_mem)).2
      (newsCons (k4 _ _ (by show ¬ (@Eq Nat _ _); omega) (by show ¬ (@Eq Nat _ _); omega) (N3 (x, instObj 38 dx) (by k_mem)).1) (N3 (x, instObj 38 dx) (by k_mem)).2
      (newsCons ed4 (N3 (dx, dictOf [mkEntry w.params kt (.bytes kcur kvt)] 1) (by k_mem)).2
      (newsCons hP4 (N3 (30, tabObj ps') (by k_mem)).2 newsNil))))
    have hms : (maskOf kcur b).size = b.size := firstOf_size _ _
    refine spliced_nil_C ⟨keeper_type, wpC.of (bytes_of_ba er (by rw [hms, sizeLine_eq]; omega) ?_)⟩
    have hil : i < vs.length := (List.getElem?_eq_some_iff.mp hv).1
    refine spliced_nil_C ⟨keeper_builtin, wpC.of (append_K F4 N4 (by k_upd) (fun h6 F6 N6 => ?_) (by rw [hsz, sizeLine_eq]; have := hvs.len; omega))⟩
    refine ⟨fun a => nofun, ?_⟩
    dsimp only
    refine execs_nil_C ?_
    dsimp only
    refine ⟨n - 1, by omega, i + 1, h6, g4, _, _, its.push (.bytes (maskOf kcur b) _), ni + 1, oi', ps4, rotOf kcur b.size, t4, kt, done ++ [maskOf kcur b], rfl, by omega, F6, by rw [if_neg (by decide)]; exact hm1, by rw [if_neg (by decide)]; exact hm2, N6, ci', di', htr4, (rotOf_size hk4 _), ?_, ?_, by rw [Array.size_push, hsz], hG4⟩
    · rw [Array.toList_push]; exact hb.snoc
    · rw [hmask, List.append_assoc]
      congr 1
      have hip : i < ps.length := by rw [← hvs.len]; exact hil
      rw [List.drop_eq_getElem_cons hip]
      have : ps[i] = b := by
        have := List.getElem?_eq_getElem hip
        rw [hpb] at this; exact (Option.some.inj this).symm
      rw [this]
      rfl
end Mine
end
section
namespace Mine
namespace FA
theorem slot_join : Slot "bytes" "join" "bytes.join" :=
  .of (owner := "bytes") (n := "join") (by rw [typeLookup_type, builtinLookup_eq_fast]; kernel_rfl) (by decide +kernel) (by decide +kernel) (by decide +kernel)
    (by first | exact .inl (by decide +kernel) | exact .inr (by decide +kernel)) (by rw [isSubtype_type]; kernel_rfl)
theorem entry_join : entryFor table "bytes.join" = some Builtin.«bytes.join» := entryFor_of_tree (by kernel_rfl)
theorem args_join (a b : Value) : argsOk "bytes.join" ⟨[a, b], []⟩ := by unfold argsOk; kernel_rfl
theorem type_join : typeOf (.builtin "bytes.join") = pure (.type "method_descriptor") := by show builtinType _ = _; rw [builtinType_eq_fast]; kernel_rfl
theorem plain_bytes : PlainAttrs "bytes" := ⟨⟨"bytes.__getattribute__", by rw [typeLookup_type, builtinLookup_eq_fast]; kernel_rfl, by decide +kernel⟩, by rw [typeLookup_type, builtinLookup_eq_fast]; kernel_rfl⟩
end FA

def concat (ps : List (Array UInt8)) : Array UInt8 := ps.foldl (· ++ ·) #[]
theorem foldl_concat : ∀ (ps : List (Array UInt8)) (a : Array UInt8), ps.foldl (· ++ ·) a = a ++ concat ps
  | [], a => by simp [concat]
  | p :: r, a => by
    unfold concat
    simp only [List.foldl_cons]
    rw [foldl_concat r, foldl_concat r (#[] ++ p)]
    simp
theorem concat_cons (p : Array UInt8) (r : List (Array UInt8)) : concat (p :: r) = p ++ concat r := by
  have := foldl_concat r p
  show r.foldl (· ++ ·) (#[] ++ p) = _
  rw [Array.empty_append]; exact this
theorem foldl_size : ∀ (ps : List (Array UInt8)) (n : Nat), ps.foldl (fun n p => n + p.size) n = n + (concat ps).size
  | [], n => by simp [concat]
  | p :: r, n => by
    rw [List.foldl_cons, foldl_size r, concat_cons, Array.size_append]
    omega
theorem joined_plain : ∀ (ps : List (Array UInt8)), Builtin.Bytes.joined #[] ps = concat ps := fun ps => by
  have : ∀ (ps : List (Array UInt8)) (k : Nat) (a : Array UInt8), (ps.zipIdx k).foldl (fun out (x : Array UInt8 × Nat) => (if x.2 > 0 then out ++ #[] else out) ++ x.1) a = ps.foldl (· ++ ·) a := by
    intro ps
    induction ps with
    | nil => intro k a; rfl
    | cons p r ih =>
      intro k a
      rw [List.zipIdx_cons, List.foldl_cons, ih, List.foldl_cons]
      simp
  exact this ps 0 #[]

section
variable {prog : Program} {w : World} {A : Around} {E : Value → Shared → Prop} {s : Shared}

theorem getMethod_join {b : Array UInt8} {t : Tok} {pl : Sem Bool} {Q : Value × List Value → Shared → Prop} (h : Q (.builtin "bytes.join", [.bytes b t]) s) : wpAny (model prog w) A (getMethod (.bytes b t) "join" pl) Q E s :=
  getMethod_builtin (typeIs_bytes s b t) FA.plain_bytes FA.slot_join FA.type_join (fun _ e => nomatch e) h

theorem take_buffer (id : String) (b : Array UInt8) (t : Tok) : Builtin.Bytes.takeBuffer? id (.bytes b t) 0 = pure (some (b, none)) := by
  have hb : Builtin.Bytes.buffer? id (.bytes b t) (full := (0 : Int) == Builtin.Bytes.fullReadOnly) = pure (some b) := by
    unfold Builtin.Bytes.buffer?
    rw [KBy.special_eq KBy.look_buffer, KBy.own_buffer, KBy.own_release]
    kernel_rfl
  unfold Builtin.Bytes.takeBuffer?
  rw [KBy.special_eq KBy.look_buffer, hb]
  simp only [pure_bind, KBy.own_buffer]
  first | rfl | kernel_rfl | simp

theorem joinLet_plain : ∀ (taken : List (Value × Option Value)) (keep : List Value), (∀ p ∈ taken, (∀ a, p.1 ≠ .ref a) ∧ p.2 = none) → ∀ {Q : Unit → Shared → Prop} {s : Shared}, Q () s → wpAny (model prog w) A (Builtin.Bytes.joinLetGo taken keep) Q E s
  | [], _, _, _, _, h => wpAny_pure h
  | (x, y) :: r, keep, hp, Q, s, h => by
    obtain ⟨h1, h2⟩ := hp _ (.head _)
    dsimp only at h2
    subst h2
    unfold Builtin.Bytes.joinLetGo
    refine wpAny_bind (wpAny_letGo ?_)
    exact joinLet_plain r keep (fun p hp' => hp p (.tail _ hp')) h

theorem call_join {l : Addr} {xs : List Value} {ps : List (Array UInt8)} {t : Tok} {Q : Value → Shared → Prop} (hl : s.heap.IsList l xs.toArray) (hx : BytesAre xs ps) (hz : (concat ps).size ≤ sizeLine)
    (h : ∀ t' k, Q (.bytes (concat ps) t') { s with toks := k }) : wpAny (model prog w) A (call (.builtin "bytes.join") [.bytes #[] t, .ref l]) Q E s := by
  refine wpAny_call_entry FA.slot_join (typeIs_bytes s #[] t) FA.entry_join ?_ (FA.args_join _ _)
  show wpAny _ _ (Builtin.Bytes.joinM .bytes ⟨[.bytes #[] t, .ref l], []⟩) _ _ s
  unfold Builtin.Bytes.joinM
  dsimp only
  refine wpAny_bind (m := selfAndOne _ _) (wpAny_pure ?_)
  dsimp only
  obtain ⟨o, ho, hc, n, hd⟩ := id hl
  have items : ∀ {β : Type} (K : Option (Array Value) → Sem β) (s' : Shared) (Q' : β → Shared → Prop), s'.heap = s.heap → wpAny (model prog w) A.in1 (K (some xs.toArray)) Q' E s' → wpAny (model prog w) A.in1 (seqItems? (.ref l) >>= K) Q' E s' := fun K s' Q' e hk => by
    unfold seqItems?
    refine wpAny_bind (wpAny_bind (wpAny_load (o := o) (by rw [e]; exact ho) ?_))
    rw [hd]
    exact wpAny_pure hk
  rw [if_pos (by decide)]
  unfold Builtin.Bytes.joinItems
  refine wpAny_bind (wpAny_bind (wpAny_typeOf (T := "list") ⟨o, ho, hc⟩ ?_))
  rw [if_pos (by decide)]
  refine wpAny_pure (items _ _ _ rfl ?_)
  dsimp only
  rw [if_pos (by decide)]
  rcases xs with _ | ⟨x, _ | ⟨y, r⟩⟩
  · cases hx
    show wpAny _ _ (forIn _ _ _ >>= _) _ _ _
    simp only [Std.Legacy.Range.forIn_eq_forIn_range']
    refine wpAny_bind (wpAny_pure ?_)
    show wpAny _ _ (Builtin.Bytes.payload (.bytes #[] t) >>= _) _ _ _
    refine wpAny_bind (wpAny_pure ?_)
    rw [if_neg (by decide)]
    refine wpAny_bind (wpAny_mkBytes ?_ (by decide))
    refine wpAny_bind (wpAny_holding (wpAny_point ?_))
    refine wpAny_bind (joinLet_plain _ _ (by simp) ?_)
    exact wpAny_pure ⟨_, rfl, h _ _⟩
  · cases hx with
    | cons hx =>
      cases hx
      show wpAny _ _ (typeOf (.bytes _ _) >>= _) _ _ _
      refine wpAny_bind (wpAny_typeOf (typeIs_bytes _ _ _) ?_)
      rw [if_pos (by decide)]
      refine wpAny_bind (wpAny_rule ?_)
      refine wpAny_pure ⟨_, rfl, ?_⟩
      rename_i bb tt
      have := h tt s.toks
      simp [concat] at this
      exact this
  · show wpAny _ _ (forIn _ _ _ >>= _) _ _ _
    simp only [Std.Legacy.Range.forIn_eq_forIn_range']
    generalize hX : x :: y :: r = xs at *
    have hlen := hx.len
    refine wpAny_bind (wpAny_forIn_list _ (fun rest st s' => s' = s ∧ ∃ i, rest = List.range' i (xs.length - i) ∧ i ≤ xs.length ∧ st.fst = (ps.take i).toArray ∧ st.snd = (xs.take i).map fun z => (z, none)) _ ?_ ?_ _ _ ⟨rfl, 0, by simp, Nat.zero_le _, by simp, by simp⟩)
    · rintro j rest ⟨parts, taken⟩ s' ⟨rfl, i, hr, hi, h1, h2⟩
      dsimp only at h1 h2
      subst h1 h2
      have hil : i < xs.length := by
        rcases Nat.lt_or_ge i xs.length with h | h
        · exact h
        · rw [Nat.sub_eq_zero_of_le h] at hr; simp at hr
      rw [show xs.length - i = (xs.length - (i + 1)) + 1 by omega, List.range'_succ] at hr
      injection hr with hj hr
      subst hj
      obtain ⟨b, tb, hxb, hpb⟩ := hx.at (List.getElem?_eq_getElem hil)
      refine items _ _ _ rfl ?_
      dsimp only
      have hany : ((xs.take j).map fun z => (z, (none : Option Value))).any (fun z => z.1.onHeap) = false := by
        rw [List.any_eq_false]
        intro z hz
        obtain ⟨v, hv, rfl⟩ := List.mem_map.mp hz
        obtain ⟨i, hi, e⟩ := List.getElem_of_mem hv
        obtain ⟨b', t', e', _⟩ := hx.at (i := i) (v := v) (by rw [← e]; simp at hi; rw [List.getElem_take, List.getElem?_eq_getElem (by omega)])
        rw [e']
        simp [Value.onHeap]
      rw [if_neg (by rw [hany]; decide)]
      have hget : xs.toArray.getD j .none = .bytes b tb := by simp [Array.getD_eq_getD_getElem?, hil, hxb]
      rw [hget]
      refine wpAny_bind (wpAny_holding ?_)
      unfold Builtin.Bytes.takeBufferQuiet?
      refine wpAny_bind (wpAny_attempt (wpAny_of_eq (take_buffer _ b tb) (wpAny_pure ?_)))
      dsimp only
      refine items _ _ _ rfl ?_
      dsimp only
      rw [if_neg (by simp)]
      refine wpAny_pure ⟨rfl, j + 1, hr, hil, ?_, ?_⟩
      · rw [List.take_add_one, hpb]; simp
      · rw [List.take_add_one, List.getElem?_eq_getElem hil, hxb]; simp
    · rintro ⟨parts, taken⟩ s' ⟨rfl, i, hr, hi, h1, h2⟩
      dsimp only at h1 h2
      subst h1 h2
      have hi' : i = xs.length := by
        have := congrArg List.length hr
        simp at this
        omega
      subst hi'
      rw [List.take_length, hlen, List.take_length]
      show wpAny _ _ (Builtin.Bytes.payload (.bytes #[] t) >>= _) _ _ _
      refine wpAny_bind (wpAny_pure ?_)
      have htl : ¬ (Builtin.Bytes.tooLong (Array.foldl (fun n p => n + p.size) ((#[] : Array UInt8).size * (ps.toArray.size - 1)) ps.toArray) = true) := by
        rw [List.foldl_toArray, foldl_size]
        rw [show (#[] : Array UInt8).size * (ps.toArray.size - 1) + (concat ps).size = (concat ps).size by simp]
        unfold Builtin.Bytes.tooLong
        simpa using hz
      rw [if_neg htl, joined_plain]
      refine wpAny_bind (wpAny_mkBytes ?_ hz)
      refine wpAny_bind (wpAny_holding (wpAny_point ?_))
      refine wpAny_bind (joinLet_plain _ _ ?_ ?_)
      · intro p hp
        obtain ⟨v, hv, rfl⟩ := List.mem_map.mp hp
        obtain ⟨i, hi, e⟩ := List.getElem_of_mem hv
        obtain ⟨b', t', e', _⟩ := hx.at (i := i) (v := v) (by rw [← e, List.getElem?_eq_getElem hi])
        exact ⟨fun a => by rw [e']; nofun, rfl⟩
      · exact wpAny_pure ⟨_, rfl, h _ _⟩

/-- lists of the same octets aren't unlike -/
theorem ne_bytes_lists {a b : Addr} {xs ys : List Value} {ps : List (Array UInt8)} {Q : Value → Shared → Prop} (ha : s.heap.IsList a xs.toArray) (hb : s.heap.IsList b ys.toArray) (hx : BytesAre xs ps) (hy : BytesAre ys ps) (hu : A.units < cLine)
    (h : Q (.bool false) s) : wpAny (model prog w) A (compareOp .NotEq (.ref a) (.ref b)) Q E s := by
  refine PySem.SeqAt.RcNeAt.lists (e := fun _ => true) ha hb (by simp [hx.len, hy.len]) hu (fun j h1 h2 => ?_) prog w E Q (by rw [show ((List.range xs.toArray.size).all fun _ => true) = true from List.all_eq_true.mpr fun _ _ => rfl]; exact h)
  simp only [List.size_toArray] at h1 h2
  obtain ⟨b1, t1, e1, p1⟩ := hx.at (List.getElem?_eq_getElem h1)
  obtain ⟨b2, t2, e2, p2⟩ := hy.at (List.getElem?_eq_getElem h2)
  rw [p1] at p2
  cases p2
  show PySem.SeqAt.EqAt A.in1 s xs[j] ys[j] true
  rw [e1, e2]
  exact fun prog w E Q hq => eqBool_bytes (by simpa using hq)
end
end Mine
end
section
namespace Mine
theorem walks_weaken {prog : Program} {w : World} {A : Around} {I : Addr} {fp wr : List Addr} {n : Nat} {P P' : Nat → Value → Prop} {St : Nat → Heap → Prop} (W : Walks prog w A I fp wr n P St) (hP : ∀ i v, i < n → P i v → P' i v) : Walks prog w A I fp wr n P' St where
  sub := W.sub
  frame := W.frame
  item := fun i s Q E hi st hQ => W.item i s Q E hi st fun v h' tk hp => hQ v h' tk (hP i v hi hp)
  done := W.done
  self := W.self
theorem paired_at {α β : Type} {F : α → β → Prop} {as : List α} {bs : List β} (h : Paired F as bs) : ∀ {i : Nat} {b : β}, bs[i]? = some b → ∃ a, as[i]? = some a ∧ F a b := by
  induction h with
  | nil => intro i b e; simp at e
  | cons hf _ ih =>
    intro i b e
    cases i with
    | zero => simp at e; subst e; exact ⟨_, by simp, hf⟩
    | succ i => simp at e; obtain ⟨a, e1, e2⟩ := ih e; exact ⟨a, by simpa using e1, e2⟩
theorem paired_map {α β γ : Type} {Z : γ → β → Prop} {f : α → γ} : ∀ {as : List α} {bs : List β}, Paired (fun a b => Z (f a) b) as bs → Paired Z (as.map f) bs
  | _, _, .nil => .nil
  | _, _, .cons h r => .cons h (paired_map r)
/-- along the indices -/
theorem paired_idx {α β : Type} {F : α → β → Prop} : ∀ {as : List α} {bs : List β}, as.length = bs.length → (∀ (i : Nat) a b, as[i]? = some a → bs[i]? = some b → F a b) → Paired F as bs
  | [], [], _, _ => .nil
  | [], _ :: _, h, _ => by simp at h
  | _ :: _, [], h, _ => by simp at h
  | a :: as, b :: bs, h, k => .cons (k 0 a b (by simp) (by simp)) (paired_idx (by simpa using h) fun i a' b' e1 e2 => k (i + 1) a' b' (by simpa using e1) (by simpa using e2))

def IntV (n : Int) (v : Value) : Prop := ∃ t, v = .int n t
def BytesV (b : Array UInt8) (v : Value) : Prop := ∃ t, v = .bytes b t
def OctetV (c : UInt8) (v : Value) : Prop := ∃ t, v = .int (c.toNat : Int) t
theorem ints_of {ns : List Int} {vs : List Value} (h : Paired IntV ns vs) : IntsAre vs ns := by
  induction h with
  | nil => exact .nil
  | cons a _ ih => obtain ⟨t, rfl⟩ := a; exact .cons _ t ih
theorem bytes_ofP {ps : List (Array UInt8)} {vs : List Value} (h : Paired BytesV ps vs) : BytesAre vs ps := by
  induction h with
  | nil => exact .nil
  | cons a _ ih => obtain ⟨t, rfl⟩ := a; exact .cons ih
theorem of_bytes {ps : List (Array UInt8)} {vs : List Value} (h : BytesAre vs ps) : Paired BytesV ps vs := by
  induction h with
  | nil => exact .nil
  | cons _ ih => exact .cons ⟨_, rfl⟩ ih

section
variable {prog : Program} {w : World} {A : Around} {E : Value → Shared → Prop} {s : Shared} {env : Env}

theorem comp_G {α β : Type} (R : α → Value → Prop) (Z : β → Value → Prop) (f : α → β) (as : List α) (hfun : ∀ a a' v, R a v → R a' v → a = a')
    {elt iter : Expr} {x : Str} {px : Pos} {scope : Scope} {cl : List (Str × Addr)} {pos : Pos} {Q : Value → Shared → Prop}
    (hclos : closureFor scope env = pure cl) (hcell : ∀ y ∈ scope.names, y.2 ≠ .cell) (hkind : scope.kind = .function)
    (hnames : ∀ y ∈ scope.names, y.2 = .local → scope.names.lookup y.1 = some .local) (hx : scope.names.lookup x = some .local)
    (h : wpAny (model prog w) A (eval iter env) (fun xv s₁ => wpAny (model prog w) A (pyIter xv) (fun it s₂ => ∃ I fp wr St, it = .ref I ∧ Walks prog w A I fp wr as.length (fun i v => ∃ a, as[i]? = some a ∧ R a v) St ∧ as.length ≤ sizeLine ∧ St 0 s₂.heap ∧ (∀ b ∈ fp, b < s₂.heap.objs.size) ∧
      (∀ C a v s₃ m₃ E', s₂.heap.objs.size ≤ C → a ∈ as → R a v → s₃.heap.Ns C m₃ → m₃ x = some v → (∀ b o, b ∉ wr → s₂.heap.get? b = some o → s₃.heap.get? b = some o) →
        wpAny (model prog w) A (eval elt (compEnvC scope cl C env)) (fun y s₄ => Z (f a) y ∧ Keeps s₃ s₄) E' s₃) ∧
      (∀ D h' tk ys n, s₂.heap.get? D = none → h'.get? D = some (listOf ys n) → Paired Z (as.map f) ys.toList → (∀ b o, b ∉ wr → s₂.heap.get? b = some o → h'.get? b = some o) → Q (.ref D) { s₂ with heap := h', toks := tk })) E s₁) E s)
    (hs : ∀ x, foldedSetIterable iter env x = pure x := by intro _; rfl) :
    wpAny (model prog w) A (eval (.ListComp elt [⟨.Name x px, iter, [], 0⟩] scope pos) env) Q E s := by
  refine wpAny_ListComp_free (fun _ => true) (fun v y => ∀ a ∈ as, R a v → Z (f a) y) hclos hcell hkind hnames hx (wpAny_mono h (fun xv s₁ h₁ => wpAny_mono h₁ (fun it s₂ h₂ => ?_) fun _ _ e => e) fun _ _ e => e) hs
  obtain ⟨I, fp, wr, St, rfl, W, hsz, hst, hfp, hq, hQ⟩ := h₂
  refine ⟨I, fp, wr, as.length, _, St, rfl, W, hsz, hst, hfp, ⟨fun C i v s₃ m₃ E' _ _ _ _ _ _ => wpAny_pure ⟨rfl, s₃.heap, s₃.toks, rfl, fun _ _ e => e⟩, fun C i v s₃ m₃ E' hC hP _ hn hm hk _ => ?_⟩, fun D h' tk ys vs hD _ hpl hlen hP hF hk => ?_⟩
  · obtain ⟨a, ha, hR⟩ := hP
    refine wpAny_mono (hq C a v s₃ m₃ E' hC (List.mem_of_getElem? ha) hR hn hm hk) (fun y s₄ hy => ⟨fun a' _ hR' => ?_, hy.2⟩) fun _ _ e => e
    rw [← hfun a a' v hR hR']; exact hy.1
  · obtain ⟨n, hn⟩ := hpl
    refine hQ D h' tk ys n hD hn (paired_map ?_) hk
    have hfil : vs.filter (fun _ => true) = vs := List.filter_eq_self.mpr fun _ _ => rfl
    rw [hfil] at hF
    have hlen2 : vs.length = ys.toList.length := hF.length
    refine paired_idx (by rw [← hlen2, hlen]) fun i a y ha hy => ?_
    obtain ⟨v, hv, hz⟩ := paired_at hF hy
    obtain ⟨a', ha', hR⟩ := hP i v hv
    rw [ha] at ha'
    cases ha'
    exact hz a (List.mem_of_getElem? ha) hR

/-- what an item of the comprehension gives, in every heap that keeps this one -/
def EltOk {α β : Type} (prog : Program) (w : World) (A : Around) (env : Env) (elt : Expr) (scope : Scope) (cl : List (Str × Addr)) (x : Str) (h₁ : Heap) (as : List α) (R : α → Value → Prop) (Z : β → Value → Prop) (f : α → β) : Prop :=
  ∀ C a v (s₃ : Shared) m₃ E', h₁.objs.size ≤ C → a ∈ as → R a v → s₃.heap.Ns C m₃ → m₃ x = some v → (∀ b o, h₁.get? b = some o → s₃.heap.get? b = some o) →
    wpAny (model prog w) A (eval elt (compEnvC scope cl C env)) (fun y s₄ => Z (f a) y ∧ Keeps s₃ s₄) E' s₃
def CompRes {α β : Type} (s₁ : Shared) (as : List α) (Z : β → Value → Prop) (f : α → β) (Q : Value → Shared → Prop) : Prop :=
  ∀ D h' tk ys n, s₁.heap.get? D = none → h'.get? D = some (listOf ys n) → Paired Z (as.map f) ys.toList → (∀ b o, s₁.heap.get? b = some o → h'.get? b = some o) → Q (.ref D) { s₁ with heap := h', toks := tk }

theorem comp_src {α β : Type} {R : α → Value → Prop} {Z : β → Value → Prop} {f : α → β} {as : List α} {elt : Expr} {x : Str} {scope : Scope} {cl : List (Str × Addr)} {Q : Value → Shared → Prop} {s₁ : Shared} {o : Obj} {fp : List Addr} {St : Nat → Heap → Prop}
    (W : Walks prog w A s₁.heap.objs.size fp [s₁.heap.objs.size] as.length (fun i v => ∃ a, as[i]? = some a ∧ R a v) St) (hz : as.length ≤ sizeLine) (hst : St 0 (s₁.heap.push o)) (hfp : ∀ b ∈ fp, b < s₁.heap.objs.size + 1)
    (he : EltOk prog w A env elt scope cl x s₁.heap as R Z f) (hr : CompRes s₁ as Z f Q) : ∃ I fp wr St, Value.ref s₁.heap.objs.size = .ref I ∧ Walks prog w A I fp wr as.length (fun i v => ∃ a, as[i]? = some a ∧ R a v) St ∧ as.length ≤ sizeLine ∧ St 0 (s₁.heap.push o) ∧ (∀ b ∈ fp, b < (s₁.heap.push o).objs.size) ∧
      (∀ C a v (s₃ : Shared) m₃ E', (s₁.heap.push o).objs.size ≤ C → a ∈ as → R a v → s₃.heap.Ns C m₃ → m₃ x = some v → (∀ b ob, b ∉ wr → (s₁.heap.push o).get? b = some ob → s₃.heap.get? b = some ob) →
        wpAny (model prog w) A (eval elt (compEnvC scope cl C env)) (fun y s₄ => Z (f a) y ∧ Keeps s₃ s₄) E' s₃) ∧
      (∀ D h' tk ys n, (s₁.heap.push o).get? D = none → h'.get? D = some (listOf ys n) → Paired Z (as.map f) ys.toList → (∀ b ob, b ∉ wr → (s₁.heap.push o).get? b = some ob → h'.get? b = some ob) → Q (.ref D) { s₁ with heap := h', toks := tk }) := by
  have keep : ∀ (h : Heap), (∀ b ob, b ∉ [s₁.heap.objs.size] → (s₁.heap.push o).get? b = some ob → h.get? b = some ob) → ∀ b ob, s₁.heap.get? b = some ob → h.get? b = some ob := fun h k b ob e =>
    k b ob (fun q => by rw [List.mem_singleton.mp q] at e; exact absurd (Heap.lt_size e) (Nat.lt_irrefl _)) (Heap.get?_push_of_some _ e)
  refine ⟨_, fp, _, St, rfl, W, hz, hst, fun b hb => by rw [Heap.size_push]; exact hfp b hb, fun C a v s₃ m₃ E' hC hm hR hn hx hk => he C a v s₃ m₃ E' (Nat.le_of_succ_le (by rw [Heap.size_push] at hC; exact hC)) hm hR hn hx (keep _ hk), fun D h' tk ys n hD hl hp hk => hr D h' tk ys n ?_ hl hp (keep _ hk)⟩
  cases e : s₁.heap.get? D with
  | none => rfl
  | some ob => rw [Heap.get?_push_of_some _ e] at hD; cases hD

theorem iter_bytes {β : Type} {Z : β → Value → Prop} {f : UInt8 → β} {elt : Expr} {x : Str} {scope : Scope} {cl : List (Str × Addr)} {Q : Value → Shared → Prop} {b : Array UInt8} {t : Tok} (hh : A.handled = none) (hz : b.size ≤ 1000)
    (he : EltOk prog w A env elt scope cl x s.heap b.toList OctetV Z f) (hr : CompRes s b.toList Z f Q) :
    wpAny (model prog w) A (pyIter (.bytes b t)) (fun it s₂ => ∃ I fp wr St, it = .ref I ∧ Walks prog w A I fp wr b.toList.length (fun i v => ∃ a, b.toList[i]? = some a ∧ OctetV a v) St ∧ b.toList.length ≤ sizeLine ∧ St 0 s₂.heap ∧ (∀ b ∈ fp, b < s₂.heap.objs.size) ∧
      (∀ C a v (s₃ : Shared) m₃ E', s₂.heap.objs.size ≤ C → a ∈ b.toList → OctetV a v → s₃.heap.Ns C m₃ → m₃ x = some v → (∀ b o, b ∉ wr → s₂.heap.get? b = some o → s₃.heap.get? b = some o) →
        wpAny (model prog w) A (eval elt (compEnvC scope cl C env)) (fun y s₄ => Z (f a) y ∧ Keeps s₃ s₄) E' s₃) ∧
      (∀ D h' tk ys n, s₂.heap.get? D = none → h'.get? D = some (listOf ys n) → Paired Z (b.toList.map f) ys.toList → (∀ b o, b ∉ wr → s₂.heap.get? b = some o → h'.get? b = some o) → Q (.ref D) { s₂ with heap := h', toks := tk })) E s := by
  refine KBw.pyIter_bytes ?_
  have W := KBw.walks (prog := prog) (w := w) hh s.heap.objs.size b t
  refine comp_src (St := fun i h => KBw.IsBytesIter h s.heap.objs.size b t i) (fp := [s.heap.objs.size]) ?_ (by simp [sizeLine_eq]; omega) ⟨_, Heap.get?_push_size _ rfl, rfl, rfl⟩ (fun a ha => by rw [List.mem_singleton.mp ha]; exact Nat.lt_succ_self _) he hr
  rw [Array.length_toList]
  exact walks_weaken W fun i v _ ⟨c, u, e, hv⟩ => ⟨c, by simpa using e, u, hv⟩

theorem iter_list {α β : Type} {R : α → Value → Prop} {Z : β → Value → Prop} {f : α → β} {as : List α} {elt : Expr} {x : Str} {scope : Scope} {cl : List (Str × Addr)} {Q : Value → Shared → Prop} {l : Addr} {vs : List Value} (hh : A.handled = none) (hl : s.heap.IsList l vs.toArray) (hp : Paired R as vs) (hz : as.length ≤ 1000)
    (he : EltOk prog w A env elt scope cl x s.heap as R Z f) (hr : CompRes s as Z f Q) :
    wpAny (model prog w) A (pyIter (.ref l)) (fun it s₂ => ∃ I fp wr St, it = .ref I ∧ Walks prog w A I fp wr as.length (fun i v => ∃ a, as[i]? = some a ∧ R a v) St ∧ as.length ≤ sizeLine ∧ St 0 s₂.heap ∧ (∀ b ∈ fp, b < s₂.heap.objs.size) ∧
      (∀ C a v (s₃ : Shared) m₃ E', s₂.heap.objs.size ≤ C → a ∈ as → R a v → s₃.heap.Ns C m₃ → m₃ x = some v → (∀ b o, b ∉ wr → s₂.heap.get? b = some o → s₃.heap.get? b = some o) →
        wpAny (model prog w) A (eval elt (compEnvC scope cl C env)) (fun y s₄ => Z (f a) y ∧ Keeps s₃ s₄) E' s₃) ∧
      (∀ D h' tk ys n, s₂.heap.get? D = none → h'.get? D = some (listOf ys n) → Paired Z (as.map f) ys.toList → (∀ b o, b ∉ wr → s₂.heap.get? b = some o → h'.get? b = some o) → Q (.ref D) { s₂ with heap := h', toks := tk })) E s := by
  have hlt : l < s.heap.objs.size := by obtain ⟨o, e, _⟩ := hl; exact Heap.lt_size e
  refine wpAny_pyIter_list hl ?_
  have W := Walks.list (prog := prog) (w := w) hh s.heap.objs.size l (Nat.ne_of_lt hlt) vs.toArray
  refine comp_src (St := fun i h => h.IsListIter s.heap.objs.size l i ∧ h.IsList l vs.toArray) (fp := [s.heap.objs.size, l]) ?_ (by rw [sizeLine_eq]; omega) ⟨⟨_, Heap.get?_push_size _ rfl, rfl, rfl⟩, hl.push _⟩ (fun a ha => ?_) he hr
  · have hlen : as.length = vs.toArray.size := by rw [List.size_toArray]; exact hp.length
    rw [hlen]
    exact walks_weaken W fun i v _ e => paired_at hp (by simpa using e)
  · rcases List.mem_cons.mp ha with rfl | ha
    · exact Nat.lt_succ_self _
    · rw [List.mem_singleton.mp ha]; exact Nat.lt_succ_of_lt hlt

theorem iter_range {β : Type} {Z : β → Value → Prop} {f : Nat → β} {n : Nat} {elt : Expr} {x : Str} {scope : Scope} {cl : List (Str × Addr)} {Q : Value → Shared → Prop} {r : Addr} {t u v : Tok} (hh : A.handled = none) (hl : IsRange s.heap r 0 (n : Int) 1 t u v) (hz : n ≤ 1000)
    (he : EltOk prog w A env elt scope cl x s.heap (List.range n) (fun (k : Nat) v => IntV (k : Int) v) Z f) (hr : CompRes s (List.range n) Z f Q) :
    wpAny (model prog w) A (pyIter (.ref r)) (fun it s₂ => ∃ I fp wr St, it = .ref I ∧ Walks prog w A I fp wr (List.range n).length (fun i v => ∃ a, (List.range n)[i]? = some a ∧ IntV (a : Int) v) St ∧ (List.range n).length ≤ sizeLine ∧ St 0 s₂.heap ∧ (∀ b ∈ fp, b < s₂.heap.objs.size) ∧
      (∀ C a v (s₃ : Shared) m₃ E', s₂.heap.objs.size ≤ C → a ∈ (List.range n) → IntV (a : Int) v → s₃.heap.Ns C m₃ → m₃ x = some v → (∀ b o, b ∉ wr → s₂.heap.get? b = some o → s₃.heap.get? b = some o) →
        wpAny (model prog w) A (eval elt (compEnvC scope cl C env)) (fun y s₄ => Z (f a) y ∧ Keeps s₃ s₄) E' s₃) ∧
      (∀ D h' tk ys n', s₂.heap.get? D = none → h'.get? D = some (listOf ys n') → Paired Z ((List.range n).map f) ys.toList → (∀ b o, b ∉ wr → s₂.heap.get? b = some o → h'.get? b = some o) → Q (.ref D) { s₂ with heap := h', toks := tk })) E s := by
  have hsz : Builtin.Range.rangeSize 0 (n : Int) 1 = n := by
    unfold Builtin.Range.rangeSize
    rw [if_pos (by decide)]
    by_cases h0 : (0 : Int) < n
    · rw [if_pos h0]; omega
    · rw [if_neg h0]; omega
  have hfit : ∀ i : Int, -1001 ≤ i → i ≤ 1001 → Builtin.Range.rangeFitsLong i = true := fun i h1 h2 => by
    unfold Builtin.Range.rangeFitsLong
    simp only [Bool.and_eq_true, decide_eq_true_eq]
    omega
  refine wpAny_pyIter_range hl ?_ ?_
  · unfold Builtin.Range.small
    rw [hsz, hfit 0 (by decide) (by decide), hfit n (by omega) (by omega), hfit 1 (by decide) (by decide), if_pos (by decide), hfit (n + (1 - 1)) (by omega) (by omega)]
    simp
  rw [hsz]
  have W := Walks.range (prog := prog) (w := w) hh s.heap.objs.size 0 1 n
  refine comp_src (R := fun (k : Nat) v => IntV (k : Int) v) (St := fun i h => IsRangeIter h s.heap.objs.size (0 + (i : Nat) * 1) ((n : Int) - (i : Nat)) 1) (fp := [s.heap.objs.size]) ?_ (by simp [sizeLine_eq]; omega) ?_ (fun a ha => by rw [List.mem_singleton.mp ha]; exact Nat.lt_succ_self _) he hr
  · rw [List.length_range]
    exact walks_weaken W fun i v hi ⟨t, e⟩ => ⟨i, by simp [hi], t, by rw [e]; simp⟩
  · show IsRangeIter _ _ (0 + ((0 : Nat) : Int) * 1) ((n : Int) - ((0 : Nat) : Int)) 1
    have := Heap.get?_push_size s.heap (o := { cls := .type "range_iterator", data := .fields #[rawInt 0, rawInt (n : Int), rawInt 1] }) rfl
    simpa using this
end
end Mine
end
section
namespace Mine
section
variable {prog : Program} {w : World} {A : Around} {E : Value → Shared → Prop} {s : Shared}

theorem nextOf_by_item {it : Addr} {i : Nat} {b : Array UInt8} {t : Tok} {c : UInt8} {Q : Value → Shared → Prop} (hit : KBw.IsBytesIter s.heap it b t i) (hx : b[i]? = some c)
    (hQ : ∀ h', KBw.IsBytesIter h' it b t (i + 1) → Heap.SameBut it s.heap h' → Q (.int (c.toNat : Int) s.toks) { s with heap := h', toks := s.toks + 1 }) : wpAny (model prog w) A (Builtin.SmallTypes.nextOf (.ref it)) Q E s := by
  obtain ⟨o, ho, hc, hd⟩ := id hit
  unfold Builtin.SmallTypes.nextOf
  refine wpAny_bind (wpAny_callSpecial?_slot (name := Str.ofString "__next__") (KBw.iter_typeIs hit) KBw.slot_next
    (wpAny_call_entry KBw.slot_next (KBw.iter_typeIs hit) KBw.entry_next ?_ (KBw.args_next _)))
  show wpAny _ _ (field (.ref it) 0 >>= _) _ _ s
  refine wpAny_bind (wpAny_field ho hd (x := .bytes b t) rfl ?_)
  show wpAny _ _ (if (Value.bytes b t == Value.none) = true then _ else _) _ _ s
  rw [if_neg (show ¬ ((Value.bytes b t == Value.none) = true) from Bool.false_ne_true)]
  show wpAny _ _ (field (.ref it) 1 >>= _) _ _ s
  refine wpAny_bind (wpAny_field ho hd (x := .int i 0) rfl ?_)
  refine wpAny_bind (wpAny_of_eq (a := b) rfl ?_)
  simp only [Int.toNat_natCast, hx]
  refine wpAny_bind (wpAny_setField ho hd (by simp) (wpAny_bind (wpAny_mkInt (wpAny_pure ⟨_, rfl, wpAny_pure (hQ _ ?_ (Heap.SameBut.update ..))⟩))))
  exact ⟨_, Heap.get?_update_self _ ho (Obj.isFreed_of_fields (Obj.data_mapFields hd _)), (Obj.cls_mapFields ..).trans hc, by
    rw [Obj.data_mapFields hd]; simp [rawInt]⟩
theorem nextOf_by_end {it : Addr} {i : Nat} {b : Array UInt8} {t : Tok} {Q : Value → Shared → Prop} (hh : A.handled = none) (hit : KBw.IsBytesIter s.heap it b t i) (hx : b[i]? = none)
    (hE : ∀ h' e, Heap.ExtBut it s.heap h' → (∃ o, h'.get? e = some o ∧ o.cls = .type "StopIteration") → E (.ref e) { s with heap := h' }) : wpAny (model prog w) A (Builtin.SmallTypes.nextOf (.ref it)) Q E s := by
  obtain ⟨o, ho, hc, hd⟩ := id hit
  unfold Builtin.SmallTypes.nextOf
  refine wpAny_bind (wpAny_callSpecial?_slot (name := Str.ofString "__next__") (KBw.iter_typeIs hit) KBw.slot_next
    (wpAny_call_entry KBw.slot_next (KBw.iter_typeIs hit) KBw.entry_next ?_ (KBw.args_next _)))
  show wpAny _ _ (field (.ref it) 0 >>= _) _ _ s
  refine wpAny_bind (wpAny_field ho hd (x := .bytes b t) rfl ?_)
  show wpAny _ _ (if (Value.bytes b t == Value.none) = true then _ else _) _ _ s
  rw [if_neg (show ¬ ((Value.bytes b t == Value.none) = true) from Bool.false_ne_true)]
  show wpAny _ _ (field (.ref it) 1 >>= _) _ _ s
  refine wpAny_bind (wpAny_field ho hd (x := .int i 0) rfl ?_)
  refine wpAny_bind (wpAny_of_eq (a := b) rfl ?_)
  simp only [Int.toNat_natCast, hx]
  refine wpAny_bind (wpAny_rule (wpAny_bind (wpAny_setField ho hd (by simp) ?_)))
  show wpAny _ _ (newExc (.type "StopIteration") [] >>= _) _ _ _
  refine wpAny_bind ?_
  simp only [newExc, newTuple]
  refine wpAny_bind (wpAny_newObj_type ?_ (by size_fits))
  refine wpAny_bind (m := firstArgMember _ _) (wpAny_of_eq (a := Value.none) (by first | rfl | (simp only [firstArgMember]; rfl)) ?_)
  refine wpAny_newObj_type ?_ (by size_fits)
  simp only [raiseNew]
  refine wpAny_bind (wpAny_handled ?_)
  rw [show A.in1.handled = none from hh]
  refine wpAny_bind (wpAny_pure (wpAny_throw ?_))
  exact hE _ _ (((Heap.SameBut.update ..).extBut.push _).push _) ⟨_, Heap.get?_push_size _ rfl, rfl⟩
end

theorem by_at {h h' : Heap} {a : Addr} {b : Array UInt8} {t : Tok} {i : Nat} (x : KBw.IsBytesIter h a b t i) (k : ∀ o, h.get? a = some o → h'.get? a = some o) : KBw.IsBytesIter h' a b t i := let ⟨o, ho, r⟩ := x; ⟨o, k o ho, r⟩

/-- the parts of a zip of two bytes, apart from one another -/
structure ZApart (z TI TO i1 i2 : Addr) : Prop where
  TIz : TI ≠ z
  TOz : TO ≠ z
  i1z : i1 ≠ z
  i2z : i2 ≠ z
  TITO : TI ≠ TO
  TIi1 : TI ≠ i1
  TIi2 : TI ≠ i2
  TOi1 : TO ≠ i1
  TOi2 : TO ≠ i2
  i12 : i1 ≠ i2

/-- where the zip stands -/
structure ZSt (h : Heap) (z TI TO i1 i2 : Addr) (f0 : Value) (b1 b2 : Array UInt8) (t1 t2 : Tok) (i : Nat) : Prop where
  hz : IsZip h z TI TO f0
  hTI : IsPair h TI (.ref i1) (.ref i2)
  hTO : ∃ a b, IsPair h TO a b
  h1 : KBw.IsBytesIter h i1 b1 t1 i
  h2 : KBw.IsBytesIter h i2 b2 t2 i

section
variable {prog : Program} {w : World} {A : Around} {E : Value → Shared → Prop} {s : Shared} {z TI TO i1 i2 : Addr} {b1 b2 : Array UInt8} {t1 t2 : Tok} {i : Nat}

theorem zipNext_item {c1 c2 : UInt8} {Q : Option Value → Shared → Prop} (D : ZApart z TI TO i1 i2) (S : ZSt s.heap z TI TO i1 i2 .none b1 b2 t1 t2 i) (hx : b1[i]? = some c1) (hy : b2[i]? = some c2)
    (hQ : ∀ h' u1 u2 tk, ZSt h' z TI TO i1 i2 (rawInt s.heap.objs.size) b1 b2 t1 t2 (i + 1) → IsPair h' s.heap.objs.size (.int (c1.toNat : Int) u1) (.int (c2.toNat : Int) u2) →
      (∀ c o, c ∉ [z, TO, i1, i2] → s.heap.get? c = some o → h'.get? c = some o) → Q (some (.ref s.heap.objs.size)) { s with heap := h', toks := tk }) :
    wpAny (model prog w) A (pyNext (.ref z)) Q E s := by
  obtain ⟨hz, hTI, ⟨a, b, hTO⟩, h1, h2⟩ := S
  have hT : s.TypeIs (.ref z) "zip" := ⟨_, hz, rfl⟩
  unfold pyNext
  refine wpAny_bind (wpAny_attempt (wpAny_callSpecial?_slot (name := Str.ofString "__next__") hT F.slot_zip_next (wpAny_call_entry F.slot_zip_next hT F.entry_zip_next ?_ (F.args_zip_next_1 _))))
  show wpAny _ _ (field (.ref z) 2 >>= _) _ _ _
  refine wpAny_bind (wpAny_field hz rfl (x := .bool false) rfl ?_)
  show wpAny _ _ (field (.ref z) 3 >>= _) _ _ _
  refine wpAny_bind (wpAny_field hz rfl (x := .ref TI) rfl ?_)
  refine wpAny_bind (wpAny_seqItems hTI rfl ?_)
  show wpAny _ _ (Builtin.SmallTypes.ownedTupleIsFree (.ref z) >>= _) _ _ _
  refine wpAny_bind ?_
  unfold Builtin.SmallTypes.ownedTupleIsFree
  refine wpAny_bind (wpAny_field hz rfl (x := .none) rfl (wpAny_pure ?_))
  simp only [if_true]
  refine wpAny_bind (wpAny_rule ?_)
  refine wpAny_bind (wpAny_field hz rfl (x := .ref TO) rfl ?_)
  refine wpAny_bind (wpAny_setField_rec hz (by simp) fun h₁ hz₁ hs₁ => ?_)
  replace hz₁ : IsZip h₁ z TI TO .ellipsis := hz₁
  refine wpAny_bind ?_
  simp only [List.zipIdx_cons, List.zipIdx_nil, List.forIn_cons, List.forIn_nil]
  refine wpAny_bind (wpAny_bind (wpAny_onRaise ?_))
  show wpAny _ _ (Builtin.SmallTypes.nextOf (.ref i1) >>= _) _ _ _
  refine wpAny_bind (nextOf_by_item (by_at h1 fun o e => hs₁.extBut _ o D.i1z e) hx fun h₂ h1₂ hs₂ => wpAny_pure ?_)
  have hTO₂ : IsPair h₂ TO a b := hs₂.extBut _ _ D.TOi1 (hs₁.extBut _ _ D.TOz hTO)
  refine wpAny_bind (wpAny_seqItems hTO₂ rfl ?_)
  refine wpAny_bind (wpAny_updateSeq_pair hTO₂ fun h₃ hTO₃ hs₃ => ?_)
  replace hTO₃ : IsPair h₃ TO (.int (c1.toNat : Int) _) b := hTO₃
  refine wpAny_bind (wpAny_letGo (wpAny_pure ?_))
  refine wpAny_bind (wpAny_bind (wpAny_onRaise ?_))
  show wpAny _ _ (Builtin.SmallTypes.nextOf (.ref i2) >>= _) _ _ _
  refine wpAny_bind (nextOf_by_item (by_at h2 fun o e => hs₃.extBut _ o D.TOi2.symm (hs₂.extBut _ o D.i12.symm (hs₁.extBut _ o D.i2z e))) hy fun h₄ h2₄ hs₄ => wpAny_pure ?_)
  have hTO₄ : IsPair h₄ TO (.int (c1.toNat : Int) _) b := hs₄.extBut _ _ D.TOi2 hTO₃
  refine wpAny_bind (wpAny_seqItems hTO₄ rfl ?_)
  refine wpAny_bind (wpAny_updateSeq_pair hTO₄ fun h₅ hTO₅ hs₅ => ?_)
  replace hTO₅ : IsPair h₅ TO (.int (c1.toNat : Int) _) (.int (c2.toNat : Int) _) := hTO₅
  refine wpAny_bind (wpAny_letGo (wpAny_pure (wpAny_pure ?_)))
  refine wpAny_bind (wpAny_seqItems hTO₅ rfl ?_)
  refine wpAny_bind (wpAny_newTuple ?_)
  have hsz : h₅.objs.size = s.heap.objs.size := by rw [hs₅.1, hs₄.1, hs₃.1, hs₂.1, hs₁.1]
  have hz₅ : IsZip h₅ z TI TO .ellipsis := hs₅.extBut _ _ D.TOz.symm (hs₄.extBut _ _ D.i2z.symm (hs₃.extBut _ _ D.TOz.symm (hs₂.extBut _ _ D.i1z.symm hz₁)))
  have hk₅ : ∀ c o, c ≠ z → c ≠ TO → c ≠ i1 → c ≠ i2 → s.heap.get? c = some o → h₅.get? c = some o := fun c o c1 c2 c3 c4 e =>
    hs₅.extBut _ _ c2 (hs₄.extBut _ _ c4 (hs₃.extBut _ _ c2 (hs₂.extBut _ _ c3 (hs₁.extBut _ _ c1 e))))
  have h1₅ : KBw.IsBytesIter h₅ i1 b1 t1 (i + 1) := by_at h1₂ fun o e => hs₅.extBut _ o D.TOi1.symm (hs₄.extBut _ o D.i12 (hs₃.extBut _ o D.TOi1.symm e))
  have h2₅ : KBw.IsBytesIter h₅ i2 b2 t2 (i + 1) := by_at h2₄ fun o e => hs₅.extBut _ o D.TOi2.symm e
  have hzlt : z < h₅.objs.size := Heap.lt_size hz₅
  have hTOlt : TO < h₅.objs.size := Heap.lt_size hTO₅
  show wpAny _ _ (Builtin.SmallTypes.ownedTupleHandOut (.ref z) (.ref h₅.objs.size) >>= _) _ _ _
  refine wpAny_bind ?_
  unfold Builtin.SmallTypes.ownedTupleHandOut
  have hz₆ : ∀ o, IsZip (h₅.push o) z TI TO .ellipsis := fun o => Heap.get?_push_of_some _ hz₅
  refine wpAny_bind (wpAny_setField_rec (hz₆ _) (by simp) fun h₇ hz₇ hs₇ => ?_)
  replace hz₇ : IsZip h₇ z TI TO (rawInt h₅.objs.size) := hz₇
  refine wpAny_setField_rec hz₇ (by simp) fun h₈ hz₈ hs₈ => ?_
  replace hz₈ : IsZip h₈ z TI TO (rawInt h₅.objs.size) := hz₈
  have up : ∀ c o, c ≠ z → h₅.get? c = some o → h₈.get? c = some o := fun c o c1 e => hs₈.extBut _ _ c1 (hs₇.extBut _ _ c1 (Heap.get?_push_of_some _ e))
  have hT₈ := hs₈.extBut _ _ (Nat.ne_of_gt hzlt) (hs₇.extBut _ _ (Nat.ne_of_gt hzlt) (Heap.get?_push_size h₅ rfl))
  rw [hsz] at hz₈ hT₈
  refine wpAny_pure ⟨_, rfl, ?_⟩
  refine wpAny_pure ?_
  show Q (some (.ref h₅.objs.size)) _
  rw [hsz]
  refine hQ h₈ _ _ _ ⟨hz₈, up _ _ D.TIz (hk₅ _ _ D.TIz D.TITO D.TIi1 D.TIi2 hTI), ⟨_, _, up _ _ D.TOz hTO₅⟩, by_at h1₅ fun o e => up _ o D.i1z e, by_at h2₅ fun o e => up _ o D.i2z e⟩ hT₈ fun c o hc e => ?_
  simp only [List.mem_cons, List.not_mem_nil, or_false, not_or] at hc
  exact up c o hc.1 (hk₅ c o hc.1 hc.2.1 hc.2.2.1 hc.2.2.2 e)

theorem zipNext_end {Q : Option Value → Shared → Prop} (hh : A.handled = none) (D : ZApart z TI TO i1 i2) (S : ZSt s.heap z TI TO i1 i2 .none b1 b2 t1 t2 i) (hx : b1[i]? = none)
    (hQ : ∀ h', (∀ c o, c ∉ [z, TO, i1, i2] → s.heap.get? c = some o → h'.get? c = some o) → Q none { s with heap := h' }) : wpAny (model prog w) A (pyNext (.ref z)) Q E s := by
  obtain ⟨hz, hTI, ⟨a, b, hTO⟩, h1, h2⟩ := S
  have hT : s.TypeIs (.ref z) "zip" := ⟨_, hz, rfl⟩
  unfold pyNext
  refine wpAny_bind (wpAny_attempt (wpAny_callSpecial?_slot (name := Str.ofString "__next__") hT F.slot_zip_next (wpAny_call_entry F.slot_zip_next hT F.entry_zip_next ?_ (F.args_zip_next_1 _))))
  show wpAny _ _ (field (.ref z) 2 >>= _) _ _ _
  refine wpAny_bind (wpAny_field hz rfl (x := .bool false) rfl ?_)
  show wpAny _ _ (field (.ref z) 3 >>= _) _ _ _
  refine wpAny_bind (wpAny_field hz rfl (x := .ref TI) rfl ?_)
  refine wpAny_bind (wpAny_seqItems hTI rfl ?_)
  show wpAny _ _ (Builtin.SmallTypes.ownedTupleIsFree (.ref z) >>= _) _ _ _
  refine wpAny_bind ?_
  unfold Builtin.SmallTypes.ownedTupleIsFree
  refine wpAny_bind (wpAny_field hz rfl (x := .none) rfl (wpAny_pure ?_))
  simp only [if_true]
  refine wpAny_bind (wpAny_rule ?_)
  refine wpAny_bind (wpAny_field hz rfl (x := .ref TO) rfl ?_)
  refine wpAny_bind (wpAny_setField_rec hz (by simp) fun h₁ hz₁ hs₁ => ?_)
  replace hz₁ : IsZip h₁ z TI TO .ellipsis := hz₁
  refine wpAny_bind ?_
  simp only [List.zipIdx_cons, List.zipIdx_nil, List.forIn_cons, List.forIn_nil]
  refine wpAny_bind (wpAny_bind (wpAny_onRaise ?_))
  show wpAny _ _ (Builtin.SmallTypes.nextOf (.ref i1) >>= _) _ _ _
  refine wpAny_bind (nextOf_by_end hh (by_at h1 fun o e => hs₁.extBut _ o D.i1z e) hx fun h₂ e hs₂ he => ?_)
  obtain ⟨oe, hoe, hce⟩ := he
  have hz₂ : IsZip h₂ z TI TO .ellipsis := hs₂ _ _ D.i1z.symm hz₁
  have hez : e ≠ z := fun x => by subst x; rw [hz₂] at hoe; cases hoe; simp at hce
  refine wpAny_setField_rec hz₂ (by simp) fun h₃ _ hs₃ => ?_
  refine wpAny_bind (wpAny_isInstance (T := "StopIteration") (b := true) ⟨oe, hs₃.extBut _ _ hez hoe, hce⟩ isSubtype_stop ?_)
  refine wpAny_pure (hQ _ fun c o hc x => ?_)
  simp only [List.mem_cons, List.not_mem_nil, or_false, not_or] at hc
  exact hs₃.extBut _ _ hc.1 (hs₂ _ _ hc.2.2.1 (hs₁.extBut _ _ hc.1 x))

theorem walks_zip (hh : A.handled = none) (D : ZApart z TI TO i1 i2) (hsz : b1.size = b2.size) :
    WalksU prog w A z [z, TI, TO, i1, i2] [z, TO, i1, i2] b1.size
      (fun i vals => ∃ c1 c2 u1 u2, b1[i]? = some c1 ∧ b2[i]? = some c2 ∧ vals = #[.int (c1.toNat : Int) u1, .int (c2.toNat : Int) u2])
      (fun i h => ZSt h z TI TO i1 i2 .none b1 b2 t1 t2 i) (fun i T h => ZSt h z TI TO i1 i2 (rawInt T) b1 b2 t1 t2 (i + 1) ∧ T ∉ [z, TO, i1, i2]) where
  sub := fun c hc => by simp at hc ⊢; rcases hc with rfl | rfl | rfl | rfl <;> simp
  frame := fun i h h' S hk => ⟨hk z (by simp) _ S.hz, hk TI (by simp) _ S.hTI, (let ⟨a, b, e⟩ := S.hTO; ⟨a, b, hk TO (by simp) _ e⟩), by_at S.h1 fun o e => hk i1 (by simp) o e, by_at S.h2 fun o e => hk i2 (by simp) o e⟩
  item := fun i s Q E hi S hQ => by
    refine zipNext_item D S (Array.getElem?_eq_getElem hi) (Array.getElem?_eq_getElem (hsz ▸ hi)) fun h' u1 u2 tk S' hT hk => ?_
    refine hQ s.heap.objs.size _ h' tk ⟨_, _, u1, u2, Array.getElem?_eq_getElem hi, Array.getElem?_eq_getElem (hsz ▸ hi), rfl⟩ ⟨_, hT, rfl, _, rfl⟩ ⟨S', fun hm => ?_⟩ hk
    have lt : ∀ {c o}, s.heap.get? c = some o → s.heap.objs.size ≠ c := fun e => Nat.ne_of_gt (Heap.lt_size e)
    simp only [List.mem_cons, List.not_mem_nil, or_false] at hm
    rcases hm with hm | hm | hm | hm
    · exact lt S.hz hm
    · obtain ⟨_, _, e⟩ := S.hTO; exact lt e hm
    · obtain ⟨_, e, _⟩ := S.h1; exact lt e hm
    · obtain ⟨_, e, _⟩ := S.h2; exact lt e hm
  go := fun elts k pos i T s Q E hm hQ => by
    obtain ⟨S, _⟩ := hm
    refine wpAny_letOwnedTupleGo_zip S.hz fun h' hz' hs' => hQ h' ⟨hz', hs'.extBut _ _ D.TIz S.hTI, (let ⟨a, b, e⟩ := S.hTO; ⟨a, b, hs'.extBut _ _ D.TOz e⟩), by_at S.h1 fun o e => hs'.extBut _ o D.i1z e, by_at S.h2 fun o e => hs'.extBut _ o D.i2z e⟩ fun c o hc e => hs'.extBut _ _ (fun x => hc (by simp [x])) e
  apart := fun i T h hm => hm.2
  done := fun s Q E S hQ => zipNext_end hh D S (Array.getElem?_eq_none (Nat.le_refl _)) fun h' hk => hQ h' s.toks hk
  self := fun i s Q E S hQ => wpAny_pyIter_zip S.hz hQ

abbrev zb1 (h : Heap) (b1 : Array UInt8) (t1 : Tok) : Heap := h.push { cls := .type "bytes_iterator", data := .fields #[.bytes b1 t1, .int 0 0] }
abbrev zb3 (h : Heap) (b1 : Array UInt8) (t1 : Tok) (b2 : Array UInt8) (t2 : Tok) : Heap := (zb1 (zb1 h b1 t1) b2 t2).push { cls := .type "tuple", data := .seq #[.ref h.objs.size, .ref (zb1 h b1 t1).objs.size] }
abbrev zb4 (h : Heap) (b1 : Array UInt8) (t1 : Tok) (b2 : Array UInt8) (t2 : Tok) : Heap := (zb3 h b1 t1 b2 t2).push { cls := .type "tuple", data := .seq #[.none, .none] }
abbrev zb5 (h : Heap) (b1 : Array UInt8) (t1 : Tok) (b2 : Array UInt8) (t2 : Tok) : Heap :=
  (zb4 h b1 t1 b2 t2).push { cls := .type "zip", data := .fields #[.none, .bool false, .bool false, .ref (zb1 (zb1 h b1 t1) b2 t2).objs.size, .ref (zb3 h b1 t1 b2 t2).objs.size] }
set_option maxHeartbeats 2000000 in
theorem meets_zipBy (b1 b2 : Array UInt8) (t1 t2 : Tok) :
    Meets (Builtin.«zip.__new__» ⟨[.type "zip", .bytes b1 t1, .bytes b2 t2], []⟩) (fun _ R s =>
      R (.ok (.ret (.ref (zb4 s.heap b1 t1 b2 t2).objs.size))) { s with heap := zb5 s.heap b1 t1 b2 t2 }) :=
  .of_wp fun prog w A R s h => by
    obtain ⟨hp, g, d, tk, os⟩ := s
    have hsub := sub_zip
    wp_walk using KBw.pyIter_bytes (b := b1) (t := t1), KBw.pyIter_bytes (b := b2) (t := t2)
    exact ⟨_, rfl, h⟩

theorem call_zipBy {Q : Value → Shared → Prop} (h : ∀ h', ZSt h' (s.heap.objs.size + 4) (s.heap.objs.size + 2) (s.heap.objs.size + 3) s.heap.objs.size (s.heap.objs.size + 1) .none b1 b2 t1 t2 0 → h'.objs.size = s.heap.objs.size + 5 →
      (∀ c o, s.heap.get? c = some o → h'.get? c = some o) → Q (.ref (s.heap.objs.size + 4)) { s with heap := h' }) :
    wpAny (model prog w) A (call (.type "zip") [.bytes b1 t1, .bytes b2 t2]) Q E s := by
  refine callType_new F.called_zip (by decide) (F.typeCall_zip_2 _ _) (F.newCall_zip_2 _ _) (fun obj => F.args_object_init_3 obj _ _) F.entry_zip_new (meets_zipBy b1 b2 t1 t2) ?_
  have z1 : (zb1 s.heap b1 t1).objs.size = s.heap.objs.size + 1 := Heap.size_push ..
  have z2 : (zb1 (zb1 s.heap b1 t1) b2 t2).objs.size = s.heap.objs.size + 2 := by rw [Heap.size_push, z1]
  have z3 : (zb3 s.heap b1 t1 b2 t2).objs.size = s.heap.objs.size + 3 := by rw [Heap.size_push, z2]
  have z4 : (zb4 s.heap b1 t1 b2 t2).objs.size = s.heap.objs.size + 4 := by rw [Heap.size_push, z3]
  have z5 : (zb5 s.heap b1 t1 b2 t2).objs.size = s.heap.objs.size + 5 := by rw [Heap.size_push, z4]
  have g5 : (zb5 s.heap b1 t1 b2 t2).get? (zb4 s.heap b1 t1 b2 t2).objs.size = some _ := Heap.get?_push_size _ rfl
  have g4 : (zb5 s.heap b1 t1 b2 t2).get? (zb3 s.heap b1 t1 b2 t2).objs.size = some _ := Heap.get?_push_of_some _ (Heap.get?_push_size _ rfl)
  have g3 : (zb5 s.heap b1 t1 b2 t2).get? (zb1 (zb1 s.heap b1 t1) b2 t2).objs.size = some _ := Heap.get?_push_of_some _ (Heap.get?_push_of_some _ (Heap.get?_push_size _ rfl))
  have g2 : (zb5 s.heap b1 t1 b2 t2).get? (zb1 s.heap b1 t1).objs.size = some _ := Heap.get?_push_of_some _ (Heap.get?_push_of_some _ (Heap.get?_push_of_some _ (Heap.get?_push_size _ rfl)))
  have g1 : (zb5 s.heap b1 t1 b2 t2).get? s.heap.objs.size = some _ := Heap.get?_push_of_some _ (Heap.get?_push_of_some _ (Heap.get?_push_of_some _ (Heap.get?_push_of_some _ (Heap.get?_push_size _ rfl))))
  show _ ∧ _
  rw [z2, z3, z4] at g5
  rw [z1, z2] at g3
  rw [z3] at g4
  rw [z1] at g2
  rw [z4]
  exact ⟨⟨_, g5, rfl⟩, h _ ⟨g5, g3, ⟨_, _, g4⟩, ⟨_, g1, rfl, rfl⟩, ⟨_, g2, rfl, rfl⟩⟩ z5 fun c o x => Heap.get?_push_of_some _ (Heap.get?_push_of_some _ (Heap.get?_push_of_some _ (Heap.get?_push_of_some _ (Heap.get?_push_of_some _ x))))⟩
end
end Mine
end
section
namespace Mine
section
variable {prog : Program} {w : World} {A : Around} {E : Value → Shared → Prop} {s : Shared} {env : Env}

theorem comp_pairF {α β : Type} (R : α → Value → Value → Prop) (Z : β → Value → Prop) (f : α → β) (as : List α)
    {elt iter : Expr} {x y : Str} {px py tp : Pos} {kt : Nat} {scope : Scope} {cl : List (Str × Addr)} {pos cpos : Pos} {first : Sem Value} {Q : Value → Shared → Prop} (hh : A.handled = none)
    (hclos : closureFor scope env = pure cl) (hcell : ∀ y ∈ scope.names, y.2 ≠ .cell) (hkind : scope.kind = .function)
    (hnames : ∀ y ∈ scope.names, y.2 = .local → scope.names.lookup y.1 = some .local) (hx : scope.names.lookup x = some .local) (hy : scope.names.lookup y = some .local) (hxy : x ≠ y)
    (h : wpAny (model prog w) A first (fun xv s₁ => wpAny (model prog w) A (pyIter xv) (fun it s₂ => ∃ I fp wr St Mid, it = .ref I ∧ WalksU prog w A I fp wr as.length (fun i vals => ∃ a va vb, as[i]? = some a ∧ vals = #[va, vb] ∧ R a va vb) St Mid ∧ as.length ≤ 1000 ∧ St 0 s₂.heap ∧ (∀ b ∈ fp, b < s₂.heap.objs.size) ∧
      (∀ C a va vb (s₃ : Shared) m₃ E', s₂.heap.objs.size ≤ C → a ∈ as → R a va vb → s₃.heap.Ns C m₃ → m₃ x = some va → m₃ y = some vb →
        wpAny (model prog w) A (eval elt (compEnvC scope cl C env)) (fun v s₄ => Z (f a) v ∧ Keeps s₃ s₄) E' s₃) ∧
      (∀ D h' tk ys n, s₂.heap.get? D = none → h'.get? D = some (listOf ys n) → Paired Z (as.map f) ys.toList → (∀ b o, b ∉ wr → s₂.heap.get? b = some o → h'.get? b = some o) → Q (.ref D) { s₂ with heap := h', toks := tk })) E s₁) E s)
    (hs : ∀ x, foldedSetIterable iter env x = pure x := by intro _; rfl) :
    wpAny (model prog w) A (comprehension (.ListComp elt [⟨.Tuple [.Name x px, .Name y py] kt tp, iter, [], 0⟩] scope pos) scope env cpos (newList []) false first none) Q E s := by
  refine wpAny_comprehension_free (use := none) rfl hs hclos hkind hnames (wpAny_mono h (fun xv s₁ h₁ => wpAny_mono h₁ (fun it s₂ h₂ => ?_) fun _ _ e => e) fun _ _ e => e)
  obtain ⟨I, fp, wr, St, Mid, rfl, W, hsz, hst, hfp, he, hQ⟩ := h₂
  refine wpAny_newObj_type (wpAny_newFunctionEnv hcell (by intro y hy; simp at hy) (fun h₁ hns₁ hsb₁ => ?_) hkind)
  dsimp only at hns₁ hsb₁ ⊢
  have hD0 := Heap.get?_push_size s₂.heap (o := { cls := .type "list", dict := none, data := .seq ([] : List Value).toArray }) rfl
  have hold0 : ∀ b o, s₂.heap.get? b = some o → (s₂.heap.push { cls := .type "list", dict := none, data := .seq ([] : List Value).toArray }).get? b = some o := fun b o e => Heap.get?_push_of_some _ e
  have hC : (s₂.heap.push { cls := .type "list", dict := none, data := .seq ([] : List Value).toArray }).objs.size = s₂.heap.objs.size + 1 := Heap.size_push ..
  generalize s₂.heap.push { cls := .type "list", dict := none, data := .seq ([] : List Value).toArray } = H2 at *
  have old : ∀ b o, H2.get? b = some o → h₁.get? b = some o := fun b o e => hsb₁.extBut b o (Nat.ne_of_lt (Heap.lt_size e)) (Heap.get?_push_of_some _ e)
  have hacc : h₁.get? s₂.heap.objs.size = some (listOf #[] 0) := old _ _ hD0
  have hst₁ : St 0 h₁ := W.frame _ _ _ hst fun b _ o e => old b o (hold0 b o e)
  have hDC : s₂.heap.objs.size ≠ H2.objs.size := by rw [hC]; exact Nat.ne_of_lt (Nat.lt_succ_self _)
  have hDf : s₂.heap.objs.size ∉ fp := fun hm => Nat.lt_irrefl _ (hfp _ hm)
  have hCf : H2.objs.size ∉ fp := fun hm => by have := hfp _ hm; rw [hC] at this; exact Nat.lt_irrefl _ (Nat.lt_of_succ_lt this)
  have fresh : ∀ a, s₂.heap.objs.size ≤ a → s₂.heap.get? a = none := fun a ha => Heap.get?_none_of_le ha
  have hnC : s₂.heap.get? H2.objs.size = none := fresh _ (by rw [hC]; exact Nat.le_succ _)
  have hnD : s₂.heap.get? s₂.heap.objs.size = none := fresh _ (Nat.le_refl _)
  have hCle : s₂.heap.objs.size ≤ H2.objs.size := by rw [hC]; exact Nat.le_succ _
  have hkeep1 : ∀ b o, b ∉ wr → s₂.heap.get? b = some o → h₁.get? b = some o := fun b o _ e => old b o (hold0 b o e)
  generalize H2.objs.size = C at *
  generalize s₂.heap.objs.size = D at hacc hDC hDf hnD hCle hfp he ⊢
  have loop : ∀ s₃ : Shared, s₃ = { s₂ with heap := h₁, toks := s₂.toks + ([] : List (Str × Value)).length } →
      codeAny (model prog w) A (.compLoop (.ListComp elt [⟨.Tuple [.Name x px, .Name y py] kt tp, iter, [], 0⟩] scope pos) 0 (.ref I) (.ref D) (compEnvC scope cl C env))
        (compPost (model prog w) A E none Q (.ref D) C) s₃ := by
    rintro s₃ rfl
    refine PyProof.Rows.LCp.codeAny_compLoop_pair (fun n s' => ∃ i h tk m ys ny, n + i = as.length ∧ s' = { s₂ with heap := h, toks := tk } ∧ St i h ∧ h.get? D = some (listOf ys ny) ∧ h.Ns C m ∧ Paired Z ((as.take i).map f) ys.toList ∧
      (∀ b o, b ∉ wr → s₂.heap.get? b = some o → h.get? b = some o)) ?_ as.length ⟨0, h₁, _, _, #[], 0, rfl, rfl, hst₁, hacc, hns₁, by simpa using Paired.nil, hkeep1⟩
    rintro n s' ⟨i, h, tk, m, ys, ny, hn, rfl, hst, hl, hm, hp, hk⟩
    have hi : i ≤ as.length := by omega
    have hwrC : C ∉ wr := fun hm => hCf (W.sub _ hm)
    have hwrD : D ∉ wr := fun hm => hDf (W.sub _ hm)
    have hkx : (compEnvC scope cl C env).kindOf x = some .local := lookup_relabel_local hx
    have hky : (compEnvC scope cl C env).kindOf y = some .local := lookup_relabel_local hy
    have hpk : ((compEnvC scope cl C env).scope.kind == .class || ((compEnvC scope cl C env).scope.kind == .module && (compEnvC scope cl C env).locals != (compEnvC scope cl C env).globals)) = false := by simp [compEnvC, relabel, hkind]
    rcases Nat.lt_or_ge i as.length with hlt | hge
    · refine W.item i _ _ _ hlt hst fun T vals h1 tk1 hP hT hmid hk1 => ?_
      replace hk1 : ∀ b o, b ∉ wr → h.get? b = some o → h1.get? b = some o := hk1
      obtain ⟨a, va, vb, ha, rfl, hR⟩ := hP
      dsimp only
      refine W.go _ _ _ i T _ _ _ hmid fun h2 hst2 hk2 => ?_
      replace hk2 : ∀ b o, b ∉ wr → h1.get? b = some o → h2.get? b = some o := hk2
      have hT2 : h2.IsTuple T #[va, vb] := let ⟨o, e, r⟩ := hT; ⟨o, hk2 _ o (W.apart i T _ hmid) e, r⟩
      refine wpAny_assign_Tuple hh hT2 rfl rfl fun h3 hx3 => ?_
      replace hx3 : Heap.ExtBut h2.objs.size h2 h3 := hx3
      have old3 : ∀ b o, h2.get? b = some o → h3.get? b = some o := fun b o e => hx3 b o (Nat.ne_of_lt (Heap.lt_size e)) e
      have hn3 : h3.Ns C m := hm.at' fun o e => old3 _ o (hk2 _ o hwrC (hk1 _ o hwrC e))
      refine wpAny_assignInOrder_more (wpAny_assign_Name (wpAny_storeName_local hkx hn3 (fun h4 hn4 hs4 => ?_) hpk))
      replace hs4 : Heap.SameBut C h3 h4 := hs4
      refine wpAny_assignInOrder_more (wpAny_assign_Name (wpAny_storeName_local hky hn4 (fun h5 hn5 hs5 => ?_) hpk))
      replace hs5 : Heap.SameBut C h4 h5 := hs5
      refine wpAny_assignInOrder_none ?_
      have up : ∀ b o, b ≠ C → b ∉ wr → h.get? b = some o → h5.get? b = some o := fun b o hb hw e => hs5.extBut b o hb (hs4.extBut b o hb (old3 b o (hk2 b o hw (hk1 b o hw e))))
      have hl5 : h5.get? D = some (listOf ys ny) := up _ _ hDC hwrD hl
      have hst5 : St (i + 1) h5 := W.frame _ _ _ hst2 fun b hb o e => hs5.extBut b o (fun q => hCf (q ▸ hb)) (hs4.extBut b o (fun q => hCf (q ▸ hb)) (old3 b o e))
      refine wpAny_mono (he C a va vb _ _ _ hCle (List.mem_of_getElem? ha) hR hn5 (by simp [hxy]) (by simp)) (fun v s₄ hv => ?_) fun _ _ e => e
      obtain ⟨hz, h6, tk6, rfl, hk6⟩ := hv
      replace hk6 : ∀ b o, h5.get? b = some o → h6.get? b = some o := hk6
      have hys : ys.size = i := by
        have := hp.length
        simp at this
        omega
      refine wpAny_list_append_plain ⟨ny, hk6 _ _ hl5⟩ (fun h7 hl7 hs7 => ?_) (by rw [sizeLine_eq]; omega)
      obtain ⟨ny7, hl7⟩ := hl7
      refine ⟨n - 1, by omega, i + 1, h7, _, _, ys.push v, ny7, by omega, rfl, ?_, hl7, (hn5.keeps hk6).sameBut hs7 (Ne.symm hDC), ?_, fun b o hw e => ?_⟩
      · exact W.frame _ _ _ hst5 fun b hb o e => hs7.extBut b o (fun q => hDf (q ▸ hb)) (hk6 b o e)
      · rw [List.take_add_one, ha, Array.toList_push, List.map_append]
        exact Paired.snoc hp hz
      · have hbC : b ≠ C := fun q => by rw [q, hnC] at e; cases e
        have hbD : b ≠ D := fun q => by rw [q, hnD] at e; cases e
        exact hs7.extBut b o hbD (hk6 b o (up b o hbC hw (hk b o hw e)))
    · have hin : i = as.length := by omega
      subst hin
      refine W.done _ _ _ hst fun h1 tk1 hk1 => ?_
      replace hk1 : ∀ b o, b ∉ wr → h.get? b = some o → h1.get? b = some o := hk1
      rw [List.take_length] at hp
      refine ⟨m, hm.at' fun o e => hk1 _ o hwrC e, fun h' hs' => hQ D h' _ ys ny hnD (hs'.extBut _ _ hDC (hk1 _ _ hwrD hl)) hp fun b o hw e => hs'.extBut b o (fun q => by rw [q, hnC] at e; cases e) (hk1 b o hw (hk b o hw e))⟩
  exact codeAny_compStart_list (loop _ rfl) (W.self 0 _ _ _ hst₁ (loop _ rfl))
theorem compr_first {M : Model} {e : Expr} {scope : Scope} {cpos : Pos} {newAcc first : Sem Value} {g : Comprehension} {gs : List Comprehension} {cl : List (Str × Addr)} {use : Option (Value → Sem Unit)} {Q : Value → Shared → Prop}
    (hcl : clausesOf e = g :: gs) (hclos : closureFor scope env = pure cl) (h : wpC M A first (fun x s₁ => wpC M A (comprehension e scope env cpos newAcc false (pure x) use) Q s₁) s) :
    wpC M A (comprehension e scope env cpos newAcc false first use) Q s := by
  have h2 : ∀ f : Sem Value, comprehension e scope env cpos newAcc false f use = (f >>= fun x => comprehension e scope env cpos newAcc false (pure x) use) := fun f => by
    unfold comprehension
    rw [hclos, hcl]
    rfl
  rw [h2 first]
  exact wpC.bind h
end
end Mine
end
section
namespace Mine
theorem getD_eq (b : Array UInt8) (i : Nat) (h : i < b.size) : b.getD i 0 = b[i] := by simp [Array.getD_eq_getD_getElem?, h]
theorem maskOf_size (key b : Array UInt8) : (maskOf key b).size = b.size := firstOf_size _ _
theorem firstOf_getD (val : Nat → UInt8) (n i : Nat) (h : i < n) : (firstOf val n).getD i 0 = val i := by
  unfold firstOf
  simp [Array.getD_eq_getD_getElem?, List.getElem?_map, h]
theorem maskOf_getD (key b : Array UInt8) (i : Nat) (h : i < b.size) : (maskOf key b).getD i 0 = b.getD i 0 ^^^ key.getD (i % 4) 0 := firstOf_getD _ _ _ h
theorem by_ext {a b : Array UInt8} (hs : a.size = b.size) (h : ∀ i, i < a.size → a.getD i 0 = b.getD i 0) : a = b := by
  apply Array.ext hs
  intro i h1 h2
  have := h i h1
  rwa [getD_eq a i h1, getD_eq b i h2] at this
theorem maskOf_twice (key b : Array UInt8) : maskOf key (maskOf key b) = b := by
  refine by_ext (by rw [maskOf_size, maskOf_size]) fun i h => ?_
  rw [maskOf_size, maskOf_size] at h
  rw [maskOf_getD _ _ _ (by rw [maskOf_size]; exact h), maskOf_getD _ _ _ h, UInt8.xor_assoc, UInt8.xor_self, UInt8.xor_zero]
theorem maskOf_comm (k1 k2 b : Array UInt8) : maskOf k2 (maskOf k1 b) = maskOf k1 (maskOf k2 b) := by
  refine by_ext (by rw [maskOf_size, maskOf_size, maskOf_size, maskOf_size]) fun i h => ?_
  rw [maskOf_size, maskOf_size] at h
  rw [maskOf_getD _ _ _ (by rw [maskOf_size]; exact h), maskOf_getD _ _ _ h, maskOf_getD _ _ _ (by rw [maskOf_size]; exact h), maskOf_getD _ _ _ h, UInt8.xor_assoc, UInt8.xor_assoc, UInt8.xor_comm (k1.getD _ _)]
theorem maskOf_both (k1 k2 k3 b : Array UInt8) (h3 : ∀ i, i < 4 → k3.getD i 0 = k1.getD i 0 ^^^ k2.getD i 0) : maskOf k3 b = maskOf k2 (maskOf k1 b) := by
  refine by_ext (by rw [maskOf_size, maskOf_size, maskOf_size]) fun i h => ?_
  rw [maskOf_size] at h
  rw [maskOf_getD _ _ _ h, maskOf_getD _ _ _ (by rw [maskOf_size]; exact h), maskOf_getD _ _ _ h, h3 _ (Nat.mod_lt _ (by decide)), UInt8.xor_assoc]
theorem maskOf_laid (k a b : Array UInt8) (hs : a.size = b.size) (i : Nat) (h : i < a.size) : (maskOf k a).getD i 0 ^^^ (maskOf k b).getD i 0 = a.getD i 0 ^^^ b.getD i 0 := by
  rw [maskOf_getD _ _ _ h, maskOf_getD _ _ _ (hs ▸ h), UInt8.xor_assoc, UInt8.xor_comm (b.getD i 0), ← UInt8.xor_assoc (k.getD _ _), UInt8.xor_self, UInt8.zero_xor]
theorem rotOf_getD {key : Array UInt8} (h4 : key.size = 4) (n i : Nat) (h : i < 4) : (rotOf key n).getD i 0 = key.getD ((n + i) % 4) 0 := by
  have hc : ∀ k : Nat, k < 4 → clipAt 4 (k : Int) = k := fun k hk => by unfold clipAt; rw [if_neg (by omega)]; omega
  have hm := Nat.mod_lt n (show 0 < 4 by decide)
  unfold rotOf
  rw [KBc.picked_eq, KBc.picked_eq, h4]
  simp only [Option.elim, hc _ hm]
  simp only [Array.getD_eq_getD_getElem?]
  have hl : key.toList.length = 4 := by simpa using h4
  have e : ((key.toList.drop (n % 4)).take (4 - n % 4)).toArray ++ ((key.toList.drop 0).take (n % 4 - 0)).toArray = ((key.toList.drop (n % 4)) ++ (key.toList.take (n % 4))).toArray := by
    rw [List.take_of_length_le (by simp [hl])]
    simp
  rw [e]
  simp only [List.getElem?_toArray]
  rw [← Array.getElem?_toList]
  rcases Nat.lt_or_ge i (4 - n % 4) with h1 | h1
  · rw [List.getElem?_append_left (by simp [hl]; exact h1), List.getElem?_drop]
    congr 2
    omega
  · rw [List.getElem?_append_right (by simp [hl]; omega), List.getElem?_take_of_lt (by simp [hl]; omega)]
    congr 2
    simp only [List.length_drop, hl]
    omega
theorem maskOf_append {key : Array UInt8} (h4 : key.size = 4) (p q : Array UInt8) : maskOf key (p ++ q) = maskOf key p ++ maskOf (rotOf key p.size) q := by
  refine by_ext (by simp [maskOf_size]) fun i h => ?_
  rw [maskOf_size, Array.size_append] at h
  rw [maskOf_getD _ _ _ (by rw [Array.size_append]; exact h)]
  rcases Nat.lt_or_ge i p.size with h1 | h1
  · have e1 : (p ++ q).getD i 0 = p.getD i 0 := by simp only [Array.getD_eq_getD_getElem?]; rw [Array.getElem?_append_left h1]
    have e2 : (maskOf key p ++ maskOf (rotOf key p.size) q).getD i 0 = (maskOf key p).getD i 0 := by simp only [Array.getD_eq_getD_getElem?]; rw [Array.getElem?_append_left (by rw [maskOf_size]; exact h1)]
    rw [e1, e2, maskOf_getD _ _ _ h1]
  · have e1 : (p ++ q).getD i 0 = q.getD (i - p.size) 0 := by simp only [Array.getD_eq_getD_getElem?]; rw [Array.getElem?_append_right h1]
    have e2 : (maskOf key p ++ maskOf (rotOf key p.size) q).getD i 0 = (maskOf (rotOf key p.size) q).getD (i - p.size) 0 := by
      simp only [Array.getD_eq_getD_getElem?]; rw [Array.getElem?_append_right (by rw [maskOf_size]; exact h1), maskOf_size]
    rw [e1, e2, maskOf_getD _ _ _ (by omega), rotOf_getD h4 _ _ (Nat.mod_lt _ (by decide))]
    congr 2
    omega
theorem concat_maskAll : ∀ (ps : List (Array UInt8)) {key : Array UInt8}, key.size = 4 → concat (maskAll key ps) = maskOf key (concat ps)
  | [], key, _ => by rfl
  | p :: r, key, h4 => by
    show concat (maskOf key p :: maskAll (rotOf key p.size) r) = _
    rw [concat_cons, concat_maskAll r (rotOf_size h4 _), concat_cons, maskOf_append h4]
theorem maskAll_sizes : ∀ (ps : List (Array UInt8)) (key : Array UInt8), (maskAll key ps).map (·.size) = ps.map (·.size)
  | [], _ => rfl
  | p :: r, key => by
    show (maskOf key p).size :: _ = p.size :: _
    rw [maskOf_size, maskAll_sizes r]
theorem concat_one (p : Array UInt8) : concat [p] = p := by rw [concat_cons]; simp [concat]
theorem maskAll_one (key p : Array UInt8) : maskAll key [p] = [maskOf key p] := rfl
theorem maskAll_length (ps : List (Array UInt8)) (key : Array UInt8) : (maskAll key ps).length = ps.length := by
  have := congrArg List.length (maskAll_sizes ps key)
  simpa using this
theorem mem_size_concat : ∀ {ps : List (Array UInt8)} {q : Array UInt8}, q ∈ ps → q.size ≤ (concat ps).size
  | p :: r, q, h => by
    rw [concat_cons, Array.size_append]
    rcases List.mem_cons.mp h with rfl | h
    · omega
    · have := mem_size_concat h; omega
end Mine
end
section
namespace Mine
noncomputable def lawFn (P : Params) : FuncData := match (Kf P).lookup 54 with
  | some ⟨_, _, .func fd, _⟩ => fd
  | _ => default
noncomputable def lawBody (P : Params) : List Stmt := match (lawFn P).body with
  | .stmts b => b
  | _ => []
noncomputable def lawEnv (P : Params) (L : Addr) : Env := envOfC "law" (lawFn P).scope L 54 (.ref 53)
noncomputable def lawA (P : Params) (L : Addr) : Around := callerA.deeper (lawEnv P L)
section
variable {M : Model} {A : Around} {E : Value → Shared → Prop} {s : Shared} {env : Env} {Q : Value → Shared → Prop}
theorem part_some {e : Expr} (h : wpAny M A (eval e env) Q E s) : wpAny M A (evalPart (some e) env) Q E s := h
theorem part_none (h : Q .none s) : wpAny M A (evalPart none env) Q E s := wpAny_pure h
end
section
variable {prog : Program} {w : World} {A : Around} {E : Value → Shared → Prop} {s : Shared} {env : Env} {elt iter : Expr} {x : Str} {px : Pos} {scope : Scope} {cl : List (Str × Addr)} {pos : Pos} {Q : Value → Shared → Prop}
theorem comp_list {α β : Type} (R : α → Value → Prop) (Z : β → Value → Prop) (f : α → β) (as : List α) (hfun : ∀ a a' v, R a v → R a' v → a = a') (hh : A.handled = none)
    (hclos : closureFor scope env = pure cl) (hcell : ∀ y ∈ scope.names, y.2 ≠ .cell) (hkind : scope.kind = .function)
    (hnames : ∀ y ∈ scope.names, y.2 = .local → scope.names.lookup y.1 = some .local) (hx : scope.names.lookup x = some .local)
    (h : wpAny (model prog w) A (eval iter env) (fun xv s₁ => ∃ l vs, xv = .ref l ∧ s₁.heap.IsList l vs.toArray ∧ Paired R as vs ∧ as.length ≤ 1000 ∧ EltOk prog w A env elt scope cl x s₁.heap as R Z f ∧ CompRes s₁ as Z f Q) E s)
    (hs : ∀ x, foldedSetIterable iter env x = pure x := by intro _; rfl) :
    wpAny (model prog w) A (eval (.ListComp elt [⟨.Name x px, iter, [], 0⟩] scope pos) env) Q E s :=
  comp_G R Z f as hfun hclos hcell hkind hnames hx (wpAny_mono h (fun xv s₁ ⟨l, vs, e, hl, hp, hz, he, hr⟩ => by subst e; exact iter_list hh hl hp hz he hr) fun _ _ e => e) hs
theorem comp_bytes {β : Type} (Z : β → Value → Prop) (f : UInt8 → β) (b : Array UInt8) (hh : A.handled = none)
    (hclos : closureFor scope env = pure cl) (hcell : ∀ y ∈ scope.names, y.2 ≠ .cell) (hkind : scope.kind = .function)
    (hnames : ∀ y ∈ scope.names, y.2 = .local → scope.names.lookup y.1 = some .local) (hx : scope.names.lookup x = some .local)
    (h : wpAny (model prog w) A (eval iter env) (fun xv s₁ => ∃ t, xv = .bytes b t ∧ b.size ≤ 1000 ∧ EltOk prog w A env elt scope cl x s₁.heap b.toList OctetV Z f ∧ CompRes s₁ b.toList Z f Q) E s)
    (hs : ∀ x, foldedSetIterable iter env x = pure x := by intro _; rfl) :
    wpAny (model prog w) A (eval (.ListComp elt [⟨.Name x px, iter, [], 0⟩] scope pos) env) Q E s :=
  comp_G OctetV Z f b.toList (fun a a' v ⟨t, e⟩ ⟨t', e'⟩ => by rw [e] at e'; injection e' with e'; exact UInt8.toNat_inj.mp (by omega)) hclos hcell hkind hnames hx (wpAny_mono h (fun xv s₁ ⟨t, e, hz, he, hr⟩ => by subst e; exact iter_bytes hh hz he hr) fun _ _ e => e) hs
theorem comp_range {β : Type} (Z : β → Value → Prop) (f : Nat → β) (n : Nat) (hh : A.handled = none)
    (hclos : closureFor scope env = pure cl) (hcell : ∀ y ∈ scope.names, y.2 ≠ .cell) (hkind : scope.kind = .function)
    (hnames : ∀ y ∈ scope.names, y.2 = .local → scope.names.lookup y.1 = some .local) (hx : scope.names.lookup x = some .local)
    (h : wpAny (model prog w) A (eval iter env) (fun xv s₁ => ∃ r t u v, xv = .ref r ∧ IsRange s₁.heap r 0 (n : Int) 1 t u v ∧ n ≤ 1000 ∧ EltOk prog w A env elt scope cl x s₁.heap (List.range n) (fun (k : Nat) v => IntV (k : Int) v) Z f ∧ CompRes s₁ (List.range n) Z f Q) E s)
    (hs : ∀ x, foldedSetIterable iter env x = pure x := by intro _; rfl) :
    wpAny (model prog w) A (eval (.ListComp elt [⟨.Name x px, iter, [], 0⟩] scope pos) env) Q E s :=
  comp_G (fun (k : Nat) v => IntV (k : Int) v) Z f (List.range n) (fun a a' v ⟨t, e⟩ ⟨t', e'⟩ => by rw [e] at e'; injection e' with e'; omega) hclos hcell hkind hnames hx (wpAny_mono h (fun xv s₁ ⟨r, t, u, v, e, hl, hz, he, hr⟩ => by subst e; exact iter_range hh hl hz he hr) fun _ _ e => e) hs
end
theorem law_lit {P : Params} {c : Value} {d : Option Addr} {sl : Array (Option Value)} {fd : FuncData} {b : List Stmt} {sc : Scope} (h : (Kf P).lookup 54 = some ⟨c, d, .func fd, sl⟩) (hb : fd.body = .stmts b) (hs : fd.scope = sc) :
    lawBody P = b ∧ ∀ L, lawEnv P L = envOfC "law" sc L 54 (.ref 53) := by
  have e : lawFn P = fd := by unfold lawFn; rw [h]
  exact ⟨by unfold lawBody; rw [e, hb], fun L => by unfold lawEnv; rw [e, hs]⟩
theorem lawA_h (P : Params) (L : Addr) : (lawA P L).handled = none := rfl
theorem lawA_d (P : Params) (L : Addr) : (lawA P L).depth + 40 < recursionLimit := Nat.le_of_ble_eq_true rfl
theorem lawA_u (P : Params) (L : Addr) : (lawA P L).units + 64 < cLine := by
  exact Nat.le_of_ble_eq_true rfl

theorem isL {h : Heap} {a : Addr} {its : Array Value} {n : Nat} (e : h.get? a = some (listOf its n)) : h.IsList a its := ⟨_, e, rfl, _, rfl⟩
theorem isLt {h : Heap} {a : Addr} {its : Array Value} {n : Nat} (e : h.get? a = some (listOf its n)) : h.IsList a its.toList.toArray := by rw [Array.toArray_toList]; exact isL e
/-- what stays through the whole law -/
structure LawEnv (w : World) (p : Program) (loose : List Str) (mean : ExcName → Option Value) (mg mb : Str → Option Value) (g : Heap) (L : Addr) : Prop where
  X : (Kf w.params).In g
  T : Top p loose mean mg mb g
  g30 : g.get? 30 = none
  L30 : @LT.lt Nat _ 30 L

abbrev cellsN (L : Addr) (o1 o2 o3 o4 o5 : Obj) (ps : Array Value) : List (Addr × Obj) :=
  [(L + 1 + 1 + 1 + 1 + 1, o5), (L + 1 + 1 + 1 + 1, o4), (L + 1 + 1 + 1, o3), (L + 1 + 1, o2), (L + 1, o1), (30, tabObj ps)]

def Done (g : Heap) (s : Shared) (Q : Flow → Shared → Prop) : Prop := ∀ h' g' tk, (∀ b o, g.get? b = some o → h'.get? b = some o) → TabSt h' → AllBare g' → Q (.ret (.bool true)) { s with heap := h', gens := g', toks := tk }
end Mine
end
section
namespace Mine
theorem intV_fun (a a' : Int) (v : Value) (h : IntV a v) (h' : IntV a' v) : a = a' := by
  obtain ⟨t, rfl⟩ := h
  obtain ⟨t', e⟩ := h'
  injection e
theorem natV_fun (a a' : Nat) (v : Value) (h : IntV (a : Int) v) (h' : IntV (a' : Int) v) : a = a' := by
  have := intV_fun _ _ v h h'
  omega
theorem octetV_fun (a a' : UInt8) (v : Value) (h : OctetV a v) (h' : OctetV a' v) : a = a' := by
  obtain ⟨t, rfl⟩ := h
  obtain ⟨t', e⟩ := h'
  injection e with e
  exact UInt8.toNat_inj.mp (by omega)
theorem bytesV_fun (a a' : Array UInt8) (v : Value) (h : BytesV a v) (h' : BytesV a' v) : a = a' := by
  obtain ⟨t, rfl⟩ := h
  obtain ⟨t', e⟩ := h'
  injection e
theorem ints_paired {vs : List Value} {ns : List Int} (h : IntsAre vs ns) : Paired IntV ns vs := by
  induction h with
  | nil => exact .nil
  | cons n t _ ih => exact .cons ⟨t, rfl⟩ ih
theorem fmod_in (k : Int) : 0 ≤ k.fmod 256 ∧ k.fmod 256 < 256 := ⟨Int.fmod_nonneg_of_pos _ (by decide), Int.fmod_lt_of_pos _ (by decide)⟩

section
variable {w : World} {s : Shared} {p : Program} {loose : List Str} {mean : ExcName → Option Value} {mg mb : Str → Option Value} {g h : Heap} {L : Addr} {m : Str → Option Value} {gens : Array GenState} {tk : Nat} {o1 o2 o3 o4 o5 : Obj} {ps : Array Value} {Q : Flow → Shared → Prop}
set_option maxHeartbeats 4000000 in
theorem law_B {l : Addr} {vs : List Value} {ns : List Int} {b : Int} {t2 : Tok} (V : LawEnv w p loose mean mg mb g L) (hl : g.IsList l vs.toArray) (hi : IntsAre vs ns) (hlen : ns.length ≤ 63)
    (F : Fr g L h m) (hm : m "script" = some (.ref l)) (N : News g L h (cellsN L o1 o2 o3 o4 o5 ps)) (d2 : o2.data = .cell (some (.int b t2))) (d3 : o3.data = .cell none)
    (next : ∀ h' m' o3' tk' O t S u, O.size ≤ 24 → S.size = O.size → Fr g L h' m' → m' "second" = some (.bytes S u) → News g L h' (cellsN L o1 o2 o3' o4 o5 ps) → o3'.data = .cell (some (.bytes O t)) →
      wpC (model PySem.Challenge.rw_fb0055_01.row.prog w) (lawA w.params L) (execs ((lawBody w.params).drop 3) (lawEnv w.params L)) Q { s with heap := h', gens := gens, toks := tk' }) :
    wpC (model PySem.Challenge.rw_fb0055_01.row.prog w) (lawA w.params L) (execs ((lawBody w.params).drop 1) (lawEnv w.params L)) Q { s with heap := h, gens := gens, toks := tk } := by
  have hh := lawA_h w.params L
  have L30 := V.L30
  obtain ⟨eb, ee⟩ := law_lit (P := w.params) rfl rfl rfl
  simp only [eb, ee, List.drop_succ_cons, List.drop_zero] at next ⊢
  clear eb ee
  generalize lawA w.params L = A at *
  refine execs_any_C (wpAny_Assign_Name ?_ rfl)
  refine callName_W (nameX_B F V.X (topRead_of V.T) (KX.ns_bytes _) (v := .type "bytes") rfl (by decide) ?_)
  refine PyProof.Rows.callWith_type rfl (evalArgs_plain (spliced_cons ?_))
  refine comp_list IntV IntV (fun k => k.fmod 256) ((ns.drop 2).take (min 26 ns.length - 2)) intV_fun hh rfl (by decide) rfl (by decide) rfl ?_
  refine PyProof.Rows.Subscript_ (nameX_L F hm (wpAny_Slice (part_some (wpAny_Constant_int (part_some (wpAny_Constant_int (part_none ?_)))))))
  refine kmk_slice_ints F N (hl.at fun o e => F.keep _ _ e) (IsPart.int _ _) (IsPart.int _ _) hi (kmk_run hi (by decide) (by decide)) rfl (fun D ws h1 F1 N1 lo1 hw _ _ => ?_) rfl (fun _ => rfl) (by rw [List.size_toArray, hi.length, sizeLine_eq]; omega)
  refine ⟨D, ws, rfl, isL (N1 _ (.head _)).1, ints_paired hw, by simp; omega, ?_, ?_⟩
  · intro C a v s₃ m₃ E' _ _ ⟨t, ev⟩ hn hx _
    subst ev
    refine wpAny_BinOp (wpAny_Name (wpAny_loadName_local rfl rfl hn hx (wpAny_Constant_int (PyProof.Rows.mod_int (by decide) ?_))) (by decide))
    exact ⟨⟨_, rfl⟩, _, _, rfl, fun _ _ e => e⟩
  intro D2 h2 tk2 ys n2 hD2 el2 hy k2
  replace k2 : ∀ b o, h1.get? b = some o → h2.get? b = some o := k2
  have F2 := F1.keeps k2
  have N2 : News g L h2 (cellsN L o1 o2 o3 o4 o5 ps) := fun p hp => N1.grown k2 p (.tail _ hp)
  refine spliced_nil (call_bytes_ints (vs := ys.toList) (isLt el2) (ints_of hy) ?_ ?_ hh fun h3 u3 k3 keep3 => ?_)
  · intro k hk
    obtain ⟨k', _, rfl⟩ := List.mem_map.mp hk
    exact fmod_in k'
  · have := (ints_of hy).length
    rw [this, sizeLine_eq]; simp; omega
  have hO : (byteArr (List.map (fun k => k.fmod 256) ((ns.drop 2).take (min 26 ns.length - 2)))).size ≤ 24 := by rw [byteArr_size]; simp; omega
  generalize byteArr (List.map (fun k => k.fmod 256) ((ns.drop 2).take (min 26 ns.length - 2))) = O at *
  replace keep3 : ∀ b o, h2.get? b = some o → h3.get? b = some o := keep3
  have F3 := F2.keeps keep3
  have N3 := N2.grown keep3
  refine storeX_C F3 N3 rfl (by k_updF) d3 fun h4 o3' F4 N4 d3' => ?_
  try dsimp only at N4
  dsimp only
  clear F1 N1 F2 N2 F3 N3
  -- second
  refine execs_any_C (wpAny_Assign_Name ?_ rfl)
  refine callName_W (nameX_B F4 V.X (topRead_of V.T) (KX.ns_bytes _) (v := .type "bytes") rfl (by decide) ?_)
  refine PyProof.Rows.callWith_type rfl (evalArgs_plain (spliced_cons ?_))
  refine comp_bytes IntV (fun c => (((c.toNat : Int) * 7 + 31 * (b.fmod 5) + 3).fmod 256)) O hh rfl (by decide) rfl (by decide) rfl ?_
  refine nameX_C N4 rfl (by k_mem) d3' ?_
  refine ⟨_, rfl, by omega, ?_, ?_⟩
  · intro C a v s₃ m₃ E' _ _ ⟨t, ev⟩ hn hx hk
    subst ev
    have c2 := hk _ _ (N4 (L + 1 + 1, o2) (by k_mem)).1
    refine wpAny_BinOp (wpAny_BinOp (wpAny_BinOp (wpAny_BinOp (wpAny_Name (wpAny_loadName_local rfl rfl hn hx ?_) (by decide)))))
    refine wpAny_Constant_int (PyProof.Rows.mul_int ?_)
    refine wpAny_BinOp (wpAny_Constant_int (wpAny_BinOp (wpAny_Name (wpAny_loadName_cell rfl rfl rfl ⟨o2, c2, d2⟩ ?_) (by decide))))
    refine wpAny_Constant_int (PyProof.Rows.mod_int (by decide) (PyProof.Rows.mul_int (PyProof.Rows.add_int ?_)))
    refine wpAny_Constant_int (PyProof.Rows.add_int (wpAny_Constant_int (PyProof.Rows.mod_int (by decide) ?_)))
    exact ⟨⟨_, rfl⟩, _, _, rfl, fun _ _ e => e⟩
  intro D5 h5 tk5 ys5 n5 hD5 el5 hy5 k5
  replace k5 : ∀ b o, h4.get? b = some o → h5.get? b = some o := k5
  have F5 := F4.keeps k5
  have N5 := N4.grown k5
  refine spliced_nil (call_bytes_ints (vs := ys5.toList) (isLt el5) (ints_of hy5) ?_ ?_ hh fun h6 u6 k6 keep6 => ?_)
  · intro k hk
    obtain ⟨k', _, rfl⟩ := List.mem_map.mp hk
    exact fmod_in _
  · have := (ints_of hy5).length
    rw [this, sizeLine_eq]; simp; omega
  replace keep6 : ∀ b o, h5.get? b = some o → h6.get? b = some o := keep6
  have F6 := F5.keeps keep6
  have N6 := N5.grown keep6
  refine storeX_L F6 N6 fun h7 F7 N7 => ?_
  dsimp only
  refine next h7 _ o3' _ O _ _ _ hO ?_ F7 (if_pos rfl) N7 d3'
  rw [byteArr_size]
  simp
end
end Mine
end
section
namespace Mine
theorem KX.ns_range (P : Params) : nsIn (Kf P) mainGlobals "range" = some none := by kernel_rfl
theorem pow_small {k : Nat} (h : k < 4) : ((256 : Int) ^ k).natAbs < 1073741824 ∧ (256 : Int) ^ k ≠ 0 := by
  have : k = 0 ∨ k = 1 ∨ k = 2 ∨ k = 3 := by omega
  rcases this with rfl | rfl | rfl | rfl <;> decide
section
variable {w : World} {s : Shared} {p : Program} {loose : List Str} {mean : ExcName → Option Value} {mg mb : Str → Option Value} {g h : Heap} {L : Addr} {m : Str → Option Value} {gens : Array GenState} {tk : Nat} {o1 o2 o3 o4 o5 : Obj} {ps : Array Value} {Q : Flow → Shared → Prop}
set_option maxHeartbeats 4000000 in
theorem law_CC {a b : Int} {t1 t2 : Tok} (V : LawEnv w p loose mean mg mb g L)
    (F : Fr g L h m) (N : News g L h (cellsN L o1 o2 o3 o4 o5 ps)) (d1 : o1.data = .cell (some (.int a t1))) (d2 : o2.data = .cell (some (.int b t2))) (d4 : o4.data = .cell none) (d5 : o5.data = .cell none)
    (next : ∀ h' o4' o5' tk' K1 u1 K2 u2, K1.size = 4 → K2.size = 4 → Fr g L h' m → News g L h' (cellsN L o1 o2 o3 o4' o5' ps) → o4'.data = .cell (some (.bytes K1 u1)) → o5'.data = .cell (some (.bytes K2 u2)) →
      wpC (model PySem.Challenge.rw_fb0055_01.row.prog w) (lawA w.params L) (execs ((lawBody w.params).drop 4) (lawEnv w.params L)) Q { s with heap := h', gens := gens, toks := tk' }) :
    wpC (model PySem.Challenge.rw_fb0055_01.row.prog w) (lawA w.params L) (execs ((lawBody w.params).drop 3) (lawEnv w.params L)) Q { s with heap := h, gens := gens, toks := tk } := by
  have hh := lawA_h w.params L
  have L30 := V.L30
  obtain ⟨eb, ee⟩ := law_lit (P := w.params) rfl rfl rfl
  simp only [eb, ee, List.drop_succ_cons, List.drop_zero] at next ⊢
  clear eb ee
  generalize lawA w.params L = A at *
  refine execs_any_C (Assign_Tuple (Tuple_ (spliced_cons ?_)) rfl rfl)
  -- one
  refine callName_W (nameX_B F V.X (topRead_of V.T) (KX.ns_bytes _) (v := .type "bytes") rfl (by decide) ?_)
  refine PyProof.Rows.callWith_type rfl (evalArgs_plain (spliced_cons ?_))
  refine comp_range IntV (fun k => (a.fdiv (256 ^ k)).fmod 256) 4 hh rfl (by decide) rfl (by decide) rfl ?_
  refine callName_W (nameX_B F V.X (topRead_of V.T) (KX.ns_range _) (v := .type "range") rfl (by decide) ?_)
  refine PyProof.Rows.callWith_type rfl (evalArgs_plain (spliced_cons ?_))
  refine wpAny_Constant_int (i := 4) (k := 0) (pos := default) ?_
  refine spliced_nil (call_range_1 ?_)
  have kr : ∀ o b ob, h.get? b = some ob → (h.push o).get? b = some ob := fun o b ob e => Heap.get?_push_of_some _ e
  refine ⟨_, _, _, _, rfl, Heap.get?_push_size _ rfl, by decide, ?_, ?_⟩
  · intro C k v s₃ m₃ E' _ hkm ⟨t, ev⟩ hn hx hk
    subst ev
    have hk4 : k < 4 := List.mem_range.mp hkm
    have c1 := hk _ _ (kr _ _ _ (N (L + 1, o1) (by k_mem)).1)
    refine wpAny_BinOp (wpAny_BinOp (wpAny_Name (wpAny_loadName_cell rfl rfl rfl ⟨o1, c1, d1⟩ ?_) (by decide)))
    refine wpAny_BinOp (wpAny_Constant_int (wpAny_Name (wpAny_loadName_local rfl rfl hn hx ?_) (by decide)))
    refine pow_int_small (by omega) (by omega) (by decide) ?_
    rw [Int.toNat_natCast]
    refine PyProof.Rows.floordiv_int (pow_small hk4).2 ?_ (.inl (PyProof.noPylong_small (pow_small hk4).1))
    refine wpAny_Constant_int (PyProof.Rows.mod_int (by decide) ?_)
    exact ⟨⟨_, rfl⟩, _, _, rfl, fun _ _ e => e⟩
  intro D2 h2 tk2 ys n2 hD2 el2 hy k2
  replace k2 : ∀ b o, h.get? b = some o → h2.get? b = some o := fun b o e => k2 b o (kr _ _ _ e)
  have F2 := F.keeps k2
  have N2 := N.grown k2
  refine spliced_nil (call_bytes_ints (vs := ys.toList) (isLt el2) (ints_of hy) ?_ ?_ hh fun h3 u3 k3 keep3 => ?_)
  · intro k hk
    obtain ⟨k', _, rfl⟩ := List.mem_map.mp hk
    exact fmod_in _
  · have := (ints_of hy).length
    rw [this, sizeLine_eq]; simp
  have hK : (byteArr (List.map (fun k => (a.fdiv (256 ^ k)).fmod 256) (List.range 4))).size = 4 := by rw [byteArr_size]; simp
  generalize byteArr (List.map (fun k => (a.fdiv (256 ^ k)).fmod 256) (List.range 4)) = K1 at *
  replace keep3 : ∀ b o, h2.get? b = some o → h3.get? b = some o := keep3
  have F3 := F2.keeps keep3
  have N3 := N2.grown keep3
  -- other
  refine spliced_cons ?_
  refine callName_W (nameX_B F3 V.X (topRead_of V.T) (KX.ns_bytes _) (v := .type "bytes") rfl (by decide) ?_)
  refine PyProof.Rows.callWith_type rfl (evalArgs_plain (spliced_cons ?_))
  refine comp_range IntV (fun k => ((b.fdiv 7).fdiv (256 ^ k)).fmod 256) 4 hh rfl (by decide) rfl (by decide) rfl ?_
  refine callName_W (nameX_B F3 V.X (topRead_of V.T) (KX.ns_range _) (v := .type "range") rfl (by decide) ?_)
  refine PyProof.Rows.callWith_type rfl (evalArgs_plain (spliced_cons ?_))
  refine wpAny_Constant_int (i := 4) (k := 0) (pos := default) ?_
  refine spliced_nil (call_range_1 ?_)
  have kr3 : ∀ o b ob, h3.get? b = some ob → (h3.push o).get? b = some ob := fun o b ob e => Heap.get?_push_of_some _ e
  refine ⟨_, _, _, _, rfl, Heap.get?_push_size _ rfl, by decide, ?_, ?_⟩
  · intro C k v s₃ m₃ E' _ hkm ⟨t, ev⟩ hn hx hk
    subst ev
    have hk4 : k < 4 := List.mem_range.mp hkm
    have c2 := hk _ _ (kr3 _ _ _ (N3 (L + 1 + 1, o2) (by k_mem)).1)
    refine wpAny_BinOp (wpAny_BinOp (wpAny_BinOp (wpAny_Name (wpAny_loadName_cell rfl rfl rfl ⟨o2, c2, d2⟩ ?_) (by decide))))
    refine wpAny_Constant_int (PyProof.Rows.floordiv_int (by decide) ?_)
    refine wpAny_BinOp (wpAny_Constant_int (wpAny_Name (wpAny_loadName_local rfl rfl hn hx ?_) (by decide)))
    refine pow_int_small (by omega) (by omega) (by decide) ?_
    rw [Int.toNat_natCast]
    refine PyProof.Rows.floordiv_int (pow_small hk4).2 ?_ (.inl (PyProof.noPylong_small (pow_small hk4).1))
    refine wpAny_Constant_int (PyProof.Rows.mod_int (by decide) ?_)
    exact ⟨⟨_, rfl⟩, _, _, rfl, fun _ _ e => e⟩
  intro D5 h5 tk5 ys5 n5 hD5 el5 hy5 k5
  replace k5 : ∀ b o, h3.get? b = some o → h5.get? b = some o := fun b o e => k5 b o (kr3 _ _ _ e)
  have F5 := F3.keeps k5
  have N5 := N3.grown k5
  refine spliced_nil (call_bytes_ints (vs := ys5.toList) (isLt el5) (ints_of hy5) ?_ ?_ hh fun h6 u6 k6 keep6 => ?_)
  · intro k hk
    obtain ⟨k', _, rfl⟩ := List.mem_map.mp hk
    exact fmod_in _
  · have := (ints_of hy5).length
    rw [this, sizeLine_eq]; simp
  have hK2 : (byteArr (List.map (fun k => ((b.fdiv 7).fdiv (256 ^ k)).fmod 256) (List.range 4))).size = 4 := by rw [byteArr_size]; simp
  generalize byteArr (List.map (fun k => ((b.fdiv 7).fdiv (256 ^ k)).fmod 256) (List.range 4)) = K2 at *
  replace keep6 : ∀ b o, h5.get? b = some o → h6.get? b = some o := keep6
  have F6 := F5.keeps keep6
  have N6 := N5.grown keep6
  refine spliced_nil (wpAny_newTuple ?_)
  refine wpAny_assign_Tuple hh (items := #[.bytes K1 u3, .bytes K2 u6]) ⟨_, Heap.get?_push_size _ rfl, rfl, _, rfl⟩ rfl rfl fun h7 x7 => ?_
  have k7 : ∀ b o, h6.get? b = some o → h7.get? b = some o := fun b o e => x7 b o (Nat.ne_of_lt (Heap.lt_size (Heap.get?_push_of_some _ e))) (Heap.get?_push_of_some _ e)
  have F7 := F6.keeps k7
  have N7 := N6.grown k7
  refine wpAny_assignInOrder_more (PyProof.Rows.assign_Name (storeX_C F7 N7 rfl (by k_updF) d4 fun h8 o4' F8 N8 d4' => ?_))
  try dsimp only at N8
  refine wpAny_assignInOrder_more (PyProof.Rows.assign_Name (storeX_C F8 N8 rfl (by k_updF) d5 fun h9 o5' F9 N9 d5' => ?_))
  try dsimp only at N9
  refine wpAny_assignInOrder_none ?_
  dsimp only
  exact next h9 o4' o5' _ K1 _ K2 _ hK hK2 F9 N9 d4' d5'
end
end Mine
end
section
namespace Mine
theorem clip_nat (n k : Nat) : clipAt n (k : Int) = min k n := by unfold clipAt; rw [if_neg (by omega)]; omega
theorem concat_snoc (ps : List (Array UInt8)) (b : Array UInt8) : concat (ps ++ [b]) = concat ps ++ b := by
  unfold concat
  rw [List.foldl_append]
  rfl
theorem part_run (O : Array UInt8) (k z : Nat) : (O.toList.take k).toArray ++ KBy.picked O (some (k : Int)) (some ((k + z : Nat) : Int)) = (O.toList.take (k + z)).toArray := by
  rw [KBc.picked_eq]
  simp only [Option.elim, clip_nat]
  rw [List.append_toArray]
  congr 1
  have hl : O.toList.length = O.size := by simp
  rcases Nat.le_total O.size k with h | h
  · have e1 : O.toList.take k = O.toList := List.take_of_length_le (by omega)
    have e2 : O.toList.take (k + z) = O.toList := List.take_of_length_le (by omega)
    have e3 : O.toList.drop (min k O.size) = [] := List.drop_eq_nil_of_le (by rw [Nat.min_eq_right h]; omega)
    rw [e1, e2, e3, List.take_nil, List.append_nil]
  · rw [Nat.min_eq_left h]
    rcases Nat.le_total O.size (k + z) with h2 | h2
    · have e2 : O.toList.take (k + z) = O.toList := List.take_of_length_le (by omega)
      have e3 : (O.toList.drop k).take (min (k + z) O.size - k) = O.toList.drop k := List.take_of_length_le (by rw [List.length_drop, Nat.min_eq_right h2]; omega)
      rw [e2, e3, List.take_append_drop]
    · rw [Nat.min_eq_left h2, Nat.add_sub_cancel_left, List.take_add]
theorem part_rest (O : Array UInt8) (k : Nat) : (O.toList.take k).toArray ++ KBy.picked O (some (k : Int)) none = O := by
  rw [KBc.picked_eq]
  simp only [Option.elim, clip_nat]
  rw [List.append_toArray]
  have hl : O.toList.length = O.size := by simp
  have e3 : (O.toList.drop (min k O.size)).take (O.size - min k O.size) = O.toList.drop (min k O.size) := List.take_of_length_le (by rw [List.length_drop]; omega)
  rw [e3]
  rcases Nat.le_total O.size k with h | h
  · have e1 : O.toList.take k = O.toList := List.take_of_length_le (by omega)
    have e4 : O.toList.drop (min k O.size) = [] := List.drop_eq_nil_of_le (by rw [Nat.min_eq_right h]; omega)
    rw [e1, e4, List.append_nil, Array.toArray_toList]
  · rw [Nat.min_eq_left h, List.take_append_drop, Array.toArray_toList]

theorem range_iter {prog : Program} {w : World} {A : Around} {E : Value → Shared → Prop} {s : Shared} {n : Int} {t : Tok} {Q : Value → Shared → Prop} (hs : Builtin.Range.small 0 n 1 = true) (hz : Builtin.Range.rangeSize 0 n 1 = n)
    (h : ∀ h' it tk, IsRangeIter h' it 0 n 1 → (∀ b o, s.heap.get? b = some o → h'.get? b = some o) → @LT.lt Nat _ s.heap.objs.size it → Q (.ref it) { s with heap := h', toks := tk }) :
    wpAny (model prog w) A (call (.type "range") [.int n t]) (fun x s₁ => wpAny (model prog w) A (pyIter x) Q E s₁) E s := by
  refine call_range_1 ?_
  refine wpAny_pyIter_range (Heap.get?_push_size _ rfl) hs ?_
  rw [hz]
  refine h _ _ _ (Heap.get?_push_size _ rfl) (fun b o e => Heap.get?_push_of_some _ (Heap.get?_push_of_some _ e)) ?_
  rw [Heap.size_push]
  exact Nat.lt_succ_self _

theorem mod_nat {prog : Program} {w : World} {A : Around} {E : Value → Shared → Prop} {s : Shared} {x : Int} {t u : Tok} {Q : Value → Shared → Prop} (h : ∀ z : Nat, Q (.int (z : Int) s.toks) { s with toks := s.toks + 1 }) :
    wpAny (model prog w) A (binaryOp .Mod (.int x t) (.int 11 u)) Q E s := by
  refine PyProof.Rows.mod_int (by decide) ?_
  obtain ⟨zn, hz⟩ := Int.eq_ofNat_of_zero_le (Int.fmod_nonneg_of_pos x (b := 11) (by decide))
  rw [hz]
  exact h zn

section
variable {w : World} {s : Shared} {p : Program} {loose : List Str} {mean : ExcName → Option Value} {mg mb : Str → Option Value} {g h : Heap} {L : Addr} {m : Str → Option Value} {gens : Array GenState} {tk : Nat} {o1 o2 o3 o4 o5 : Obj} {ps : Array Value} {Q : Flow → Shared → Prop}
set_option maxHeartbeats 4000000 in
theorem law_D {a b : Int} {t1 t2 t3 : Tok} {O : Array UInt8} {S : Value} (V : LawEnv w p loose mean mg mb g L) (hO : O.size ≤ 24)
    (F : Fr g L h m) (hS : m "second" = some S) (N : News g L h (cellsN L o1 o2 o3 o4 o5 ps)) (d1 : o1.data = .cell (some (.int a t1))) (d2 : o2.data = .cell (some (.int b t2))) (d3 : o3.data = .cell (some (.bytes O t3)))
    (next : ∀ h' m' tk' pA its n P, concat P = O → P.length ≤ 40 → Fr g L h' m' → m' "parts" = some (.ref pA) → m' "second" = some S → News g L h' ((pA, listOf its n) :: cellsN L o1 o2 o3 o4 o5 ps) → BytesAre its.toList P → @LT.lt Nat _ (L + 1 + 1 + 1 + 1 + 1) pA →
      wpC (model PySem.Challenge.rw_fb0055_01.row.prog w) (lawA w.params L) (execs ((lawBody w.params).drop 7) (lawEnv w.params L)) Q { s with heap := h', gens := gens, toks := tk' }) :
    wpC (model PySem.Challenge.rw_fb0055_01.row.prog w) (lawA w.params L) (execs ((lawBody w.params).drop 4) (lawEnv w.params L)) Q { s with heap := h, gens := gens, toks := tk } := by
  have hh := lawA_h w.params L
  have L30 := V.L30
  obtain ⟨eb, ee⟩ := law_lit (P := w.params) rfl rfl rfl
  simp only [eb, ee, List.drop_succ_cons, List.drop_zero] at next ⊢
  clear eb ee
  generalize lawA w.params L = A at *
  -- parts, place = ([b''], 0)
  refine execs_any_C (Assign_Tuple_swapped ?_ rfl rfl)
  refine Tuple_ (spliced_cons (List_ (spliced_cons (Constant_bytes (x := []) (k := 0) (pos := default) (spliced_nil ?_)))))
  refine newList_K F (N.grown fun _ _ e => e) fun pA h1 F1 N1 lo1 => ?_
  refine spliced_cons (wpAny_Constant_int (i := 0) (k := 0) (pos := default) (spliced_nil (wpAny_newTuple ?_)))
  refine wpAny_unpackItems_tuple hh (items := #[.ref pA, .int 0 _]) ⟨_, Heap.get?_push_size _ rfl, rfl, _, rfl⟩ fun h2 x2 => ?_
  have k2 : ∀ b o, h1.get? b = some o → h2.get? b = some o := fun b o e => x2 b o (Nat.ne_of_lt (Heap.lt_size (Heap.get?_push_of_some _ e))) (Heap.get?_push_of_some _ e)
  have F2 := F1.keeps k2
  have N2 := N1.grown k2
  refine wpAny_assignInOrder_more (wpAny_bindName (storeX_L F2 N2 fun h3 F3 N3 => ?_))
  refine wpAny_assignInOrder_more (wpAny_bindName (storeX_L F3 N3 fun h4 F4 N4 => ?_))
  refine wpAny_assignInOrder_none ?_
  dsimp only
  have l1 : @LT.lt Nat _ (L + 1 + 1 + 1 + 1 + 1) pA := lo1 _ (.head _)
  clear F1 N1 F2 N2 F3 N3 F N
  -- for n in range(30)
  refine execs_cons_C (for_C ?_)
  refine callName_W (nameX_B F4 V.X (topRead_of V.T) (KX.ns_range _) (v := .type "range") rfl (by decide) ?_)
  refine PyProof.Rows.callWith_type rfl (evalArgs_plain (spliced_cons ?_))
  refine wpAny_Constant_int (i := 30) (k := 0) (pos := default) ?_
  refine spliced_nil (range_iter (by decide +kernel) (by decide +kernel) fun h5 it tk5 hit k5 l5 => ?_)
  replace k5 : ∀ b o, h4.get? b = some o → h5.get? b = some o := k5
  have F5 := F4.keeps k5
  have l2 : @LT.lt Nat _ pA it := Nat.lt_trans (Heap.lt_size (N4 _ (.head _)).1) l5
  have N5 := news_cons F5 (N4.grown k5) hit (by show @LT.lt Nat _ _ _; omega)
  have Lit : L ≠ it := by show ¬ (@Eq Nat _ _); omega
  have git : g.get? it = none := (N5 _ (.head _)).2.2
  clear F4 N4
  refine forLoop_C (fun k s' => ∃ i h tk mm its ni pl tp done, s' = { s with heap := h, gens := gens, toks := tk } ∧ k + i = 30 ∧ Fr g L h mm ∧ mm "parts" = some (.ref pA) ∧ mm "place" = some (.int ((pl : Nat) : Int) tp) ∧ mm "second" = some S ∧
    News g L h ((it, { cls := .type "range_iterator", dict := none, data := .fields #[rawInt ((i : Nat) : Int), rawInt (30 - ((i : Nat) : Int)), rawInt 1], slots := #[] }) :: (pA, listOf its ni) :: cellsN L o1 o2 o3 o4 o5 ps) ∧
    BytesAre its.toList done ∧ its.size = i + 1 ∧ concat done = (O.toList.take pl).toArray) ?_ (fun _ => rfl) 30 _ ⟨0, h5, _, _, _, _, 0, _, [#[]], rfl, rfl, F5, rfl, rfl, hS, N5, .cons .nil, rfl, by simp [concat]⟩
  rintro k s' ⟨i, h, tk, mm, its, ni, pl, tp, done, rfl, hki, F, hm1, hm2, hm3, N, hb, hsz, hcon⟩
  rcases Nat.lt_or_ge i 30 with hlt | hge
  · refine wpAny_pyNext_range_item (N _ (.head _)).1 (by omega) fun h6 hit6 hs6 => ?_
    replace hs6 : Heap.SameBut it h h6 := hs6
    have F6 := fr_ext F git Lit hs6.extBut
    have N6 := news_ext N hs6.extBut hit6 (by k_upd)
    dsimp only
    refine PyProof.Rows.assign_Name (storeX_L F6 N6 fun h7 F7 N7 => ?_)
    -- size = (a // 3 + n * (b // 11 + 1)) % 11
    refine execs_any_C (wpAny_Assign_Name ?_ rfl)
    refine wpAny_BinOp (wpAny_BinOp (wpAny_BinOp (nameX_C N7 rfl (by k_mem) d1 ?_)))
    refine wpAny_Constant_int (PyProof.Rows.floordiv_int (by decide) ?_)
    refine wpAny_BinOp (nameX_L F7 rfl ?_)
    refine wpAny_BinOp (wpAny_BinOp (nameX_C N7 rfl (by k_mem) d2 ?_))
    refine wpAny_Constant_int (PyProof.Rows.floordiv_int (by decide) ?_)
    refine wpAny_Constant_int (PyProof.Rows.add_int (PyProof.Rows.mul_int (hm := IntMulOk.of_left (intBits_le_64 (Int.lt_of_lt_of_le (b := 0) (by decide) (by omega)) (Int.lt_of_lt_of_le (b := 30) (by omega) (by decide)))) ?_))
    refine PyProof.Rows.add_int (wpAny_Constant_int (mod_nat fun zn => ?_))
    refine storeX_L F7 N7 fun h8 F8 N8 => ?_
    dsimp only
    -- parts.append(octets[place:place + size])
    refine execs_cons_C (expr_C rfl rfl ?_)
    refine methodCall_C (nameX_L F8 (by rw [if_neg (by decide), if_neg (by decide)]; exact hm1) (listMethod_K N8 (D := pA) (by k_mem) PySem.F.slot_list_append PySem.F.type_list_append ?_))
    refine callWith_C rfl (spliced_cons_C (wpC.of ?_))
    refine PyProof.Rows.Subscript_ (nameX_C N8 rfl (by k_mem) d3 ?_)
    refine wpAny_Slice (part_some (nameX_L F8 (v := .int (pl : Int) tp) (by rw [if_neg (by decide), if_neg (by decide)]; exact hm2) (part_some ?_)))
    refine wpAny_BinOp (nameX_L F8 (v := .int (pl : Int) tp) (by rw [if_neg (by decide), if_neg (by decide)]; exact hm2) (nameX_L F8 rfl (PyProof.Rows.add_int (part_none ?_))))
    refine slice_key (k := true) ⟨t3, rfl⟩ (IsPart.int _ _) (IsPart.int _ _) (by omega) fun v9 h9 tk9 hv9 k9 => ?_
    obtain ⟨t9, rfl⟩ := hv9
    replace k9 : ∀ b o, h8.get? b = some o → h9.get? b = some o := k9
    have F9 := F8.keeps k9
    have N9 := N8.grown k9
    refine spliced_nil_C ⟨keeper_builtin, wpC.of (append_K F9 N9 (by k_upd) (fun h10 F10 N10 => ?_) (by rw [hsz, sizeLine_eq]; omega))⟩
    refine ⟨fun _ => nofun, ?_⟩
    dsimp only
    -- place += size
    refine execs_any_C (wpAny_AugAssign_Name (wpAny_loadName_local rfl rfl F10.ns (v := .int (pl : Int) tp) (by rw [if_neg (by decide), if_neg (by decide)]; exact hm2) ?_))
    refine nameX_L F10 rfl (PyProof.Rows.iadd_int ?_)
    refine storeX_L F10 N10 fun h11 F11 N11 => ?_
    dsimp only
    refine execs_nil_C ?_
    dsimp only
    refine ⟨k - 1, by omega, i + 1, h11, _, _, its.push (.bytes (KBy.picked O (some (pl : Int)) (some ((pl : Int) + (zn : Int)))) t9), ni + 1, pl + zn, _, done ++ [KBy.picked O (some (pl : Int)) (some ((pl : Int) + (zn : Int)))], rfl, by omega, F11, ?_, if_pos rfl, ?_, ?_, ?_, ?_, ?_⟩
    · rw [if_neg (by decide), if_neg (by decide), if_neg (by decide)]; exact hm1
    · rw [if_neg (by decide), if_neg (by decide), if_neg (by decide)]; exact hm3
    · have e1 : ((i : Nat) : Int) + 1 = ((i + 1 : Nat) : Int) := by omega
      rw [← e1, show (30 : Int) - (((i : Nat) : Int) + 1) = 30 - ((i : Nat) : Int) - 1 by omega]
      exact N11
    · rw [Array.toList_push]; exact hb.snoc
    · rw [Array.size_push, hsz]
    · rw [concat_snoc, hcon]
      exact part_run O pl zn
  · have hi30 : i = 30 := by omega
    subst hi30
    refine wpAny_pyNext_range_end hh (N _ (.head _)).1 (by decide) fun h6 x6 => ?_
    replace x6 : Heap.ExtBut it h h6 := x6
    have F6 := fr_ext F git Lit x6
    have N6 : News g L h6 ((pA, listOf its ni) :: cellsN L o1 o2 o3 o4 o5 ps) := fun p hp => by
      have hp2 := N p (.tail _ hp)
      refine ⟨x6 _ _ (fun q => ?_) hp2.1, hp2.2⟩
      have lt : @LT.lt Nat _ p.1 it := by
        rcases List.mem_cons.mp hp with rfl | hp
        · exact l2
        · exact Nat.lt_trans (lo1 _ hp) l2
      exact Nat.ne_of_lt lt q
    dsimp only
    -- parts.append(octets[place:])
    refine execs_cons_C (expr_C rfl rfl ?_)
    refine methodCall_C (nameX_L F6 hm1 (listMethod_K N6 (D := pA) (by k_mem) PySem.F.slot_list_append PySem.F.type_list_append ?_))
    refine callWith_C rfl (spliced_cons_C (wpC.of ?_))
    refine PyProof.Rows.Subscript_ (nameX_C N6 rfl (by k_mem) d3 ?_)
    refine wpAny_Slice (part_some (nameX_L F6 hm2 (part_none (part_none ?_))))
    refine slice_key (k := true) ⟨t3, rfl⟩ (IsPart.int _ _) IsPart.none (by omega) fun v9 h9 tk9 hv9 k9 => ?_
    obtain ⟨t9, rfl⟩ := hv9
    replace k9 : ∀ b o, h6.get? b = some o → h9.get? b = some o := k9
    have F9 := F6.keeps k9
    have N9 := N6.grown k9
    refine spliced_nil_C ⟨keeper_builtin, wpC.of (append_K F9 N9 (by k_upd) (fun h10 F10 N10 => ?_) (by rw [hsz, sizeLine_eq]; omega))⟩
    refine ⟨fun _ => nofun, ?_⟩
    dsimp only
    refine next h10 mm _ pA _ _ (done ++ [KBy.picked O (some (pl : Int)) none]) ?_ ?_ F10 hm1 hm3 N10 ?_ l1
    · rw [concat_snoc, hcon]; exact part_rest O pl
    · have := hb.len
      simp at this
      simp
      omega
    · rw [Array.toList_push]; exact hb.snoc
end
end Mine
end
section
namespace Mine
theorem byteArr_first (v : Nat → UInt8) (n : Nat) : byteArr ((List.range n).map fun k => ((v k).toNat : Int)) = firstOf v n := by
  unfold byteArr firstOf
  rw [List.map_map]
  congr 1
  refine List.map_congr_left fun k _ => ?_
  simp

section
variable {prog : Program} {w : World} {A : Around} {E : Value → Shared → Prop} {s : Shared} {env : Env}
theorem item_by {value slice : Expr} {b : Array UInt8} {t u : Tok} {i : Nat} {Q : Value → Shared → Prop} (hz : b.size ≤ 1000) (hi : i < b.size) (h : ∀ t' k, Q (.int ((b.getD i 0).toNat : Int) t') { s with toks := k }) :
    wpAny (model prog w) A (subscriptTail value slice (.bytes b t) (.int (i : Int) u)) Q E s := by
  refine sub_tail (typeIs_bytes s b t) FB.slot_bytes_getitem.lookup ?_
  have e : b.toList.toArray = b := Array.toArray_toList
  have g : wpAny (model prog w) A (getItem (.bytes b.toList.toArray t) (.int (i : Int) u)) Q E s := by
    refine getItem_bytes (l := b.toList) (by simp; omega) (by omega) (by simp; omega) ?_
    have := h
    rw [Int.toNat_natCast]
    have e2 : b.toList.getD i 0 = b.getD i 0 := by simp [List.getD_eq_getElem?_getD, Array.getD_eq_getD_getElem?]
    rw [e2]
    exact h _ _
  rw [e] at g
  exact g

theorem cmp_C {M : Model} {l r : Expr} {op : CmpOp} {pos : Pos} {whole : Sem Value} {Q : Bool → Shared → Prop}
    (h : wpC M A (eval l env) (fun a s₁ => wpC M A (eval r env) (fun b s₂ => wpAny M A (compareOp op a b) (fun c s₃ => wpAny M A (truthy c) Q (fun _ _ => False) s₃) (fun _ _ => False) s₂) s₁) s)
    (hm : ∀ x, markedBehindIn op r x = x := by intro _; rfl) :
    wpC M A (isTrue (.Compare l [op] [r] pos) env whole) Q s := by
  rw [isTrue_Compare1]
  refine wpC.bind (wpC.mono h fun a s₁ h₁ => ?_)
  rw [hm]
  refine wpC.bind (wpC.holding (wpC.mono h₁ fun b s₂ h₂ => wpC.step (wpAny_standAt ?_)))
  refine wpC.step (wpAny_operateT (wpAny_mono h₂ (fun c s₃ h₃ => ?_) fun _ _ x => x))
  exact wpC.holding (wpC.of h₃)
end

section
variable {w : World} {s : Shared} {p : Program} {loose : List Str} {mean : ExcName → Option Value} {mg mb : Str → Option Value} {g h : Heap} {L : Addr} {m : Str → Option Value} {A : Around}
/-- a call of _law_masked, out of a frame -/
theorem call_masked {l : Addr} {tkk : Tok} {key : Array UInt8} {vs : List Value} {ps : List (Array UInt8)} {news : List (Addr × Obj)} {ps0 : Array Value} {Q : Value → Shared → Prop} (V : LawEnv w p loose mean mg mb g L) (F : Fr g L s.heap m) (N : News g L s.heap news) (h30 : (30, tabObj ps0) ∈ news) (htr : TriplesOk ps0.toList)
    (h4 : key.size = 4) (hl : s.heap.IsList l vs.toArray) (hvs : BytesAre vs ps) (hz : ∀ q ∈ ps, q.size ≤ 1000) (hn : ps.length ≤ 1000) (hh : A.handled = none) (hroom : A.depth + 40 < recursionLimit) (hG : AllBare s.gens)
    (k : ∀ h' g' tk r its n ps', Fr g L h' m → (∀ news', Upd 30 (tabObj ps0) (tabObj ps') news news' → News g L h' ((r, listOf its n) :: news')) → (∀ p ∈ news, r ≠ p.1) → TriplesOk ps'.toList → BytesAre its.toList (maskAll key ps) → AllBare g' →
      (∀ b o, b ≠ 30 → s.heap.get? b = some o → h'.get? b = some o) → Q (.ref r) { s with heap := h', gens := g', toks := tk }) :
    wpC (model PySem.Challenge.rw_fb0055_01.row.prog w) A (call (.ref 49) [.bytes key tkk, .ref l]) Q s := by
  refine masked_C V.X V.T F.keep V.g30 ⟨ps0, (N _ h30).1, htr⟩ h4 hl hvs hz hn hh (by omega) hG fun h' g' tk r its n hk TS hr hb nr hG' => ?_
  obtain ⟨ps', hP', htr'⟩ := TS
  have x : Heap.ExtBut 30 s.heap h' := fun b o hb e => hk b o hb e
  have L30 : L ≠ 30 := Nat.ne_of_gt V.L30
  refine k h' g' tk r its n ps' (fr_ext F V.g30 L30 x) (fun news' U => ?_) (fun p hp e => by rw [e, (N p hp).1] at nr; cases nr) htr' hb hG' hk
  refine newsCons hr ⟨fun e => ?_, ?_⟩ (news_ext N x hP' U)
  · obtain ⟨o, _, _, eo, _⟩ := F.ns
    rw [← e, nr] at eo; cases eo
  · cases e : g.get? r with
    | none => rfl
    | some o => rw [F.keep _ _ e] at nr; cases nr
end

section
variable {w : World} {s : Shared} {p : Program} {loose : List Str} {mean : ExcName → Option Value} {mg mb : Str → Option Value} {g h : Heap} {L : Addr} {m : Str → Option Value} {gens : Array GenState} {tk : Nat} {o1 o2 o3 o4 o5 : Obj} {ps : Array Value} {Q : Flow → Shared → Prop}
set_option maxHeartbeats 4000000 in
theorem law_E {t3 u1 : Tok} {O K1 : Array UInt8} {S : Value} {pA : Addr} {its : Array Value} {n : Nat} {P : List (Array UInt8)} (V : LawEnv w p loose mean mg mb g L) (hO : O.size ≤ 24) (hK1 : K1.size = 4) (htr : TriplesOk ps.toList) (hG : AllBare gens)
    (F : Fr g L h m) (hS : m "second" = some S) (hpm : m "parts" = some (.ref pA)) (N : News g L h ((pA, listOf its n) :: cellsN L o1 o2 o3 o4 o5 ps)) (d3 : o3.data = .cell (some (.bytes O t3))) (d4 : o4.data = .cell (some (.bytes K1 u1)))
    (hb : BytesAre its.toList P) (hP : concat P = O) (hPl : P.length ≤ 40) (hpA : @LT.lt Nat _ (L + 1 + 1 + 1 + 1 + 1) pA)
    (next : ∀ h' g' m' tk' tA its' n' ps' ud, Fr g L h' m' → m' "parts" = some (.ref pA) → m' "second" = some S → m' "due" = some (.bytes (maskOf K1 O) ud) → m' "told" = some (.ref tA) → News g L h' ((tA, listOf its' n') :: (pA, listOf its n) :: cellsN L o1 o2 o3 o4 o5 ps') →
      BytesAre its'.toList (maskAll K1 P) → TriplesOk ps'.toList → AllBare g' → (∀ p ∈ (pA, listOf its n) :: cellsN L o1 o2 o3 o4 o5 ps, tA ≠ p.1) →
      wpC (model PySem.Challenge.rw_fb0055_01.row.prog w) (lawA w.params L) (execs ((lawBody w.params).drop 9) (lawEnv w.params L)) Q { s with heap := h', gens := g', toks := tk' }) :
    wpC (model PySem.Challenge.rw_fb0055_01.row.prog w) (lawA w.params L) (execs ((lawBody w.params).drop 7) (lawEnv w.params L)) Q { s with heap := h, gens := gens, toks := tk } := by
  have hh := lawA_h w.params L
  have hroom := lawA_d w.params L
  have L30 := V.L30
  obtain ⟨eb, ee⟩ := law_lit (P := w.params) rfl rfl rfl
  simp only [eb, ee, List.drop_succ_cons, List.drop_zero] at next ⊢
  clear eb ee
  generalize lawA w.params L = A at *
  -- due
  refine execs_any_C (wpAny_Assign_Name ?_ rfl)
  refine callName_W (nameX_B F V.X (topRead_of V.T) (KX.ns_bytes _) (v := .type "bytes") rfl (by decide) ?_)
  refine PyProof.Rows.callWith_type rfl (evalArgs_plain (spliced_cons ?_))
  refine comp_range IntV (fun k => ((O.getD k 0 ^^^ K1.getD (k % 4) 0).toNat : Int)) O.size hh rfl (by decide) rfl (by decide) rfl ?_
  refine callName_W (nameX_B F V.X (topRead_of V.T) (KX.ns_range _) (v := .type "range") rfl (by decide) ?_)
  refine PyProof.Rows.callWith_type rfl (evalArgs_plain (spliced_cons ?_))
  refine callName_W (nameX_B F V.X (topRead_of V.T) (KX.ns_len _) (v := .builtin "len") rfl (by decide) ?_)
  refine callWith_builtin rfl (evalArgs_plain (spliced_cons (nameX_C N rfl (by k_mem) d3 (spliced_nil (len_bytes (by omega) ?_)))))
  refine spliced_nil (call_range_1 ?_)
  have kr : ∀ o b ob, h.get? b = some ob → (h.push o).get? b = some ob := fun o b ob e => Heap.get?_push_of_some _ e
  refine ⟨_, _, _, _, rfl, Heap.get?_push_size _ rfl, by omega, ?_, ?_⟩
  · intro C k v s₃ m₃ E' _ hkm ⟨t, ev⟩ hn hx hk
    subst ev
    have hkO : k < O.size := List.mem_range.mp hkm
    have c3 := hk _ _ (kr _ _ _ (N (L + 1 + 1 + 1, o3) (by k_mem)).1)
    have c4 := hk _ _ (kr _ _ _ (N (L + 1 + 1 + 1 + 1, o4) (by k_mem)).1)
    refine wpAny_BinOp (PyProof.Rows.Subscript_ (wpAny_Name (wpAny_loadName_cell rfl rfl rfl ⟨o3, c3, d3⟩ ?_) (by decide)))
    refine wpAny_Name (wpAny_loadName_local rfl rfl hn hx ?_) (by decide)
    refine item_by (by omega) hkO fun t5 k5 => ?_
    refine PyProof.Rows.Subscript_ (wpAny_Name (wpAny_loadName_cell rfl rfl rfl ⟨o4, c4, d4⟩ ?_) (by decide))
    refine wpAny_BinOp (wpAny_Name (wpAny_loadName_local rfl rfl hn hx ?_) (by decide))
    refine wpAny_Constant_int (PyProof.Rows.mod_int (by decide) ?_)
    have hm : (k : Int).fmod 4 = ((k % 4 : Nat) : Int) := by rw [Int.fmod_eq_emod_of_nonneg _ (by decide)]; omega
    rw [hm]
    refine item_by (by omega) (by rw [hK1]; exact Nat.mod_lt _ (by decide)) fun t6 k6 => ?_
    refine PyProof.Rows.xor_int ?_
    rw [bitXor_u8]
    exact ⟨⟨_, rfl⟩, _, _, rfl, fun _ _ e => e⟩
  intro D2 h2 tk2 ys n2 hD2 el2 hy k2
  replace k2 : ∀ b o, h.get? b = some o → h2.get? b = some o := fun b o e => k2 b o (kr _ _ _ e)
  have F2 := F.keeps k2
  have N2 := N.grown k2
  refine spliced_nil (call_bytes_ints (vs := ys.toList) (isLt el2) (ints_of hy) ?_ ?_ hh fun h3 u3 k3 keep3 => ?_)
  · intro k hk
    obtain ⟨k', _, rfl⟩ := List.mem_map.mp hk
    have := (O.getD k' 0 ^^^ K1.getD (k' % 4) 0).toNat_lt
    omega
  · have := (ints_of hy).length
    rw [this, sizeLine_eq]; simp; omega
  rw [byteArr_first]
  replace keep3 : ∀ b o, h2.get? b = some o → h3.get? b = some o := keep3
  have F3 := F2.keeps keep3
  have N3 := N2.grown keep3
  refine storeX_L F3 N3 fun h4 F4 N4 => ?_
  dsimp only
  -- told
  refine execs_cons_C (assignName_C rfl ?_)
  refine callName_C (nameX_K F4 V.X (topRead_of V.T) (KX.ns_masked _) ?_)
  refine callWith_C rfl (spliced_cons_C (wpC.of (nameX_C N4 rfl (by k_mem) d4 ?_)))
  refine spliced_cons_C (wpC.of (nameX_L F4 (by rw [if_neg (by decide)]; exact hpm) ?_))
  refine spliced_nil_C ⟨keeper_fn (F4.keep _ _ (V.X 49 _ rfl)) rfl, ?_⟩
  have hlen := hb.len
  refine call_masked V F4 N4 (by k_mem) htr hK1 (isLt (N4 _ (.head _)).1) hb (fun q hq => by have := mem_size_concat hq; rw [hP] at this; omega) (by omega) hh hroom hG fun h5 g5 tk5 tA its5 n5 ps5 F5 U5 ne5 htr5 hb5 hG5 _ => ?_
  have N5 := U5 _ (by k_upd)
  refine wpC.of (storeX_L F5 N5 fun h6 F6 N6 => ?_)
  dsimp only
  exact next h6 g5 _ _ tA its5 n5 ps5 u3 F6 (by rw [if_neg (by decide), if_neg (by decide)]; exact hpm) (by rw [if_neg (by decide), if_neg (by decide)]; exact hS) (by rw [if_neg (by decide), if_pos rfl]; rfl) (if_pos rfl) N6 hb5 htr5 hG5 ne5
end
end Mine
end
section
namespace Mine
/-- the law's state behind its ninth statement -/
structure Mid (w : World) (p : Program) (loose : List Str) (mean : ExcName → Option Value) (mg mb : Str → Option Value) (g : Heap) (L : Addr) (o1 o2 o3 o4 o5 : Obj) (O K1 K2 S : Array UInt8) (P : List (Array UInt8)) (pA tA : Addr) (its its' : Array Value) (n n' : Nat)
    (h : Heap) (m : Str → Option Value) (gens : Array GenState) (ps : Array Value) : Prop where
  V : LawEnv w p loose mean mg mb g L
  F : Fr g L h m
  N : News g L h ((tA, listOf its' n') :: (pA, listOf its n) :: cellsN L o1 o2 o3 o4 o5 ps)
  hO : O.size ≤ 24
  hSz : S.size = O.size
  h1 : K1.size = 4
  h2 : K2.size = 4
  hS : ∃ u, m "second" = some (.bytes S u)
  hdue : ∃ u, m "due" = some (.bytes (maskOf K1 O) u)
  hp : m "parts" = some (.ref pA)
  ht : m "told" = some (.ref tA)
  d3 : ∃ t, o3.data = .cell (some (.bytes O t))
  d4 : ∃ t, o4.data = .cell (some (.bytes K1 t))
  d5 : ∃ t, o5.data = .cell (some (.bytes K2 t))
  hb : BytesAre its.toList P
  hb' : BytesAre its'.toList (maskAll K1 P)
  hP : concat P = O
  hl : P.length ≤ 40
  htr : TriplesOk ps.toList
  hG : AllBare gens
  pA5 : @LT.lt Nat _ (L + 1 + 1 + 1 + 1 + 1) pA
  t30 : @Ne Nat tA 30

section
variable {M : Model} {A : Around} {E : Value → Shared → Prop} {s : Shared} {K : Frag} {h₀ : Heap} {mg mb : Str → Option Value} {p : Program} {loose : List Str} {env : Env} {x : Str} {pos : Pos} {v : Value} {Q : Value → Shared → Prop}
theorem nameB_any (k : ∀ b o, h₀.get? b = some o → s.heap.get? b = some o) (X : K.In h₀) (T : TopRead p loose mg mb h₀) (e : nsIn K mainGlobals x = some none) (hv : bootBuiltins x = some v) (hn : x ≠ "__name__") (h : Q v s)
    (hgl : env.globals = mainGlobals := by rfl) (hbl : env.builtins = builtinsNs := by rfl) (hk : env.scope.kind = .function := by rfl) (hx : env.kindOf x = some .globalImplicit := by rfl) (hd : (x == ("__debug__" : Str)) = false := by decide) :
    wpAny M A (eval (.Name x pos) env) Q E s :=
  Name_function_global hk hx (loadGlobal_builtin (env := env) (by rw [hgl]; exact T.g.keeps k) (mg_none_of X T.g e) (by rw [hbl]; exact T.b.keeps k) ((T.builtins x hn).trans hv) h) hd
end

section
variable {w : World} {s : Shared} {p : Program} {loose : List Str} {mean : ExcName → Option Value} {mg mb : Str → Option Value} {g h : Heap} {L : Addr} {m : Str → Option Value} {gens : Array GenState} {tk : Nat} {o1 o2 o3 o4 o5 : Obj} {ps : Array Value} {Q : Flow → Shared → Prop}
  {O K1 K2 S : Array UInt8} {P : List (Array UInt8)} {pA tA : Addr} {its its' : Array Value} {n n' : Nat}
set_option maxHeartbeats 4000000 in
theorem law_10 (M : Mid w p loose mean mg mb g L o1 o2 o3 o4 o5 O K1 K2 S P pA tA its its' n n' h m gens ps)
    (next : ∀ h' g' ps' tk', Mid w p loose mean mg mb g L o1 o2 o3 o4 o5 O K1 K2 S P pA tA its its' n n' h' m g' ps' →
      wpC (model PySem.Challenge.rw_fb0055_01.row.prog w) (lawA w.params L) (execs ((lawBody w.params).drop 10) (lawEnv w.params L)) Q { s with heap := h', gens := g', toks := tk' }) :
    wpC (model PySem.Challenge.rw_fb0055_01.row.prog w) (lawA w.params L) (execs ((lawBody w.params).drop 9) (lawEnv w.params L)) Q { s with heap := h, gens := gens, toks := tk } := by
  obtain ⟨V, F, N, hO, hSz, h1, h2, ⟨uS, hS⟩, ⟨ud, hdue⟩, hp, ht, ⟨t3, d3⟩, ⟨t4, d4⟩, ⟨t5, d5⟩, hb, hb', hP, hl, htr, hG, pA5, t30⟩ := M
  have hh := lawA_h w.params L
  have hroom := lawA_d w.params L
  have hu := lawA_u w.params L
  have L30 := V.L30
  obtain ⟨eb, ee⟩ := law_lit (P := w.params) rfl rfl rfl
  simp only [eb, ee, List.drop_succ_cons, List.drop_zero] at next ⊢
  clear eb ee
  generalize lawA w.params L = A at *
  have hlen := hb.len
  have hcs : concat (maskAll K1 P) = maskOf K1 O := by rw [concat_maskAll P h1, hP]
  refine execs_cons_C (if_C (or_C (or_cons_C (cmp_C ?_))))
  refine methodCall_C (Constant_bytes (x := []) (k := 0) (pos := default) (getMethod_join ?_))
  refine callWith_C rfl (spliced_cons_C (wpC.of (nameX_L F ht ?_)))
  refine spliced_nil_C ⟨keeper_builtin, wpC.of (call_join (isLt (N _ (.head _)).1) hb' (by rw [hcs, maskOf_size, sizeLine_eq]; omega) fun t6 k6 => ?_)⟩
  rw [hcs]
  refine wpC.of (nameX_L F hdue ?_)
  refine ne_bytes (wpAny_truthy_bool ?_)
  rw [show ((maskOf K1 O).toList != (maskOf K1 O).toList) = false by simp, if_neg (by decide)]
  refine or_cons_C (cmp_C ?_)
  refine wpC.of ?_
  refine comp_list BytesV IntV (fun b => (b.size : Int)) (maskAll K1 P) bytesV_fun hh rfl (by decide) rfl (by decide) rfl ?_
  refine nameX_L F ht ⟨tA, its'.toList, rfl, isLt (N _ (.head _)).1, of_bytes hb', by rw [maskAll_length]; omega, ?_, ?_⟩
  · intro C a v s₃ m₃ E' _ ha ⟨t, ev⟩ hn hx hk
    subst ev
    have hsz : a.size ≤ 1000 := by
      have := mem_size_concat ha
      rw [hcs, maskOf_size] at this
      omega
    refine callName_W (nameB_any (fun b o e => hk b o (F.keep b o e)) V.X (topRead_of V.T) (KX.ns_len _) (v := .builtin "len") rfl (by decide) ?_)
    refine callWith_builtin rfl (evalArgs_plain (spliced_cons (wpAny_Name (wpAny_loadName_local rfl rfl hn hx (spliced_nil (len_bytes (by omega) ?_))) (by decide))))
    exact ⟨⟨_, rfl⟩, _, _, rfl, fun _ _ e => e⟩
  intro D2 h2' tk2 ys n2 hD2 el2 hy k2
  replace k2 : ∀ b o, h.get? b = some o → h2'.get? b = some o := k2
  have F2 := F.keeps k2
  have N2 := N.grown k2
  refine wpC.of ?_
  refine comp_list BytesV IntV (fun b => (b.size : Int)) P bytesV_fun hh rfl (by decide) rfl (by decide) rfl ?_
  refine nameX_L F2 hp ⟨pA, its.toList, rfl, isLt (N2 (pA, listOf its n) (by k_mem)).1, of_bytes hb, by omega, ?_, ?_⟩
  · intro C a v s₃ m₃ E' _ ha ⟨t, ev⟩ hn hx hk
    subst ev
    have hsz : a.size ≤ 1000 := by
      have := mem_size_concat ha
      rw [hP] at this
      omega
    refine callName_W (nameB_any (fun b o e => hk b o (F2.keep b o e)) V.X (topRead_of V.T) (KX.ns_len _) (v := .builtin "len") rfl (by decide) ?_)
    refine callWith_builtin rfl (evalArgs_plain (spliced_cons (wpAny_Name (wpAny_loadName_local rfl rfl hn hx (spliced_nil (len_bytes (by omega) ?_))) (by decide))))
    exact ⟨⟨_, rfl⟩, _, _, rfl, fun _ _ e => e⟩
  intro D5 h5 tk5 ys5 n5 hD5 el5 hy5 k5
  replace k5 : ∀ b o, h2'.get? b = some o → h5.get? b = some o := k5
  refine ke_ne_ints (isLt (k5 _ _ el2)) (isLt el5) (ints_of hy) (ints_of hy5) hu (wpAny_truthy_bool ?_)
  have heq : (maskAll K1 P).map (fun b => (b.size : Int)) = P.map (fun b => (b.size : Int)) := by
    have := congrArg (List.map fun k : Nat => (k : Int)) (maskAll_sizes P K1)
    rw [List.map_map, List.map_map] at this
    exact this
  rw [heq, decide_eq_true rfl, Bool.not_true, if_neg (by decide)]
  refine or_nil_C ?_
  rw [if_neg (by decide)]
  refine execs_nil_C ?_
  dsimp only
  exact next h5 gens ps _ ⟨V, F2.keeps k5, N2.grown k5, hO, hSz, h1, h2, ⟨uS, hS⟩, ⟨ud, hdue⟩, hp, ht, ⟨t3, d3⟩, ⟨t4, d4⟩, ⟨t5, d5⟩, hb, hb', hP, hl, htr, hG, pA5, t30⟩
end
end Mine
end
section
namespace Mine
section
variable {w : World} {s : Shared} {p : Program} {loose : List Str} {mean : ExcName → Option Value} {mg mb : Str → Option Value} {g h : Heap} {L : Addr} {m : Str → Option Value} {gens : Array GenState} {tk : Nat} {o1 o2 o3 o4 o5 : Obj} {ps : Array Value} {Q : Flow → Shared → Prop}
  {O K1 K2 S : Array UInt8} {P : List (Array UInt8)} {pA tA : Addr} {its its' : Array Value} {n n' : Nat}
set_option maxHeartbeats 4000000 in
theorem law_11 (M : Mid w p loose mean mg mb g L o1 o2 o3 o4 o5 O K1 K2 S P pA tA its its' n n' h m gens ps)
    (next : ∀ h' g' ps' tk', Mid w p loose mean mg mb g L o1 o2 o3 o4 o5 O K1 K2 S P pA tA its its' n n' h' m g' ps' →
      wpC (model PySem.Challenge.rw_fb0055_01.row.prog w) (lawA w.params L) (execs ((lawBody w.params).drop 11) (lawEnv w.params L)) Q { s with heap := h', gens := g', toks := tk' }) :
    wpC (model PySem.Challenge.rw_fb0055_01.row.prog w) (lawA w.params L) (execs ((lawBody w.params).drop 10) (lawEnv w.params L)) Q { s with heap := h, gens := gens, toks := tk } := by
  obtain ⟨V, F, N, hO, hSz, h1, h2, ⟨uS, hS⟩, ⟨ud, hdue⟩, hp, ht, ⟨t3, d3⟩, ⟨t4, d4⟩, ⟨t5, d5⟩, hb, hb', hP, hl, htr, hG, pA5, t30⟩ := M
  have hh := lawA_h w.params L
  have hroom := lawA_d w.params L
  have hu := lawA_u w.params L
  have L30 := V.L30
  obtain ⟨eb, ee⟩ := law_lit (P := w.params) rfl rfl rfl
  simp only [eb, ee, List.drop_succ_cons, List.drop_zero] at next ⊢
  clear eb ee
  generalize lawA w.params L = A at *
  have hlen := hb.len
  have hlen' := hb'.len
  have hml := maskAll_length P K1
  have hcs : concat (maskAll K1 P) = maskOf K1 O := by rw [concat_maskAll P h1, hP]
  refine execs_cons_C (if_C (or_C (or_cons_C (cmp_C ?_))))
  -- b''.join(_law_masked(one, [due]))
  refine methodCall_C (Constant_bytes (x := []) (k := 0) (pos := default) (getMethod_join ?_))
  refine callWith_C rfl (spliced_cons_C ?_)
  refine callName_C (nameX_K F V.X (topRead_of V.T) (KX.ns_masked _) ?_)
  refine callWith_C rfl (spliced_cons_C (wpC.of (nameX_C N rfl (by k_mem) d4 ?_)))
  refine spliced_cons_C (wpC.of (List_ (spliced_cons (nameX_L F hdue (spliced_nil (newList_K F (N.grown fun _ _ e => e) fun l1 hA FA NA loA => ?_))))))
  have lA : @LT.lt Nat _ 30 l1 := loA (30, tabObj ps) (by k_mem)
  refine spliced_nil_C ⟨keeper_fn (FA.keep _ _ (V.X 49 _ rfl)) rfl, ?_⟩
  refine call_masked V FA NA (by k_mem) htr h1 (isL (NA _ (.head _)).1) (BytesAre.cons (b := maskOf K1 O) .nil) (fun q hq => by rw [List.mem_singleton.mp hq, maskOf_size]; omega) (by simp) hh hroom hG fun hB gB tkB r1 itsB nB psB FB UB neB htrB hbB hGB _ => ?_
  have NB := UB _ (by k_upd)
  have cB : concat (maskAll K1 [maskOf K1 O]) = O := by rw [concat_maskAll _ h1, concat_one, maskOf_twice]
  refine spliced_nil_C ⟨keeper_builtin, wpC.of (call_join (isLt (NB _ (.head _)).1) hbB (by rw [cB, sizeLine_eq]; omega) fun tB kB => ?_)⟩
  rw [cB]
  refine wpC.of (nameX_C NB rfl (by k_mem) d3 ?_)
  refine ne_bytes (wpAny_truthy_bool ?_)
  rw [show (O.toList != O.toList) = false by simp, if_neg (by decide)]
  have NB : News g L hB ((tA, listOf its' n') :: (pA, listOf its n) :: cellsN L o1 o2 o3 o4 o5 psB) := fun p hp => NB p (.tail _ (.tail _ hp))
  -- b''.join(_law_masked(other, told))
  refine or_cons_C (cmp_C ?_)
  refine methodCall_C (Constant_bytes (x := []) (k := 0) (pos := default) (getMethod_join ?_))
  refine callWith_C rfl (spliced_cons_C ?_)
  refine callName_C (nameX_K FB V.X (topRead_of V.T) (KX.ns_masked _) ?_)
  refine callWith_C rfl (spliced_cons_C (wpC.of (nameX_C NB rfl (by k_mem) d5 ?_)))
  refine spliced_cons_C (wpC.of (nameX_L FB ht ?_))
  refine spliced_nil_C ⟨keeper_fn (FB.keep _ _ (V.X 49 _ rfl)) rfl, ?_⟩
  refine call_masked V FB NB (by k_mem) htrB h2 (isLt (NB _ (.head _)).1) hb' (fun q hq => by have := mem_size_concat hq; rw [hcs, maskOf_size] at this; omega) (by omega) hh hroom hGB fun hC gC tkC r2 itsC nC psC FC UC neC htrC hbC hGC _ => ?_
  have NC := UC _ (by k_upd)
  have cC : concat (maskAll K2 (maskAll K1 P)) = maskOf K2 (maskOf K1 O) := by rw [concat_maskAll _ h2, hcs]
  refine spliced_nil_C ⟨keeper_builtin, wpC.of (call_join (isLt (NC _ (.head _)).1) hbC (by rw [cC, maskOf_size, maskOf_size, sizeLine_eq]; omega) fun tC kC => ?_)⟩
  rw [cC]
  have NC : News g L hC ((tA, listOf its' n') :: (pA, listOf its n) :: cellsN L o1 o2 o3 o4 o5 psC) := fun p hp => NC p (.tail _ hp)
  -- b''.join(_law_masked(one, _law_masked(other, [octets])))
  refine methodCall_C (Constant_bytes (x := []) (k := 0) (pos := default) (getMethod_join ?_))
  refine callWith_C rfl (spliced_cons_C ?_)
  refine callName_C (nameX_K FC V.X (topRead_of V.T) (KX.ns_masked _) ?_)
  refine callWith_C rfl (spliced_cons_C (wpC.of (nameX_C NC rfl (by k_mem) d4 ?_)))
  refine spliced_cons_C ?_
  refine callName_C (nameX_K FC V.X (topRead_of V.T) (KX.ns_masked _) ?_)
  refine callWith_C rfl (spliced_cons_C (wpC.of (nameX_C NC rfl (by k_mem) d5 ?_)))
  refine spliced_cons_C (wpC.of (List_ (spliced_cons (nameX_C NC rfl (by k_mem) d3 (spliced_nil (newList_K FC (NC.grown fun _ _ e => e) fun l2 hD FD ND loD => ?_))))))
  have lD : @LT.lt Nat _ 30 l2 := loD (30, tabObj psC) (by k_mem)
  refine spliced_nil_C ⟨keeper_fn (FD.keep _ _ (V.X 49 _ rfl)) rfl, ?_⟩
  refine call_masked V FD ND (by k_mem) htrC h2 (isL (ND _ (.head _)).1) (BytesAre.cons (b := O) .nil) (fun q hq => by rw [List.mem_singleton.mp hq]; omega) (by simp) hh hroom hGC fun hE gE tkE r3 itsE nE psE FE UE neE htrE hbE hGE _ => ?_
  have NE := UE _ (by k_upd)
  have nE30 : @Ne Nat r3 30 := neE (30, tabObj psC) (by k_mem)
  refine spliced_nil_C ⟨keeper_fn (FE.keep _ _ (V.X 49 _ rfl)) rfl, ?_⟩
  refine call_masked V FE NE (by k_mem) htrE h1 (isLt (NE _ (.head _)).1) hbE (fun q hq => by have := mem_size_concat hq; rw [concat_maskAll _ h2, concat_one, maskOf_size] at this; omega) (by rw [maskAll_length]; simp) hh hroom hGE fun hF gF tkF r4 itsF nF psF FF UF neF htrF hbF hGF _ => ?_
  have NF := UF _ (by k_upd)
  have cF : concat (maskAll K1 (maskAll K2 [O])) = maskOf K2 (maskOf K1 O) := by rw [concat_maskAll _ h1, concat_maskAll _ h2, concat_one, maskOf_comm]
  refine spliced_nil_C ⟨keeper_builtin, wpC.of (call_join (isLt (NF _ (.head _)).1) hbF (by rw [cF, maskOf_size, maskOf_size, sizeLine_eq]; omega) fun tF kF => ?_)⟩
  rw [cF]
  have NF : News g L hF ((tA, listOf its' n') :: (pA, listOf its n) :: cellsN L o1 o2 o3 o4 o5 psF) := fun p hp => NF p (.tail _ (.tail _ (.tail _ hp)))
  refine ne_bytes (wpAny_truthy_bool ?_)
  rw [show ((maskOf K2 (maskOf K1 O)).toList != (maskOf K2 (maskOf K1 O)).toList) = false by simp, if_neg (by decide)]
  refine or_nil_C ?_
  rw [if_neg (by decide)]
  refine execs_nil_C ?_
  dsimp only
  exact next hF gF psF _ ⟨V, FF, NF, hO, hSz, h1, h2, ⟨uS, hS⟩, ⟨ud, hdue⟩, hp, ht, ⟨t3, d3⟩, ⟨t4, d4⟩, ⟨t5, d5⟩, hb, hb', hP, hl, htrF, hGF, pA5, t30⟩
end
end Mine
end
section
namespace Mine
section
variable {w : World} {s : Shared} {p : Program} {loose : List Str} {mean : ExcName → Option Value} {mg mb : Str → Option Value} {g h : Heap} {L : Addr} {m : Str → Option Value} {gens : Array GenState} {tk : Nat} {o1 o2 o3 o4 o5 : Obj} {ps : Array Value} {Q : Flow → Shared → Prop}
  {O K1 K2 S : Array UInt8} {P : List (Array UInt8)} {pA tA : Addr} {its its' : Array Value} {n n' : Nat}
set_option maxHeartbeats 4000000 in
theorem law_12 (M : Mid w p loose mean mg mb g L o1 o2 o3 o4 o5 O K1 K2 S P pA tA its its' n n' h m gens ps)
    (next : ∀ h' g' ps' tk', Mid w p loose mean mg mb g L o1 o2 o3 o4 o5 O K1 K2 S P pA tA its its' n n' h' m g' ps' →
      wpC (model PySem.Challenge.rw_fb0055_01.row.prog w) (lawA w.params L) (execs ((lawBody w.params).drop 12) (lawEnv w.params L)) Q { s with heap := h', gens := g', toks := tk' }) :
    wpC (model PySem.Challenge.rw_fb0055_01.row.prog w) (lawA w.params L) (execs ((lawBody w.params).drop 11) (lawEnv w.params L)) Q { s with heap := h, gens := gens, toks := tk } := by
  obtain ⟨V, F, N, hO, hSz, h1, h2, ⟨uS, hS⟩, ⟨ud, hdue⟩, hp, ht, ⟨t3, d3⟩, ⟨t4, d4⟩, ⟨t5, d5⟩, hb, hb', hP, hl, htr, hG, pA5, t30⟩ := M
  have hh := lawA_h w.params L
  have hroom := lawA_d w.params L
  have hu := lawA_u w.params L
  have L30 := V.L30
  obtain ⟨eb, ee⟩ := law_lit (P := w.params) rfl rfl rfl
  simp only [eb, ee, List.drop_succ_cons, List.drop_zero] at next ⊢
  clear eb ee
  generalize lawA w.params L = A at *
  have hlen := hb.len
  have hlen' := hb'.len
  have hml := maskAll_length P K1
  have hcs : concat (maskAll K1 P) = maskOf K1 O := by rw [concat_maskAll P h1, hP]
  refine execs_cons_C (if_C (cmp_C ?_))
  -- b''.join(_law_masked(bytes([one[k] ^ other[k] for k in range(4)]), [octets]))
  refine methodCall_C (Constant_bytes (x := []) (k := 0) (pos := default) (getMethod_join ?_))
  refine callWith_C rfl (spliced_cons_C ?_)
  refine callName_C (nameX_K F V.X (topRead_of V.T) (KX.ns_masked _) ?_)
  refine callWith_C rfl (spliced_cons_C (wpC.of ?_))
  refine callName_W (nameX_B F V.X (topRead_of V.T) (KX.ns_bytes _) (v := .type "bytes") rfl (by decide) ?_)
  refine PyProof.Rows.callWith_type rfl (evalArgs_plain (spliced_cons ?_))
  refine comp_range IntV (fun k => ((K1.getD k 0 ^^^ K2.getD k 0).toNat : Int)) 4 hh rfl (by decide) rfl (by decide) rfl ?_
  refine callName_W (nameX_B F V.X (topRead_of V.T) (KX.ns_range _) (v := .type "range") rfl (by decide) ?_)
  refine PyProof.Rows.callWith_type rfl (evalArgs_plain (spliced_cons ?_))
  refine wpAny_Constant_int (i := 4) (k := 0) (pos := default) ?_
  refine spliced_nil (call_range_1 ?_)
  have kr : ∀ o b ob, h.get? b = some ob → (h.push o).get? b = some ob := fun o b ob e => Heap.get?_push_of_some _ e
  refine ⟨_, _, _, _, rfl, Heap.get?_push_size _ rfl, by decide, ?_, ?_⟩
  · intro C k v s₃ m₃ E' _ hkm ⟨t, ev⟩ hn hx hk
    subst ev
    have hk4 : k < 4 := List.mem_range.mp hkm
    have c4 := hk _ _ (kr _ _ _ (N (L + 1 + 1 + 1 + 1, o4) (by k_mem)).1)
    have c5 := hk _ _ (kr _ _ _ (N (L + 1 + 1 + 1 + 1 + 1, o5) (by k_mem)).1)
    refine wpAny_BinOp (PyProof.Rows.Subscript_ (wpAny_Name (wpAny_loadName_cell rfl rfl rfl ⟨o4, c4, d4⟩ ?_) (by decide)))
    refine wpAny_Name (wpAny_loadName_local rfl rfl hn hx ?_) (by decide)
    refine item_by (by omega) (by omega) fun t5 k5 => ?_
    refine PyProof.Rows.Subscript_ (wpAny_Name (wpAny_loadName_cell rfl rfl rfl ⟨o5, c5, d5⟩ ?_) (by decide))
    refine wpAny_Name (wpAny_loadName_local rfl rfl hn hx ?_) (by decide)
    refine item_by (by omega) (by omega) fun t6 k6 => ?_
    refine PyProof.Rows.xor_int ?_
    rw [bitXor_u8]
    exact ⟨⟨_, rfl⟩, _, _, rfl, fun _ _ e => e⟩
  intro D2 h2' tk2 ys n2 hD2 el2 hy k2
  replace k2 : ∀ b o, h.get? b = some o → h2'.get? b = some o := fun b o e => k2 b o (kr _ _ _ e)
  have F2 := F.keeps k2
  have N2 := N.grown k2
  refine spliced_nil (call_bytes_ints (vs := ys.toList) (isLt el2) (ints_of hy) ?_ ?_ hh fun h3 u3 k3 keep3 => ?_)
  · intro k hk
    obtain ⟨k', _, rfl⟩ := List.mem_map.mp hk
    have := (K1.getD k' 0 ^^^ K2.getD k' 0).toNat_lt
    omega
  · have := (ints_of hy).length
    rw [this, sizeLine_eq]; simp
  rw [byteArr_first]
  replace keep3 : ∀ b o, h2'.get? b = some o → h3.get? b = some o := keep3
  have F3 := F2.keeps keep3
  have N3 := N2.grown keep3
  have hK3 : (firstOf (fun k => K1.getD k 0 ^^^ K2.getD k 0) 4).size = 4 := firstOf_size _ _
  have hK3' : ∀ i, i < 4 → (firstOf (fun k => K1.getD k 0 ^^^ K2.getD k 0) 4).getD i 0 = K1.getD i 0 ^^^ K2.getD i 0 := fun i hi => firstOf_getD _ _ _ hi
  generalize firstOf (fun k => K1.getD k 0 ^^^ K2.getD k 0) 4 = K3 at *
  refine spliced_cons_C (wpC.of (List_ (spliced_cons (nameX_C N3 rfl (by k_mem) d3 (spliced_nil (newList_K F3 (N3.grown fun _ _ e => e) fun l1 hA FA NA loA => ?_))))))
  have lA : @LT.lt Nat _ 30 l1 := loA (30, tabObj ps) (by k_mem)
  refine spliced_nil_C ⟨keeper_fn (FA.keep _ _ (V.X 49 _ rfl)) rfl, ?_⟩
  refine call_masked V FA NA (by k_mem) htr hK3 (isL (NA _ (.head _)).1) (BytesAre.cons (b := O) .nil) (fun q hq => by rw [List.mem_singleton.mp hq]; omega) (by simp) hh hroom hG fun hB gB tkB r1 itsB nB psB FB UB neB htrB hbB hGB _ => ?_
  have NB := UB _ (by k_upd)
  have cB : concat (maskAll K3 [O]) = maskOf K2 (maskOf K1 O) := by rw [concat_maskAll _ hK3, concat_one, maskOf_both K1 K2 K3 O hK3']
  refine spliced_nil_C ⟨keeper_builtin, wpC.of (call_join (isLt (NB _ (.head _)).1) hbB (by rw [cB, maskOf_size, maskOf_size, sizeLine_eq]; omega) fun tB kB => ?_)⟩
  rw [cB]
  have NB : News g L hB ((tA, listOf its' n') :: (pA, listOf its n) :: cellsN L o1 o2 o3 o4 o5 psB) := fun p hp => NB p (.tail _ (.tail _ hp))
  -- b''.join(_law_masked(other, told))
  refine methodCall_C (Constant_bytes (x := []) (k := 0) (pos := default) (getMethod_join ?_))
  refine callWith_C rfl (spliced_cons_C ?_)
  refine callName_C (nameX_K FB V.X (topRead_of V.T) (KX.ns_masked _) ?_)
  refine callWith_C rfl (spliced_cons_C (wpC.of (nameX_C NB rfl (by k_mem) d5 ?_)))
  refine spliced_cons_C (wpC.of (nameX_L FB ht ?_))
  refine spliced_nil_C ⟨keeper_fn (FB.keep _ _ (V.X 49 _ rfl)) rfl, ?_⟩
  refine call_masked V FB NB (by k_mem) htrB h2 (isLt (NB _ (.head _)).1) hb' (fun q hq => by have := mem_size_concat hq; rw [hcs, maskOf_size] at this; omega) (by omega) hh hroom hGB fun hC gC tkC r2 itsC nC psC FC UC neC htrC hbC hGC _ => ?_
  have NC := UC _ (by k_upd)
  have cC : concat (maskAll K2 (maskAll K1 P)) = maskOf K2 (maskOf K1 O) := by rw [concat_maskAll _ h2, hcs]
  refine spliced_nil_C ⟨keeper_builtin, wpC.of (call_join (isLt (NC _ (.head _)).1) hbC (by rw [cC, maskOf_size, maskOf_size, sizeLine_eq]; omega) fun tC kC => ?_)⟩
  rw [cC]
  have NC : News g L hC ((tA, listOf its' n') :: (pA, listOf its n) :: cellsN L o1 o2 o3 o4 o5 psC) := fun p hp => NC p (.tail _ hp)
  refine ne_bytes (wpAny_truthy_bool ?_)
  rw [show ((maskOf K2 (maskOf K1 O)).toList != (maskOf K2 (maskOf K1 O)).toList) = false by simp, if_neg (by decide)]
  refine execs_nil_C ?_
  dsimp only
  exact next hC gC psC _ ⟨V, FC, NC, hO, hSz, h1, h2, ⟨uS, hS⟩, ⟨ud, hdue⟩, hp, ht, ⟨t3, d3⟩, ⟨t4, d4⟩, ⟨t5, d5⟩, hb, hb', hP, hl, htrC, hGC, pA5, t30⟩
end
end Mine
end
section
namespace Mine
theorem KX.ns_zip (P : Params) : nsIn (Kf P) mainGlobals "zip" = some none := by kernel_rfl
theorem walksU_weaken {prog : Program} {w : World} {A : Around} {I : Addr} {fp wr : List Addr} {n : Nat} {Pt Pt' : Nat → Array Value → Prop} {St : Nat → Heap → Prop} {Mid : Nat → Addr → Heap → Prop} (W : WalksU prog w A I fp wr n Pt St Mid) (h : ∀ i v, i < n → Pt i v → Pt' i v) : WalksU prog w A I fp wr n Pt' St Mid where
  sub := W.sub
  frame := W.frame
  item := fun i s Q E hi st hQ => W.item i s Q E hi st fun T vals h' tk hP => hQ T vals h' tk (h i vals hi hP)
  go := W.go
  apart := W.apart
  done := W.done
  self := W.self
def xorL (b1 b2 : Array UInt8) : List Int := (List.range b1.size).map fun i => ((b1.getD i 0 ^^^ b2.getD i 0).toNat : Int)
section
variable {prog : Program} {w : World} {A : Around} {E : Value → Shared → Prop} {s : Shared} {env : Env} {elt iter : Expr} {x y : Str} {px py tp : Pos} {kt : Nat} {scope : Scope} {cl : List (Str × Addr)} {pos cpos : Pos} {Q : Value → Shared → Prop}
theorem comp_zip {z TI TO i1 i2 : Addr} {b1 b2 : Array UInt8} {t1 t2 : Tok} (hh : A.handled = none)
    (hclos : closureFor scope env = pure cl) (hcell : ∀ y ∈ scope.names, y.2 ≠ .cell) (hkind : scope.kind = .function)
    (hnames : ∀ y ∈ scope.names, y.2 = .local → scope.names.lookup y.1 = some .local) (hx : scope.names.lookup x = some .local) (hy : scope.names.lookup y = some .local) (hxy : x ≠ y)
    (D : ZApart z TI TO i1 i2) (S : ZSt s.heap z TI TO i1 i2 .none b1 b2 t1 t2 0) (hsz : b1.size = b2.size) (hz : b1.size ≤ 1000) (hlt : ∀ a ∈ [z, TI, TO, i1, i2], a < s.heap.objs.size)
    (helt : ∀ C (c1 c2 : UInt8) u1 u2 (s₃ : Shared) m₃ E', s₃.heap.Ns C m₃ → m₃ x = some (.int (c1.toNat : Int) u1) → m₃ y = some (.int (c2.toNat : Int) u2) →
      wpAny (model prog w) A (eval elt (compEnvC scope cl C env)) (fun v s₄ => IntV ((c1 ^^^ c2).toNat : Int) v ∧ Keeps s₃ s₄) E' s₃)
    (hQ : ∀ D h' tk ys n, s.heap.get? D = none → h'.get? D = some (listOf ys n) → Paired IntV (xorL b1 b2) ys.toList → (∀ b o, b ∉ [z, TO, i1, i2] → s.heap.get? b = some o → h'.get? b = some o) → Q (.ref D) { s with heap := h', toks := tk })
    (hs : ∀ x, foldedSetIterable iter env x = pure x := by intro _; rfl) :
    wpAny (model prog w) A (comprehension (.ListComp elt [⟨.Tuple [.Name x px, .Name y py] kt tp, iter, [], 0⟩] scope pos) scope env cpos (newList []) false (pure (.ref z)) none) Q E s := by
  refine comp_pairF (fun (i : Nat) va vb => ∃ u1 u2, va = .int ((b1.getD i 0).toNat : Int) u1 ∧ vb = .int ((b2.getD i 0).toNat : Int) u2) IntV (fun i => ((b1.getD i 0 ^^^ b2.getD i 0).toNat : Int)) (List.range b1.size) hh hclos hcell hkind hnames hx hy hxy (wpAny_pure (wpAny_pyIter_zip S.hz ?_)) hs
  refine ⟨z, [z, TI, TO, i1, i2], [z, TO, i1, i2], fun i h => ZSt h z TI TO i1 i2 .none b1 b2 t1 t2 i, fun i T h => ZSt h z TI TO i1 i2 (rawInt T) b1 b2 t1 t2 (i + 1) ∧ T ∉ [z, TO, i1, i2], rfl, ?_, by simpa using hz, S, hlt, ?_, ?_⟩
  · rw [List.length_range]
    refine walksU_weaken (walks_zip (t1 := t1) (t2 := t2) hh D hsz) fun i v hi hP => ?_
    obtain ⟨c1, c2, u1, u2, e1, e2, rfl⟩ := hP
    refine ⟨i, _, _, by simp [hi], rfl, u1, u2, ?_, ?_⟩
    · rw [show b1.getD i 0 = c1 by simp [Array.getD_eq_getD_getElem?, e1]]
    · rw [show b2.getD i 0 = c2 by simp [Array.getD_eq_getD_getElem?, e2]]
  · rintro C i va vb s₃ m₃ E' _ _ ⟨u1, u2, rfl, rfl⟩ hn h1 h2
    exact helt C _ _ u1 u2 s₃ m₃ E' hn h1 h2
  · exact fun D h' tk ys n hD hl hp hk => hQ D h' tk ys n hD hl hp hk
theorem zip_apart (n : Nat) : ZApart (n + 4) (n + 2) (n + 3) n (n + 1) := by
  constructor <;> (show ¬ (@Eq Nat _ _); omega)
end
theorem xorL_laid (K O S : Array UInt8) (h : O.size = S.size) : xorL (maskOf K O) (maskOf K S) = xorL O S := by
  unfold xorL
  rw [maskOf_size]
  refine List.map_congr_left fun i hi => ?_
  rw [maskOf_laid K O S h i (List.mem_range.mp hi)]
section
variable {w : World} {s : Shared} {p : Program} {loose : List Str} {mean : ExcName → Option Value} {mg mb : Str → Option Value} {g h : Heap} {L : Addr} {m : Str → Option Value} {gens : Array GenState} {tk : Nat} {o1 o2 o3 o4 o5 : Obj} {ps : Array Value} {Q : Flow → Shared → Prop}
  {O K1 K2 S : Array UInt8} {P : List (Array UInt8)} {pA tA : Addr} {its its' : Array Value} {n n' : Nat}
set_option maxHeartbeats 4000000 in
theorem law_13 (M : Mid w p loose mean mg mb g L o1 o2 o3 o4 o5 O K1 K2 S P pA tA its its' n n' h m gens ps)
    (next : ∀ h' g' ps' tk', Mid w p loose mean mg mb g L o1 o2 o3 o4 o5 O K1 K2 S P pA tA its its' n n' h' m g' ps' →
      wpC (model PySem.Challenge.rw_fb0055_01.row.prog w) (lawA w.params L) (execs ((lawBody w.params).drop 13) (lawEnv w.params L)) Q { s with heap := h', gens := g', toks := tk' }) :
    wpC (model PySem.Challenge.rw_fb0055_01.row.prog w) (lawA w.params L) (execs ((lawBody w.params).drop 12) (lawEnv w.params L)) Q { s with heap := h, gens := gens, toks := tk } := by
  obtain ⟨V, F, N, hO, hSz, h1, h2, ⟨uS, hS⟩, ⟨ud, hdue⟩, hp, ht, ⟨t3, d3⟩, ⟨t4, d4⟩, ⟨t5, d5⟩, hb, hb', hP, hl, htr, hG, pA5, t30⟩ := M
  have hh := lawA_h w.params L
  have hroom := lawA_d w.params L
  have hu := lawA_u w.params L
  have L30 := V.L30
  obtain ⟨eb, ee⟩ := law_lit (P := w.params) rfl rfl rfl
  simp only [eb, ee, List.drop_succ_cons, List.drop_zero] at next ⊢
  clear eb ee
  generalize lawA w.params L = A at *
  have hlen := hb.len
  have hlen' := hb'.len
  have hml := maskAll_length P K1
  have hcs : concat (maskAll K1 P) = maskOf K1 O := by rw [concat_maskAll P h1, hP]
  refine execs_cons_C (if_C (cmp_C ?_))
  -- [x ^ y for x, y in zip(due, ..)]
  refine wpC.eq (eval_ListComp _ _ _ _) ?_
  refine compr_first rfl rfl ?_
  refine callName_C (nameX_B F V.X (topRead_of V.T) (KX.ns_zip _) (v := .type "zip") rfl (by decide) ?_)
  refine callWith_C rfl (spliced_cons_C (wpC.of (nameX_L F hdue ?_)))
  refine spliced_cons_C ?_
  refine methodCall_C (Constant_bytes (x := []) (k := 0) (pos := default) (getMethod_join ?_))
  refine callWith_C rfl (spliced_cons_C ?_)
  refine callName_C (nameX_K F V.X (topRead_of V.T) (KX.ns_masked _) ?_)
  refine callWith_C rfl (spliced_cons_C (wpC.of (nameX_C N rfl (by k_mem) d4 ?_)))
  refine spliced_cons_C (wpC.of (List_ (spliced_cons (nameX_L F hS (spliced_nil (newList_K F (N.grown fun _ _ e => e) fun l1 hA FA NA loA => ?_))))))
  have lA : @LT.lt Nat _ 30 l1 := loA (30, tabObj ps) (by k_mem)
  refine spliced_nil_C ⟨keeper_fn (FA.keep _ _ (V.X 49 _ rfl)) rfl, ?_⟩
  refine call_masked V FA NA (by k_mem) htr h1 (isL (NA _ (.head _)).1) (BytesAre.cons (b := S) .nil) (fun q hq => by rw [List.mem_singleton.mp hq]; omega) (by simp) hh hroom hG fun hB gB tkB r1 itsB nB psB FB UB neB htrB hbB hGB _ => ?_
  have NB := UB _ (by k_upd)
  have cB : concat (maskAll K1 [S]) = maskOf K1 S := by rw [concat_maskAll _ h1, concat_one]
  refine spliced_nil_C ⟨keeper_builtin, wpC.of (call_join (isLt (NB _ (.head _)).1) hbB (by rw [cB, maskOf_size, sizeLine_eq]; omega) fun tB kB => ?_)⟩
  rw [cB]
  have NB : News g L hB ((tA, listOf its' n') :: (pA, listOf its n) :: cellsN L o1 o2 o3 o4 o5 psB) := fun p hp => NB p (.tail _ (.tail _ hp))
  refine spliced_nil_C ⟨keeper_type, wpC.of (call_zipBy fun hZ SZ zZ kZ => ?_)⟩
  replace kZ : ∀ b o, hB.get? b = some o → hZ.get? b = some o := kZ
  refine wpC.of (comp_zip hh rfl (by decide) rfl (by decide) rfl rfl (by decide) (zip_apart _) SZ (by rw [maskOf_size, maskOf_size, hSz]) (by rw [maskOf_size]; omega) ?_ ?_ ?_)
  · intro a ha
    have hb2 : ∀ a ∈ ([hB.objs.size + 4, hB.objs.size + 2, hB.objs.size + 3, hB.objs.size, hB.objs.size + 1] : List Nat), a < hB.objs.size + 5 := by
      intro a ha
      simp only [List.mem_cons, List.not_mem_nil, or_false] at ha
      omega
    have := hb2 a ha
    rw [show (hB.objs.size + 5 : Nat) = hZ.objs.size from zZ.symm] at this
    exact this
  · intro C c1 c2 u1 u2 s₃ m₃ E' hn hx hy
    refine wpAny_BinOp (wpAny_Name (wpAny_loadName_local rfl rfl hn hx ?_) (by decide))
    refine wpAny_Name (wpAny_loadName_local rfl rfl hn hy (PyProof.Rows.xor_int ?_)) (by decide)
    rw [bitXor_u8]
    exact ⟨⟨_, rfl⟩, _, _, rfl, fun _ _ e => e⟩
  intro D2 hD tkD ys n2 hD2 el2 hy2 kD
  have kD : ∀ b o, hB.get? b = some o → hD.get? b = some o := fun b o e => kD b o (fun q => by
    have hlt : @LT.lt Nat _ b hB.objs.size := Heap.lt_size e
    have : ∀ a ∈ ([hB.objs.size + 4, hB.objs.size + 3, hB.objs.size, hB.objs.size + 1] : List Nat), hB.objs.size ≤ a := by
      intro a ha
      simp only [List.mem_cons, List.not_mem_nil, or_false] at ha
      omega
    have := this b q
    omega) (kZ b o e)
  have FD := FB.keeps kD
  have ND := NB.grown kD
  rw [xorL_laid K1 O S hSz.symm] at hy2
  -- [x ^ y for x, y in zip(octets, second)]
  refine wpC.eq (eval_ListComp _ _ _ _) ?_
  refine compr_first rfl rfl ?_
  refine callName_C (nameX_B FD V.X (topRead_of V.T) (KX.ns_zip _) (v := .type "zip") rfl (by decide) ?_)
  refine callWith_C rfl (spliced_cons_C (wpC.of (nameX_C ND rfl (by k_mem) d3 ?_)))
  refine spliced_cons_C (wpC.of (nameX_L FD hS ?_))
  refine spliced_nil_C ⟨keeper_type, wpC.of (call_zipBy fun hY SY zY kY => ?_)⟩
  replace kY : ∀ b o, hD.get? b = some o → hY.get? b = some o := kY
  refine wpC.of (comp_zip hh rfl (by decide) rfl (by decide) rfl rfl (by decide) (zip_apart _) SY (by rw [hSz]) (by omega) ?_ ?_ ?_)
  · intro a ha
    have hb2 : ∀ a ∈ ([hD.objs.size + 4, hD.objs.size + 2, hD.objs.size + 3, hD.objs.size, hD.objs.size + 1] : List Nat), a < hD.objs.size + 5 := by
      intro a ha
      simp only [List.mem_cons, List.not_mem_nil, or_false] at ha
      omega
    have := hb2 a ha
    rw [show (hD.objs.size + 5 : Nat) = hY.objs.size from zY.symm] at this
    exact this
  · intro C c1 c2 u1 u2 s₃ m₃ E' hn hx hy
    refine wpAny_BinOp (wpAny_Name (wpAny_loadName_local rfl rfl hn hx ?_) (by decide))
    refine wpAny_Name (wpAny_loadName_local rfl rfl hn hy (PyProof.Rows.xor_int ?_)) (by decide)
    rw [bitXor_u8]
    exact ⟨⟨_, rfl⟩, _, _, rfl, fun _ _ e => e⟩
  intro D5 h5 tk5 ys5 n5 hD5 el5 hy5 k5
  have k5 : ∀ b o, hD.get? b = some o → h5.get? b = some o := fun b o e => k5 b o (fun q => by
    have hlt : @LT.lt Nat _ b hD.objs.size := Heap.lt_size e
    have : ∀ a ∈ ([hD.objs.size + 4, hD.objs.size + 3, hD.objs.size, hD.objs.size + 1] : List Nat), hD.objs.size ≤ a := by
      intro a ha
      simp only [List.mem_cons, List.not_mem_nil, or_false] at ha
      omega
    have := this b q
    omega) (kY b o e)
  have F5 := FD.keeps k5
  have N5 := ND.grown k5
  refine ke_ne_ints (isLt (k5 _ _ el2)) (isLt el5) (ints_of hy2) (ints_of hy5) hu (wpAny_truthy_bool ?_)
  rw [decide_eq_true rfl, Bool.not_true, if_neg (by decide)]
  refine execs_nil_C ?_
  dsimp only
  exact next h5 gB psB _ ⟨V, F5, N5, hO, hSz, h1, h2, ⟨uS, hS⟩, ⟨ud, hdue⟩, hp, ht, ⟨t3, d3⟩, ⟨t4, d4⟩, ⟨t5, d5⟩, hb, hb', hP, hl, htrB, hGB, pA5, t30⟩
end
end Mine
end
section
namespace Mine
abbrev tupObj (its : Array Value) : Obj := { cls := .type "tuple", data := .seq its }
def Row (h : Heap) (T : Addr) (l r : Array UInt8) : Prop := ∃ a b, h.get? T = some (tupObj #[.ref a, .ref b]) ∧ h.get? a = some (baObj l) ∧ h.get? b = some (baObj r)
def RowV (h : Heap) (x : Addr × Array UInt8 × Array UInt8) (v : Value) : Prop := v = .ref x.1 ∧ Row h x.1 x.2.1 x.2.2
theorem baObj_inj {a b : Array UInt8} (h : baObj a = baObj b) : a = b := by
  injection h with _ _ h _
  injection h
theorem rowV_fun {h : Heap} (x x' : Addr × Array UInt8 × Array UInt8) (v : Value) (a : RowV h x v) (b : RowV h x' v) : x = x' := by
  obtain ⟨T, l, r⟩ := x
  obtain ⟨T', l', r'⟩ := x'
  obtain ⟨rfl, a1, b1, e1, e2, e3⟩ := a
  obtain ⟨hv, a2, b2, f1, f2, f3⟩ := b
  injection hv with hT
  subst hT
  rw [e1] at f1
  injection f1 with f1
  injection f1 with _ _ f1 _
  injection f1 with f1 _
  have h1 : Value.ref a1 = Value.ref a2 := by have := congrArg (fun z : Array Value => z[0]?) f1; simpa using this
  have h2 : Value.ref b1 = Value.ref b2 := by have := congrArg (fun z : Array Value => z[1]?) f1; simpa using this
  injection h1 with h1
  injection h2 with h2
  subst h1 h2
  rw [e2] at f2
  rw [e3] at f3
  injection f2 with f2
  injection f3 with f3
  dsimp only at f2 f3
  rw [baObj_inj f2, baObj_inj f3]
/-- the law's state behind its loop over the parts -/
structure Late (w : World) (p : Program) (loose : List Str) (mean : ExcName → Option Value) (mg mb : Str → Option Value) (g : Heap) (L : Addr) (o3 o4 o5 : Obj) (O K1 K2 : Array UInt8) (P : List (Array UInt8)) (tA kT kb1 kb2 mx : Addr) (its' rows : Array Value) (n' nr : Nat) (rs : List (Addr × Array UInt8 × Array UInt8))
    (h : Heap) (m : Str → Option Value) (gens : Array GenState) : Prop where
  V : LawEnv w p loose mean mg mb g L
  F : Fr g L h m
  hO : O.size ≤ 24
  h1 : K1.size = 4
  h2 : K2.size = 4
  ht : m "told" = some (.ref tA)
  hk : m "keys" = some (.ref kT)
  hm : m "mixed" = some (.ref mx)
  c3 : h.get? (L + 1 + 1 + 1) = some o3
  c4 : h.get? (L + 1 + 1 + 1 + 1) = some o4
  c5 : h.get? (L + 1 + 1 + 1 + 1 + 1) = some o5
  d3 : ∃ t, o3.data = .cell (some (.bytes O t))
  d4 : ∃ t, o4.data = .cell (some (.bytes K1 t))
  d5 : ∃ t, o5.data = .cell (some (.bytes K2 t))
  et : h.get? tA = some (listOf its' n')
  ek : h.get? kT = some (tupObj #[.ref kb1, .ref kb2])
  e1 : h.get? kb1 = some (baObj K1)
  e2 : h.get? kb2 = some (baObj K2)
  em : h.get? mx = some (listOf rows nr)
  hr : Paired (RowV h) rs rows.toList
  hl : rs.map (·.2.1) = maskAll K1 P
  hrr : rs.map (·.2.2) = maskAll K2 P
  hb' : BytesAre its'.toList (maskAll K1 P)
  hP : concat P = O
  hPl : P.length ≤ 40
  hT : TabSt h
  hG : AllBare gens

section
variable {prog : Program} {w : World} {A : Around} {E : Value → Shared → Prop} {s : Shared}
theorem item_tup2 {value slice : Expr} {T : Addr} {x y : Value} {u : Tok} {Q : Value → Shared → Prop} {i : Nat} (hT : s.heap.get? T = some (tupObj #[x, y])) (hi : i < 2) (h : Q ((#[x, y] : Array Value).getD i .none) s) :
    wpAny (model prog w) A (subscriptTail value slice (.ref T) (.int (i : Int) u)) Q E s := by
  have eT : IsTup s.heap T #[x, y] := ⟨_, hT, rfl, _, rfl⟩
  have : i = 0 ∨ i = 1 := by omega
  rcases this with rfl | rfl
  · exact sub_tail (T := "tuple") ⟨_, hT, rfl⟩ slot_tuple_getitem.lookup (getItem_tuple eT (by decide) (by decide) (j := 0) rfl rfl h)
  · exact sub_tail (T := "tuple") ⟨_, hT, rfl⟩ slot_tuple_getitem.lookup (getItem_tuple eT (by decide) (by decide) (j := 1) rfl rfl h)
theorem eq_pairs {a b : Addr} {x y : Array UInt8} {t1 t2 t3 t4 : Tok} {Q : Value → Shared → Prop} (ha : s.heap.get? a = some (tupObj #[.bytes x t1, .bytes y t2])) (hb : s.heap.get? b = some (tupObj #[.bytes x t3, .bytes y t4])) (hu : A.units < cLine) (h : Q (.bool true) s) :
    wpAny (model prog w) A (compareOp .Eq (.ref a) (.ref b)) Q E s := by
  refine PySem.SeqAt.eq_tupleAt (items := #[.bytes x t1, .bytes y t2]) (items2 := #[.bytes x t3, .bytes y t4]) (e := fun _ => true) ⟨_, ha, rfl, _, rfl⟩ ⟨_, hb, rfl, _, rfl⟩ hu (fun j h1 h2 => ?_) h
  have : j = 0 ∨ j = 1 := by simp at h1; omega
  rcases this with rfl | rfl
  · exact fun prog w E Q hq => eqBool_bytes (by simpa using hq)
  · exact fun prog w E Q hq => eqBool_bytes (by simpa using hq)
end
end Mine
end
section
namespace Mine
theorem TabSt.keeps {h h' : Heap} (x : TabSt h) (k : ∀ b o, h.get? b = some o → h'.get? b = some o) : TabSt h' := let ⟨ps, e, t⟩ := x; ⟨ps, k _ _ e, t⟩
theorem Row.keeps {h h' : Heap} {T : Addr} {l r : Array UInt8} (x : Row h T l r) (k : ∀ b o, h.get? b = some o → h'.get? b = some o) : Row h' T l r := let ⟨a, b, e1, e2, e3⟩ := x; ⟨a, b, k _ _ e1, k _ _ e2, k _ _ e3⟩
section
variable {w : World} {s : Shared} {p : Program} {loose : List Str} {mean : ExcName → Option Value} {mg mb : Str → Option Value} {g h : Heap} {L : Addr} {m : Str → Option Value} {gens : Array GenState} {tk : Nat} {o3 o4 o5 : Obj} {Q : Flow → Shared → Prop}
  {O K1 K2 : Array UInt8} {P : List (Array UInt8)} {tA kT kb1 kb2 mx : Addr} {its' rows : Array Value} {n' nr : Nat} {rs : List (Addr × Array UInt8 × Array UInt8)}
set_option maxHeartbeats 4000000 in
theorem law_17 (M : Late w p loose mean mg mb g L o3 o4 o5 O K1 K2 P tA kT kb1 kb2 mx its' rows n' nr rs h m gens) (next : Done g s Q) :
    wpC (model PySem.Challenge.rw_fb0055_01.row.prog w) (lawA w.params L) (execs ((lawBody w.params).drop 16) (lawEnv w.params L)) Q { s with heap := h, gens := gens, toks := tk } := by
  obtain ⟨V, F, hO, h1, h2, ht, hk, hm, c3, c4, c5, ⟨t3, d3⟩, ⟨t4, d4⟩, ⟨t5, d5⟩, et, ek, e1, e2, em, hr, hl, hrr, hb', hP, hPl, hT, hG⟩ := M
  have hh := lawA_h w.params L
  have hu := lawA_u w.params L
  obtain ⟨eb, ee⟩ := law_lit (P := w.params) rfl rfl rfl
  simp only [eb, ee, List.drop_succ_cons, List.drop_zero]
  clear eb ee
  generalize lawA w.params L = A at *
  have hcs : concat (maskAll K1 P) = maskOf K1 O := by rw [concat_maskAll P h1, hP]
  have hcs2 : concat (maskAll K2 P) = maskOf K2 O := by rw [concat_maskAll P h2, hP]
  have hlen1 : rs.length = P.length := by
    have := congrArg List.length hl
    rw [List.length_map, maskAll_length] at this
    exact this
  have hszl : ∀ x ∈ rs, x.2.1.size ≤ 1000 := fun x hx => by
    have := mem_size_concat (ps := maskAll K1 P) (q := x.2.1) (by rw [← hl]; exact List.mem_map_of_mem hx)
    rw [hcs, maskOf_size] at this; omega
  have hszr : ∀ x ∈ rs, x.2.2.size ≤ 1000 := fun x hx => by
    have := mem_size_concat (ps := maskAll K2 P) (q := x.2.2) (by rw [← hrr]; exact List.mem_map_of_mem hx)
    rw [hcs2, maskOf_size] at this; omega
  refine execs_cons_C (if_C (or_C (or_cons_C (cmp_C (wpC.of ?_)))))
  -- [bytes(row[0]) for row in mixed]
  refine comp_list (RowV h) BytesV (fun x => x.2.1) rs rowV_fun hh rfl (by decide) rfl (by decide) rfl ?_
  refine nameX_L F hm ⟨mx, rows.toList, rfl, isLt em, hr, by omega, ?_, ?_⟩
  · rintro C x v s₃ m₃ E' _ hx ⟨rfl, a1, b1, r1, r2, r3⟩ hn hx' hk'
    refine callName_W (nameB_any (fun b o e => hk' b o (F.keep b o e)) V.X (topRead_of V.T) (KX.ns_bytes _) (v := .type "bytes") rfl (by decide) ?_)
    refine PyProof.Rows.callWith_type rfl (evalArgs_plain (spliced_cons ?_))
    refine PyProof.Rows.Subscript_ (wpAny_Name (wpAny_loadName_local rfl rfl hn hx' ?_) (by decide))
    refine wpAny_Constant_int (item_tup2 (i := 0) (hk' _ _ r1) (by decide) (spliced_nil ?_))
    exact bytes_of_ba (hk' _ _ r2) (by rw [sizeLine_eq]; have := hszl x hx; omega) ⟨⟨_, rfl⟩, _, _, rfl, fun _ _ e => e⟩
  intro D2 h2' tk2 ys n2 hD2 el2 hy k2
  replace k2 : ∀ b o, h.get? b = some o → h2'.get? b = some o := k2
  have F2 := F.keeps k2
  rw [hl] at hy
  refine wpC.of (nameX_L F2 ht ?_)
  refine ne_bytes_lists (isLt el2) (isLt (k2 _ _ et)) (bytes_ofP hy) hb' (by omega) (wpAny_truthy_bool ?_)
  rw [if_neg (by decide)]
  refine or_cons_C (cmp_C ?_)
  -- b''.join([bytes(row[1]) for row in mixed])
  refine methodCall_C (Constant_bytes (x := []) (k := 0) (pos := default) (getMethod_join ?_))
  refine callWith_C rfl (spliced_cons_C (wpC.of ?_))
  refine comp_list (RowV h) BytesV (fun x => x.2.2) rs rowV_fun hh rfl (by decide) rfl (by decide) rfl ?_
  refine nameX_L F2 hm ⟨mx, rows.toList, rfl, isLt (k2 _ _ em), hr, by omega, ?_, ?_⟩
  · rintro C x v s₃ m₃ E' _ hx ⟨rfl, a1, b1, r1, r2, r3⟩ hn hx' hk'
    replace hk' : ∀ b o, h2'.get? b = some o → s₃.heap.get? b = some o := hk'
    refine callName_W (nameB_any (fun b o e => hk' b o (F2.keep b o e)) V.X (topRead_of V.T) (KX.ns_bytes _) (v := .type "bytes") rfl (by decide) ?_)
    refine PyProof.Rows.callWith_type rfl (evalArgs_plain (spliced_cons ?_))
    refine PyProof.Rows.Subscript_ (wpAny_Name (wpAny_loadName_local rfl rfl hn hx' ?_) (by decide))
    refine wpAny_Constant_int (item_tup2 (i := 1) (hk' _ _ (k2 _ _ r1)) (by decide) (spliced_nil ?_))
    exact bytes_of_ba (hk' _ _ (k2 _ _ r3)) (by rw [sizeLine_eq]; have := hszr x hx; omega) ⟨⟨_, rfl⟩, _, _, rfl, fun _ _ e => e⟩
  intro D5 h5 tk5 ys5 n5 hD5 el5 hy5 k5
  replace k5 : ∀ b o, h2'.get? b = some o → h5.get? b = some o := k5
  have F5 := F2.keeps k5
  rw [hrr] at hy5
  refine spliced_nil_C ⟨keeper_builtin, wpC.of (call_join (isLt el5) (bytes_ofP hy5) (by rw [hcs2, maskOf_size, sizeLine_eq]; omega) fun t6 k6 => ?_)⟩
  rw [hcs2]
  -- bytes([octets[k] ^ other[k % 4] for k in range(len(octets))])
  refine wpC.of ?_
  refine callName_W (nameX_B F5 V.X (topRead_of V.T) (KX.ns_bytes _) (v := .type "bytes") rfl (by decide) ?_)
  refine PyProof.Rows.callWith_type rfl (evalArgs_plain (spliced_cons ?_))
  refine comp_range IntV (fun k => ((O.getD k 0 ^^^ K2.getD (k % 4) 0).toNat : Int)) O.size hh rfl (by decide) rfl (by decide) rfl ?_
  refine callName_W (nameX_B F5 V.X (topRead_of V.T) (KX.ns_range _) (v := .type "range") rfl (by decide) ?_)
  refine PyProof.Rows.callWith_type rfl (evalArgs_plain (spliced_cons ?_))
  refine callName_W (nameX_B F5 V.X (topRead_of V.T) (KX.ns_len _) (v := .builtin "len") rfl (by decide) ?_)
  refine callWith_builtin rfl (evalArgs_plain (spliced_cons (wpAny_Name (wpAny_loadName_cell rfl rfl rfl ⟨o3, k5 _ _ (k2 _ _ c3), d3⟩ (spliced_nil (len_bytes (by omega) ?_))) (by decide))))
  refine spliced_nil (call_range_1 ?_)
  have kr : ∀ o b ob, h5.get? b = some ob → (h5.push o).get? b = some ob := fun o b ob e => Heap.get?_push_of_some _ e
  refine ⟨_, _, _, _, rfl, Heap.get?_push_size _ rfl, by omega, ?_, ?_⟩
  · intro C k v s₃ m₃ E' _ hkm ⟨t, ev⟩ hn hx hk
    subst ev
    have hkO : k < O.size := List.mem_range.mp hkm
    have c3' := hk _ _ (kr _ _ _ (k5 _ _ (k2 _ _ c3)))
    have c5' := hk _ _ (kr _ _ _ (k5 _ _ (k2 _ _ c5)))
    refine wpAny_BinOp (PyProof.Rows.Subscript_ (wpAny_Name (wpAny_loadName_cell rfl rfl rfl ⟨o3, c3', d3⟩ ?_) (by decide)))
    refine wpAny_Name (wpAny_loadName_local rfl rfl hn hx ?_) (by decide)
    refine item_by (by omega) hkO fun t5 k5 => ?_
    refine PyProof.Rows.Subscript_ (wpAny_Name (wpAny_loadName_cell rfl rfl rfl ⟨o5, c5', d5⟩ ?_) (by decide))
    refine wpAny_BinOp (wpAny_Name (wpAny_loadName_local rfl rfl hn hx ?_) (by decide))
    refine wpAny_Constant_int (PyProof.Rows.mod_int (by decide) ?_)
    have hm : (k : Int).fmod 4 = ((k % 4 : Nat) : Int) := by rw [Int.fmod_eq_emod_of_nonneg _ (by decide)]; omega
    rw [hm]
    refine item_by (by omega) (by rw [h2]; exact Nat.mod_lt _ (by decide)) fun t6 k6 => ?_
    refine PyProof.Rows.xor_int ?_
    rw [bitXor_u8]
    exact ⟨⟨_, rfl⟩, _, _, rfl, fun _ _ e => e⟩
  intro D8 h8 tk8 ys8 n8 hD8 el8 hy8 k8
  replace k8 : ∀ b o, h5.get? b = some o → h8.get? b = some o := fun b o e => k8 b o (kr _ _ _ e)
  refine spliced_nil (call_bytes_ints (vs := ys8.toList) (isLt el8) (ints_of hy8) ?_ ?_ hh fun h9 u9 k9 keep9 => ?_)
  · intro k hk
    obtain ⟨k', _, rfl⟩ := List.mem_map.mp hk
    have := (O.getD k' 0 ^^^ K2.getD (k' % 4) 0).toNat_lt
    omega
  · have := (ints_of hy8).length
    rw [this, sizeLine_eq]; simp; omega
  rw [byteArr_first]
  replace keep9 : ∀ b o, h8.get? b = some o → h9.get? b = some o := keep9
  have k9' : ∀ b o, h.get? b = some o → h9.get? b = some o := fun b o e => keep9 b o (k8 b o (k5 b o (k2 b o e)))
  have F9 := F.keeps k9'
  refine ne_bytes (wpAny_truthy_bool ?_)
  rw [show ((maskOf K2 O).toList != (firstOf (fun k => O.getD k 0 ^^^ K2.getD (k % 4) 0) O.size).toList) = false by simp [maskOf], if_neg (by decide)]
  refine or_nil_C ?_
  rw [if_neg (by decide)]
  refine execs_nil_C ?_
  dsimp only
  -- return (bytes(keys[0]), bytes(keys[1])) == (one, other)
  refine execs_any_C (wpAny_Return_some (wpAny_Compare1 (Tuple_ (spliced_cons ?_))))
  refine callName_W (nameX_B F9 V.X (topRead_of V.T) (KX.ns_bytes _) (v := .type "bytes") rfl (by decide) ?_)
  refine PyProof.Rows.callWith_type rfl (evalArgs_plain (spliced_cons ?_))
  refine PyProof.Rows.Subscript_ (nameX_L F9 hk ?_)
  refine wpAny_Constant_int (item_tup2 (i := 0) (k9' _ _ ek) (by decide) (spliced_nil ?_))
  refine bytes_of_ba (k9' _ _ e1) (by rw [h1, sizeLine_eq]; decide) ?_
  refine spliced_cons ?_
  refine callName_W (nameX_B F9 V.X (topRead_of V.T) (KX.ns_bytes _) (v := .type "bytes") rfl (by decide) ?_)
  refine PyProof.Rows.callWith_type rfl (evalArgs_plain (spliced_cons ?_))
  refine PyProof.Rows.Subscript_ (nameX_L F9 hk ?_)
  refine wpAny_Constant_int (item_tup2 (i := 1) (k9' _ _ ek) (by decide) (spliced_nil ?_))
  refine bytes_of_ba (k9' _ _ e2) (by rw [h2, sizeLine_eq]; decide) ?_
  refine spliced_nil (wpAny_newTuple ?_)
  have kp : ∀ o b ob, h9.get? b = some ob → (h9.push o).get? b = some ob := fun o b ob e => Heap.get?_push_of_some _ e
  refine Tuple_ (spliced_cons (wpAny_Name (wpAny_loadName_cell rfl rfl rfl ⟨o4, kp _ _ _ (k9' _ _ c4), d4⟩ ?_) (by decide)))
  refine spliced_cons (wpAny_Name (wpAny_loadName_cell rfl rfl rfl ⟨o5, kp _ _ _ (k9' _ _ c5), d5⟩ ?_) (by decide))
  refine spliced_nil (wpAny_newTuple ?_)
  refine eq_pairs (Heap.get?_push_of_some _ (Heap.get?_push_size _ rfl)) (Heap.get?_push_size _ rfl) (by omega) ?_
  exact next _ _ _ (fun b o e => Heap.get?_push_of_some _ (Heap.get?_push_of_some _ (F9.keep b o e))) ((hT.keeps k9').keeps fun b o e => Heap.get?_push_of_some _ (Heap.get?_push_of_some _ e)) hG
end
end Mine
end
section
namespace Mine
theorem tuple_C {M : Model} {A : Around} {s : Shared} {env : Env} {elts : List Expr} {k : Nat} {pos : Pos} {Q : Value → Shared → Prop} (h : wpC M A (spliced (backTo pos (starEach elts env))) (fun vs s₁ => wpAny M A (newTuple vs) Q (fun _ _ => False) s₁) s) :
    wpC M A (eval (.Tuple elts k pos) env) Q s := by
  show wpC M A (do standAt pos; newTuple (← spliced (backTo pos (starEach elts env)))) Q s
  exact wpC.step (wpAny_standAt (wpC.bind (wpC.mono h fun vs s₁ h₁ => wpC.of h₁)))

/-- the law's state ahead of its loop over the parts -/
structure Pre (w : World) (p : Program) (loose : List Str) (mean : ExcName → Option Value) (mg mb : Str → Option Value) (g : Heap) (L : Addr) (o3 o4 o5 : Obj) (O K1 K2 : Array UInt8) (P : List (Array UInt8)) (pA tA kT kb1 kb2 xl dl xr dr mx : Addr) (its its' : Array Value) (n n' : Nat) (ktl ktr : Tok)
    (h : Heap) (m : Str → Option Value) (gens : Array GenState) : Prop where
  V : LawEnv w p loose mean mg mb g L
  F : Fr g L h m
  hO : O.size ≤ 24
  h1 : K1.size = 4
  h2 : K2.size = 4
  hp : m "parts" = some (.ref pA)
  ht : m "told" = some (.ref tA)
  hk : m "keys" = some (.ref kT)
  hxl : m "left" = some (.ref xl)
  hxr : m "right" = some (.ref xr)
  hm : m "mixed" = some (.ref mx)
  c3 : h.get? (L + 1 + 1 + 1) = some o3
  c4 : h.get? (L + 1 + 1 + 1 + 1) = some o4
  c5 : h.get? (L + 1 + 1 + 1 + 1 + 1) = some o5
  d3 : ∃ t, o3.data = .cell (some (.bytes O t))
  d4 : ∃ t, o4.data = .cell (some (.bytes K1 t))
  d5 : ∃ t, o5.data = .cell (some (.bytes K2 t))
  ep : h.get? pA = some (listOf its n)
  et : h.get? tA = some (listOf its' n')
  ek : h.get? kT = some (tupObj #[.ref kb1, .ref kb2])
  e1 : h.get? kb1 = some (baObj K1)
  e2 : h.get? kb2 = some (baObj K2)
  exl : h.get? xl = some (instObj 38 dl)
  exr : h.get? xr = some (instObj 38 dr)
  edl : h.get? dl = some (dictOf [mkEntry w.params ktl (.ref kb1)] 1)
  edr : h.get? dr = some (dictOf [mkEntry w.params ktr (.ref kb2)] 1)
  em : h.get? mx = some (listOf #[] 0)
  gdl : g.get? dl = none
  gdr : g.get? dr = none
  gmx : g.get? mx = none
  hb : BytesAre its.toList P
  hb' : BytesAre its'.toList (maskAll K1 P)
  hP : concat P = O
  hPl : P.length ≤ 40
  hT : TabSt h
  hG : AllBare gens
  a1 : @LT.lt Nat _ (L + 1 + 1 + 1 + 1 + 1) pA
  a2 : @LT.lt Nat _ pA kb1
  a3 : @LT.lt Nat _ tA kb1
  a4 : @Ne Nat tA L
  a5 : @Ne Nat tA 30
  a6 : @LT.lt Nat _ kb1 kb2
  a7 : @LT.lt Nat _ kb2 kT
  a8 : @LT.lt Nat _ kT dl
  a9 : @LT.lt Nat _ dl xl
  b1 : @LT.lt Nat _ xl dr
  b2 : @LT.lt Nat _ dr xr
  b3 : @LT.lt Nat _ xr mx

section
variable {w : World} {s : Shared} {p : Program} {loose : List Str} {mean : ExcName → Option Value} {mg mb : Str → Option Value} {g h : Heap} {L : Addr} {m : Str → Option Value} {gens : Array GenState} {tk : Nat} {o1 o2 o3 o4 o5 : Obj} {ps : Array Value} {Q : Flow → Shared → Prop}
  {O K1 K2 S : Array UInt8} {P : List (Array UInt8)} {pA tA : Addr} {its its' : Array Value} {n n' : Nat}
set_option maxHeartbeats 4000000 in
theorem law_14 (M : Mid w p loose mean mg mb g L o1 o2 o3 o4 o5 O K1 K2 S P pA tA its its' n n' h m gens ps)
    (next : ∀ h' m' tk' kT kb1 kb2 xl dl xr dr mx ktl ktr, Pre w p loose mean mg mb g L o3 o4 o5 O K1 K2 P pA tA kT kb1 kb2 xl dl xr dr mx its its' n n' ktl ktr h' m' gens →
      wpC (model PySem.Challenge.rw_fb0055_01.row.prog w) (lawA w.params L) (execs ((lawBody w.params).drop 15) (lawEnv w.params L)) Q { s with heap := h', gens := gens, toks := tk' }) :
    wpC (model PySem.Challenge.rw_fb0055_01.row.prog w) (lawA w.params L) (execs ((lawBody w.params).drop 13) (lawEnv w.params L)) Q { s with heap := h, gens := gens, toks := tk } := by
  obtain ⟨V, F, N, hO, hSz, h1, h2, ⟨uS, hS⟩, ⟨ud, hdue⟩, hp, ht, ⟨t3, d3⟩, ⟨t4, d4⟩, ⟨t5, d5⟩, hb, hb', hP, hl, htr, hG, pA5, t30⟩ := M
  have hh := lawA_h w.params L
  have hroom := lawA_d w.params L
  have L30 := V.L30
  obtain ⟨eb, ee⟩ := law_lit (P := w.params) rfl rfl rfl
  simp only [eb, ee, List.drop_succ_cons, List.drop_zero] at next ⊢
  clear eb ee
  generalize lawA w.params L = A at *
  have tL : @Ne Nat tA L := (N _ (.head _)).2.1
  -- keys = (bytearray(one), bytearray(other))
  refine execs_cons_C (assignName_C rfl (tuple_C (spliced_cons_C ?_)))
  refine callName_C (nameX_B F V.X (topRead_of V.T) (KX.ns_bytearray _) (v := .type "bytearray") rfl (by decide) ?_)
  refine callWith_C rfl (spliced_cons_C (wpC.of (nameX_C N rfl (by k_mem) d4 ?_)))
  refine spliced_nil_C ⟨keeper_type, ?_⟩
  refine call_ba_src (Source.bytes (b := K1) (t := t4)) (by rw [h1, sizeLine_eq]; decide) fun hA eA kA zA => ?_
  replace eA : hA.get? h.objs.size = some (baObj K1) := eA
  replace kA : ∀ c o, h.get? c = some o → hA.get? c = some o := kA
  have FA := F.keeps kA
  have a2 : @LT.lt Nat _ pA h.objs.size := Heap.lt_size (N (pA, listOf its n) (by k_mem)).1
  have a3 : @LT.lt Nat _ tA h.objs.size := Heap.lt_size (N _ (.head _)).1
  have NA := news_cons FA (N.grown kA) eA (fr_lt F)
  have zA' : @LT.lt Nat _ h.objs.size hA.objs.size := Heap.lt_size eA
  show wpC _ _ (spliced _) _ { heap := hA, gens := gens, drawn := s.drawn, toks := _, os := s.os }
  generalize h.objs.size = kb1 at *
  refine spliced_cons_C ?_
  refine callName_C (nameX_B FA V.X (topRead_of V.T) (KX.ns_bytearray _) (v := .type "bytearray") rfl (by decide) ?_)
  refine callWith_C rfl (spliced_cons_C (wpC.of (nameX_C NA rfl (by k_mem) d5 ?_)))
  refine spliced_nil_C ⟨keeper_type, ?_⟩
  refine call_ba_src (Source.bytes (b := K2) (t := t5)) (by rw [h2, sizeLine_eq]; decide) fun hB eB kB zB => ?_
  replace eB : hB.get? hA.objs.size = some (baObj K2) := eB
  replace kB : ∀ c o, hA.get? c = some o → hB.get? c = some o := kB
  have FB := FA.keeps kB
  have NB := news_cons FB (NA.grown kB) eB (fr_lt FA)
  have zB' : @LT.lt Nat _ hA.objs.size hB.objs.size := Heap.lt_size eB
  show wpC _ _ (spliced _) _ { heap := hB, gens := gens, drawn := s.drawn, toks := _, os := s.os }
  generalize hA.objs.size = kb2 at *
  refine spliced_nil_C (wpAny_newTuple ?_)
  have kC : ∀ b o, hB.get? b = some o → (hB.push (tupObj #[.ref kb1, .ref kb2])).get? b = some o := fun b o e => Heap.get?_push_of_some _ e
  have FC := FB.keeps kC
  have NC := news_cons FC (NB.grown kC) (Heap.get?_push_size hB (o := tupObj #[.ref kb1, .ref kb2]) rfl) (fr_lt FB)
  show wpC _ _ (storeName _ _ (.ref hB.objs.size)) _ { heap := hB.push (tupObj #[.ref kb1, .ref kb2]), gens := gens, drawn := s.drawn, toks := _, os := s.os }
  generalize hB.push (tupObj #[.ref kb1, .ref kb2]) = hC at *
  generalize hB.objs.size = kT at *
  refine wpC.of (storeX_L FC NC fun hD FD ND => ?_)
  dsimp only
  clear FA NA FB NB FC NC
  -- left, right, mixed = (XorMaskerSimple(keys[0]), XorMaskerSimple(keys[1]), [])
  refine execs_any_C (Assign_Tuple_swapped ?_ rfl rfl)
  refine Tuple_ (spliced_cons (callName_W (nameX_K FD V.X (topRead_of V.T) (KX.ns_class _) ?_)))
  refine callWith_K V.X (KX.keep_class _) (spliced_cons ?_)
  refine PyProof.Rows.Subscript_ (nameX_L FD rfl ?_)
  refine wpAny_Constant_int (item_tup2 (i := 0) (ND _ (.head _)).1 (by decide) (spliced_nil ⟨V.X.keeps FD.keep, ?_⟩))
  refine make_C FD V.X V.T ND (by omega) fun xl dl hE tkE ktl FE NE loE lxE => ?_
  have a8 : @LT.lt Nat _ kT dl := loE _ (.head _)
  have a9 : @LT.lt Nat _ dl xl := lxE
  refine spliced_cons (callName_W (nameX_K FE V.X (topRead_of V.T) (KX.ns_class _) ?_))
  refine callWith_K V.X (KX.keep_class _) (spliced_cons ?_)
  refine PyProof.Rows.Subscript_ (nameX_L FE rfl ?_)
  refine wpAny_Constant_int (item_tup2 (i := 1) (NE (kT, tupObj #[.ref kb1, .ref kb2]) (by k_mem)).1 (by decide) (spliced_nil ⟨V.X.keeps FE.keep, ?_⟩))
  refine make_C FE V.X V.T NE (by omega) fun xr dr hF tkF ktr FF NF loF lxF => ?_
  have b1 : @LT.lt Nat _ xl dr := loF _ (.head _)
  have b2 : @LT.lt Nat _ dr xr := lxF
  refine spliced_cons (List_ (spliced_nil (newList_K FF NF fun mx hG' FG NG loG => ?_)))
  have b3 : @LT.lt Nat _ xr mx := loG _ (.head _)
  refine spliced_nil (wpAny_newTuple ?_)
  refine wpAny_unpackItems_tuple hh (items := #[.ref xl, .ref xr, .ref mx]) ⟨_, Heap.get?_push_size _ rfl, rfl, _, rfl⟩ fun hH xH => ?_
  have kH : ∀ b o, hG'.get? b = some o → hH.get? b = some o := fun b o e => xH b o (Nat.ne_of_lt (Heap.lt_size (Heap.get?_push_of_some _ e))) (Heap.get?_push_of_some _ e)
  have FH := FG.keeps kH
  have NH := NG.grown kH
  refine wpAny_assignInOrder_more (wpAny_bindName (storeX_L FH NH fun hI FI NI => ?_))
  refine wpAny_assignInOrder_more (wpAny_bindName (storeX_L FI NI fun hJ FJ NJ => ?_))
  refine wpAny_assignInOrder_more (wpAny_bindName (storeX_L FJ NJ fun hK FK NK => ?_))
  refine wpAny_assignInOrder_none ?_
  dsimp only
  refine next hK _ _ kT kb1 kb2 xl dl xr dr mx ktl ktr ⟨V, FK, hO, h1, h2, ?_, ?_, ?_, ?_, ?_, ?_, ?_, ?_, ?_, ⟨t3, d3⟩, ⟨t4, d4⟩, ⟨t5, d5⟩, ?_, ?_, ?_, ?_, ?_, ?_, ?_, ?_, ?_, ?_, ?_, ?_, ?_, hb, hb', hP, hl, ⟨ps, ?_, htr⟩, hG, pA5, a2, a3, tL, t30, zA', zB', a8, a9, b1, b2, b3⟩
  · rw [if_neg (by decide), if_neg (by decide), if_neg (by decide), if_neg (by decide)]; exact hp
  · rw [if_neg (by decide), if_neg (by decide), if_neg (by decide), if_neg (by decide)]; exact ht
  · rw [if_neg (by decide), if_neg (by decide), if_neg (by decide), if_pos rfl]
  · rfl
  · rfl
  · rfl
  · exact (NK (L + 1 + 1 + 1, o3) (by k_mem)).1
  · exact (NK (L + 1 + 1 + 1 + 1, o4) (by k_mem)).1
  · exact (NK (L + 1 + 1 + 1 + 1 + 1, o5) (by k_mem)).1
  · exact (NK (pA, listOf its n) (by k_mem)).1
  · exact (NK (tA, listOf its' n') (by k_mem)).1
  · exact (NK (kT, tupObj #[.ref kb1, .ref kb2]) (by k_mem)).1
  · exact (NK (kb1, baObj K1) (by k_mem)).1
  · exact (NK (kb2, baObj K2) (by k_mem)).1
  · exact (NK (xl, instObj 38 dl) (by k_mem)).1
  · exact (NK (xr, instObj 38 dr) (by k_mem)).1
  · exact (NK (dl, dictOf [mkEntry w.params ktl (.ref kb1)] 1) (by k_mem)).1
  · exact (NK (dr, dictOf [mkEntry w.params ktr (.ref kb2)] 1) (by k_mem)).1
  · exact (NK (mx, listOf #[] 0) (by k_mem)).1
  · exact (NK (dl, dictOf [mkEntry w.params ktl (.ref kb1)] 1) (by k_mem)).2.2
  · exact (NK (dr, dictOf [mkEntry w.params ktr (.ref kb2)] 1) (by k_mem)).2.2
  · exact (NK (mx, listOf #[] 0) (by k_mem)).2.2
  · exact (NK (30, tabObj ps) (by k_mem)).1
end
end Mine
end
section
namespace Mine
theorem KX.ns_isinstance (P : Params) : nsIn (Kf P) mainGlobals "isinstance" = some none := by kernel_rfl
def Kp (muts : List Addr) (h h' : Heap) : Prop := ∀ b o, b ∉ muts → h.get? b = some o → h'.get? b = some o
theorem Kp.trans {muts : List Addr} {h h' h'' : Heap} (a : Kp muts h h') (b : Kp muts h' h'') : Kp muts h h'' := fun c o hc e => b c o hc (a c o hc e)
theorem Kp.of {muts : List Addr} {h h' : Heap} (a : ∀ b o, h.get? b = some o → h'.get? b = some o) : Kp muts h h' := fun c o _ e => a c o e
theorem Kp.same {muts : List Addr} {h h' : Heap} {d : Addr} (a : Heap.SameBut d h h') (hd : d ∈ muts) : Kp muts h h' := fun c o hc e => a.extBut c o (fun q => hc (q ▸ hd)) e
theorem RowV.kp {muts : List Addr} {h h' : Heap} {x : Addr × Array UInt8 × Array UInt8} {v : Value} (k : Kp muts h h') (off : ∀ b o, h.get? b = some o → (o.cls = .type "bytearray" ∨ (o.cls = .type "tuple")) → (∀ es n, o.data ≠ .dict es n) → b ∉ muts) (a : RowV h x v) : RowV h' x v := by
  obtain ⟨e, a1, b1, e1, e2, e3⟩ := a
  exact ⟨e, a1, b1, k _ _ (off _ _ e1 (.inr rfl) fun _ _ => nofun) e1, k _ _ (off _ _ e2 (.inl rfl) fun _ _ => nofun) e2, k _ _ (off _ _ e3 (.inl rfl) fun _ _ => nofun) e3⟩
theorem paired_mono {α β : Type} {F G : α → β → Prop} (h : ∀ a b, F a b → G a b) : ∀ {as : List α} {bs : List β}, Paired F as bs → Paired G as bs
  | _, _, .nil => .nil
  | _, _, .cons x r => .cons (h _ _ x) (paired_mono h r)
section
variable {M : Model} {A : Around} {E : Value → Shared → Prop} {s : Shared} {h₀ : Heap} {L a : Addr} {m : Str → Option Value} {cn : Str} {cs : Scope} {ccd : Value} {cl : List (Str × Addr)} {x : Str} {v : Value} {Q : Unit → Shared → Prop}
theorem storeX_S (F : Fr h₀ L s.heap m) (h : ∀ h', Fr h₀ L h' (fun y => if y = x then some v else m y) → Heap.SameBut L s.heap h' → Q () { s with heap := h', toks := s.toks + 1 })
    (hk : cs.kind = .function := by rfl) (hx : (envX cn cs L a ccd cl).kindOf x = some .local := by rfl) : wpAny M A (storeName (envX cn cs L a ccd cl) x v) Q E s :=
  wpAny_storeName_local hx F.ns (fun h' hn hs => h h' (F.set hn hs) hs) (by show (cs.kind == .class || (cs.kind == .module && L != mainGlobals)) = false; rw [hk]; rfl)
end
theorem dictL {h g : Heap} {L : Addr} {m : Str → Option Value} (F : Fr g L h m) {b : Addr} {o : Obj} (e : h.get? b = some o) (hd : ∀ es n, o.data ≠ .dict es n) : b ≠ L := fun q => by
  obtain ⟨ol, es, n, el, dl, _⟩ := F.ns
  subst q
  rw [e] at el
  injection el with el
  subst el
  exact hd _ _ dl

section
variable {w : World} {s : Shared} {p : Program} {loose : List Str} {mean : ExcName → Option Value} {mg mb : Str → Option Value} {g h : Heap} {L : Addr} {m : Str → Option Value} {gens : Array GenState} {tk : Nat} {o3 o4 o5 : Obj} {Q : Flow → Shared → Prop}
  {O K1 K2 : Array UInt8} {P : List (Array UInt8)} {pA tA kT kb1 kb2 xl dl xr dr mx : Addr} {its its' : Array Value} {n n' : Nat} {ktl ktr : Tok}
set_option maxHeartbeats 8000000 in
theorem law_16 (M : Pre w p loose mean mg mb g L o3 o4 o5 O K1 K2 P pA tA kT kb1 kb2 xl dl xr dr mx its its' n n' ktl ktr h m gens)
    (next : ∀ h' m' g' tk' rows nr rs, Late w p loose mean mg mb g L o3 o4 o5 O K1 K2 P tA kT kb1 kb2 mx its' rows n' nr rs h' m' g' →
      wpC (model PySem.Challenge.rw_fb0055_01.row.prog w) (lawA w.params L) (execs ((lawBody w.params).drop 16) (lawEnv w.params L)) Q { s with heap := h', gens := g', toks := tk' }) :
    wpC (model PySem.Challenge.rw_fb0055_01.row.prog w) (lawA w.params L) (execs ((lawBody w.params).drop 15) (lawEnv w.params L)) Q { s with heap := h, gens := gens, toks := tk } := by
  obtain ⟨V, F, hO, h1, h2, hp, ht, hk, hxl, hxr, hm, c3, c4, c5, d3, d4, d5, ep, et, ek, e1, e2, exl, exr, edl, edr, em, gdl, gdr, gmx, hb, hb', hP, hPl, hT, hG, a1, a2, a3, a4, a5, a6, a7, a8, a9, b1, b2, b3⟩ := M
  have hh := lawA_h w.params L
  have hroom := lawA_d w.params L
  have L30 := V.L30
  obtain ⟨eb, ee⟩ := law_lit (P := w.params) rfl rfl rfl
  simp only [eb, ee, List.drop_succ_cons, List.drop_zero] at next ⊢
  clear eb ee
  generalize lawA w.params L = A at *
  have hlen : its.toList.length = P.length := hb.len
  have hlen' : its.size = P.length := by simpa using hlen
  refine execs_cons_C (for_C (nameX_L F hp ?_))
  refine wpAny_pyIter_list (isL ep) ?_
  have k5 : ∀ b o, h.get? b = some o → (h.push { cls := .type "list_iterator", data := .fields #[.ref pA, .int 0 0] }).get? b = some o := fun b o e => Heap.get?_push_of_some _ e
  have ei := Heap.get?_push_size h (o := { cls := .type "list_iterator", data := .fields #[.ref pA, .int 0 0] }) rfl
  have b4 : @LT.lt Nat _ mx h.objs.size := Heap.lt_size em
  have git : g.get? h.objs.size = none := Heap.get?_none_of_le (Nat.le_trans F.above (by show @LE.le Nat _ _ _; omega))
  show codeC _ _ (.forLoop _ (.ref h.objs.size) _ _ _) _ { heap := h.push _, gens := gens, drawn := s.drawn, toks := _, os := s.os }
  have F5 := F.keeps k5
  generalize h.push { cls := .type "list_iterator", data := .fields #[.ref pA, .int 0 0] } = h5 at *
  generalize h.objs.size = it at *
  have Lit : L ≠ it := by show ¬ (@Eq Nat _ _); omega
  have Ldl : L ≠ dl := by show ¬ (@Eq Nat _ _); omega
  have Ldr : L ≠ dr := by show ¬ (@Eq Nat _ _); omega
  have L30' : L ≠ 30 := by show ¬ (@Eq Nat _ _); omega
  have Lmx : L ≠ mx := by show ¬ (@Eq Nat _ _); omega
  have offN : ∀ b : Addr, (@Ne Nat b L) → @LT.lt Nat _ b dl → (@Ne Nat b 30) → b ∉ [L, it, mx, dl, dr, 30] := fun b q1 q2 q3 q => by
    have : ∀ a ∈ ([L, it, mx, dl, dr, 30] : List Nat), a ≠ b := by
      intro a ha
      simp only [List.mem_cons, List.not_mem_nil, or_false] at ha
      omega
    exact this b q rfl
  have offX : ∀ b : Addr, b = xl ∨ b = xr → b ∉ [L, it, mx, dl, dr, 30] := fun b q1 q => by
    have : ∀ a ∈ ([L, it, mx, dl, dr, 30] : List Nat), a ≠ xl ∧ a ≠ xr := by
      intro a ha
      simp only [List.mem_cons, List.not_mem_nil, or_false] at ha
      omega
    rcases q1 with rfl | rfl
    · exact (this _ q).1 rfl
    · exact (this _ q).2 rfl
  refine forLoop_C (fun k s' => ∃ i hc g' tk mm rows nr rs kcl ql ktl kcr qr ktr oi, s' = { s with heap := hc, gens := g', toks := tk } ∧ k + i = its.size ∧ Fr g L hc mm ∧ mm "told" = some (.ref tA) ∧ mm "keys" = some (.ref kT) ∧ mm "left" = some (.ref xl) ∧ mm "right" = some (.ref xr) ∧ mm "mixed" = some (.ref mx) ∧
    Kp [L, it, mx, dl, dr, 30] h hc ∧ hc.get? it = some oi ∧ oi.cls = .type "list_iterator" ∧ oi.data = .fields #[.ref pA, .int (i : Int) 0] ∧ hc.get? mx = some (listOf rows nr) ∧
    hc.get? dl = some (dictOf [mkEntry w.params ktl (.ref ql)] 1) ∧ hc.get? ql = some (baObj kcl) ∧ kcl.size = 4 ∧ hc.get? dr = some (dictOf [mkEntry w.params ktr (.ref qr)] 1) ∧ hc.get? qr = some (baObj kcr) ∧ kcr.size = 4 ∧ TabSt hc ∧ AllBare g' ∧
    Paired (RowV hc) rs rows.toList ∧ rows.size = i ∧ maskAll K1 P = rs.map (·.2.1) ++ maskAll kcl (P.drop i) ∧ maskAll K2 P = rs.map (·.2.2) ++ maskAll kcr (P.drop i)) ?_ (fun _ => rfl) its.size _
    ⟨0, h5, gens, _, m, #[], 0, [], K1, kb1, ktl, K2, kb2, ktr, _, rfl, rfl, F5, ht, hk, hxl, hxr, hm, .of k5, ei, rfl, rfl, k5 _ _ em, k5 _ _ edl, k5 _ _ e1, h1, k5 _ _ edr, k5 _ _ e2, h2, hT.keeps k5, hG, .nil, rfl, by simp, by simp⟩
  rintro k s' ⟨i, hc, g', tk, mm, rows, nr, rs, kcl, ql, ktl, kcr, qr, ktr, oi, rfl, hki, F, m1, m2, m3, m4, m5, K, ei, ci, di, em', edl', eql, hk4, edr', eqr, hk4r, hT', hG', hrs, hrz, hml, hmr⟩
  have hit : hc.IsListIter it pA i := ⟨oi, ei, ci, di⟩
  have hlist : hc.IsList pA its := isL (K _ _ (offN pA (by omega) (by omega) (by omega)) ep)
  rcases Nat.lt_or_ge i its.size with hlt | hge
  · have hv0 := Array.getElem?_eq_getElem hlt
    obtain ⟨b, tb, hv, hpb⟩ := hb.at (i := i) (v := its[i]) (by rw [← hv0]; simp)
    rw [hv] at hv0
    have hbz : b.size ≤ 1000 := by
      have := mem_size_concat (List.mem_of_getElem? hpb)
      rw [hP] at this; omega
    refine wpAny_pyNext_list_item hit hlist hv0 fun q1 hit1 hs1 => ?_
    replace hs1 : Heap.SameBut it hc q1 := hs1
    have G1 := fr_ext F git Lit hs1.extBut
    obtain ⟨oi1, ei1, ci1, di1⟩ := hit1
    dsimp only
    refine PyProof.Rows.assign_Name (storeX_S G1 fun q2 G2 hs2 => ?_)
    replace hs2 : Heap.SameBut L q1 q2 := hs2
    -- handed = bytearray(part)
    refine execs_cons_C (assignName_C rfl ?_)
    refine callName_C (nameX_B G2 V.X (topRead_of V.T) (KX.ns_bytearray _) (v := .type "bytearray") rfl (by decide) ?_)
    refine callWith_C rfl (spliced_cons_C (wpC.of (nameX_L G2 rfl ?_)))
    refine spliced_nil_C ⟨keeper_type, ?_⟩
    refine call_ba_src (Source.bytes (b := b) (t := tb)) (by rw [sizeLine_eq]; omega) fun q3 e3 k3 z3 => ?_
    replace e3 : q3.get? q2.objs.size = some (baObj b) := e3
    replace k3 : ∀ c o, q2.get? c = some o → q3.get? c = some o := k3
    have G3 := G2.keeps k3
    show wpC _ _ (storeName _ _ (.ref q2.objs.size)) _ { heap := q3, gens := g', drawn := s.drawn, toks := _, os := s.os }
    generalize q2.objs.size = hd at *
    refine wpC.of (storeX_S G3 fun q4 G4 hs4 => ?_)
    replace hs4 : Heap.SameBut L q3 q4 := hs4
    dsimp only
    obtain ⟨ps0, e30, htr0⟩ := id hT'
    -- where things stand
    have up4 : ∀ b o, b ≠ it → b ≠ L → hc.get? b = some o → q4.get? b = some o := fun b o n1 n2 e => hs4.extBut b o n2 (k3 b o (hs2.extBut b o n2 (hs1.extBut b o n1 e)))
    have ne_it : ∀ b o, hc.get? b = some o → o.cls ≠ .type "list_iterator" → b ≠ it := fun b o e hn q => cls_ne (q ▸ e) ei (by rw [ci]; exact hn)
    have qlL : ql ≠ L := dictL F eql fun _ _ => nofun
    have qrL : qr ≠ L := dictL F eqr fun _ _ => nofun
    have em4 := up4 _ _ (by show ¬ (@Eq Nat _ _); omega) (by show ¬ (@Eq Nat _ _); omega) em'
    have edl4 := up4 _ _ (by show ¬ (@Eq Nat _ _); omega) (by show ¬ (@Eq Nat _ _); omega) edl'
    have edr4 := up4 _ _ (by show ¬ (@Eq Nat _ _); omega) (by show ¬ (@Eq Nat _ _); omega) edr'
    have e304 := up4 _ _ (by show ¬ (@Eq Nat _ _); omega) (by show ¬ (@Eq Nat _ _); omega) e30
    have eql4 := up4 _ _ (ne_it _ _ eql (by simp)) qlL eql
    have eqr4 := up4 _ _ (ne_it _ _ eqr (by simp)) qrL eqr
    have exl4 := up4 _ _ (by show ¬ (@Eq Nat _ _); omega) (by show ¬ (@Eq Nat _ _); omega) (K _ _ (offX xl (.inl rfl)) exl)
    have exr4 := up4 _ _ (by show ¬ (@Eq Nat _ _); omega) (by show ¬ (@Eq Nat _ _); omega) (K _ _ (offX xr (.inr rfl)) exr)
    have ehd4 : q4.get? hd = some (baObj b) := hs4.extBut _ _ (dictL G3 e3 fun _ _ => nofun) e3
    have ei4 : q4.get? it = some oi1 := hs4.extBut _ _ Lit.symm (k3 _ _ (hs2.extBut _ _ Lit.symm ei1))
    -- mixed.append((left.process(handed), right.process(handed)))
    refine execs_cons_C (expr_C rfl rfl ?_)
    refine methodCall_C (nameX_L G4 (by rw [if_neg (by decide), if_neg (by decide)]; exact m5) (getMethod_list_append em4 rfl rfl ?_))
    refine callWith_C rfl (spliced_cons_C (tuple_C (k := 0) (spliced_cons_C ?_)))
    have I4 : InstAt q4 xl (instObj 38 dl) 38 (some (dictOf [mkEntry w.params ktl (.ref ql)] 1)) := ⟨exl4, rfl, rfl, edl4⟩
    refine methodCall_C (nameX_L G4 (by rw [if_neg (by decide), if_neg (by decide)]; exact m3) (method_fn (V.X.keeps G4.keep) I4 (KX.find_ga _) (KX.find_gattr _) (KX.find_process _) (KX.type_process _) rfl ?_))
    refine callWith_C rfl (spliced_cons_C (wpC.of (nameX_L G4 rfl ?_)))
    refine spliced_nil_C ⟨keeper_fn (G4.keep _ _ (V.X 35 _ rfl)) rfl, ?_⟩
    refine process_C (h₀ := g) (kb := false) (kv := .ref ql) (key := kcl) (db := b) V.X V.T G4.keep V.g30 gdl ⟨ps0, e304, htr0⟩ exl4 edl4 ⟨ql, rfl, eql4⟩ hk4 ehd4 hbz hh (by omega) hG' fun q5 g5 tk5 r5 kv5 k5' TS5 ed5 hk5 er5 nr5 hG5 => ?_
    replace k5' : ∀ b o, b ≠ dl → b ≠ 30 → q4.get? b = some o → q5.get? b = some o := k5'
    obtain ⟨ql5, rfl, eql5⟩ := hk5
    obtain ⟨ps5, e305, htr5⟩ := TS5
    have G5 := fr_two G4 gdl V.g30 Ldl L30' k5'
    have ne4 : ∀ b o, q4.get? b = some o → o.cls = .type "bytearray" → b ≠ dl ∧ b ≠ 30 := fun b o e hcl => ⟨fun q => cls_ne (q ▸ e) edl4 (by rw [hcl]; simp), fun q => cls_ne (q ▸ e) e304 (by rw [hcl]; simp)⟩
    have eqr5 := k5' _ _ (ne4 _ _ eqr4 rfl).1 (ne4 _ _ eqr4 rfl).2 eqr4
    have ehd5 := k5' _ _ (ne4 _ _ ehd4 rfl).1 (ne4 _ _ ehd4 rfl).2 ehd4
    have exr5 := k5' _ _ (by show ¬ (@Eq Nat _ _); omega) (by show ¬ (@Eq Nat _ _); omega) exr4
    have edr5 := k5' _ _ (by show ¬ (@Eq Nat _ _); omega) (by show ¬ (@Eq Nat _ _); omega) edr4
    have em5 := k5' _ _ (by show ¬ (@Eq Nat _ _); omega) (by show ¬ (@Eq Nat _ _); omega) em4
    have ei5 := k5' _ _ (by show ¬ (@Eq Nat _ _); omega) (by show ¬ (@Eq Nat _ _); omega) ei4
    refine spliced_cons_C ?_
    have I5 : InstAt q5 xr (instObj 38 dr) 38 (some (dictOf [mkEntry w.params ktr (.ref qr)] 1)) := ⟨exr5, rfl, rfl, edr5⟩
    refine methodCall_C (nameX_L G5 (by rw [if_neg (by decide), if_neg (by decide)]; exact m4) (method_fn (V.X.keeps G5.keep) I5 (KX.find_ga _) (KX.find_gattr _) (KX.find_process _) (KX.type_process _) rfl ?_))
    refine callWith_C rfl (spliced_cons_C (wpC.of (nameX_L G5 rfl ?_)))
    refine spliced_nil_C ⟨keeper_fn (G5.keep _ _ (V.X 35 _ rfl)) rfl, ?_⟩
    refine process_C (h₀ := g) (kb := false) (kv := .ref qr) (key := kcr) (db := b) V.X V.T G5.keep V.g30 gdr ⟨ps5, e305, htr5⟩ exr5 edr5 ⟨qr, rfl, eqr5⟩ hk4r ehd5 hbz hh (by omega) hG5 fun q6 g6 tk6 r6 kv6 k6 TS6 ed6 hk6 er6 nr6 hG6 => ?_
    replace k6 : ∀ b o, b ≠ dr → b ≠ 30 → q5.get? b = some o → q6.get? b = some o := k6
    obtain ⟨qr6, rfl, eqr6⟩ := hk6
    have G6 := fr_two G5 gdr V.g30 Ldr L30' k6
    have ne5 : ∀ b o, q5.get? b = some o → o.cls = .type "bytearray" → b ≠ dr ∧ b ≠ 30 := fun b o e hcl => ⟨fun q => cls_ne (q ▸ e) edr5 (by rw [hcl]; simp), fun q => cls_ne (q ▸ e) e305 (by rw [hcl]; simp)⟩
    have eql6 := k6 _ _ (ne5 _ _ eql5 rfl).1 (ne5 _ _ eql5 rfl).2 eql5
    have er56 := k6 _ _ (ne5 _ _ er5 rfl).1 (ne5 _ _ er5 rfl).2 er5
    have ehd6 := k6 _ _ (ne5 _ _ ehd5 rfl).1 (ne5 _ _ ehd5 rfl).2 ehd5
    have edl6 := k6 _ _ (by show ¬ (@Eq Nat _ _); omega) (by show ¬ (@Eq Nat _ _); omega) ed5
    have em6 := k6 _ _ (by show ¬ (@Eq Nat _ _); omega) (by show ¬ (@Eq Nat _ _); omega) em5
    have ei6 := k6 _ _ (by show ¬ (@Eq Nat _ _); omega) (by show ¬ (@Eq Nat _ _); omega) ei5
    refine spliced_nil_C (wpAny_newTuple ?_)
    have k7 : ∀ b o, q6.get? b = some o → (q6.push (tupObj #[.ref r5, .ref r6])).get? b = some o := fun b o e => Heap.get?_push_of_some _ e
    have eT := Heap.get?_push_size q6 (o := tupObj #[.ref r5, .ref r6]) rfl
    have lT : @LT.lt Nat _ mx q6.objs.size := Heap.lt_size em6
    have G7 := G6.keeps k7
    show wpC _ _ (spliced _) _ { heap := q6.push (tupObj #[.ref r5, .ref r6]), gens := g6, drawn := s.drawn, toks := _, os := s.os }
    generalize q6.push (tupObj #[.ref r5, .ref r6]) = q7 at *
    refine spliced_nil_C ⟨keeper_builtin, wpC.of (wpAny_list_append_plain ⟨nr, k7 _ _ em6⟩ (fun q8 hl8 hs8 => ?_) (by rw [hrz, sizeLine_eq]; omega))⟩
    replace hs8 : Heap.SameBut mx q7 q8 := hs8
    obtain ⟨nr8, em8⟩ := hl8
    refine ⟨fun _ => nofun, ?_⟩
    dsimp only
    have G8 := fr_ext G7 gmx Lmx hs8.extBut
    have up8 : ∀ b o, b ≠ mx → q6.get? b = some o → q8.get? b = some o := fun b o n1 e => hs8.extBut b o n1 (k7 b o e)
    have ne6 : ∀ b o, q6.get? b = some o → o.cls ≠ .type "list" → b ≠ mx := fun b o e hcl q => cls_ne (q ▸ e) em6 (by simpa using hcl)
    have ehd8 := up8 _ _ (ne6 _ _ ehd6 (by simp)) ehd6
    have er58 := up8 _ _ (ne6 _ _ er56 (by simp)) er56
    have er68 := up8 _ _ (ne6 _ _ er6 (by simp)) er6
    have eql8 := up8 _ _ (ne6 _ _ eql6 (by simp)) eql6
    have eqr8 := up8 _ _ (ne6 _ _ eqr6 (by simp)) eqr6
    have edl8 := up8 _ _ (by show ¬ (@Eq Nat _ _); omega) edl6
    have edr8 := up8 _ _ (by show ¬ (@Eq Nat _ _); omega) ed6
    have ei8 := up8 _ _ (by show ¬ (@Eq Nat _ _); omega) ei6
    have eT8 : q8.get? q6.objs.size = some (tupObj #[.ref r5, .ref r6]) := hs8.extBut _ _ (by show ¬ (@Eq Nat _ _); omega) eT
    have hT8 : TabSt q8 := by
      obtain ⟨ps6, e306, htr6⟩ := TS6
      exact ⟨ps6, up8 _ _ (by show ¬ (@Eq Nat _ _); omega) e306, htr6⟩
    generalize q6.objs.size = T at *
    -- the test
    refine execs_cons_C (if_C (or_C (or_cons_C (cmp_C (wpC.of ?_)))))
    refine callName_W (nameX_B G8 V.X (topRead_of V.T) (KX.ns_bytes _) (v := .type "bytes") rfl (by decide) ?_)
    refine PyProof.Rows.callWith_type rfl (evalArgs_plain (spliced_cons (nameX_L G8 rfl (spliced_nil (bytes_of_ba ehd8 (by rw [sizeLine_eq]; omega) ?_)))))
    refine wpC.of (nameX_L G8 rfl ?_)
    refine ne_bytes (wpAny_truthy_bool ?_)
    rw [show (b.toList != b.toList) = false by simp, if_neg (by decide)]
    have last : ∀ {E : Value → Shared → Prop} {s' : Shared} {value slice : Expr} {u : Tok} {Q' : Value → Shared → Prop}, s'.heap = q8 → Q' (.ref T) s' → wpAny (model PySem.Challenge.rw_fb0055_01.row.prog w) A (subscriptTail value slice (.ref mx) (.int (-1) u)) Q' E s' := fun {E s' value slice u Q'} e hQ => by
      have em8' : s'.heap.get? mx = some (listOf (rows.push (.ref T)) nr8) := by rw [e]; exact em8
      refine sub_tail (T := "list") ⟨_, em8', rfl⟩ list_getitem_lookup (wpAny_getItem_list_neg (isL em8') (by decide) (by rw [Array.size_push]; omega) (by decide) ?_ hQ)
      rw [Array.size_push, show ((-1 : Int) + ((rows.size + 1 : Nat) : Int)).toNat = rows.size by omega]
      simp
    refine or_cons_C (wpC.of (isTrue_not (isTrue_plain ?_)))
    refine callName_W (nameX_B G8 V.X (topRead_of V.T) (KX.ns_isinstance _) (v := .builtin "isinstance") rfl (by decide) ?_)
    refine callWith_builtin rfl (evalArgs_plain (spliced_cons ?_))
    refine PyProof.Rows.Subscript_ (PyProof.Rows.Subscript_ (nameX_L G8 (by rw [if_neg (by decide), if_neg (by decide)]; exact m5) ?_))
    refine UnaryOp_ (wpAny_Constant_int (PyProof.Rows.neg_int ?_))
    refine last rfl ?_
    refine wpAny_Constant_int (item_tup2 (i := 0) eT8 (by decide) ?_)
    refine spliced_cons (nameX_B G8 V.X (topRead_of V.T) (KX.ns_bytearray _) (v := .type "bytearray") rfl (by decide) (spliced_nil ?_))
    refine isi_ba er58 (wpAny_truthy_bool ?_)
    rw [if_neg (by decide)]
    refine or_cons_C (wpC.of (isTrue_not (isTrue_plain ?_)))
    refine callName_W (nameX_B G8 V.X (topRead_of V.T) (KX.ns_isinstance _) (v := .builtin "isinstance") rfl (by decide) ?_)
    refine callWith_builtin rfl (evalArgs_plain (spliced_cons ?_))
    refine PyProof.Rows.Subscript_ (PyProof.Rows.Subscript_ (nameX_L G8 (by rw [if_neg (by decide), if_neg (by decide)]; exact m5) ?_))
    refine UnaryOp_ (wpAny_Constant_int (PyProof.Rows.neg_int ?_))
    refine last rfl ?_
    refine wpAny_Constant_int (item_tup2 (i := 1) eT8 (by decide) ?_)
    refine spliced_cons (nameX_B G8 V.X (topRead_of V.T) (KX.ns_bytearray _) (v := .type "bytearray") rfl (by decide) (spliced_nil ?_))
    refine isi_ba er68 (wpAny_truthy_bool ?_)
    rw [if_neg (by decide)]
    refine or_nil_C ?_
    rw [if_neg (by decide)]
    refine execs_nil_C ?_
    dsimp only
    refine execs_nil_C ?_
    dsimp only
    have inm : ∀ a, a ∈ ([L, it, mx, dl, dr, 30] : List Addr) ↔ a = L ∨ a = it ∨ a = mx ∨ a = dl ∨ a = dr ∨ a = 30 := fun a => by simp
    have K8 : Kp [L, it, mx, dl, dr, 30] hc q8 := fun c o hn e => by
      rw [inm] at hn
      simp only [not_or] at hn
      obtain ⟨n1, n2, n3, n4, n5, n6⟩ := hn
      exact up8 c o n3 (k6 c o n5 n6 (k5' c o n4 n6 (up4 c o n2 n1 e)))
    have off : ∀ b o, hc.get? b = some o → (o.cls = .type "bytearray" ∨ o.cls = .type "tuple") → (∀ es n, o.data ≠ .dict es n) → b ∉ [L, it, mx, dl, dr, 30] := fun b o e hcl hd => by
      rw [inm]
      rintro (rfl | rfl | rfl | rfl | rfl | rfl)
      · exact dictL F e hd rfl
      · rw [ei] at e; injection e with e; subst e; rw [ci] at hcl; simp at hcl
      · rw [em'] at e; injection e with e; subst e; simp at hcl
      · rw [edl'] at e; injection e with e; subst e; simp at hcl
      · rw [edr'] at e; injection e with e; subst e; simp at hcl
      · rw [e30] at e; injection e with e; subst e; simp at hcl
    have hiP : i < P.length := by omega
    have hdrop : P.drop i = b :: P.drop (i + 1) := by
      rw [List.drop_eq_getElem_cons hiP]
      have := List.getElem?_eq_getElem hiP
      rw [hpb] at this
      rw [← Option.some.inj this]
    refine ⟨k - 1, by omega, i + 1, q8, g6, _, _, rows.push (.ref T), nr8, rs ++ [(T, maskOf kcl b, maskOf kcr b)], rotOf kcl b.size, ql5, ktl, rotOf kcr b.size, qr6, ktr, oi1, rfl, by omega, G8, ?_, ?_, ?_, ?_, ?_, K.trans K8, ei8, ci1, di1, em8, edl8, eql8, rotOf_size hk4 _, edr8, eqr8, rotOf_size hk4r _, hT8, hG6, ?_, by rw [Array.size_push, hrz], ?_, ?_⟩
    · rw [if_neg (by decide), if_neg (by decide)]; exact m1
    · rw [if_neg (by decide), if_neg (by decide)]; exact m2
    · rw [if_neg (by decide), if_neg (by decide)]; exact m3
    · rw [if_neg (by decide), if_neg (by decide)]; exact m4
    · rw [if_neg (by decide), if_neg (by decide)]; exact m5
    · rw [Array.toList_push]
      exact Paired.snoc (paired_mono (fun x v hx => hx.kp K8 off) hrs) ⟨rfl, r5, r6, eT8, er58, er68⟩
    · rw [hml, hdrop, List.map_append, List.append_assoc]; rfl
    · rw [hmr, hdrop, List.map_append, List.append_assoc]; rfl
  · have hi : i = its.size := by omega
    subst hi
    refine wpAny_pyNext_list_end hh hit hlist (Array.getElem?_eq_none (Nat.le_refl _)) fun q1 x1 => ?_
    replace x1 : Heap.ExtBut it hc q1 := x1
    have G1 := fr_ext F git Lit x1
    dsimp only
    obtain ⟨ps0, e30, htr0⟩ := id hT'
    have hdr : P.drop its.size = [] := List.drop_eq_nil_of_le (by omega)
    rw [hdr] at hml hmr
    have ne_it : ∀ b o, hc.get? b = some o → o.cls ≠ .type "list_iterator" → b ≠ it := fun b o e hn q => cls_ne (q ▸ e) ei (by rw [ci]; exact hn)
    have kk : ∀ b o, b ∉ [L, it, mx, dl, dr, 30] → h.get? b = some o → q1.get? b = some o := fun b o hb e => x1 b o (fun q => hb (by rw [q]; simp)) (K b o hb e)
    refine next q1 mm g' _ rows nr rs ⟨V, G1, hO, h1, h2, m1, m2, m5, kk _ _ (offN _ (by omega) (by omega) (by omega)) c3, kk _ _ (offN _ (by omega) (by omega) (by omega)) c4, kk _ _ (offN _ (by omega) (by omega) (by omega)) c5, d3, d4, d5,
      kk _ _ (offN tA a4 (by omega) a5) et, kk _ _ (offN kT (by omega) (by omega) (by omega)) ek, kk _ _ (offN kb1 (by omega) (by omega) (by omega)) e1, kk _ _ (offN kb2 (by omega) (by omega) (by omega)) e2, x1 _ _ (by show ¬ (@Eq Nat _ _); omega) em',
      paired_mono (fun x v hx => hx.kp (muts := [it]) (fun b o hb e => x1 b o (fun q => hb (by rw [q]; simp)) e) (fun b o e hcl _ q => ne_it b o e (by rcases hcl with hcl | hcl <;> rw [hcl] <;> simp) (List.mem_singleton.mp q))) hrs,
      by simpa [maskAll] using hml.symm, by simpa [maskAll] using hmr.symm, hb', hP, hPl, ⟨ps0, x1 _ _ (by show ¬ (@Eq Nat _ _); omega) e30, htr0⟩, hG'⟩
end
end Mine
end
section
namespace Mine
def LawSpec : Prop := ∀ (w : World) (s : Shared) (h₀ : Heap) (p : Program) (loose : List Str) (mean : ExcName → Option Value) (mg mb : Str → Option Value) (l : Addr) (vs : List Value) (ns : List Int),
  (Kf w.params).In h₀ → Top p loose mean mg mb h₀ → h₀.StaysIn s.heap → h₀.get? 30 = none → TabSt s.heap → s.heap.IsList l vs.toArray → IntsAre vs ns → ns.length ≤ 63 → AllBare s.gens →
  wpC (model PySem.Challenge.rw_fb0055_01.row.prog w) callerA (call (.ref 54) [.ref l]) (fun v s' => ∃ h' g' tk, v = .bool true ∧ s' = { s with heap := h', gens := g', toks := tk } ∧ (∀ b o, b ≠ 30 → s.heap.get? b = some o → h'.get? b = some o) ∧ TabSt h' ∧ AllBare g') s
theorem two_ints {ws : List Value} {ns : List Int} (h : IntsAre ws (List.take 2 (List.take 2 ns ++ [0, 0]))) : ∃ t1 t2, ws = [.int (ns.getD 0 0) t1, .int (ns.getD 1 0) t2] := by
  have : List.take 2 (List.take 2 ns ++ [0, 0]) = [ns.getD 0 0, ns.getD 1 0] := by
    match ns with
    | [] => rfl
    | [a] => rfl
    | a :: b :: r => rfl
  rw [this] at h
  have hl := h.length
  match ws, hl with
  | [x, y], _ =>
    obtain ⟨n, t, rfl, hn⟩ := IntsAre.at h 0 x rfl
    obtain ⟨n', t', rfl, hn'⟩ := IntsAre.at h 1 y rfl
    simp at hn hn'
    subst hn hn'
    exact ⟨t, t', rfl⟩
namespace KX
theorem code_law (P : Params) : codeIn (Kf P) (.ref 53) "law" = true := by kernel_rfl
end KX
set_option maxHeartbeats 8000000 in
theorem law_C : LawSpec := by
  intro w s h₀ p loose mean mg mb l vs ns X T st n30 TS hl hi hlen hG
  refine wpC.call ?_
  have hfn := st _ _ (X 54 _ rfl)
  have Xs : (Kf w.params).In s.heap := X.keeps st
  refine enter_C (binds := [("script", .ref l)]) (by decide) hfn rfl (codeRec_of Xs (KX.code_law _)) (T.nolimit.keeps st) (BindsTo.of_eq rfl) rfl (by decide) rfl rfl rfl ?_
  intro h₁ tk cells F N Y
  replace Y : CellsAre (fun _ => none) [("other", s.heap.objs.size + 1 + 1 + 1 + 1 + 1), ("one", s.heap.objs.size + 1 + 1 + 1 + 1), ("octets", s.heap.objs.size + 1 + 1 + 1), ("b", s.heap.objs.size + 1 + 1), ("a", s.heap.objs.size + 1)] cells := Y
  obtain ⟨ps0, hP, htr⟩ := TS
  obtain ⟨F', st'⟩ := rebase (W := [30]) F st (fun a ha => by rw [List.mem_singleton.mp ha]; exact n30)
  have N' := renews F N (W := [30]) (l := [(30, tabObj ps0)]) (fun p hp => by
    rw [List.mem_singleton.mp hp]; exact ⟨hP, by simp⟩)
  have X' := X.keeps st'
  have T' := T.keeps st'
  have h30L : @LT.lt Nat _ 30 s.heap.objs.size := Heap.lt_size hP
  have hl' : (hideAll s.heap [30]).IsList l vs.toArray := by
    obtain ⟨o, e, hc, r⟩ := hl
    exact ⟨o, hideAll_get _ e fun q => by rw [List.mem_singleton.mp q] at e; exact cls_ne hP e (by rw [hc]; simp), hc, r⟩
  have gs : (hideAll s.heap [30]).objs.size = s.heap.objs.size := hideAll_size _ _
  have fin : ∀ h' : Heap, (∀ b o, (hideAll s.heap [30]).get? b = some o → h'.get? b = some o) → ∀ b o, b ≠ 30 → s.heap.get? b = some o → h'.get? b = some o := fun h' k b o h2 e =>
    k b o (hideAll_get _ e fun q => h2 (List.mem_singleton.mp q))
  have g30 : (hideAll s.heap [30]).get? 30 = none := hideAll_none _ (by simp)
  generalize hideAll s.heap [30] = g at *
  generalize hL : s.heap.objs.size = L at *
  cases Y
  rename_i o5 d5 Y
  cases Y
  rename_i o4 d4 Y
  cases Y
  rename_i o3 d3 Y
  cases Y
  rename_i o2 d2 Y
  cases Y
  rename_i o1 d1 Y
  cases Y
  clear F N Xs
  simp only [List.cons_append, List.nil_append] at N'
  refine execs_any_C ?_
  k_steps
  rename IntsAre _ (List.take 2 (_ ++ _)) => hI9
  obtain ⟨t1, t2, e9⟩ := two_ints hI9
  subst e9
  k_steps
  rename News _ _ _ _ => N9
  rename Fr _ _ _ _ => F9
  rename_i hx1 hx2 oa da h9 ob db
  have V : LawEnv w p loose mean mg mb g L := ⟨X', T', g30, h30L⟩
  have NB : News g L h9 (cellsN L oa ob _ _ _ ps0) := fun p hp => N9 p (.tail _ (.tail _ (.tail _ (.tail _ hp))))
  have B : ∀ (Q : Flow → Shared → Prop) (tk9 : Nat), Done g s Q → wpC (model PySem.Challenge.rw_fb0055_01.row.prog w) (lawA w.params L) (execs ((lawBody w.params).drop 1) (lawEnv w.params L)) Q { s with heap := h9, gens := s.gens, toks := tk9 } := fun Q tk9 D =>
    law_B V hl' hi hlen F9 rfl NB db d3 fun h' m' o3' tk' O t S u hO hS F hsec N e3 =>
    law_CC V F N da db d4 d5 fun h' o4' o5' tk' K1 u1 K2 u2 hK1 hK2 F N e4 e5 =>
    law_D V hO F hsec N da db e3 fun h' m' tk' pA its n P hP hPl F hp hs N hb hpA =>
    law_E V hO hK1 htr hG F hs hp N e3 e4 hb hP hPl hpA fun h' g' m' tk' tA its' n' ps' ud F hp hs hdue ht N hb' htr' hG' ne =>
    law_10 ⟨V, F, N, hO, hS, hK1, hK2, ⟨u, hs⟩, ⟨ud, hdue⟩, hp, ht, ⟨t, e3⟩, ⟨u1, e4⟩, ⟨u2, e5⟩, hb, hb', hP, hPl, htr', hG', hpA, ne (30, tabObj ps0) (by k_mem)⟩ fun h' g' ps' tk' M =>
    law_11 M fun h' g' ps' tk' M =>
    law_12 M fun h' g' ps' tk' M =>
    law_13 M fun h' g' ps' tk' M =>
    law_14 M fun h' m' tk' kT kb1 kb2 xl dl xr dr mx ktl ktr M =>
    law_16 M fun h' m' g' tk' rows nr rs M => law_17 M D
  obtain ⟨eb, ee⟩ := law_lit (P := w.params) rfl rfl rfl
  unfold lawA at B
  simp only [eb, ee, List.drop_succ_cons, List.drop_zero] at B
  exact B _ _ fun h' g' tk k T G => ⟨h', g', tk, rfl, rfl, fin h' k, T, G⟩
end Mine
end
section
namespace Mine
theorem law_post (ns : List Int) : PySem.Challenge.rw_fb0055_01.row.claim.post [ofPy (PyData.list (ns.map PyData.int))] (WData.bool true) [ofPy (PyData.list (ns.map PyData.int))] = true := by
  show (WShape.has PySem.Challenge.rw_fb0055_01.row.records (WData.bool true) PySem.Challenge.rw_fb0055_01.row.returns && WTm.holds PySem.Challenge.rw_fb0055_01.row.records PySem.Challenge.rw_fb0055_01.row.post { args := [ofPy (PyData.list (ns.map PyData.int))], res := some (WData.bool true), after := [ofPy (PyData.list (ns.map PyData.int))] }) = true
  rw [Bool.and_eq_true]
  refine ⟨rfl, ?_⟩
  show WTm.holds _ (.eq .res (.lit (.bool true))) _ = true
  unfold WTm.holds
  rw [w_eq (w_res rfl) w_lit]
  simp [W.same]
theorem KX.ns_law (P : Params) : nsIn (Kf P) mainGlobals "law" = some (some (.ref 54)) := by kernel_rfl
set_option maxHeartbeats 8000000 in
theorem head : PySem.Challenge.rw_fb0055_01.Holds := by
  w_on
  o_law
  o_head (kmHook Mine.hd.heap_39 [2, 3, 6, 22, 24, 25, 27, 28, 29, 31, 32, 34, 35, 36, 37, 38, 39, 40, 43, 45, 46, 48, 49, 50, 53, 54] (fun _ => by kernel_rfl) [30])
  (case hw => w_witness2)
  k_fill
  intro w s₀ s₁ mg mb G Y fa o pm cd doc dV kV ho hd hcd hD hmg hg args vals as hpre hlay hrd hwl hlo
  have X := km_in_of Y
  have hT8 := km_tabs_of Y
  refine Ground.open G ?_
  intro T B D TE TW
  clear hd hcd hD
  wrow_args hpre hlay hrd hwl hlo
  rename_i ns _ _ _ _ _ _ _ l vs _ hl _ _ _ hi _ hlen _
  have hfa : fa = 54 := by
    have e := mg_of X T.g (KX.ns_law w.params)
    have e2 : mg "law" = some (Value.ref fa) := hmg
    rw [e] at e2
    injection e2 with e2
    injection e2 with e2
    exact e2.symm
  subst hfa
  have hT9 : TabsAt [(34, 30)] s₁.heap := List.forall_mem_cons.mpr ⟨⟨codeHd_of_K X (KX.codeHd_process _), hT8 30 (by k_mem)⟩, fun _ h => nomatch h⟩
  refine wpC.mono (law_C w s₁ (ghostOf s₁.heap [(34, 30)]) _ _ _ _ _ l vs ns (ghost_K hT9 X (Mine.KX.no_tabs _)) (ghost_top hT9 T) (fun b o e => of_hideAll _ e) (hideAll_none _ (by k_mem)) ⟨#[], hT8 30 (by k_mem), ?_⟩ hl hi (by omega) (by rw [hg]; exact .empty)) ?_
  · trivial
  rintro v s' ⟨h', g', tk, rfl, rfl, hk, ⟨ps, hps, _⟩, hG⟩
  refine ⟨.inl ⟨_, .bool true, [], rfl, fun cls => ?_, .bool true, ?_, fun _ => ⟨List.nodup_nil, nofun⟩⟩, ⟨fun b o e => ?_, fun b o e => ?_⟩, rfl, hG⟩
  · rfl
  · exact law_post ns
  · by_cases hb : b = 30
    · subst hb
      have e2 := hT8 30 (by k_mem)
      rw [e] at e2
      have ht := ((hT9 (34, 30) (.head _)).1.tab (hT9 (34, 30) (.head _)).2).isCodeTable
      injection e2 with e2
      subst e2
      exact .inr (.inl ⟨ht, rfl, #[], ps, rfl, by rw [Array.empty_append]; exact hps⟩)
    · exact .inl (hk b o hb e)
  · by_cases hb : b = 30
    · subst hb; exact ⟨_, hps⟩
    · exact ⟨o, hk b o hb e⟩
end Mine
end
theorem PySem.Challenge.cw_fb0055_01_holds : PySem.Challenge.rw_fb0055_01.Holds := by
  exact Mine.head
