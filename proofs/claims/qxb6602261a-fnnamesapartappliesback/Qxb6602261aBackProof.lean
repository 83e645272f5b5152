/- The law FnNamesApartAppliesBack: the row out of the walk. -/
import Derived.Test.Qxb6602261aRows
import Derived.Test.Qxb6602261aOpens
import Derived.Test.Qxb6602261aHeavy
import Derived.Test.Qxb6602261aBack
namespace Go.Proofs.Qxb6602261a.fnNamesApartAppliesBack
open Go.ChangeShapes Go.WideShapes Go.ChangeAt Go.RowKit
open Go.Proofs.Qxb6602261a.Nm

set_option maxRecDepth 100000 in
theorem lifted (os : Os) (started : os.Started) (H : Type) (enc : TypeId × Value → H) :
    ReturnsInHanded {} Try.checked os 8 .any (Rows.fnNamesApartAppliesBackSpec.pre6 enc Try.prog Try.f8 Rows.fnNamesApartAppliesBackRow.domain false) (Rows.fnNamesApartAppliesBackSpec.post enc Try.prog Try.f8 false true false false) := by
  refine returnsInHanded_of_change (C := Try.checked) own started (by kernel_rfl) Try.func8
    (ChangeSpec.witness6 (enc := enc) (C := Try.checked) false ⟨#[], #[.slice none 0 0, .slice none 0 0], []⟩ 8 (by kernel_rfl) (by kernel_rfl) (by kernel_rfl) (by kernel_rfl)) ?_
  intro W base args ds gs before hval0 hW hcnd _
  have hval : ∀ (j : Nat) t v, Try.f8.params[j]? = some t → args[j]? = some v → Value.okWide Try.prog W .any base t v := hval0
  have hW' := hW
  obtain ⟨p, q, hA0, hV, rfl, hfz, hnd⟩ := hW
  have hA : DataW.TrodAll enc Try.prog W 0 (fun _ => true) true Try.f8.params.toList args.toList ds p := hA0
  rw [Try.params8] at hA hval
  obtain ⟨v0, vs0, d0, ds0, p0, q0, hargs, rfl, rfl, h0, r0⟩ := trodAll_cons hA
  obtain ⟨v1, vs1, d1, ds1, p1, q1, rfl, rfl, rfl, h1, r1⟩ := trodAll_cons r0
  obtain ⟨rfl, rfl, rfl⟩ := trodAll_nil r1
  obtain rfl : args = #[v0, v1] := by cases args; simp_all
  obtain ⟨rfl, rfl⟩ := trodVars_none hV
  obtain ⟨a0, len0, cap0, rfl⟩ := okWide_slice Try.underlying33 (hval 0 33 v0 rfl rfl)
  obtain ⟨a1, len1, cap1, rfl⟩ := okWide_slice Try.underlying33 (hval 1 33 v1 rfl rfl)
  have lt0 : ∀ x ∈ p0, x.block < W.heap.size := by obtain ⟨m, hm⟩ := h0; exact DataW.trod_lt m _ _ _ hm
  have lt1 : ∀ x ∈ p1, x.block < W.heap.size := by obtain ⟨m, hm⟩ := h1; exact DataW.trod_lt m _ _ _ hm
  obtain ⟨L0, e0, s0, m0, z0⟩ := open_strs33 h0
  obtain ⟨L1, e1, s1, m1, z1⟩ := open_strs33 h1
  clear hA0 hval0
  refine (back_any a0 a1 len0 cap0 len1 cap1 L0 L1 W e0 e1 s0 s1 m0 m1 z0 z1).mono fun e W' ⟨he, bel⟩ => ?_
  subst he
  exact ⟨_, rfl, _, _, _, [], _, [], hW', trodAll_mk1 (shut_bool Try.underlying4 _), (trodAll_cons_mk (Below.trod laidOut (by kernel_rfl) (of_decide_eq_true (by kernel_rfl)) h0 bel lt0) (trodAll_cons_mk (Below.trod laidOut (by kernel_rfl) (of_decide_eq_true (by kernel_rfl)) h1 bel lt1) trodAll_mk0)), rfl, bel.frame _, fun h => by cases h⟩

set_option linter.unusedVariables false
theorem fact0 : (fun (P : Program) (f : FuncId) (fn : Func) (s : ChangeSpec) (c : OpenClaim) => (c.wf (OpenSpec.ofChange s) : Bool)) Try.prog 8 Try.f8 Rows.fnNamesApartAppliesBackSpec Rows.fnNamesApartAppliesBackRow = true := by kernel_rfl
theorem fact1 : (fun (P : Program) (f : FuncId) (fn : Func) (s : ChangeSpec) (c : OpenClaim) => (laidOutB P : Bool)) Try.prog 8 Try.f8 Rows.fnNamesApartAppliesBackSpec Rows.fnNamesApartAppliesBackRow = true := by kernel_rfl
theorem fact2 : (fun (P : Program) (f : FuncId) (fn : Func) (s : ChangeSpec) (c : OpenClaim) => (mapsRowed P : Bool)) Try.prog 8 Try.f8 Rows.fnNamesApartAppliesBackSpec Rows.fnNamesApartAppliesBackRow = true := by kernel_rfl
theorem fact3 : (fun (P : Program) (f : FuncId) (fn : Func) (s : ChangeSpec) (c : OpenClaim) => (fn.params.all (P.readableRec ·) : Bool)) Try.prog 8 Try.f8 Rows.fnNamesApartAppliesBackSpec Rows.fnNamesApartAppliesBackRow = true := by kernel_rfl
theorem fact4 : (fun (P : Program) (f : FuncId) (fn : Func) (s : ChangeSpec) (c : OpenClaim) => (namedTie P c.named s.vars : Bool)) Try.prog 8 Try.f8 Rows.fnNamesApartAppliesBackSpec Rows.fnNamesApartAppliesBackRow = true := by kernel_rfl
theorem fact5 : (fun (P : Program) (f : FuncId) (fn : Func) (s : ChangeSpec) (c : OpenClaim) => ((c.stops == []) : Bool)) Try.prog 8 Try.f8 Rows.fnNamesApartAppliesBackSpec Rows.fnNamesApartAppliesBackRow = true := by kernel_rfl
theorem fact6 : (fun (P : Program) (f : FuncId) (fn : Func) (s : ChangeSpec) (c : OpenClaim) => ((P.stops == []) : Bool)) Try.prog 8 Try.f8 Rows.fnNamesApartAppliesBackSpec Rows.fnNamesApartAppliesBackRow = true := by kernel_rfl
theorem fact7 : (fun (P : Program) (f : FuncId) (fn : Func) (s : ChangeSpec) (c : OpenClaim) => ((c.knobs == []) : Bool)) Try.prog 8 Try.f8 Rows.fnNamesApartAppliesBackSpec Rows.fnNamesApartAppliesBackRow = true := by kernel_rfl
theorem fact8 : (fun (P : Program) (f : FuncId) (fn : Func) (s : ChangeSpec) (c : OpenClaim) => ((P.stopKnobs == []) : Bool)) Try.prog 8 Try.f8 Rows.fnNamesApartAppliesBackSpec Rows.fnNamesApartAppliesBackRow = true := by kernel_rfl
theorem fact9 : (fun (P : Program) (f : FuncId) (fn : Func) (s : ChangeSpec) (c : OpenClaim) => ((c.inPlace == P.inPlace f) : Bool)) Try.prog 8 Try.f8 Rows.fnNamesApartAppliesBackSpec Rows.fnNamesApartAppliesBackRow = true := by kernel_rfl
theorem fact10 : (fun (P : Program) (f : FuncId) (fn : Func) (s : ChangeSpec) (c : OpenClaim) => ((c.unfollowed == P.unfollowed f) : Bool)) Try.prog 8 Try.f8 Rows.fnNamesApartAppliesBackSpec Rows.fnNamesApartAppliesBackRow = true := by kernel_rfl
theorem fact11 : (fun (P : Program) (f : FuncId) (fn : Func) (s : ChangeSpec) (c : OpenClaim) => ((c.recurses == P.recurses f) : Bool)) Try.prog 8 Try.f8 Rows.fnNamesApartAppliesBackSpec Rows.fnNamesApartAppliesBackRow = true := by kernel_rfl
theorem fact12 : (fun (P : Program) (f : FuncId) (fn : Func) (s : ChangeSpec) (c : OpenClaim) => ((c.named == P.varsNamed f) : Bool)) Try.prog 8 Try.f8 Rows.fnNamesApartAppliesBackSpec Rows.fnNamesApartAppliesBackRow = true := by kernel_rfl
theorem fact13 : (fun (P : Program) (f : FuncId) (fn : Func) (s : ChangeSpec) (c : OpenClaim) => ((c.maps == (fn.params.toList ++ s.plain.varTypes P).any (P.mapsRec ·)) : Bool)) Try.prog 8 Try.f8 Rows.fnNamesApartAppliesBackSpec Rows.fnNamesApartAppliesBackRow = true := by kernel_rfl
theorem fact14 : (fun (P : Program) (f : FuncId) (fn : Func) (s : ChangeSpec) (c : OpenClaim) => ((c.ifaces == (fn.params.toList ++ s.plain.varTypes P).any (P.ifacesRec ·)) : Bool)) Try.prog 8 Try.f8 Rows.fnNamesApartAppliesBackSpec Rows.fnNamesApartAppliesBackRow = true := by kernel_rfl
theorem fact15 : (fun (P : Program) (f : FuncId) (fn : Func) (s : ChangeSpec) (c : OpenClaim) => ((c.mapsOut == P.mapsAmong fn.resultTypes.toList) : Bool)) Try.prog 8 Try.f8 Rows.fnNamesApartAppliesBackSpec Rows.fnNamesApartAppliesBackRow = true := by kernel_rfl
theorem fact16 : (fun (P : Program) (f : FuncId) (fn : Func) (s : ChangeSpec) (c : OpenClaim) => ((c.loops == (fn.params.toList ++ s.plain.varTypes P).any (P.loopsFrom ·)) : Bool)) Try.prog 8 Try.f8 Rows.fnNamesApartAppliesBackSpec Rows.fnNamesApartAppliesBackRow = true := by kernel_rfl
theorem fact17 : (fun (P : Program) (f : FuncId) (fn : Func) (s : ChangeSpec) (c : OpenClaim) => ((c.wideKeys == (fn.params.toList ++ s.plain.varTypes P ++ fn.resultTypes.toList).any (P.wideKeysFrom ·)) : Bool)) Try.prog 8 Try.f8 Rows.fnNamesApartAppliesBackSpec Rows.fnNamesApartAppliesBackRow = true := by kernel_rfl
theorem fact18 : (fun (P : Program) (f : FuncId) (fn : Func) (s : ChangeSpec) (c : OpenClaim) => (s.vars.all (P.varReadable ·) : Bool)) Try.prog 8 Try.f8 Rows.fnNamesApartAppliesBackSpec Rows.fnNamesApartAppliesBackRow = true := by kernel_rfl
theorem fact19 : (fun (P : Program) (f : FuncId) (fn : Func) (s : ChangeSpec) (c : OpenClaim) => (fn.resultTypes.all (fun t => P.readableRec t && decide (t < P.types.size)) : Bool)) Try.prog 8 Try.f8 Rows.fnNamesApartAppliesBackSpec Rows.fnNamesApartAppliesBackRow = true := by kernel_rfl
theorem fact20 : (fun (P : Program) (f : FuncId) (fn : Func) (s : ChangeSpec) (c : OpenClaim) => ((c.ifacesOut == fn.resultTypes.toList.any (P.ifacesRec ·)) : Bool)) Try.prog 8 Try.f8 Rows.fnNamesApartAppliesBackSpec Rows.fnNamesApartAppliesBackRow = true := by kernel_rfl
theorem fact21 : (fun (P : Program) (f : FuncId) (fn : Func) (s : ChangeSpec) (c : OpenClaim) => ((c.loopsOut == fn.resultTypes.toList.any (P.loopsFrom ·)) : Bool)) Try.prog 8 Try.f8 Rows.fnNamesApartAppliesBackSpec Rows.fnNamesApartAppliesBackRow = true := by kernel_rfl
theorem fact22 : (fun (P : Program) (f : FuncId) (fn : Func) (s : ChangeSpec) (c : OpenClaim) => ((c.plainKeys == P.plainKeys) : Bool)) Try.prog 8 Try.f8 Rows.fnNamesApartAppliesBackSpec Rows.fnNamesApartAppliesBackRow = true := by kernel_rfl
theorem fact23 : (fun (P : Program) (f : FuncId) (fn : Func) (s : ChangeSpec) (c : OpenClaim) => (c.shortTexts.isNone : Bool)) Try.prog 8 Try.f8 Rows.fnNamesApartAppliesBackSpec Rows.fnNamesApartAppliesBackRow = true := by kernel_rfl
theorem fact24 : (fun (P : Program) (f : FuncId) (fn : Func) (s : ChangeSpec) (c : OpenClaim) => (P.stopsHeard : Bool)) Try.prog 8 Try.f8 Rows.fnNamesApartAppliesBackSpec Rows.fnNamesApartAppliesBackRow = true := by kernel_rfl
theorem fact28 : (fun (P : Program) (f : FuncId) (fn : Func) (s : ChangeSpec) (c : OpenClaim) => ((c.kinds == (if c.domain.isEmpty then [] else fn.params.toList.map fun t => match P.underlying t with | some (.int k) => some k | _ => none)) : Bool)) Try.prog 8 Try.f8 Rows.fnNamesApartAppliesBackSpec Rows.fnNamesApartAppliesBackRow = true := by kernel_rfl
theorem fact29 : (fun (P : Program) (f : FuncId) (fn : Func) (s : ChangeSpec) (c : OpenClaim) => ((c.pinned == c.pinnedBy) : Bool)) Try.prog 8 Try.f8 Rows.fnNamesApartAppliesBackSpec Rows.fnNamesApartAppliesBackRow = true := by kernel_rfl
theorem fact30 : (fun (P : Program) (f : FuncId) (fn : Func) (s : ChangeSpec) (c : OpenClaim) => ((c.veiled == (fn.params.toList ++ s.plain.varTypes P ++ fn.resultTypes.toList).any (P.veiledRec ·)) : Bool)) Try.prog 8 Try.f8 Rows.fnNamesApartAppliesBackSpec Rows.fnNamesApartAppliesBackRow = true := by kernel_rfl
theorem fact31 : (fun (P : Program) (f : FuncId) (fn : Func) (s : ChangeSpec) (c : OpenClaim) => (c.veiledFits P fn.params.toList (fn.params.toList ++ s.plain.varTypes P ++ fn.resultTypes.toList) : Bool)) Try.prog 8 Try.f8 Rows.fnNamesApartAppliesBackSpec Rows.fnNamesApartAppliesBackRow = true := by kernel_rfl
theorem closed : joinedFacts Try.prog 8 Try.f8 Rows.fnNamesApartAppliesBackSpec Rows.fnNamesApartAppliesBackRow = true := (Facts.and_mk (Facts.and_mk (Facts.and_mk (Facts.and_mk (Facts.and_mk (Facts.and_mk (Facts.and_mk (Facts.and_mk (Facts.and_mk (Facts.and_mk (Facts.and_mk (Facts.and_mk (Facts.and_mk (Facts.and_mk (Facts.and_mk (Facts.and_mk (Facts.and_mk (Facts.and_mk (Facts.and_mk (Facts.and_mk (Facts.and_mk (Facts.and_mk (Facts.and_mk (Facts.and_mk (Facts.and_mk (Facts.and_mk (Facts.and_mk (Facts.and_mk (Facts.and_mk (Facts.and_mk (Facts.and_mk fact0 fact1) fact2) fact3) fact4) fact5) fact6) fact7) fact8) fact9) fact10) fact11) fact12) fact13) fact14) fact15) fact16) fact17) fact18) fact19) fact20) fact21) fact22) fact23) fact24) (Facts.and_left (Facts.and_left Facts.heavy))) (Facts.and_right (Facts.and_left Facts.heavy))) (Facts.and_right Facts.heavy)) fact28) fact29) fact30) fact31)

theorem over : Rows.fnNamesApartAppliesBackRow.holds Try.pinned (OpenSpec.ofChange Rows.fnNamesApartAppliesBackSpec) :=
  OpenClaim.holds_of_wide 8 Try.f8 rfl rfl rfl rfl rfl rfl rfl ⟨rfl, rfl, rfl, rfl, rfl⟩ rfl rfl rfl rfl rfl (by kernel_rfl) Try.func8 closed
    (of_decide_eq_true (by kernel_rfl)) (by unfold Func.isWrapper; first | (rw [if_pos (by decide +kernel)]; kernel_rfl) | (rw [if_neg (by decide +kernel)]; exact ⟨rfl, rfl⟩))
    (fun os started H enc _ => lifted os started H enc)

/-- THE STATEMENT. -/
theorem proved : Rows.FnNamesApartAppliesBackSaid := over
end Go.Proofs.Qxb6602261a.fnNamesApartAppliesBack
