/- The law FnGatheringSplitListComesBack: the row out of the walk. -/
import Derived.Test.Qxb6602261aRows
import Derived.Test.Qxb6602261aOpens2
import Derived.Test.Qxb6602261aHeavy
import Derived.Test.Qxb6602261aSplit
namespace Go.Proofs.Qxb6602261a.fnGatheringSplitListComesBack
open Go.ChangeShapes Go.WideShapes Go.ChangeAt Go.RowKit
open Go.ChangeMaps (open_string shut_string)
open Go.Proofs.Qxb6602261a.Nm

set_option maxRecDepth 100000 in
theorem lifted (os : Os) (started : os.Started) (H : Type) (enc : TypeId × Value → H) :
    ReturnsInHanded {} Try.checked os 10 .any (Rows.fnGatheringSplitListComesBackSpec.pre6 enc Try.prog Try.f10 Rows.fnGatheringSplitListComesBackRow.domain false) (Rows.fnGatheringSplitListComesBackSpec.post enc Try.prog Try.f10 false true false false) := by
  refine returnsInHanded_of_change (C := Try.checked) own started (by kernel_rfl) Try.func10
    (ChangeSpec.witness6 (enc := enc) (C := Try.checked) false ⟨#[], #[.int .u64 0, .slice none 0 0, .bool false, .int .u64 0, .slice none 0 0, .int .i64 0], []⟩ 8 (by kernel_rfl) (by kernel_rfl) (by kernel_rfl) (by kernel_rfl)) ?_
  intro W base args ds gs before hval0 hW hcnd _
  have hval : ∀ (j : Nat) t v, Try.f10.params[j]? = some t → args[j]? = some v → Value.okWide Try.prog W .any base t v := hval0
  have hW' := hW
  obtain ⟨p, q, hA0, hV, rfl, hfz, hnd⟩ := hW
  have hA : DataW.TrodAll enc Try.prog W 0 (fun _ => true) true Try.f10.params.toList args.toList ds p := hA0
  rw [Try.params10] at hA hval
  obtain ⟨v0, vs0, d0, ds0, p0, q0, hargs, rfl, rfl, h0, r0⟩ := trodAll_cons hA
  obtain ⟨v1, vs1, d1, ds1, p1, q1, rfl, rfl, rfl, h1, r1⟩ := trodAll_cons r0
  obtain ⟨v2, vs2, d2, ds2, p2, q2, rfl, rfl, rfl, h2, r2⟩ := trodAll_cons r1
  obtain ⟨v3, vs3, d3, ds3, p3, q3, rfl, rfl, rfl, h3, r3⟩ := trodAll_cons r2
  obtain ⟨v4, vs4, d4, ds4, p4, q4, rfl, rfl, rfl, h4, r4⟩ := trodAll_cons r3
  obtain ⟨v5, vs5, d5, ds5, p5, q5, rfl, rfl, rfl, h5, r5⟩ := trodAll_cons r4
  obtain ⟨rfl, rfl, rfl⟩ := trodAll_nil r5
  obtain rfl : args = #[v0, v1, v2, v3, v4, v5] := by cases args; simp_all
  obtain ⟨rfl, rfl⟩ := trodVars_none hV
  obtain ⟨a0, rfl, rfl, rfl, w0⟩ := open_int Try.underlying43 (hval 0 43 v0 rfl rfl) h0
  obtain ⟨a1, len1, cap1, rfl⟩ := okWide_slice Try.underlying33 (hval 1 33 v1 rfl rfl)
  have lt1 : ∀ x ∈ p1, x.block < W.heap.size := by obtain ⟨m, hm⟩ := h1; exact DataW.trod_lt m _ _ _ hm
  obtain ⟨L1, e1, s1, m1, z1⟩ := open_strs33 h1
  obtain ⟨a2, rfl, rfl, rfl⟩ := open_bool Try.underlying4 (hval 2 4 v2 rfl rfl) h2
  obtain ⟨a3, rfl, rfl, rfl, w3⟩ := open_int Try.underlying43 (hval 3 43 v3 rfl rfl) h3
  obtain ⟨a4, len4, cap4, rfl⟩ := okWide_slice Try.underlying49 (hval 4 49 v4 rfl rfl)
  have lt4 : ∀ x ∈ p4, x.block < W.heap.size := by obtain ⟨m, hm⟩ := h4; exact DataW.trod_lt m _ _ _ hm
  obtain ⟨A4, K4, C4, P4, s4, m4⟩ := open_parts h4
  obtain ⟨a5, rfl, rfl, rfl, w5⟩ := open_int Try.underlying3 (hval 5 3 v5 rfl rfl) h5
  clear hA0 hval0
  refine (split_any a0 a3 a5 a2 a1 a4 len1 cap1 len4 cap4 L1 A4 K4 C4 P4 W e1 s1 s4 m1 m4 z1).mono fun e W' ⟨he, bel⟩ => ?_
  subst he
  exact ⟨_, rfl, _, _, _, [], _, [], hW', trodAll_mk1 (shut_bool Try.underlying4 _), (trodAll_cons_mk (shut_int Try.underlying43 w0) (trodAll_cons_mk (Below.trod laidOut (by kernel_rfl) (of_decide_eq_true (by kernel_rfl)) h1 bel lt1) (trodAll_cons_mk (shut_bool Try.underlying4 _) (trodAll_cons_mk (shut_int Try.underlying43 w3) (trodAll_cons_mk (Below.trod laidOut (by kernel_rfl) (of_decide_eq_true (by kernel_rfl)) h4 bel lt4) (trodAll_cons_mk (shut_int Try.underlying3 w5) trodAll_mk0)))))), rfl, bel.frame _, fun h => by cases h⟩

set_option linter.unusedVariables false
theorem fact0 : (fun (P : Program) (f : FuncId) (fn : Func) (s : ChangeSpec) (c : OpenClaim) => (c.wf (OpenSpec.ofChange s) : Bool)) Try.prog 10 Try.f10 Rows.fnGatheringSplitListComesBackSpec Rows.fnGatheringSplitListComesBackRow = true := by kernel_rfl
theorem fact1 : (fun (P : Program) (f : FuncId) (fn : Func) (s : ChangeSpec) (c : OpenClaim) => (laidOutB P : Bool)) Try.prog 10 Try.f10 Rows.fnGatheringSplitListComesBackSpec Rows.fnGatheringSplitListComesBackRow = true := by kernel_rfl
theorem fact2 : (fun (P : Program) (f : FuncId) (fn : Func) (s : ChangeSpec) (c : OpenClaim) => (mapsRowed P : Bool)) Try.prog 10 Try.f10 Rows.fnGatheringSplitListComesBackSpec Rows.fnGatheringSplitListComesBackRow = true := by kernel_rfl
theorem fact3 : (fun (P : Program) (f : FuncId) (fn : Func) (s : ChangeSpec) (c : OpenClaim) => (fn.params.all (P.readableRec ·) : Bool)) Try.prog 10 Try.f10 Rows.fnGatheringSplitListComesBackSpec Rows.fnGatheringSplitListComesBackRow = true := by kernel_rfl
theorem fact4 : (fun (P : Program) (f : FuncId) (fn : Func) (s : ChangeSpec) (c : OpenClaim) => (namedTie P c.named s.vars : Bool)) Try.prog 10 Try.f10 Rows.fnGatheringSplitListComesBackSpec Rows.fnGatheringSplitListComesBackRow = true := by kernel_rfl
theorem fact5 : (fun (P : Program) (f : FuncId) (fn : Func) (s : ChangeSpec) (c : OpenClaim) => ((c.stops == []) : Bool)) Try.prog 10 Try.f10 Rows.fnGatheringSplitListComesBackSpec Rows.fnGatheringSplitListComesBackRow = true := by kernel_rfl
theorem fact6 : (fun (P : Program) (f : FuncId) (fn : Func) (s : ChangeSpec) (c : OpenClaim) => ((P.stops == []) : Bool)) Try.prog 10 Try.f10 Rows.fnGatheringSplitListComesBackSpec Rows.fnGatheringSplitListComesBackRow = true := by kernel_rfl
theorem fact7 : (fun (P : Program) (f : FuncId) (fn : Func) (s : ChangeSpec) (c : OpenClaim) => ((c.knobs == []) : Bool)) Try.prog 10 Try.f10 Rows.fnGatheringSplitListComesBackSpec Rows.fnGatheringSplitListComesBackRow = true := by kernel_rfl
theorem fact8 : (fun (P : Program) (f : FuncId) (fn : Func) (s : ChangeSpec) (c : OpenClaim) => ((P.stopKnobs == []) : Bool)) Try.prog 10 Try.f10 Rows.fnGatheringSplitListComesBackSpec Rows.fnGatheringSplitListComesBackRow = true := by kernel_rfl
theorem fact9 : (fun (P : Program) (f : FuncId) (fn : Func) (s : ChangeSpec) (c : OpenClaim) => ((c.inPlace == P.inPlace f) : Bool)) Try.prog 10 Try.f10 Rows.fnGatheringSplitListComesBackSpec Rows.fnGatheringSplitListComesBackRow = true := by kernel_rfl
theorem fact10 : (fun (P : Program) (f : FuncId) (fn : Func) (s : ChangeSpec) (c : OpenClaim) => ((c.unfollowed == P.unfollowed f) : Bool)) Try.prog 10 Try.f10 Rows.fnGatheringSplitListComesBackSpec Rows.fnGatheringSplitListComesBackRow = true := by kernel_rfl
theorem fact11 : (fun (P : Program) (f : FuncId) (fn : Func) (s : ChangeSpec) (c : OpenClaim) => ((c.recurses == P.recurses f) : Bool)) Try.prog 10 Try.f10 Rows.fnGatheringSplitListComesBackSpec Rows.fnGatheringSplitListComesBackRow = true := by kernel_rfl
theorem fact12 : (fun (P : Program) (f : FuncId) (fn : Func) (s : ChangeSpec) (c : OpenClaim) => ((c.named == P.varsNamed f) : Bool)) Try.prog 10 Try.f10 Rows.fnGatheringSplitListComesBackSpec Rows.fnGatheringSplitListComesBackRow = true := by kernel_rfl
theorem fact13 : (fun (P : Program) (f : FuncId) (fn : Func) (s : ChangeSpec) (c : OpenClaim) => ((c.maps == (fn.params.toList ++ s.plain.varTypes P).any (P.mapsRec ·)) : Bool)) Try.prog 10 Try.f10 Rows.fnGatheringSplitListComesBackSpec Rows.fnGatheringSplitListComesBackRow = true := by kernel_rfl
theorem fact14 : (fun (P : Program) (f : FuncId) (fn : Func) (s : ChangeSpec) (c : OpenClaim) => ((c.ifaces == (fn.params.toList ++ s.plain.varTypes P).any (P.ifacesRec ·)) : Bool)) Try.prog 10 Try.f10 Rows.fnGatheringSplitListComesBackSpec Rows.fnGatheringSplitListComesBackRow = true := by kernel_rfl
theorem fact15 : (fun (P : Program) (f : FuncId) (fn : Func) (s : ChangeSpec) (c : OpenClaim) => ((c.mapsOut == P.mapsAmong fn.resultTypes.toList) : Bool)) Try.prog 10 Try.f10 Rows.fnGatheringSplitListComesBackSpec Rows.fnGatheringSplitListComesBackRow = true := by kernel_rfl
theorem fact16 : (fun (P : Program) (f : FuncId) (fn : Func) (s : ChangeSpec) (c : OpenClaim) => ((c.loops == (fn.params.toList ++ s.plain.varTypes P).any (P.loopsFrom ·)) : Bool)) Try.prog 10 Try.f10 Rows.fnGatheringSplitListComesBackSpec Rows.fnGatheringSplitListComesBackRow = true := by kernel_rfl
theorem fact17 : (fun (P : Program) (f : FuncId) (fn : Func) (s : ChangeSpec) (c : OpenClaim) => ((c.wideKeys == (fn.params.toList ++ s.plain.varTypes P ++ fn.resultTypes.toList).any (P.wideKeysFrom ·)) : Bool)) Try.prog 10 Try.f10 Rows.fnGatheringSplitListComesBackSpec Rows.fnGatheringSplitListComesBackRow = true := by kernel_rfl
theorem fact18 : (fun (P : Program) (f : FuncId) (fn : Func) (s : ChangeSpec) (c : OpenClaim) => (s.vars.all (P.varReadable ·) : Bool)) Try.prog 10 Try.f10 Rows.fnGatheringSplitListComesBackSpec Rows.fnGatheringSplitListComesBackRow = true := by kernel_rfl
theorem fact19 : (fun (P : Program) (f : FuncId) (fn : Func) (s : ChangeSpec) (c : OpenClaim) => (fn.resultTypes.all (fun t => P.readableRec t && decide (t < P.types.size)) : Bool)) Try.prog 10 Try.f10 Rows.fnGatheringSplitListComesBackSpec Rows.fnGatheringSplitListComesBackRow = true := by kernel_rfl
theorem fact20 : (fun (P : Program) (f : FuncId) (fn : Func) (s : ChangeSpec) (c : OpenClaim) => ((c.ifacesOut == fn.resultTypes.toList.any (P.ifacesRec ·)) : Bool)) Try.prog 10 Try.f10 Rows.fnGatheringSplitListComesBackSpec Rows.fnGatheringSplitListComesBackRow = true := by kernel_rfl
theorem fact21 : (fun (P : Program) (f : FuncId) (fn : Func) (s : ChangeSpec) (c : OpenClaim) => ((c.loopsOut == fn.resultTypes.toList.any (P.loopsFrom ·)) : Bool)) Try.prog 10 Try.f10 Rows.fnGatheringSplitListComesBackSpec Rows.fnGatheringSplitListComesBackRow = true := by kernel_rfl
theorem fact22 : (fun (P : Program) (f : FuncId) (fn : Func) (s : ChangeSpec) (c : OpenClaim) => ((c.plainKeys == P.plainKeys) : Bool)) Try.prog 10 Try.f10 Rows.fnGatheringSplitListComesBackSpec Rows.fnGatheringSplitListComesBackRow = true := by kernel_rfl
theorem fact23 : (fun (P : Program) (f : FuncId) (fn : Func) (s : ChangeSpec) (c : OpenClaim) => (c.shortTexts.isNone : Bool)) Try.prog 10 Try.f10 Rows.fnGatheringSplitListComesBackSpec Rows.fnGatheringSplitListComesBackRow = true := by kernel_rfl
theorem fact24 : (fun (P : Program) (f : FuncId) (fn : Func) (s : ChangeSpec) (c : OpenClaim) => (P.stopsHeard : Bool)) Try.prog 10 Try.f10 Rows.fnGatheringSplitListComesBackSpec Rows.fnGatheringSplitListComesBackRow = true := by kernel_rfl
theorem fact28 : (fun (P : Program) (f : FuncId) (fn : Func) (s : ChangeSpec) (c : OpenClaim) => ((c.kinds == (if c.domain.isEmpty then [] else fn.params.toList.map fun t => match P.underlying t with | some (.int k) => some k | _ => none)) : Bool)) Try.prog 10 Try.f10 Rows.fnGatheringSplitListComesBackSpec Rows.fnGatheringSplitListComesBackRow = true := by kernel_rfl
theorem fact29 : (fun (P : Program) (f : FuncId) (fn : Func) (s : ChangeSpec) (c : OpenClaim) => ((c.pinned == c.pinnedBy) : Bool)) Try.prog 10 Try.f10 Rows.fnGatheringSplitListComesBackSpec Rows.fnGatheringSplitListComesBackRow = true := by kernel_rfl
theorem fact30 : (fun (P : Program) (f : FuncId) (fn : Func) (s : ChangeSpec) (c : OpenClaim) => ((c.veiled == (fn.params.toList ++ s.plain.varTypes P ++ fn.resultTypes.toList).any (P.veiledRec ·)) : Bool)) Try.prog 10 Try.f10 Rows.fnGatheringSplitListComesBackSpec Rows.fnGatheringSplitListComesBackRow = true := by kernel_rfl
theorem fact31 : (fun (P : Program) (f : FuncId) (fn : Func) (s : ChangeSpec) (c : OpenClaim) => (c.veiledFits P fn.params.toList (fn.params.toList ++ s.plain.varTypes P ++ fn.resultTypes.toList) : Bool)) Try.prog 10 Try.f10 Rows.fnGatheringSplitListComesBackSpec Rows.fnGatheringSplitListComesBackRow = true := by kernel_rfl
theorem closed : joinedFacts Try.prog 10 Try.f10 Rows.fnGatheringSplitListComesBackSpec Rows.fnGatheringSplitListComesBackRow = true := (Facts.and_mk (Facts.and_mk (Facts.and_mk (Facts.and_mk (Facts.and_mk (Facts.and_mk (Facts.and_mk (Facts.and_mk (Facts.and_mk (Facts.and_mk (Facts.and_mk (Facts.and_mk (Facts.and_mk (Facts.and_mk (Facts.and_mk (Facts.and_mk (Facts.and_mk (Facts.and_mk (Facts.and_mk (Facts.and_mk (Facts.and_mk (Facts.and_mk (Facts.and_mk (Facts.and_mk (Facts.and_mk (Facts.and_mk (Facts.and_mk (Facts.and_mk (Facts.and_mk (Facts.and_mk (Facts.and_mk fact0 fact1) fact2) fact3) fact4) fact5) fact6) fact7) fact8) fact9) fact10) fact11) fact12) fact13) fact14) fact15) fact16) fact17) fact18) fact19) fact20) fact21) fact22) fact23) fact24) (Facts.and_left (Facts.and_left Facts.heavy))) (Facts.and_right (Facts.and_left Facts.heavy))) (Facts.and_right Facts.heavy)) fact28) fact29) fact30) fact31)

theorem over : Rows.fnGatheringSplitListComesBackRow.holds Try.pinned (OpenSpec.ofChange Rows.fnGatheringSplitListComesBackSpec) :=
  OpenClaim.holds_of_wide 10 Try.f10 rfl rfl rfl rfl rfl rfl rfl ⟨rfl, rfl, rfl, rfl, rfl⟩ rfl rfl rfl rfl rfl (by kernel_rfl) Try.func10 closed
    (of_decide_eq_true (by kernel_rfl)) (by unfold Func.isWrapper; first | (rw [if_pos (by decide +kernel)]; kernel_rfl) | (rw [if_neg (by decide +kernel)]; exact ⟨rfl, rfl⟩))
    (fun os started H enc _ => lifted os started H enc)

/-- THE STATEMENT. -/
theorem proved : Rows.FnGatheringSplitListComesBackSaid := over
end Go.Proofs.Qxb6602261a.fnGatheringSplitListComesBack
