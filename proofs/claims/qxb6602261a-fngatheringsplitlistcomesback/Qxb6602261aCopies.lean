/- The contracts of zzb1Clone, zzb1Has, strings.Compare. -/
import Derived.Test.Qxb6602261aStrs
namespace Go.Proofs.Qxb6602261a.Nm
open Go.RowKit

theorem info9 : (Try.prog.info? 9).map (fun i => (i.zero, i.size, i.bytes)) = some (some (.string ByteArray.empty), 1, 16) := by kernel_rfl

theorem set_step {n : Nat} (S : Nat → ByteArray) (z : Value) (k : Nat) : ∀ j, j < n → (fun j => if j = k then Value.string (S k) else if j < k then .string (S j) else z) j = (fun j => if j < k + 1 then Value.string (S j) else z) j := by
  intro j _
  by_cases e : j = k
  · subst e; simp
  · simp only [if_neg e, show (j < k + 1) ↔ j < k from by omega]

/-- zzb1Clone of nil. -/
theorem clone_nil (w : World) : Calls Try.prog 21 #[.slice none 0 0] w fun e w' => e = .returned (.slice none 0 0) ∧ w' = w := by
  have hnil : ∀ W, (binOp .eql 33 (.slice none 0 0) (.slice none 0 0)).run Try.prog W = .ok (.bool true) W :=
    fun W => Lib.run_eql_slice_nil W _ _ _ _ _ _ _ Try.underlying33
  go_enter Try.func21, Try.ntmps21
  go_wp2
  go_ret
  exact ⟨rfl, rfl⟩

set_option maxHeartbeats 1000000 in
/-- zzb1Clone of a slice that is not nil: a row of its own at the heap's end. -/
theorem clone_some (x : Addr) (n cap : Nat) (S : Nat → ByteArray) (w : World) (hS : StrsAt w (some x) n S) (hn : n ≤ 65536) :
    Calls Try.prog 21 #[.slice (some x) n cap] w fun e w' =>
      e = .returned (.slice (some ⟨w.heap.size, 0, none⟩) n n) ∧ w'.rowIs w.heap.size 9 n (fun i => .string (S i)) ∧ Below w.heap.size w w' := by
  have hnil : ∀ W, (binOp .eql 33 (.slice (some x) n cap) (.slice none 0 0)).run Try.prog W = .ok (.bool false) W :=
    fun W => Lib.run_eql_slice_nil W _ _ _ _ _ _ _ Try.underlying33
  have hmk := run_make_row' (P := Try.prog) 33 9 (.string ByteArray.empty) 16 Try.underlying33 info9 rfl .i64 .i64 n (by omega) (by omega)
  go_enter Try.func21, Try.ntmps21
  go_wp2
  go_loopw [4] (fun i wr => ∃ k : Nat, k ≤ n ∧ i = .int .i64 k ∧ wr.rowIs w.heap.size 9 n (fun j => if j < k then .string (S j) else .string ByteArray.empty) ∧ Below w.heap.size w wr)
    (fun i _ => n - (intOf i).toNat)
  case atStart => exact ⟨0, Nat.zero_le _, rfl, by simpa using World.rowIs_made _ _ _ _, (Below.refl _ _).alloc (Nat.le_refl _) _⟩
  case round =>
    obtain ⟨k, hk, rfl, hrow, hbel⟩ := hrel
    clear hmk hnil
    by_cases hlt : k < n
    · obtain ⟨b, o, ha, hc⟩ := (hS.below hbel) k hlt
      simp only [Option.some.injEq] at ha
      subst ha
      have hr := hrow.cell hlt
      have hf := hrow.frozen k
      simp only [Nat.lt_irrefl, if_false] at hr
      have hrow' := (hrow.set k (.string (S k))).congr (g := fun j => if j < k + 1 then .string (S j) else .string ByteArray.empty) (set_step S _ k)
      have hbel' := hbel.setCell (p := ⟨w.heap.size, k, none⟩) (Nat.le_refl _) (.string (S k))
      clear hS
      have HR : Hid _ := hrow'
      clear hrow'
      clear hrow
      go_wp2
      go_roundw
      case rel => exact ⟨k + 1, by omega, by go_num, HR.out, hbel'⟩
      case measure => simp [intOf]; omega
    · have e : k = n := by omega
      subst e
      have hrow' : Hid _ := hrow.congr (g := fun j => .string (S j)) (by intro j hj; simp [hj])
      clear hrow hS
      go_wp2
      go_ret
      exact ⟨rfl, hrow'.out, hbel⟩

/-- What the binary search has ruled out. -/
def Ruled (L : List ByteArray) (x : ByteArray) (lo hi : Nat) : Prop := (∀ i, i < lo → Lt (get L i) x) ∧ ∀ i, hi ≤ i → i < L.length → ¬ Lt (get L i) x

theorem ruled_has {L : List ByteArray} (hA : Asc L) {x : ByteArray} {lo : Nat} (h : Ruled L x lo lo) : has L x = (decide (lo < L.length) && ((get L lo).toList == x.toList)) := by
  by_cases hl : lo < L.length
  · by_cases he : get L lo = x
    · rw [has_iff.2 (he ▸ get_mem hl), seq_true he]; simp [hl]
    · rw [seq_false he]
      simp only [Bool.and_false]
      refine has_false fun hm => ?_
      obtain ⟨i, hi, e⟩ := List.getElem_of_mem hm
      rw [← get_eq hi] at e
      by_cases h1 : i < lo
      · exact Lt.irrefl _ (e ▸ h.1 i h1)
      · have h2 : Lt x (get L lo) := Lt.tri he (h.2 lo (Nat.le_refl _) hl)
        by_cases h3 : i = lo
        · exact he (h3 ▸ e)
        · exact Lt.irrefl _ (e ▸ (h2.trans (hA.get (show lo < i by omega) hi)))
  · simp only [hl, decide_false, Bool.false_and]
    refine has_false fun hm => ?_
    obtain ⟨i, hi, e⟩ := List.getElem_of_mem hm
    rw [← get_eq hi] at e
    exact Lt.irrefl _ (e ▸ h.1 i (by omega))

set_option maxHeartbeats 1000000 in
/-- zzb1Has: binary search in a strictly ascending list. -/
theorem has_any (a : Option Addr) (n cap : Nat) (L : List ByteArray) (x : ByteArray) (w : World) (hL : L.length = n) (hA : Asc L) (hS : StrsAt w a n (get L)) (hn : n ≤ 65536) :
    Calls Try.prog 42 #[.slice a n cap, .string x] w fun e w' => e = .returned (.bool (has L x)) ∧ w' = w := by
  have HL : Hid (L.length = n) := hL
  have HA : Hid (Asc L) := hA
  clear hL hA
  go_enter Try.func42, Try.ntmps42
  go_wp2
  go_loop [5, 6] (fun l h => ∃ lo hi : Nat, l = .int .i64 lo ∧ h = .int .i64 hi ∧ lo ≤ hi ∧ hi ≤ n ∧ Hid (Ruled L x lo hi)) (fun l h => (intOf h).toNat - (intOf l).toNat)
  case atStart => exact ⟨0, n, rfl, rfl, Nat.zero_le _, Nat.le_refl _, fun i hi => by omega, fun i h1 h2 => by have := HL.out; omega⟩
  case round =>
    obtain ⟨lo, hi, rfl, rfl, hle, hhn, hru⟩ := hrel
    by_cases hlt : lo < hi
    · obtain ⟨m, hm⟩ : ∃ m : Nat, m = lo + (hi - lo) / 2 := ⟨_, rfl⟩
      have hml : lo ≤ m := by omega
      have hmh : m < hi := by omega
      have hmi : (lo : Int) + ((hi : Int) - (lo : Int)) / 2 = (m : Int) := by omega
      obtain ⟨b, o, rfl, hc⟩ := hS m (by omega)
      clear hS hm
      by_cases hb : Lt (get L m) x
      · have hlb : Op.bytesLess (get L m).toList x.toList = true := hb
        have hru' : Hid (Ruled L x (m + 1) hi) := by
          refine ⟨fun i hi => ?_, hru.out.2⟩
          by_cases e : i = m
          · exact e ▸ hb
          · exact (HA.out.get (show i < m by omega) (by have := HL.out; omega)).trans hb
        clear hb hru
        go_wp2
        go_round
        case rel => exact ⟨m + 1, hi, by go_num, rfl, by omega, hhn, hru'⟩
        case measure => simp [intOf]; omega
      · have hlb : Op.bytesLess (get L m).toList x.toList = false := Lt.bool_false hb
        have hru' : Hid (Ruled L x lo m) := by
          refine ⟨hru.out.1, fun i h1 h2 h3 => ?_⟩
          by_cases e : i = m
          · exact hb (e ▸ h3)
          · exact hb ((HA.out.get (show m < i by omega) h2).trans h3)
        clear hb hru
        go_wp2
        go_round
        case rel => exact ⟨lo, m, rfl, rfl, by omega, by omega, hru'⟩
        case measure => simp [intOf]; omega
    · have e : hi = lo := by omega
      subst e
      have hh := ruled_has HA.out hru.out
      rw [HL.out] at hh
      have HH : Hid (has L x = (decide (hi < n) && ((get L hi).toList == x.toList))) := hh
      clear hh hru
      by_cases hl : hi < n
      · obtain ⟨b, o, rfl, hc⟩ := hS hi hl
        clear hS
        go_wp2
        go_ret
        exact ⟨by rw [HH.out]; simp [hl], rfl⟩
      · clear hS
        go_wp2
        go_ret
        exact ⟨by rw [HH.out]; simp [hl], rfl⟩

set_option maxHeartbeats 1000000 in
set_option maxRecDepth 100000 in
/-- internal/bytealg.CompareString. -/
theorem compareString_any (a b : ByteArray) (w : World) :
    Calls Try.prog 47 #[.string a, .string b] w fun e w' => e = .returned (.int .i64 (Lib.compareBytes a.data.toList b.data.toList)) ∧ w' = w := by
  go_enter Try.func47, Try.ntmps47
  go_wp2
  rw [run_callFunc_extern Try.func48 (by kernel_rfl) (by kernel_rfl) (by kernel_rfl) (e := Extern.BytealgCompare.compare) (by kernel_rfl), Lib.run_compareString]
  simp only [Result.andThen]
  rw [Oper.upon_value]
  go_wp2
  go_ret
  exact ⟨rfl, rfl⟩

/-- strings.Compare. -/
theorem compare_any (a b : ByteArray) (w : World) :
    Calls Try.prog 45 #[.string a, .string b] w fun e w' => e = .returned (.int .i64 (Lib.compareBytes a.data.toList b.data.toList)) ∧ w' = w := by
  go_enter Try.func45, Try.ntmps45
  go_wp2_with (go_at_call 47; refine (compareString_any _ _ _).mono ?_; rintro e w' ⟨rfl, rfl⟩)
  go_ret
  exact ⟨rfl, rfl⟩

end Go.Proofs.Qxb6602261a.Nm
