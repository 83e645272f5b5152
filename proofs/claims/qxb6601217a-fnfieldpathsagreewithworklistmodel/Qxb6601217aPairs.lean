/- Rows of pairs: what they hold; faultsCloneEntries at once. -/
import Derived.Test.Qxb6601217aFit
namespace Go.Proofs.Qxb6601217a.Tr
open Go.RowKit

def LawIs (w : World) (e : Ending) (w' : World) : Prop := e = .returned (.bool true) ∧ Below w.heap.size w w'

theorem prs_get : ∀ (E : List (ByteArray × Int)) (i : Nat) (q : ByteArray × Int), E[i]? = some q → (prs E)[i * 2]? = some (.string q.1) ∧ (prs E)[i * 2 + 1]? = some (.int .i64 q.2)
  | [], i, q, h => by simp at h
  | x :: E, 0, q, h => by
    have e : x = q := by simpa using h
    subst e
    exact ⟨rfl, rfl⟩
  | x :: E, i + 1, q, h => by
    have h' : E[i]? = some q := by simpa using h
    obtain ⟨h1, h2⟩ := prs_get E i q h'
    have e : prs (x :: E) = .string x.1 :: .int .i64 x.2 :: prs E := rfl
    rw [e, show (i + 1) * 2 = i * 2 + 1 + 1 by omega]
    exact ⟨by simpa using h1, by simpa using h2⟩
/-- What a row of the call's own holds at place i. -/
theorem Own2.get {e : TypeId} {w : World} {B : Nat} {v : Value} {E : List (ByteArray × Int)} (h : Own2 e w B v E) : ∃ a c, v = .slice a E.length c ∧ (∀ g o, a = some ⟨g, o, none⟩ → B ≤ g ∧ g < w.heap.size) ∧
    ∀ i q, E[i]? = some q → ∃ g, a = some ⟨g, 0, none⟩ ∧ w.cell? ⟨g, i * 2, none⟩ = some (.string q.1) ∧ w.cell? ⟨g, i * 2 + 1, none⟩ = some (.int .i64 q.2) := by
  rcases h.2 with ⟨hv, hn⟩ | ⟨g, cap, cur, hv, hg, hh, r⟩
  · have hE : E = [] := List.eq_nil_of_length_eq_zero hn
    subst hE
    exact ⟨none, 0, hv, fun g o h => (by cases h), fun i q h => (by simp at h)⟩
  · have hb : v.ownBlock = some g := by rw [hv]; rfl
    refine ⟨some ⟨g, 0, none⟩, cap, hv, fun g' o h' => ?_, fun i q hq => ⟨g, rfl, ?_, ?_⟩⟩
    · cases h'
      exact World.ownsRow.lt h _ hb
    · have := World.ownsRow.cells h hb _ _ (prs_get E i q hq).1
      have ha : (⟨g, 0, none⟩ : Addr).add (i * 2) = ⟨g, i * 2, none⟩ := by unfold Addr.add; split <;> simp_all
      rwa [ha] at this
    · have := World.ownsRow.cells h hb _ _ (prs_get E i q hq).2
      have ha : (⟨g, 0, none⟩ : Addr).add (i * 2 + 1) = ⟨g, i * 2 + 1, none⟩ := by unfold Addr.add; split <;> simp_all
      rwa [ha] at this
theorem Row2.own {e : TypeId} {w : World} {g n B : Nat} {F : Nat → ByteArray × Int} (h : Row2 e w g n n F) (hB : B ≤ g) (hn : n ≤ maxLen) : Own2 e w B (.slice (some ⟨g, 0, none⟩) n n) ((List.range n).map F) := by
  obtain ⟨f, ⟨cs, hh, hs, hc⟩, hf⟩ := h
  have hl : ((List.range n).map F).length = n := by simp
  refine ⟨prs_length _, .inr ⟨g, n, cs, by rw [hl], hB, hh, by rw [hl]; exact Nat.le_refl _, hn, hs, ?_⟩⟩
  rw [hl]
  apply List.ext_getElem?
  intro j
  by_cases hj : j < n * 2
  · rw [List.getElem?_take_of_lt hj]
    have hi : j / 2 < n := by omega
    have hq : ((List.range n).map F)[j / 2]? = some (F (j / 2)) := by simp [hi]
    obtain ⟨h1, h2⟩ := prs_get _ _ _ hq
    have h3 := hc j hj
    rw [Array.getElem?_toList, h3]
    rcases (show j = j / 2 * 2 ∨ j = j / 2 * 2 + 1 by omega) with e | e
    · rw [e, h1, ← (hf _ hi).1]
    · rw [e, h2, ← (hf _ hi).2]
  · rw [List.getElem?_eq_none (by simp; omega), List.getElem?_eq_none (by rw [prs_length, hl]; omega)]
/-- The entries, copied: nil stays nil. -/
def EntsIs (w : World) (n : Nat) (F : Nat → ByteArray × Int) (e : Ending) (w' : World) : Prop := ∃ af cf, e = .returned (.slice af n cf) ∧ (af = none → n = 0 ∧ cf = 0) ∧ EntsAt w' af n F ∧ Below w.heap.size w w'
theorem entries_any (a : Option Addr) (n c : Nat) (F : Nat → ByteArray × Int) (w : World) (hn : n ≤ 1048576) (ha : a = none → n = 0 ∧ c = 0) (hF : EntsAt w a n F) :
    Calls Try.prog 10 #[.slice a n c] w fun e w' => EntsIs w n F e w' := by
  cases a with
  | none =>
    obtain ⟨rfl, rfl⟩ := ha rfl
    refine (entries_nil w).mono ?_
    rintro e w' ⟨rfl, rfl⟩
    exact ⟨none, 0, rfl, fun _ => ⟨rfl, rfl⟩, fun i hi => by omega, Below.refl _ _⟩
  | some ad =>
    refine (entries_some ad n c F w hn hF).mono ?_
    rintro e w' ⟨rfl, h1, h2⟩
    exact ⟨_, n, rfl, (fun h => by cases h), h1, h2⟩

end Go.Proofs.Qxb6601217a.Tr
