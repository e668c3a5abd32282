import Derived.Test.Qxb6603603aRows
import Derived.WalkKit
import Derived.WalkSpells
import Derived.WalkLawsBesides
namespace Go.Proofs.Qxb6603603a
open Go.RowKit

/-- a byte that may stand in an unquoted name -/
def nameB (c : Int) : Bool := decide ((97 ≤ c ∧ c ≤ 122) ∨ (65 ≤ c ∧ c ≤ 90) ∨ (48 ≤ c ∧ c ≤ 57) ∨ c = 95 ∨ c = 36 ∨ 128 ≤ c)

theorem ret_bool {a b : Bool} (h : a = b) : Ending.returned (.bool a) = .returned (.bool b) := by rw [h]

set_option maxHeartbeats 400000 in
theorem name_any (c : Int) (w : World) :
    Calls Try.prog 18 #[.int .u8 c] w fun e w' => e = .returned (.bool (nameB c)) ∧ w' = w := by
  go_enter Try.func18, Try.ntmps18
  go_wp2
  all_goals
    go_ret
    refine ⟨ret_bool ?_, rfl⟩
    rw [Bool.eq_iff_iff]
    simp [nameB]
    try omega

theorem name_yes (c : Int) (w : World) (h : nameB c = true) : Calls Try.prog 18 #[.int .u8 c] w fun e w' => e = .returned (.bool true) ∧ w' = w := by
  rw [← h]; exact name_any c w
theorem name_no (c : Int) (w : World) (h : nameB c = false) : Calls Try.prog 18 #[.int .u8 c] w fun e w' => e = .returned (.bool false) ∧ w' = w := by
  rw [← h]; exact name_any c w
/-- the byte at place i, as a number -/
def byteAt (s : ByteArray) (i : Nat) : Int := if h : i < s.size then (s[i].toNat : Int) else 0

/-- the byte at p + 1 is taken -/
def tk (s : ByteArray) (p : Nat) : Prop :=
  nameB (byteAt s (p + 1)) = true ∨ byteAt s (p + 1) = 46 ∨ ((byteAt s (p + 1) = 43 ∨ byteAt s (p + 1) = 45) ∧ (byteAt s p = 101 ∨ byteAt s p = 69))

/-- skipNumberTail from p + 1 ends at r + 1 -/
structure Tail (s : ByteArray) (p r : Nat) : Prop where
  lo : p ≤ r
  hi : r < s.size
  all : ∀ i, p ≤ i → i < r → tk s i
  stop : r + 1 < s.size → ¬ tk s r

theorem tk_step {s : ByteArray} {p r : Nat} (h : Hid (∀ i, p ≤ i → i < r → tk s i)) (ht : tk s r) : Hid (∀ i, p ≤ i → i < r + 1 → tk s i) := fun i h1 h2 => by
  by_cases e : i = r
  · subst e; exact ht
  · exact h.out i h1 (by omega)

set_option maxHeartbeats 1000000 in
theorem skip_any (s : ByteArray) (p : Nat) (w : World) (hs : s.size ≤ maxLen) (hp : p < s.size) :
    Calls Try.prog 17 #[.string s, .int .i64 ((p : Int) + 1)] w fun e w' => (∃ r : Nat, e = .returned (.int .i64 ((r : Int) + 1)) ∧ Tail s p r) ∧ w' = w := by
  unfold maxLen at hs
  go_enter Try.func17, Try.ntmps17
  go_wp2
  go_loop [1] (fun e => ∃ r : Nat, p ≤ r ∧ r < s.size ∧ e = .int .i64 ((r : Int) + 1) ∧ Hid (∀ i, p ≤ i → i < r → tk s i)) (fun e => s.size - (intOf e).toNat)
  case atStart => exact ⟨p, by omega, by omega, rfl, fun i h1 h2 => by omega⟩
  case round =>
    obtain ⟨r, h1, h2, rfl, h3⟩ := hrel
    by_cases hlt : r + 1 < s.size
    · have hb : byteAt s (r + 1) = (s[r + 1].toNat : Int) := by simp [byteAt, hlt]
      have hb' : byteAt s r = (s[r].toNat : Int) := by simp [byteAt, h2]
      have HB : Hid (byteAt s (r + 1) = (s[r + 1].toNat : Int)) := hb
      have HB' : Hid (byteAt s r = (s[r].toNat : Int)) := hb'
      by_cases hn : nameB (byteAt s (r + 1)) = true
      · rw [hb] at hn
        clear hb hb'
        go_wp2_with (go_at_call 18; refine (name_yes _ _ hn).mono ?_; rintro e w' ⟨rfl, rfl⟩)
        all_goals
          refine ⟨⟨r + 1, by omega, by omega, by go_num, tk_step h3 (.inl (by rw [HB.out]; exact hn))⟩, ?_⟩
          simp [intOf]; omega
      · rw [hb] at hn
        have hn : nameB (s[r + 1].toNat : Int) = false := by simpa using hn
        clear hb hb'
        by_cases h69 : (s[r].toNat : Int) = 69
        all_goals go_wp2_with (go_at_call 18; refine (name_no _ _ hn).mono ?_; rintro e w' ⟨rfl, rfl⟩)
        all_goals first
          | (exfalso; rcases ‹(_ == _) = true ∨ (_ == _) = true› with h | h <;> simp at h <;> omega)
          | (refine ⟨⟨r + 1, by omega, by omega, by go_num, tk_step h3 (.inr (by rw [HB.out, HB'.out]; omega))⟩, ?_⟩
             simp [intOf]; omega)
          | (go_ret
             exact ⟨⟨r, rfl, h1, h2, h3, fun _ h => by
               rcases h with h | h
               · rw [HB.out, hn] at h; cases h
               · rw [HB.out, HB'.out] at h; omega⟩, rfl⟩)
    · go_wp2
      go_ret
      exact ⟨⟨r, rfl, h1, h2, h3, fun h => by omega⟩, rfl⟩
end Go.Proofs.Qxb6603603a
