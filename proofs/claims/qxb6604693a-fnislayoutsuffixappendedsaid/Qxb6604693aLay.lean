import Derived.Test.Qxb6604693aRows
import Derived.WalkKit
import Derived.WalkSpells
import Derived.WalkLawsBesides
namespace Go.Proofs.Qxb6604693a
open Go.RowKit

/-- ends in '.html' -/
def lay (l : List UInt8) : Prop := [46, 104, 116, 109, 108] <:+ l

theorem ret_b {a b : Bool} (h : a = b) : Ending.returned (.bool a) = .returned (.bool b) := by rw [h]

theorem lay_test (s : ByteArray) (_hs : 5 ≤ s.size) : ((s.extract (s.size - 5) s.size).toList == [46, 104, 116, 109, 108]) = true ↔ lay s.data.toList := by
  unfold lay
  rw [List.suffix_iff_eq_drop, beq_iff_eq, ByteArray.toList_eq]
  have hl : s.data.toList.length = s.size := by simp
  have e : (s.extract (s.size - 5) s.size).data.toList = s.data.toList.drop (s.size - 5) := by
    rw [ByteArray.data_extract, Array.toList_extract]
    simp only [List.extract_eq_take_drop]
    rw [List.take_of_length_le]
    simp
  rw [e, hl]
  simp only [List.length_cons, List.length_nil]
  constructor <;> intro h <;> exact h.symm

set_option maxHeartbeats 400000 in
theorem suf_short (s : ByteArray) (w : World) (hs : s.size < 5) :
    Calls Try.prog 16 #[.string s, .string { data := #[46, 104, 116, 109, 108] }] w fun e w' => e = .returned (.bool false) ∧ w' = w := by
  go_enter Try.func16, Try.ntmps16
  go_wp2
  go_ret
  exact ⟨rfl, rfl⟩

set_option maxHeartbeats 400000 in
theorem suf_long (s : ByteArray) (w : World) (hs : 5 ≤ s.size) (hm : s.size ≤ 1000000) :
    Calls Try.prog 16 #[.string s, .string { data := #[46, 104, 116, 109, 108] }] w fun e w' => e = .returned (.bool ((s.extract (s.size - 5) s.size).toList == [46, 104, 116, 109, 108])) ∧ w' = w := by
  go_enter Try.func16, Try.ntmps16
  go_wp2
  go_ret
  exact ⟨rfl, rfl⟩

/-- HasSuffix, both answers -/
theorem suf_yes (s : ByteArray) (w : World) (hm : s.size ≤ 1000000) (h : lay s.data.toList) :
    Calls Try.prog 16 #[.string s, .string { data := #[46, 104, 116, 109, 108] }] w fun e w' => e = .returned (.bool true) ∧ w' = w := by
  have hs : 5 ≤ s.size := by have := h.length_le; simpa using this
  rw [← (lay_test s hs).2 h]
  exact suf_long s w hs hm
theorem suf_no (s : ByteArray) (w : World) (hm : s.size ≤ 1000000) (h : ¬ lay s.data.toList) :
    Calls Try.prog 16 #[.string s, .string { data := #[46, 104, 116, 109, 108] }] w fun e w' => e = .returned (.bool false) ∧ w' = w := by
  by_cases hs : 5 ≤ s.size
  · have e : ((s.extract (s.size - 5) s.size).toList == [46, 104, 116, 109, 108]) = false := by
      cases hb : ((s.extract (s.size - 5) s.size).toList == [46, 104, 116, 109, 108])
      · rfl
      · exact absurd ((lay_test s hs).1 hb) h
    rw [← e]
    exact suf_long s w hs hm
  · exact suf_short s w (by omega)

set_option maxHeartbeats 400000 in
theorem has_yes (s : ByteArray) (w : World) (hm : s.size ≤ 1000000) (h : Hid (lay s.data.toList)) :
    Calls Try.prog 15 #[.string s, .string { data := #[46, 104, 116, 109, 108] }] w fun e w' => e = .returned (.bool true) ∧ w' = w := by
  go_enter Try.func15, Try.ntmps15
  go_wp2_with (go_at_call 16; refine (suf_yes s _ hm h.out).mono ?_; rintro e w' ⟨rfl, rfl⟩)
  go_ret
  exact ⟨rfl, rfl⟩

set_option maxHeartbeats 400000 in
theorem ext_yes (s : ByteArray) (g : Nat) (w : World) (hm : s.size ≤ 1000000) (h : Hid (lay s.data.toList)) (hc : w.cell? ⟨g, 0, none⟩ = some (.string { data := #[46, 104, 116, 109, 108] })) :
    Calls Try.prog 14 #[.string s, .slice (some ⟨g, 0, none⟩) 1 1] w fun e w' => e = .returned (.bool true) ∧ w' = w := by
  go_enter Try.func14, Try.ntmps14
  go_wp2_with fail
  refine wp_loop_rounds 1 ?_
  rw [rounds_succ]
  go_wp2_with (go_at_call 15; refine (has_yes s _ hm h).mono ?_; rintro e w' ⟨rfl, rfl⟩)
  go_ret
  exact ⟨rfl, rfl⟩

set_option maxHeartbeats 400000 in
theorem lay_yes (s : ByteArray) (w : World) (hm : s.size ≤ 1000000) (h : Hid (lay s.data.toList)) :
    Calls Try.prog 11 #[.string s] w fun e w' => e = .returned (.bool true) ∧ Grown w w' := by
  have h13 : Calls Try.prog 13 #[.string s] w fun e w' => e = .returned (.bool true) ∧ Grown w w' := by
    go_enter Try.func13, Try.ntmps13
    go_wp2_with (go_at_call 14; refine (ext_yes s _ _ hm h (by simp)).mono ?_; rintro e w' ⟨rfl, rfl⟩)
    go_ret
    exact ⟨rfl, (Grown.refl _).alloc _ _⟩
  have H13 : Hid (Calls Try.prog 13 #[.string s] w fun e w' => e = .returned (.bool true) ∧ Grown w w') := h13
  clear h13
  go_enter Try.func11, Try.ntmps11
  go_wp2_with (go_at_call 13; refine H13.out.mono ?_; rintro e w' ⟨rfl, hg⟩)
  go_ret
  exact ⟨rfl, hg⟩

set_option maxHeartbeats 400000 in
theorem has_no (s : ByteArray) (w : World) (hm : s.size ≤ 1000000) (h : Hid (¬ lay s.data.toList)) :
    Calls Try.prog 15 #[.string s, .string { data := #[46, 104, 116, 109, 108] }] w fun e w' => e = .returned (.bool false) ∧ w' = w := by
  go_enter Try.func15, Try.ntmps15
  go_wp2_with (go_at_call 16; refine (suf_no s _ hm h.out).mono ?_; rintro e w' ⟨rfl, rfl⟩)
  go_ret
  exact ⟨rfl, rfl⟩

set_option maxHeartbeats 400000 in
theorem ext_no (s : ByteArray) (g : Nat) (w : World) (hm : s.size ≤ 1000000) (h : Hid (¬ lay s.data.toList)) (hc : w.cell? ⟨g, 0, none⟩ = some (.string { data := #[46, 104, 116, 109, 108] })) :
    Calls Try.prog 14 #[.string s, .slice (some ⟨g, 0, none⟩) 1 1] w fun e w' => e = .returned (.bool false) ∧ w' = w := by
  go_enter Try.func14, Try.ntmps14
  go_wp2_with fail
  refine wp_loop_rounds 2 ?_
  rw [rounds_succ]
  go_wp2_with (go_at_call 15; refine (has_no s _ hm h).mono ?_; rintro e w' ⟨rfl, rfl⟩)
  rw [rounds_succ]
  go_wp2_with fail
  go_ret
  exact ⟨rfl, rfl⟩

set_option maxHeartbeats 400000 in
theorem lay_no (s : ByteArray) (w : World) (hm : s.size ≤ 1000000) (h : Hid (¬ lay s.data.toList)) :
    Calls Try.prog 11 #[.string s] w fun e w' => e = .returned (.bool false) ∧ Grown w w' := by
  have h13 : Calls Try.prog 13 #[.string s] w fun e w' => e = .returned (.bool false) ∧ Grown w w' := by
    go_enter Try.func13, Try.ntmps13
    go_wp2_with (go_at_call 14; refine (ext_no s _ _ hm h (by simp)).mono ?_; rintro e w' ⟨rfl, rfl⟩)
    go_ret
    exact ⟨rfl, (Grown.refl _).alloc _ _⟩
  have H13 : Hid (Calls Try.prog 13 #[.string s] w fun e w' => e = .returned (.bool false) ∧ Grown w w') := h13
  clear h13
  go_enter Try.func11, Try.ntmps11
  go_wp2_with (go_at_call 13; refine H13.out.mono ?_; rintro e w' ⟨rfl, hg⟩)
  go_ret
  exact ⟨rfl, hg⟩

end Go.Proofs.Qxb6604693a
