import Derived.Test.Qxb6604693aLay
namespace Go.Proofs.Qxb6604693a
open Go.RowKit

theorem grown_trans {a b c : World} (h : Grown a b) (k : Grown b c) : Grown a c := by
  refine ⟨World.keptBut_trans h.1 ?_, fun x => (k.2.1 x).trans (h.2.1 x), Nat.le_trans h.2.2 k.2.2⟩
  exact k.1

theorem cat_data (a b : ByteArray) : (a ++ b).data.toList = a.data.toList ++ b.data.toList := by simp
theorem cat_size (a b : ByteArray) : (a ++ b).size = a.size + b.size := by simp

theorem cat_le (s p : ByteArray) (hs : s.size ≤ 524288) (hp : p.size ≤ 10) : (s ++ p).size ≤ 1000000 := by rw [cat_size]; omega
theorem cat_le' (s p : ByteArray) (hs : s.size ≤ 524288) (hp : p.size ≤ 10) : (p ++ s).size ≤ 1000000 := by rw [cat_size]; omega

theorem lay_self (s : ByteArray) : lay (s ++ { data := #[46, 104, 116, 109, 108] } : ByteArray).data.toList := by
  rw [cat_data]; exact ⟨s.data.toList, rfl⟩

theorem lay_last (l t : List UInt8) (x : UInt8) (hx : x ≠ 108) : ¬ lay (l ++ (t ++ [x])) := by
  rintro ⟨r, hr⟩
  have h := congrArg List.getLast? hr
  rw [← List.append_assoc, List.getLast?_append, List.getLast?_append] at h
  simp at h
  exact hx h.symm

theorem lay_htm (s : ByteArray) : ¬ lay (s ++ { data := #[46, 104, 116, 109] } : ByteArray).data.toList := by
  rw [cat_data]; exact lay_last _ [46, 104, 116] 109 (by decide)
theorem lay_HTML (s : ByteArray) : ¬ lay (s ++ { data := #[46, 72, 84, 77, 76] } : ByteArray).data.toList := by
  rw [cat_data]; exact lay_last _ [46, 72, 84, 77] 76 (by decide)
theorem lay_htmlx (s : ByteArray) : ¬ lay (s ++ { data := #[46, 104, 116, 109, 108, 120] } : ByteArray).data.toList := by
  rw [cat_data]; exact lay_last _ [46, 104, 116, 109, 108] 120 (by decide)
theorem lay_front (s : ByteArray) (hs : 5 ≤ s.size) : lay ({ data := #[46, 104, 116, 109, 108] } ++ s : ByteArray).data.toList ↔ lay s.data.toList := by
  rw [cat_data]
  unfold lay
  constructor
  · intro h
    refine List.suffix_of_suffix_length_le h (List.suffix_append _ _) ?_
    have : s.data.toList.length = s.size := by simp
    rw [this]; exact hs
  · intro h
    exact h.trans (List.suffix_append _ _)

set_option maxHeartbeats 400000 in
theorem bytes_yes (s : ByteArray) (w : World) (hs : s.size ≤ 1048576) :
    Calls Try.prog 10 #[.string s] w fun e w' => e = .returned (.bool true) ∧ w' = w := by
  have h : (s.size : Int) ≤ 1048576 := by omega
  go_enter Try.func10, Try.ntmps10
  go_wp2
  go_ret
  exact ⟨rfl, rfl⟩

set_option maxHeartbeats 400000 in
theorem bytes_no (s : ByteArray) (w : World) (hs : 1048576 < s.size) :
    Calls Try.prog 10 #[.string s] w fun e w' => e = .returned (.bool false) ∧ w' = w := by
  have h : (1048576 : Int) < (s.size : Int) := by omega
  go_enter Try.func10, Try.ntmps10
  go_wp2
  go_ret
  exact ⟨rfl, rfl⟩

set_option maxHeartbeats 400000 in
theorem law_big (s : ByteArray) (w : World) (hs : 524288 < s.size) :
    Calls Try.prog 5 #[.string s] w fun e w' => e = .returned (.bool true) ∧ Grown w w' := by
  by_cases h2 : s.size ≤ 1048576
  · go_enter Try.func5, Try.ntmps5
    go_wp2_with (go_at_call 10; refine (bytes_yes s _ h2).mono ?_; rintro e w' ⟨rfl, rfl⟩)
    go_ret
    exact ⟨rfl, Grown.refl _⟩
  · go_enter Try.func5, Try.ntmps5
    go_wp2_with (go_at_call 10; refine (bytes_no s _ (by omega)).mono ?_; rintro e w' ⟨rfl, rfl⟩)
    go_ret
    exact ⟨rfl, Grown.refl _⟩

set_option maxHeartbeats 1000000 in
theorem law_in (s : ByteArray) (w : World) (hs : s.size ≤ 524288) :
    Calls Try.prog 5 #[.string s] w fun e w' => e = .returned (.bool true) ∧ Grown w w' := by
  go_enter Try.func5, Try.ntmps5
  go_wp2_with (first | (go_at_call 10; refine (bytes_yes s _ (by omega)).mono ?_; rintro e w' ⟨rfl, rfl⟩) | (go_at_call 11; fail))
  refine (lay_yes _ _ (cat_le _ _ hs (by decide)) (lay_self s)).mono ?_
  rintro e w1 ⟨rfl, g1⟩
  go_wp2_with (go_at_call 11; fail)
  refine (lay_no _ _ (cat_le _ _ hs (by decide)) (lay_htm s)).mono ?_
  rintro e w2 ⟨rfl, g2⟩
  go_wp2_with (go_at_call 11; fail)
  refine (lay_no _ _ (cat_le _ _ hs (by decide)) (lay_HTML s)).mono ?_
  rintro e w3 ⟨rfl, g3⟩
  go_wp2_with (go_at_call 11; fail)
  refine (lay_no _ _ (cat_le _ _ hs (by decide)) (lay_htmlx s)).mono ?_
  rintro e w4 ⟨rfl, g4⟩
  have G := grown_trans (grown_trans (grown_trans g1 g2) g3) g4
  have HG : Hid (Grown _ w4) := G
  clear g1 g2 g3 g4 G
  by_cases h5 : s.size < 5
  · go_wp2_with fail
    go_ret
    exact ⟨rfl, HG.out⟩
  · by_cases hl : lay s.data.toList
    · have HL : Hid (lay s.data.toList) := hl
      clear hl
      go_wp2_with (go_at_call 11; fail)
      refine (lay_yes _ _ (cat_le' _ _ hs (by decide)) ((lay_front s (by omega)).2 HL.out)).mono ?_
      rintro e w5 ⟨rfl, g5⟩
      go_wp2_with (go_at_call 11; fail)
      refine (lay_yes s _ (by omega) HL).mono ?_
      rintro e w6 ⟨rfl, g6⟩
      go_wp2_with fail
      go_ret
      exact ⟨rfl, grown_trans (grown_trans HG.out g5) g6⟩
    · have HL : Hid (¬ lay s.data.toList) := hl
      clear hl
      go_wp2_with (go_at_call 11; fail)
      refine (lay_no _ _ (cat_le' _ _ hs (by decide)) (fun h => HL.out ((lay_front s (by omega)).1 h))).mono ?_
      rintro e w5 ⟨rfl, g5⟩
      go_wp2_with (go_at_call 11; fail)
      refine (lay_no s _ (by omega) HL).mono ?_
      rintro e w6 ⟨rfl, g6⟩
      go_wp2_with fail
      go_ret
      exact ⟨rfl, grown_trans (grown_trans HG.out g5) g6⟩
end Go.Proofs.Qxb6604693a
