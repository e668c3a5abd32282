import Derived.Test.Qxb6603603aSk
namespace Go.Proofs.Qxb6603603a
open Go.RowKit

theorem Tail.uniq {s : ByteArray} {p r r' : Nat} (h : Tail s p r) (h' : Tail s p r') : r = r' := by
  by_cases h1 : r < r'
  · exact absurd (h'.all r h.lo h1) (h.stop (by have := h'.hi; omega))
  · by_cases h2 : r' < r
    · exact absurd (h.all r' h'.lo h2) (h'.stop (by have := h.hi; omega))
    · omega

theorem size_cut (s : ByteArray) (q : Nat) (hq : q < s.size) : (s.extract 0 (q + 1)).size = q + 1 := by
  simp; omega

theorem byteAt_cut (s : ByteArray) (q i : Nat) (hq : q < s.size) (hi : i ≤ q) : byteAt (s.extract 0 (q + 1)) i = byteAt s i := by
  have h1 : i < min (q + 1) s.size := by omega
  have h2 : i < s.size := by omega
  simp [byteAt, h1, h2, ByteArray.getElem_extract]

theorem tk_cut (s : ByteArray) (q i : Nat) (hq : q < s.size) (hi : i < q) : tk (s.extract 0 (q + 1)) i ↔ tk s i := by
  unfold tk
  rw [byteAt_cut s q (i + 1) hq (by omega), byteAt_cut s q i hq (by omega)]

theorem Tail.cut {s : ByteArray} {p r q : Nat} (h : Tail s p r) (hp : p ≤ q) (hq : q < s.size) : Tail (s.extract 0 (q + 1)) p (if q < r then q else r) := by
  by_cases hr : q < r
  · rw [if_pos hr]
    exact ⟨hp, by rw [size_cut s q hq]; omega, fun i h1 h2 => (tk_cut s q i hq h2).2 (h.all i h1 (by omega)), fun h1 => by rw [size_cut s q hq] at h1; omega⟩
  · rw [if_neg hr]
    exact ⟨h.lo, by rw [size_cut s q hq]; omega, fun i h1 h2 => (tk_cut s q i hq (by omega)).2 (h.all i h1 h2), fun h1 => by
      rw [size_cut s q hq] at h1
      rw [tk_cut s q r hq (by omega)]
      exact h.stop (by omega)⟩

theorem Tail.again {s : ByteArray} {p r q : Nat} (h : Tail s p r) (hp : p ≤ q) (hq : q ≤ r) : Tail s q r :=
  ⟨hq, h.hi, fun i h1 h2 => h.all i (by omega) h2, h.stop⟩

theorem Tail.takes {s : ByteArray} {p r : Nat} (h : Tail s p r) (hp : p + 1 < s.size) (hd : (48 ≤ byteAt s (p + 1) ∧ byteAt s (p + 1) ≤ 57) ∨ byteAt s (p + 1) = 46) : p < r := by
  by_cases e : r = p
  · subst e
    refine absurd ?_ (h.stop hp)
    rcases hd with hd | hd
    · exact .inl (by simp [nameB]; omega)
    · exact .inr (.inl hd)
  · have := h.lo; omega

theorem Tail.takes' {s : ByteArray} {p r : Nat} (h : Tail s p r) (hp : p + 1 < s.size) (hd : (48 ≤ (s[p + 1].toNat : Int) ∧ (s[p + 1].toNat : Int) ≤ 57) ∨ ((s[p + 1].toNat : Int) == 46) = true) : p < r := by
  have e : byteAt s (p + 1) = (s[p + 1].toNat : Int) := by simp [byteAt, hp]
  refine h.takes hp ?_
  rw [e]
  rcases hd with hd | hd
  · exact .inl hd
  · exact .inr (by simpa using hd)

set_option maxHeartbeats 400000 in
theorem zskip (s : ByteArray) (p : Nat) (w : World) (hs : s.size ≤ maxLen) (hp : p < s.size) :
    Calls Try.prog 13 #[.string s, .int .i64 ((p : Int) + 1)] w fun e w' => (∃ r : Nat, e = .returned (.int .i64 ((r : Int) + 1)) ∧ Tail s p r) ∧ w' = w := by
  go_enter Try.func13, Try.ntmps13
  go_wp2_with (go_at_call 17; refine (skip_any s p _ hs hp).mono ?_; rintro e w' ⟨⟨r, rfl, hr⟩, rfl⟩)
  go_ret
  exact ⟨⟨r, rfl, hr⟩, rfl⟩

set_option maxHeartbeats 400000 in
theorem bytes_yes (s : ByteArray) (a b : Int) (w : World) (hs : s.size ≤ 1048576) :
    Calls Try.prog 12 #[.string s, .int .i64 a, .int .i64 b] w fun e w' => e = .returned (.bool true) ∧ w' = w := by
  have h : (s.size : Int) ≤ 1048576 := by omega
  go_enter Try.func12, Try.ntmps12
  go_wp2
  go_ret
  exact ⟨rfl, rfl⟩

set_option maxHeartbeats 400000 in
theorem bytes_no (s : ByteArray) (a b : Int) (w : World) (hs : 1048576 < s.size) :
    Calls Try.prog 12 #[.string s, .int .i64 a, .int .i64 b] w fun e w' => e = .returned (.bool false) ∧ w' = w := by
  have h : (1048576 : Int) < (s.size : Int) := by omega
  go_enter Try.func12, Try.ntmps12
  go_wp2
  go_ret
  exact ⟨rfl, rfl⟩

set_option maxHeartbeats 400000 in
theorem law_big (s : ByteArray) (a b : Int) (w : World) (hs : 1048576 < s.size) :
    Calls Try.prog 5 #[.string s, .int .i64 a, .int .i64 b] w fun e w' => e = .returned (.bool true) ∧ Grown w w' := by
  go_enter Try.func5, Try.ntmps5
  go_wp2_with (go_at_call 12; refine (bytes_no s a b _ hs).mono ?_; rintro e w' ⟨rfl, rfl⟩)
  go_ret
  exact ⟨rfl, Grown.refl _⟩

set_option maxHeartbeats 400000 in
theorem law_out (s : ByteArray) (a b : Int) (w : World) (hs : s.size ≤ 1048576) (ho : a < 1 ∨ (s.size : Int) < a ∨ b < a ∨ (s.size : Int) < b) :
    Calls Try.prog 5 #[.string s, .int .i64 a, .int .i64 b] w fun e w' => e = .returned (.bool true) ∧ Grown w w' := by
  have h : (s.size : Int) ≤ 1048576 := by omega
  go_enter Try.func5, Try.ntmps5
  go_wp2_with (first | (go_at_call 12; refine (bytes_yes s a b _ hs).mono ?_; rintro e w' ⟨rfl, rfl⟩) | (go_at_call 13; fail))
  all_goals first
    | (go_ret; exact ⟨rfl, Grown.refl _⟩)
    | (exfalso; omega)

set_option maxHeartbeats 1000000 in
theorem law_in (s : ByteArray) (p q : Nat) (w : World) (hs : s.size ≤ 1048576) (hpq : p ≤ q) (hq : q < s.size) :
    Calls Try.prog 5 #[.string s, .int .i64 ((p : Int) + 1), .int .i64 ((q : Int) + 1)] w fun e w' => e = .returned (.bool true) ∧ Grown w w' := by
  have h : (s.size : Int) ≤ 1048576 := by omega
  have h63 : s.size ≤ maxLen := by unfold maxLen; omega
  go_enter Try.func5, Try.ntmps5
  go_wp2_with (first | (go_at_call 12; refine (bytes_yes s _ _ _ hs).mono ?_; rintro e w' ⟨rfl, rfl⟩) | (go_at_call 13; fail))
  refine (zskip s p _ h63 (by omega)).mono ?_
  rintro e w' ⟨⟨r, rfl, hr⟩, rfl⟩
  have hr1 := hr.lo
  have hr2 := hr.hi
  have HR : Hid (Tail s p r) := hr
  clear hr
  have hcut : (s.extract 0 (q + 1)).size = q + 1 := size_cut s q hq
  have HCUT : Hid ((s.extract 0 (q + 1)).size = q + 1) := hcut
  clear hcut
  by_cases hqr : q < r
  · go_wp2_with (go_at_call 13; fail)
    refine (zskip (s.extract 0 (q + 1)) p _ (by rw [HCUT.out]; unfold maxLen; omega) (by rw [HCUT.out]; omega)).mono ?_
    rintro e w2 ⟨⟨r2, rfl, hr2'⟩, rfl⟩
    have e2 : q = r2 := by have := (HR.out.cut hpq hq).uniq hr2'; rwa [if_pos hqr] at this
    subst e2
    clear hr2'
    go_wp2_with (go_at_call 13; fail)
    refine (zskip s q _ h63 hq).mono ?_
    rintro e w3 ⟨⟨r3, rfl, hr3⟩, rfl⟩
    have e3 : r = r3 := (HR.out.again hpq (by omega)).uniq hr3
    subst e3
    clear hr3
    go_wp2
    all_goals
      go_ret
      exact ⟨rfl, Grown.refl _⟩
  · go_wp2_with (go_at_call 13; fail)
    refine (zskip (s.extract 0 (q + 1)) p _ (by rw [HCUT.out]; unfold maxLen; omega) (by rw [HCUT.out]; omega)).mono ?_
    rintro e w2 ⟨⟨r2, rfl, hr2'⟩, rfl⟩
    have e2 : r = r2 := by have := (HR.out.cut hpq hq).uniq hr2'; rwa [if_neg hqr] at this
    subst e2
    clear hr2'
    by_cases hqr2 : q = r
    · subst hqr2
      go_wp2_with (go_at_call 13; fail)
      refine (zskip s q _ h63 hq).mono ?_
      rintro e w3 ⟨⟨r3, rfl, hr3⟩, rfl⟩
      have e3 : q = r3 := (HR.out.again hpq (by omega)).uniq hr3
      subst e3
      clear hr3
      go_wp2
      all_goals first
        | (go_ret; exact ⟨rfl, Grown.refl _⟩)
        | exact absurd (HR.out.takes' (by omega) (.inl ⟨‹_›, ‹_›⟩)) (by omega)
        | exact absurd (HR.out.takes' (by omega) (.inr ‹_›)) (by omega)
        | (exfalso; rcases ‹_ ≤ (57 : Int) ∨ (_ == (46 : Int)) = true› with h | h <;> (try simp at h) <;> omega)
    · have hlt : r < q := by omega
      clear hqr hqr2
      go_wp2
      all_goals first
        | (go_ret; exact ⟨rfl, Grown.refl _⟩)
        | exact absurd (HR.out.takes' (by omega) (.inl ⟨‹_›, ‹_›⟩)) (by omega)
        | exact absurd (HR.out.takes' (by omega) (.inr ‹_›)) (by omega)
        | (exfalso; rcases ‹_ ≤ (57 : Int) ∨ (_ == (46 : Int)) = true› with h | h <;> (try simp at h) <;> omega)
end Go.Proofs.Qxb6603603a
