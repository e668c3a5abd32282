import Derived.Test.Qxb6003438aRows
import Derived.Test.Qxb6003438aPlain
import Derived.WalkKit
import Derived.WalkSpells
import Derived.WalkLawsBesides
namespace Go.Proofs.Qxb6003438a
open Go.RowKit
open Plain

set_option maxHeartbeats 400000 in
theorem ve_dig (z : Nat → Int) (g a : Nat) (cont : Bool) (w : World) (ha : a < 20)
    (hc : ∀ j : Nat, j < 30 → w.cell? ⟨g, j, none⟩ = some (.int .u8 (z j)))
    (hd1 : 48 ≤ z a) (hd2 : z a ≤ 57) :
    Calls Try.prog 21 #[.pointer (some ⟨g, 0, none⟩), .int .u64 a, .bool cont] w fun e w' => (∃ r, e = .returned (.int .u64 r) ∧ VE z a cont r) ∧ w' = w := by
  have hm : (a : Int) % 20 = a := by omega
  have hca := hc a (by omega)
  have hca1 := hc (a+1) (by omega)
  clear hc
  go_enter Try.func21, Try.ntmps21
  go_wp2
  · go_ret
    refine ⟨⟨_, rfl, ?_⟩, rfl⟩
    right; left; exact ⟨⟨hd1, hd2⟩, by simp_all, rfl⟩
  · go_ret
    refine ⟨⟨_, rfl, ?_⟩, rfl⟩
    left; exact ⟨⟨hd1, hd2⟩, by simp_all, rfl⟩

set_option maxHeartbeats 400000 in
theorem ve_oth (z : Nat → Int) (g a : Nat) (cont : Bool) (w : World) (ha : a < 20)
    (hc : ∀ j : Nat, j < 30 → w.cell? ⟨g, j, none⟩ = some (.int .u8 (z j)))
    (hb0 : 0 ≤ z a) (hb1 : z a ≤ 255)
    (hd1 : ¬ dig (z a)) (hd2 : z a ≠ 105) :
    Calls Try.prog 21 #[.pointer (some ⟨g, 0, none⟩), .int .u64 a, .bool cont] w fun e w' => (∃ r, e = .returned (.int .u64 r) ∧ VE z a cont r) ∧ w' = w := by
  have hm : (a : Int) % 20 = a := by omega
  have hca := hc a (by omega)
  have hca1 := hc (a+1) (by omega)
  have hi : (z a == 105) = false := by simpa using hd2
  clear hc
  unfold dig at hd1
  have hd : z a < 48 ∨ 57 < z a := by omega
  have HD : Hid (z a < 48 ∨ 57 < z a) := hd
  clear hd1
  cases cont
  · rcases hd with hd | hd
    all_goals
      go_enter Try.func21, Try.ntmps21
      go_wp2
    all_goals
      go_ret
      exact ⟨⟨_, rfl, VE.none HD.out hd2 (.inl rfl)⟩, rfl⟩
  · rcases hd with hd | hd
    all_goals
      go_enter Try.func21, Try.ntmps21
      go_wp2
    all_goals
      go_ret
      refine ⟨⟨_, rfl, ?_⟩, rfl⟩
      first
        | exact VE.none HD.out hd2 (.inr (.inr ⟨‹_›, ‹_›⟩))
        | exact VE.box (by omega) (by simp_all)
        | exact VE.none HD.out hd2 (.inr (.inl (by simp_all)))

set_option maxHeartbeats 1000000 in
theorem ve_int (z : Nat → Int) (g a : Nat) (cont : Bool) (w : World) (ha : a < 20)
    (hc : ∀ j : Nat, j < 30 → w.cell? ⟨g, j, none⟩ = some (.int .u8 (z j)))
    (hz : ∀ j : Nat, j < 30 → 0 ≤ z j ∧ z j ≤ 255) (hi : z a = 105) (hn : z (a + 1) ≠ 45) :
    Calls Try.prog 21 #[.pointer (some ⟨g, 0, none⟩), .int .u64 a, .bool cont] w fun e w' => (∃ r, e = .returned (.int .u64 r) ∧ VE z a cont r) ∧ w' = w := by
  have hm : (a : Int) % 20 = a := by omega
  have hca := hc a (by omega)
  have hca1 := hc (a + 1) (by omega)
  have hca2 := hc (a + 2) (by omega)
  have hne : (z (a + 1) == 45) = false := by simpa using hn
  have HC : Hid (∀ j : Nat, j < 30 → w.cell? ⟨g, j, none⟩ = some (.int .u8 (z j))) := hc
  have HZ : Hid (∀ j : Nat, j < 30 → 0 ≤ z j ∧ z j ≤ 255) := hz
  clear hc hz
  rw [hi] at hca
  have HI : Hid (z a = 105) := hi
  clear hi
  go_enter Try.func21, Try.ntmps21
  go_wp2
  go_loop [9] (fun e => ∃ en : Nat, a + 1 ≤ en ∧ en ≤ a + 9 ∧ e = .int .u64 (en : Int) ∧ Hid (∀ j, a + 1 ≤ j → j < en → dig (z j))) (fun e => a + 9 - (intOf e).toNat)
  case atStart => exact ⟨a + 1, by omega, by omega, by go_num, fun j h1 h2 => by omega⟩
  case round =>
    obtain ⟨en, he1, he2, rfl, hdg⟩ := hrel
    have hce := HC.out en (by omega)
    have hze := HZ.out en (by omega)
    obtain ⟨hz0, hz1⟩ := hze
    by_cases hlt : en < a + 9
    · by_cases hd : 48 ≤ z en
      · by_cases hd' : z en ≤ 57
        · go_wp2
          go_round
          case rel => exact ⟨en + 1, by omega, by omega, by go_num, fun j h1 h2 => by
            by_cases e : j = en
            · subst e; exact ⟨hd, hd'⟩
            · exact hdg j h1 (by omega)⟩
          case measure => simp [intOf]; omega
        · have hr : RunEnd z (a + 1) en := ⟨he1, he2, hdg, fun _ h => hd' h.2⟩
          have HR : Hid (RunEnd z (a + 1) en) := hr
          clear hr
          have hd3 : 57 < z en := by omega
          clear hd'
          go_wp2
          all_goals
            go_ret
            first
              | exact ⟨⟨_, rfl, VE.int0 HI.out (.inl ⟨rfl, hn⟩) HR.out (by unfold Bad; omega)⟩, rfl⟩
              | exact ⟨⟨_, rfl, VE.int1 HI.out (.inl ⟨rfl, hn⟩) HR.out (by unfold Bad; omega)⟩, rfl⟩
              | (exfalso; rcases ‹(_ == _) = true ∨ _› with h | h <;> (try simp at h) <;> omega)

      · have hr : RunEnd z (a + 1) en := ⟨he1, he2, hdg, fun _ h => hd h.1⟩
        have HR : Hid (RunEnd z (a + 1) en) := hr
        clear hr
        have hd3 : z en < 48 := by omega
        clear hd
        go_wp2
        all_goals
          go_ret
          first
            | exact ⟨⟨_, rfl, VE.int0 HI.out (.inl ⟨rfl, hn⟩) HR.out (by unfold Bad; omega)⟩, rfl⟩
            | exact ⟨⟨_, rfl, VE.int1 HI.out (.inl ⟨rfl, hn⟩) HR.out (by unfold Bad; omega)⟩, rfl⟩
            | (exfalso; rcases ‹(_ == _) = true ∨ _› with h | h <;> (try simp at h) <;> omega)

    · have hr : RunEnd z (a + 1) en := ⟨he1, he2, hdg, fun h => by omega⟩
      have HR : Hid (RunEnd z (a + 1) en) := hr
      clear hr
      go_wp2
      all_goals
        go_ret
        first
          | exact ⟨⟨_, rfl, VE.int0 HI.out (.inl ⟨rfl, hn⟩) HR.out (by unfold Bad; omega)⟩, rfl⟩
          | exact ⟨⟨_, rfl, VE.int1 HI.out (.inl ⟨rfl, hn⟩) HR.out (by unfold Bad; omega)⟩, rfl⟩
          | (exfalso; rcases ‹(_ == _) = true ∨ _› with h | h <;> (try simp at h) <;> omega)


set_option maxHeartbeats 1000000 in
theorem ve_neg (z : Nat → Int) (g a : Nat) (cont : Bool) (w : World) (ha : a < 20)
    (hc : ∀ j : Nat, j < 30 → w.cell? ⟨g, j, none⟩ = some (.int .u8 (z j)))
    (hz : ∀ j : Nat, j < 30 → 0 ≤ z j ∧ z j ≤ 255) (hi : z a = 105) (hn : z (a + 1) = 45) :
    Calls Try.prog 21 #[.pointer (some ⟨g, 0, none⟩), .int .u64 a, .bool cont] w fun e w' => (∃ r, e = .returned (.int .u64 r) ∧ VE z a cont r) ∧ w' = w := by
  have hm : (a : Int) % 20 = a := by omega
  have hca := hc a (by omega)
  have hca1 := hc (a + 1) (by omega)
  have hca2 := hc (a + 2) (by omega)
  have HN : Hid (z (a + 1) = 45) := hn
  have hne : w.cell? ⟨g, a + 1, none⟩ = some (.int .u8 45) := by rw [hca1, hn]
  clear hca1
  have HC : Hid (∀ j : Nat, j < 30 → w.cell? ⟨g, j, none⟩ = some (.int .u8 (z j))) := hc
  have HZ : Hid (∀ j : Nat, j < 30 → 0 ≤ z j ∧ z j ≤ 255) := hz
  clear hc hz
  rw [hi] at hca
  have HI : Hid (z a = 105) := hi
  clear hi hn
  go_enter Try.func21, Try.ntmps21
  go_wp2
  go_loop [9] (fun e => ∃ en : Nat, a + 2 ≤ en ∧ en ≤ a + 10 ∧ e = .int .u64 (en : Int) ∧ Hid (∀ j, a + 2 ≤ j → j < en → dig (z j))) (fun e => a + 10 - (intOf e).toNat)
  case atStart => exact ⟨a + 2, by omega, by omega, by go_num, fun j h1 h2 => by omega⟩
  case round =>
    obtain ⟨en, he1, he2, rfl, hdg⟩ := hrel
    have hce := HC.out en (by omega)
    have hze := HZ.out en (by omega)
    obtain ⟨hz0, hz1⟩ := hze
    by_cases hlt : en < a + 10
    · by_cases hd : 48 ≤ z en
      · by_cases hd' : z en ≤ 57
        · go_wp2
          go_round
          case rel => exact ⟨en + 1, by omega, by omega, by go_num, fun j h1 h2 => by
            by_cases e : j = en
            · subst e; exact ⟨hd, hd'⟩
            · exact hdg j h1 (by omega)⟩
          case measure => simp [intOf]; omega
        · have hr : RunEnd z (a + 2) en := ⟨he1, he2, hdg, fun _ h => hd' h.2⟩
          have HR : Hid (RunEnd z (a + 2) en) := hr
          clear hr
          have hd3 : 57 < z en := by omega
          clear hd'
          go_wp2
          all_goals
            go_ret
            first
              | exact ⟨⟨_, rfl, VE.int0 HI.out (.inr ⟨rfl, HN.out⟩) HR.out (by unfold Bad; omega)⟩, rfl⟩
              | exact ⟨⟨_, rfl, VE.int1 HI.out (.inr ⟨rfl, HN.out⟩) HR.out (by unfold Bad; omega)⟩, rfl⟩
              | (exfalso; rcases ‹(_ == _) = true ∨ _› with h | h <;> (try simp at h) <;> omega)

      · have hr : RunEnd z (a + 2) en := ⟨he1, he2, hdg, fun _ h => hd h.1⟩
        have HR : Hid (RunEnd z (a + 2) en) := hr
        clear hr
        have hd3 : z en < 48 := by omega
        clear hd
        go_wp2
        all_goals
          go_ret
          first
            | exact ⟨⟨_, rfl, VE.int0 HI.out (.inr ⟨rfl, HN.out⟩) HR.out (by unfold Bad; omega)⟩, rfl⟩
            | exact ⟨⟨_, rfl, VE.int1 HI.out (.inr ⟨rfl, HN.out⟩) HR.out (by unfold Bad; omega)⟩, rfl⟩
            | (exfalso; rcases ‹(_ == _) = true ∨ _› with h | h <;> (try simp at h) <;> omega)

    · have hr : RunEnd z (a + 2) en := ⟨he1, he2, hdg, fun h => by omega⟩
      have HR : Hid (RunEnd z (a + 2) en) := hr
      clear hr
      go_wp2
      all_goals
        go_ret
        first
          | exact ⟨⟨_, rfl, VE.int0 HI.out (.inr ⟨rfl, HN.out⟩) HR.out (by unfold Bad; omega)⟩, rfl⟩
          | exact ⟨⟨_, rfl, VE.int1 HI.out (.inr ⟨rfl, HN.out⟩) HR.out (by unfold Bad; omega)⟩, rfl⟩
          | (exfalso; rcases ‹(_ == _) = true ∨ _› with h | h <;> (try simp at h) <;> omega)


/-- valueEnd, for every window and every start below 20 -/
theorem ve_any (z : Nat → Int) (g a : Nat) (cont : Bool) (w : World) (ha : a < 20)
    (hc : ∀ j : Nat, j < 30 → w.cell? ⟨g, j, none⟩ = some (.int .u8 (z j)))
    (hz : ∀ j : Nat, j < 30 → 0 ≤ z j ∧ z j ≤ 255) :
    Calls Try.prog 21 #[.pointer (some ⟨g, 0, none⟩), .int .u64 a, .bool cont] w fun e w' => (∃ r, e = .returned (.int .u64 r) ∧ VE z a cont r) ∧ w' = w := by
  by_cases h1 : dig (z a)
  · exact ve_dig z g a cont w ha hc h1.1 h1.2
  · by_cases h2 : z a = 105
    · by_cases h3 : z (a + 1) = 45
      · exact ve_neg z g a cont w ha hc hz h2 h3
      · exact ve_int z g a cont w ha hc hz h2 h3
    · exact ve_oth z g a cont w ha hc (hz a (by omega)).1 (hz a (by omega)).2 h1 h2

end Go.Proofs.Qxb6003438a
