import Derived.Test.Qxb6003438aCan
namespace Go.Proofs.Qxb6003438a
open Go.RowKit
open Plain

theorem Try.len22 : Try.prog.arrayLen 22 = 30 := by kernel_rfl
theorem Try.elem22 : Try.prog.elem 22 = 5 := by kernel_rfl

theorem slice22 (g a e : Nat) (ha : a + 1 ≤ e) (he : e < 30) (W : World) : (Instr.sliceAt 22 (.pointer (some ⟨g, 0, none⟩)) (some (.int .u64 ((a : Int) + 1))) (some (.int .u64 (e : Int))) none).run Try.prog W = .ok (.slice (some ⟨g, a + 1, none⟩) (e - (a + 1)) (30 - (a + 1))) W := by
  rw [run_sliceAt_array_lh W 22 ⟨g, 0, none⟩ (by simp [Program.arrayLen, Program.elem, Try.underlying22]) .u64 .u64 ((a : Int) + 1) (e : Int) (by omega) (by omega) (by rw [Try.len22]; omega), Try.elem22, size5, Try.len22]
  have e1 : ((a : Int) + 1).toNat = a + 1 := by omega
  simp [slicedAt, Addr.add, e1, show ¬ 30 = a + 1 by omega]

set_option maxHeartbeats 400000 in
theorem canon_any (z : Nat → Int) (g b n cap : Nat) (w : World) (hn : n < cap) (hn30 : n ≤ 30)
    (hc : ∀ i, i < n → w.cell? ⟨g, b + i, none⟩ = some (.int .u8 (z (b + i)))) (hz : ∀ i, i < n → 0 ≤ z (b + i) ∧ z (b + i) ≤ 255) :
    Calls Try.prog 22 #[.slice (some ⟨g, b, none⟩) n cap] w fun e w' => BoolIs e (Plain.Can z b (b + n)) ∧ Below w.heap.size w w' := by
  by_cases h0 : n = 0
  · subst h0
    clear hc hz
    go_enter Try.func22, Try.ntmps22
    go_wp2
    go_ret
    refine ⟨BoolIs.no ?_, Below.refl _ _⟩
    unfold Plain.Can
    omega
  · by_cases h45 : z b = 45
    · obtain ⟨m, rfl⟩ : ∃ m, n = m + 1 := ⟨n - 1, by omega⟩
      exact canon_neg z g b m cap w hn hn30 hc hz h45
    · exact canon_pos z g b n cap w hn (by omega) hn30 hc hz h45

theorem ME.none {z : Nat → Int} {a : Nat} {cont : Bool} (h1 : z a < 48 ∨ 57 < z a) (h2 : z a ≠ 105) (h3 : cont = false ∨ z (a + 1) ≠ 101 ∨ (z a ≠ 108 ∧ z a ≠ 100)) : ME z a cont 0 := by
  refine .inr (.inr (.inr (.inr ⟨fun h => ?_, h2, fun h => ?_, rfl⟩)))
  · unfold dig at h; omega
  · obtain ⟨k1, k2, k3⟩ := h
    rcases h3 with h3 | h3 | h3
    · simp [h3] at k2
    · exact h3 k3
    · rcases k1 with k | k
      · exact h3.1 k
      · exact h3.2 k

theorem ME.box {z : Nat → Int} {a : Nat} (h1 : z a = 108 ∨ z a = 100) (h2 : z (a + 1) = 101) : ME z a true ((a : Int) + 2) :=
  .inr (.inr (.inr (.inl ⟨h1, rfl, h2, rfl⟩)))

set_option maxHeartbeats 400000 in
theorem me_dig (cs : Array Value) (z : Nat → Int) (a : Nat) (cont : Bool) (w : World) (ha : a < 20) (hw : Hid (Win cs z)) (hd1 : 48 ≤ z a) (hd2 : z a ≤ 57) :
    Calls Try.prog 11 #[.agg cs, .int .u64 a, .bool cont] w fun e w' => (∃ r, e = .returned (.int .u64 r) ∧ ME z a cont r) ∧ Below w.heap.size w w' := by
  have hca := hw.out.at_ a (by omega)
  have hca1 := hw.out.at_ (a + 1) (by omega)
  go_enter Try.func11, Try.ntmps11
  go_wp2
  all_goals
    go_ret
    refine ⟨⟨_, rfl, ?_⟩, (Below.refl _ _).alloc (Nat.le_refl _) _⟩
    first
      | exact .inl ⟨⟨hd1, hd2⟩, by simp_all, rfl⟩
      | exact .inr (.inl ⟨⟨hd1, hd2⟩, by simp_all, rfl⟩)

set_option maxHeartbeats 400000 in
theorem me_oth (cs : Array Value) (z : Nat → Int) (a : Nat) (cont : Bool) (w : World) (ha : a < 20) (hw : Hid (Win cs z)) (hd : z a < 48 ∨ 57 < z a) (hd2 : z a ≠ 105) :
    Calls Try.prog 11 #[.agg cs, .int .u64 a, .bool cont] w fun e w' => (∃ r, e = .returned (.int .u64 r) ∧ ME z a cont r) ∧ Below w.heap.size w w' := by
  have hca := hw.out.at_ a (by omega)
  have hca1 := hw.out.at_ (a + 1) (by omega)
  have hi : (z a == 105) = false := by simpa using hd2
  have HD : Hid (z a < 48 ∨ 57 < z a) := hd
  cases cont
  · rcases hd with hd | hd
    all_goals
      go_enter Try.func11, Try.ntmps11
      go_wp2
    all_goals
      go_ret
      exact ⟨⟨_, rfl, ME.none HD.out hd2 (.inl rfl)⟩, (Below.refl _ _).alloc (Nat.le_refl _) _⟩
  · rcases hd with hd | hd
    all_goals
      go_enter Try.func11, Try.ntmps11
      go_wp2
    all_goals
      go_ret
      refine ⟨⟨_, rfl, ?_⟩, (Below.refl _ _).alloc (Nat.le_refl _) _⟩
      first
        | exact ME.none HD.out hd2 (.inr (.inr ⟨‹_›, ‹_›⟩))
        | exact ME.box (by omega) (by simp_all)
        | exact ME.none HD.out hd2 (.inr (.inl (by simp_all)))

set_option maxHeartbeats 1000000 in
theorem me_int (cs : Array Value) (z : Nat → Int) (a : Nat) (cont : Bool) (w : World) (ha : a < 20) (hw : Hid (Win cs z)) (hi : z a = 105) :
    Calls Try.prog 11 #[.agg cs, .int .u64 a, .bool cont] w fun e w' => (∃ r, e = .returned (.int .u64 r) ∧ ME z a cont r) ∧ Below w.heap.size w w' := by
  have hca := hw.out.at_ a (by omega)
  rw [hi] at hca
  have HI : Hid (z a = 105) := hi
  clear hi
  go_enter Try.func11, Try.ntmps11
  go_wp2
  go_loop [8] (fun se => ∃ e : Nat, a + 1 ≤ e ∧ e ≤ 30 ∧ se = .int .u64 (e : Int) ∧ Hid (∀ j, a + 1 ≤ j → j < e → z j ≠ 101)) (fun se => 30 - (intOf se).toNat)
  case atStart => exact ⟨a + 1, by omega, by omega, by go_num, fun j h1 h2 => by omega⟩
  case round =>
    obtain ⟨e, he1, he2, rfl, hall⟩ := hrel
    by_cases hlt : e < 30
    · have hce := hw.out.at_ e hlt
      by_cases h101 : z e = 101
      · rw [h101] at hce
        have H101 : Hid (z e = 101) := h101
        clear h101
        have hsl := slice22 w.heap.size a e he1 hlt
        go_wp2_with (go_at_call 22; fail)
        refine (canon_any z w.heap.size (a + 1) (e - (a + 1)) (29 - a) _ (by omega) (by omega) (fun i hi => hw.out.cell (heap_alloc_last w _) _ (by omega)) (fun i hi => hw.out.lo _ (by omega))).mono ?_
        rintro x w1 ⟨⟨t, rfl, ht⟩, hb1⟩
        rw [show a + 1 + (e - (a + 1)) = e by omega] at ht
        have hB : Below w.heap.size w w1 := ((Below.refl _ _).alloc (Nat.le_refl _) _).trans (hb1.mono (by simp))
        have HT : Hid (t = true ↔ Plain.Can z (a + 1) e) := ht
        clear ht
        cases t
        · have hno : Hid (¬ Plain.Can z (a + 1) e) := fun h => by have := HT.out.2 h; cases this
          clear HT
          go_wp2
          go_ret
          exact ⟨⟨_, rfl, .inr (.inr (.inl ⟨HI.out, e, he1, he2, hall.out, .inr ⟨hlt, H101.out, .inr ⟨hno.out, rfl⟩⟩⟩))⟩, hB⟩
        · have hyes : Hid (Plain.Can z (a + 1) e) := HT.out.1 rfl
          clear HT
          go_wp2
          go_ret
          exact ⟨⟨_, rfl, .inr (.inr (.inl ⟨HI.out, e, he1, he2, hall.out, .inr ⟨hlt, H101.out, .inl ⟨hyes.out, rfl⟩⟩⟩))⟩, hB⟩
      · have hne : (z e != 101) = true := by simpa using h101
        go_wp2
        refine ⟨⟨e + 1, by omega, by omega, by go_num, fun j h1 h2 => ?_⟩, by simp [intOf]; omega⟩
        by_cases ej : j = e
        · subst ej; exact h101
        · exact hall.out j h1 (by omega)
    · have h30 : e = 30 := by omega
      subst h30
      go_wp2
      go_ret
      exact ⟨⟨_, rfl, .inr (.inr (.inl ⟨HI.out, 30, by omega, by omega, hall.out, .inl ⟨rfl, rfl⟩⟩))⟩, (Below.refl _ _).alloc (Nat.le_refl _) _⟩

/-- zzModelEnd, for every window and every start below 20 -/
theorem me_any (cs : Array Value) (z : Nat → Int) (a : Nat) (cont : Bool) (w : World) (ha : a < 20) (hw : Win cs z) :
    Calls Try.prog 11 #[.agg cs, .int .u64 a, .bool cont] w fun e w' => (∃ r, e = .returned (.int .u64 r) ∧ ME z a cont r) ∧ Below w.heap.size w w' := by
  by_cases h1 : dig (z a)
  · exact me_dig cs z a cont w ha hw h1.1 h1.2
  · by_cases h2 : z a = 105
    · exact me_int cs z a cont w ha hw h2
    · exact me_oth cs z a cont w ha hw (by unfold dig at h1; omega) h2

set_option maxHeartbeats 1000000 in
theorem gm (cs : Array Value) (z : Nat → Int) (a : Nat) (cont : Bool) (w : World) (ha : a < 20) (hw : Hid (Win cs z)) :
    Calls Try.prog 3 #[.agg cs, .int .u64 a, .bool cont] w fun e w' => e = .returned (.bool true) ∧ Below w.heap.size w w' := by
  go_enter Try.func3, Try.ntmps3
  go_wp2_with (first
    | (refine wpList_load_row rfl 22 (.tmp 3) rfl w.heap.size rfl 22 cs (0, 0) _ ?_ Try.underlying22 rfl hw.out.info ?_; (first | exact heap_alloc_last w _ | exact heap_alloc2_old w _ _))
    | (refine wpList_store_row rfl 22 (.tmp 7) (.tmp 11) rfl (w.heap.size + 1) cs rfl rfl 22 _ (by exact heap_alloc2_new w _ _) hw.out.info ?_ hw.out.one ?_; (rw [hw.out.size]; try rfl); rw [two_rows])
    | (go_at_call 10; refine (zve_any z _ a cont _ ha (fun j hj => hw.out.cell (heap_alloc2_new w _ _) j hj) hw.out.lo).mono ?_; rintro e w' ⟨⟨r, rfl, hr⟩, rfl⟩)
    | (go_at_call 11; fail))
  refine (me_any cs z a cont _ ha hw.out).mono ?_
  rintro e w1 ⟨⟨m, rfl, hm⟩, hb1⟩
  have e1 := agree ha hr hm
  subst e1
  clear hm hr
  go_wp2
  go_ret
  exact ⟨rfl, (((Below.refl w.heap.size w).alloc (Nat.le_refl _) _).alloc (by simp) _).trans (hb1.mono (by simp; omega))⟩

set_option maxHeartbeats 400000 in
theorem gm_out (cs : Array Value) (a : Int) (cont : Bool) (w : World) (ha : 20 ≤ a) :
    Calls Try.prog 3 #[.agg cs, .int .u64 a, .bool cont] w fun e w' => e = .returned (.bool true) ∧ Below w.heap.size w w' := by
  go_enter Try.func3, Try.ntmps3
  go_wp2
  go_ret
  exact ⟨rfl, (Below.refl _ _).alloc (Nat.le_refl _) _⟩
end Go.Proofs.Qxb6003438a
