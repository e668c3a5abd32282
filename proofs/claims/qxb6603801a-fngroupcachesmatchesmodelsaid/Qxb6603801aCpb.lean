import Derived.Test.Qxb6603801aCp
namespace Go.Proofs.Qxb6603801a
open Go.RowKit
theorem Try.info39 : (Try.prog.info? 39).map (fun i => (i.zero, i.size, i.bytes)) = some (some (.agg #[.int .i64 0, .int .i64 0]), 2, 16) := by kernel_rfl
theorem Try.info22 : (Try.prog.info? 22).map (fun i => (i.zero, i.size, i.bytes)) = some (some (.slice none 0 0), 1, 24) := by kernel_rfl
theorem copyUnits_any {B : Nat} {w : World} {a : Option Addr} {n c : Nat} {f g : Nat → Int} (h : Units B w a n f g) (hB : B ≤ w.heap.size) (hn : n ≤ 1048576) (hc : a = none → c = 0) :
    Calls Try.prog 17 #[.slice a n c] w fun e w' => ∃ a' c', e = .returned (.slice a' n c') ∧ (a' = none → c' = 0) ∧ Units w'.heap.size w' a' n f g ∧ w.grownBy w' none := by
  obtain ⟨i0, hi, hz0, hz1, hz2⟩ := info_parts Try.info39
  have hnil := fun w a n c => Lib.run_eql_slice_nil (P := Try.prog) w 32 39 a n c 0 0 Try.underlying32
  cases a with
  | none =>
    obtain rfl : n = 0 := by
      rcases Nat.eq_zero_or_pos n with h0 | h0
      · exact h0
      · obtain ⟨b, o, h1, _⟩ := h 0 h0
        cases h1
    obtain rfl := hc rfl
    go_enter Try.func17, Try.ntmps17
    go_wp2_with fail
    go_ret
    exact ⟨none, 0, rfl, fun _ => rfl, fun i hi => by omega, World.grownBy.refl w none⟩
  | some ad =>
    have HI := hide h
    clear h
    have hbytes : i0.bytes * n ≤ 281474976710656 := by rw [hz2]; omega
    go_enter Try.func17, Try.ntmps17
    go_wp2_with (at_make; refine wpList_make_full _ rfl _ _ 32 rfl w.heap.size 39 i0 (.agg #[.int .i64 0, .int .i64 0]) 2 Try.underlying32 hi hz0 hz1 .i64 .i64 _ _ n rfl rfl (by omega) (by omega) hbytes (by unfold maxLen; omega) (by omega) ?_)
    intro w2 hown2 hgrow2
    have HO := hide hown2
    have HG := hide hgrow2
    clear hown2 hgrow2
    go_wp2_with fail
    go_loopg [4] n (fun k v wr => ∃ i : Nat, v = .int .i64 (i : Int) ∧ i + k = n ∧ w.grownBy wr none ∧ ∃ xs, wr.ownsRow w.heap.size 39 2 (.slice (some ⟨w.heap.size, 0, none⟩) n n) n xs ∧ ∀ j, j < i → xs[j * 2]? = some (.int .i64 (f j)) ∧ xs[j * 2 + 1]? = some (.int .i64 (g j)))
    case atStart => exact ⟨0, rfl, by omega, HG.out, _, HO.out, fun j hj => by omega⟩
    case round =>
      obtain ⟨i, rfl, hik, hg, xs, ho, hj⟩ := hrel
      have HG2 := hide hg
      have HO2 := hide ho
      have HJ := hide hj
      clear hg ho hj HG HO
      by_cases hin : i < n
      · obtain ⟨b, o, rfl⟩ : ∃ b o, ad = ⟨b, o, none⟩ := by
          obtain ⟨b, o, h1, _⟩ := HI.out i hin
          exact ⟨b, o, by cases h1; rfl⟩
        have hiz : (i : Int) < (n : Int) := by omega
        obtain ⟨c0, c1⟩ : wr.cell? ⟨b, o + i * 2, none⟩ = some (.int .i64 (f i)) ∧ wr.cell? ⟨b, o + i * 2 + 1, none⟩ = some (.int .i64 (g i)) := by
          obtain ⟨b', o', h1, h2, h3, h4⟩ := HI.out i hin
          cases h1
          have hbb := HG2.out.block b (by omega) (by simp)
          exact ⟨(World.cell?_of_block hbb).trans h3, (World.cell?_of_block hbb).trans h4⟩
        have hxl : xs.length = n * 2 := HO2.out.1
        have c2 : wr.cell? ⟨w.heap.size, i * 2, none⟩ = some xs[i * 2] := by
          rw [HO2.out.cellAt (i * 2) (by omega)]; simp
        have c3 : wr.frozen? ⟨w.heap.size, i * 2, none⟩ = false := HO2.out.frozenAt (i * 2)
        have c4 : wr.cell? ⟨w.heap.size, i * 2 + 1, none⟩ = some xs[i * 2 + 1] := by
          rw [HO2.out.cellAt (i * 2 + 1) (by omega)]; simp
        have c5 : wr.frozen? ⟨w.heap.size, i * 2 + 1, none⟩ = false := HO2.out.frozenAt (i * 2 + 1)
        go_wp2_with fail
        go_roundg (n - (i + 1))
        case measure => omega
        case rel =>
          refine ⟨i + 1, by simp, by omega, grown_set (grown_set HG2.out (Nat.le_refl _) _) (Nat.le_refl _) _, _, ((HO2.out.stored (i * 2) (.int .i64 (f i))).1.stored (i * 2 + 1) (.int .i64 (g i))).1, fun j hj => ?_⟩
          by_cases e : j = i
          · subst e
            rw [List.getElem?_set_ne (by omega), List.getElem?_set_self (by omega), List.getElem?_set_self (by rw [List.length_set]; omega)]
            exact ⟨rfl, rfl⟩
          · rw [List.getElem?_set_ne (by omega), List.getElem?_set_ne (by omega), List.getElem?_set_ne (by omega), List.getElem?_set_ne (by omega)]
            exact HJ.out j (by omega)
      · have hiz : ¬ ((i : Int) < (n : Int)) := by omega
        obtain rfl : i = n := by omega
        go_wp2_with fail
        go_ret
        refine ⟨_, _, rfl, (fun e => by cases e), fun j hj => ⟨_, 0, rfl, (HO2.out.lt _ rfl).2, ?_, ?_⟩, HG2.out⟩
        · rw [Nat.zero_add, HO2.out.cellAt (j * 2) (by omega)]; exact (HJ.out j hj).1
        · rw [Nat.zero_add, HO2.out.cellAt (j * 2 + 1) (by omega)]; exact (HJ.out j hj).2

theorem copy2_any {B : Nat} {w : World} {a : Option Addr} {n c : Nat} {ln : Nat → Nat} (h : IRows B w a n ln) (hB : B ≤ w.heap.size) (hn : n ≤ 1048576) (hl : ∀ i, i < n → ln i ≤ 1048576) (hc : a = none → c = 0) :
    Calls Try.prog 16 #[.slice a n c] w fun e w' => ∃ a' c', e = .returned (.slice a' n c') ∧ (a' = none → c' = 0) ∧ Lens w'.heap.size w' a' n ln ∧ w.grownBy w' none := by
  obtain ⟨i0, hi, hz0, hz1, hz2⟩ := info_parts Try.info22
  have hnil := fun w a n c => Lib.run_eql_slice_nil (P := Try.prog) w 31 22 a n c 0 0 Try.underlying31
  cases a with
  | none =>
    obtain rfl : n = 0 := by
      rcases Nat.eq_zero_or_pos n with h0 | h0
      · exact h0
      · obtain ⟨b, o, _, _, h1, _⟩ := h 0 h0
        cases h1
    obtain rfl := hc rfl
    go_enter Try.func16, Try.ntmps16
    go_wp2_with fail
    go_ret
    exact ⟨none, 0, rfl, fun _ => rfl, fun i hi => by omega, World.grownBy.refl w none⟩
  | some ad =>
    have HI := hide h
    have HL := hide hl
    clear h hl
    have hbytes : i0.bytes * n ≤ 281474976710656 := by rw [hz2]; omega
    go_enter Try.func16, Try.ntmps16
    go_wp2_with (at_make; refine wpList_make_full _ rfl _ _ 31 rfl w.heap.size 22 i0 (.slice none 0 0) 1 Try.underlying31 hi hz0 hz1 .i64 .i64 _ _ n rfl rfl (by omega) (by omega) hbytes (by unfold maxLen; omega) (by omega) ?_)
    intro w2 hown2 hgrow2
    have HO : Hid (w2.ownsRow w.heap.size 22 1 (.slice (some ⟨w.heap.size, 0, none⟩) n n) n (madeCells (Value.slice none 0 0).cells (n * 1)).toList) := by rw [Nat.mul_one]; exact hown2
    have HG := hide hgrow2
    clear hown2 hgrow2
    go_wp2_with fail
    go_loopg [4] n (fun k v wr => ∃ i : Nat, v = .int .i64 (i : Int) ∧ i + k = n ∧ w.grownBy wr none ∧ ∃ xs, wr.ownsRow w.heap.size 22 1 (.slice (some ⟨w.heap.size, 0, none⟩) n n) n xs ∧ ∀ j, j < i → ∃ a' c', xs[j]? = some (.slice a' (ln j) c'))
    case atStart => exact ⟨0, rfl, by omega, HG.out, _, HO.out, fun j hj => by omega⟩
    case round =>
      obtain ⟨i, rfl, hik, hg, xs, ho, hj⟩ := hrel
      have HG2 := hide hg
      have HO2 := hide ho
      have HJ := hide hj
      clear hg ho hj HG HO
      by_cases hin : i < n
      · obtain ⟨b, o, rfl⟩ : ∃ b o, ad = ⟨b, o, none⟩ := by
          obtain ⟨b, o, _, _, h1, _⟩ := HI.out i hin
          exact ⟨b, o, by cases h1; rfl⟩
        have hiz : (i : Int) < (n : Int) := by omega
        obtain ⟨a', c', c1, hc', fi, hfi⟩ : ∃ a' c', wr.cell? ⟨b, o + i, none⟩ = some (.slice a' (ln i) c') ∧ (a' = none → c' = 0) ∧ ∃ f, Ints B wr a' (ln i) f := by
          obtain ⟨b', o', a', c', h1, h2, h3, h4, f, h5⟩ := HI.out i hin
          cases h1
          exact ⟨a', c', (World.cell?_of_block (HG2.out.block b (by omega) (by simp))).trans h3, h4, f, h5.move (grown_below HG2.out hB)⟩
        have hgsz := HG2.out.size
        have hcall := ssCopy_any hfi (by omega) (HL.out i hin) hc'
        have hxl : xs.length = n * 1 := HO2.out.1
        clear hfi hc'
        go_wp2_with (go_at_call 8; fail)
        refine hcall.mono ?_
        rintro e w4 ⟨a4, k4, rfl, _, _, hg4⟩
        have HG4 := hide hg4
        have hlt := HO2.out.lt _ rfl
        have HO4 : Hid (w4.ownsRow w.heap.size 22 1 (.slice (some ⟨w.heap.size, 0, none⟩) n n) n xs) := own_move HO2.out fun g hg => hg4.block g (by cases hg; exact hlt.2) (by simp)
        have c2 : w4.cell? ⟨w.heap.size, i, none⟩ = some xs[i] := by
          rw [HO4.out.cellAt i (by omega)]; simp
        have c3 : w4.frozen? ⟨w.heap.size, i, none⟩ = false := HO4.out.frozenAt i
        clear hg4 hcall
        go_wp2_with fail
        go_roundg (n - (i + 1))
        case measure => omega
        case rel =>
          refine ⟨i + 1, by simp, by omega, grown_set (HG2.out.trans HG4.out) (Nat.le_refl _) _, _, (HO4.out.stored i (.slice a4 (ln i) k4)).1, fun j hj => ?_⟩
          by_cases e : j = i
          · subst e
            exact ⟨a4, k4, by rw [List.getElem?_set_self (by omega)]⟩
          · rw [List.getElem?_set_ne (by omega)]
            exact HJ.out j (by omega)
      · have hiz : ¬ ((i : Int) < (n : Int)) := by omega
        obtain rfl : i = n := by omega
        go_wp2_with fail
        go_ret
        refine ⟨_, _, rfl, (fun e => by cases e), fun j hj => ?_, HG2.out⟩
        obtain ⟨a', c', h1⟩ := HJ.out j hj
        exact ⟨_, 0, a', c', rfl, (HO2.out.lt _ rfl).2, by rw [Nat.zero_add, HO2.out.cellAt j (by omega)]; exact h1⟩
end Go.Proofs.Qxb6603801a
