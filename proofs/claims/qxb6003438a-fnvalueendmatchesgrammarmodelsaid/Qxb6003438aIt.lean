import Derived.Test.Qxb6003438aKB
import Derived.Test.Qxb6003438aPlain2
namespace Go.Proofs.Qxb6003438a
open Go.RowKit
open Plain

/-- what the buffer of zzItoa holds behind k rounds -/
structure Buf (wr : World) (g : Nat) (k : Nat) (acc : List Int) : Prop where
  len : acc.length = k
  row : ∃ cur : Array Value, wr.heap[g]? = some (.cells cur 43 (0, 0)) ∧ cur.size = 20 ∧ ∀ j, j < k → cur[20 - k + j]? = some (.int .u8 (acc.getD j 0))

theorem Buf.step {wr : World} {g k : Nat} {acc : List Int} (h : Buf wr g k acc) (hk : k < 20) (c : Int) : Buf (wr.setCell ⟨g, 19 - k, none⟩ (.int .u8 c)) g (k + 1) (c :: acc) := by
  obtain ⟨h1, cur, h2, h3, h4⟩ := h
  refine ⟨by simp [h1], _, heap_setCell_same wr g (19 - k) cur 43 (.int .u8 c) h2, by simp [h3], fun j hj => ?_⟩
  cases j with
  | zero => simp [show 20 - (k + 1) = 19 - k by omega, h3, show 19 - k < 20 by omega]
  | succ j =>
    have := h4 j (by omega)
    rw [Array.getElem?_setIfInBounds]
    rw [if_neg (by omega), show 20 - (k + 1) + (j + 1) = 20 - k + j by omega, this]
    simp

theorem Buf.cell {wr : World} {g k : Nat} {acc : List Int} (h : Buf wr g k acc) (i : Nat) (hi : i < 20) : ∃ v, wr.cell? ⟨g, i, none⟩ = some v := by
  obtain ⟨_, cur, h2, h3, _⟩ := h
  rw [cell_of_row wr g i cur 43 (0, 0) h2]
  exact ⟨cur[i]'(by omega), by simp [h3, hi]⟩

theorem Buf.free {wr : World} {g k : Nat} {acc : List Int} (h : Buf wr g k acc) (i : Nat) : wr.frozen? ⟨g, i, none⟩ = false := by
  obtain ⟨_, cur, h2, h3, _⟩ := h
  exact frozen_of_row wr g i cur 43 h2

theorem Buf.news {wr w1 : World} {g k jn : Nat} {acc : List Int} (h : Buf wr g k acc) (hj : jn + k = 20) (hw : w1.heap[g]? = wr.heap[g]?) : ∀ j u, (acc.map (Value.int .u8))[j]? = some u → w1.cell? ((⟨g, jn, none⟩ : Addr).add j) = some u := by
  obtain ⟨h1, cur, h2, h3, h4⟩ := h
  intro j u hu
  have hjk : j < k := by
    rw [← h1]
    by_cases hc : j < acc.length
    · exact hc
    · rw [List.getElem?_eq_none (by simp; omega)] at hu; cases hu
  have e : (⟨g, jn, none⟩ : Addr).add j = ⟨g, jn + j, none⟩ := by simp [Addr.add]
  rw [e]
  rw [cell_of_row w1 g (jn + j) cur 43 (0, 0) (hw.trans h2), show jn + j = 20 - k + j by omega, h4 j hjk]
  rw [← hu]
  simp [h1, hjk]

theorem news_one (l : List Int) : ∀ u ∈ l.map (Value.int .u8), u.oneCell' = true := by
  intro u hu
  obtain ⟨c, _, rfl⟩ := List.mem_map.1 hu
  rfl

theorem Try.len43 : Try.prog.arrayLen 43 = 20 := by kernel_rfl
theorem Try.elem43 : Try.prog.elem 43 = 5 := by kernel_rfl

theorem size5 (W : World) : (sizeOf 5).run Try.prog W = .ok 1 W := by
  obtain ⟨i0, hi, hz0, hz1, hz2⟩ := info_parts Try.info5
  simp [sizeOf, typeInfo, hi, hz1]

theorem slice43 (g jn : Nat) (hj : jn < 20) (W : World) : (Instr.sliceAt 43 (.pointer (some ⟨g, 0, none⟩)) (some (.int .i64 (jn : Int))) none none).run Try.prog W = .ok (.slice (some ⟨g, jn, none⟩) (20 - jn) (20 - jn)) W := by
  rw [run_sliceAt_array_l W 43 ⟨g, 0, none⟩ (by simp [Program.arrayLen, Program.elem, Try.underlying43]) .i64 (jn : Int) (by omega) (by rw [Try.len43]; omega), Try.elem43, size5, Try.len43]
  simp [slicedAt, Addr.add, show ¬ 20 = jn by omega]
  intro h
  omega

theorem ret_slice {a : Option Addr} {n m c : Nat} (h : n = m) : Ending.returned (.slice a n c) = .returned (.slice a m c) := by rw [h]

theorem decA_step {f x : Nat} {acc r : List Int} (h : decA (f + 1) x acc = r) (hx : ¬ x / 10 = 0) : decA f (x / 10) ((48 + ((x % 10 : Nat) : Int)) :: acc) = r := by
  rw [decA, if_neg hx] at h; exact h
theorem decA_last {f x : Nat} {acc r : List Int} (h : decA (f + 1) x acc = r) (hx : x / 10 = 0) : r = (48 + ((x % 10 : Nat) : Int)) :: acc := by
  rw [decA, if_pos hx] at h; exact h.symm

set_option maxHeartbeats 1000000 in
theorem itoa_pos (v : Nat) (w : World) (hv : v < 10 ^ 8) :
    Calls Try.prog 13 #[.int .i64 (v : Int)] w fun e w' => (∃ g cap, e = .returned (.slice (some ⟨g, 0, none⟩) (decA 8 v []).length cap) ∧
      w'.ownsRow w.heap.size 5 1 (.slice (some ⟨g, 0, none⟩) (decA 8 v []).length cap) (decA 8 v []).length ((decA 8 v []).map (Value.int .u8))) ∧ Below w.heap.size w w' := by
  obtain ⟨i0, hi, hz0, hz1, hz2⟩ := info_parts Try.info5
  have hv2 : v < 100000000 := hv
  have HV : Hid (v < 10 ^ 8) := hv
  clear hv
  go_enter Try.func13, Try.ntmps13
  go_wp2
  go_loopw [4, 6] (fun su si wr => ∃ (f k x jn : Nat) (acc : List Int), k + f = 8 ∧ Hid (x < 10 ^ f) ∧ x < 100000000 ∧ (0 < x ∨ k = 0) ∧ su = .int .u64 (x : Int) ∧ jn + 1 + k = 20 ∧ si = .int .i64 ((jn : Int) + 1) ∧
      Hid (decA f x acc = decA 8 v []) ∧ Hid (Buf wr w.heap.size k acc) ∧ Below w.heap.size w wr)
    (fun _ si _ => (intOf si).toNat)
  case atStart =>
    exact ⟨8, 0, v, 19, [], rfl, HV, hv2, .inr rfl, by go_num, rfl, by go_num, rfl, ⟨rfl, _, heap_alloc_last w _, rfl, fun j hj => by omega⟩, (Below.refl _ _).alloc (Nat.le_refl _) _⟩
  case round =>
    obtain ⟨f, k, x, jn, acc, hkf, hxf, hx8, hxk, rfl, hj, rfl, hdec, hbuf, hbel⟩ := hrel
    obtain ⟨f, rfl⟩ : ∃ f', f = f' + 1 := by
      cases f with
      | zero => have := hxf.out; simp at this; omega
      | succ f => exact ⟨f, rfl⟩
    obtain ⟨vc, hc⟩ := hbuf.out.cell jn (by omega)
    have hfr := hbuf.out.free jn
    have hsz := hbel.size
    have hlt : w.heap.size < wr.heap.size := by simpa using block_lt_of_cell hc
    have hbuf2 := hbuf.out.step (by omega) (48 + (x : Int) % 10)
    rw [show 19 - k = jn by omega] at hbuf2
    have HB2 : Hid (Buf (wr.setCell ⟨w.heap.size, jn, none⟩ (.int .u8 (48 + (x : Int) % 10))) w.heap.size (k + 1) ((48 + (x : Int) % 10) :: acc)) := hbuf2
    clear hbuf2
    have ec : ((x % 10 : Nat) : Int) = (x : Int) % 10 := by omega
    have EC : Hid (((x % 10 : Nat) : Int) = (x : Int) % 10) := ec
    clear ec
    have hb2 : Below w.heap.size w (wr.setCell ⟨w.heap.size, jn, none⟩ (.int .u8 (48 + (x : Int) % 10))) := hbel.setCell (Nat.le_refl _) _
    have hsl := slice43 w.heap.size jn (by omega)
    by_cases h0 : x / 10 = 0
    · have hlast := decA_last hdec.out h0
      rw [EC.out] at hlast
      have HL : Hid (decA 8 v [] = (48 + (x : Int) % 10) :: acc) := hlast
      have hal := hbuf.out.len
      clear hlast
      go_wp2_with (at_make; refine wpList_make_own _ rfl _ _ 29 rfl w.heap.size 5 i0 (.int .u8 0) 1 Try.underlying29 hi hz0 hz1 _ _ _ 21 rfl rfl (by omega) ?b2 ?b3 ?b4 ?_)
      case b2 => rw [hz2]; omega
      case b3 => unfold maxLen; omega
      case b4 => simpa using hsz
      intro w0 hown0 hgrow0
      have hblk : w0.heap[w.heap.size]? = (wr.setCell ⟨w.heap.size, jn, none⟩ (.int .u8 (48 + (x : Int) % 10))).heap[w.heap.size]? := hgrow0.block _ (by simpa using hlt) (by simp)
      go_wp2_with (at_builtin; refine wpList_append_fits _ rfl (.tmp 35) (.tmp 37) 29 rfl w.heap.size 5 i0 1 Try.underlying29 hi hz1 _ 0 21 _ rfl hown0 ⟨w.heap.size, jn, none⟩ (20 - jn) (20 - jn) (((48 + (x : Int) % 10) :: acc).map (Value.int .u8)) rfl ?c0 (HB2.out.news (by omega) hblk) (news_one _) ?c1 ?_)
      case c0 => simp [hal]; omega
      case c1 => omega
      intro w1 hown1 hgrow1
      go_wp2
      go_ret
      have hl : 20 - jn = (decA 8 v []).length := by rw [HL.out]; simp [hal]; omega
      have e : Value.int .u8 (48 + (x : Int) % 10) :: List.map (Value.int .u8) acc = (decA 8 v []).map (Value.int .u8) := by rw [HL.out]; rfl
      rw [e, hl] at hown1
      refine ⟨⟨wr.heap.size, 21, ?_, hown1⟩, ?_⟩
      · exact ret_slice hl
      · have hb3 := hb2.grown hgrow0 (by simpa using hsz) (fun t ht => by cases ht)
        exact hb3.grown hgrow1 hb3.size (fun t ht => by cases ht; exact hsz)
    · go_wp2
      refine ⟨⟨f, k + 1, x / 10, jn - 1, _, by omega, ?_, by omega, by omega, by go_num, by omega, by go_num, ?_, HB2, hb2⟩, ?_⟩
      · have := hxf.out
        show x / 10 < 10 ^ f
        rw [Nat.div_lt_iff_lt_mul (by omega), ← Nat.pow_succ]; exact this
      · have := decA_step hdec.out h0
        rw [EC.out] at this
        exact this
      · simp [intOf]
set_option maxHeartbeats 1000000 in
theorem itoa_neg (v : Nat) (w : World) (hv : v < 10 ^ 8) (hp : 0 < v) :
    Calls Try.prog 13 #[.int .i64 (-(v : Int))] w fun e w' => (∃ g cap, e = .returned (.slice (some ⟨g, 0, none⟩) (45 :: decA 8 v []).length cap) ∧
      w'.ownsRow w.heap.size 5 1 (.slice (some ⟨g, 0, none⟩) (45 :: decA 8 v []).length cap) (45 :: decA 8 v []).length ((45 :: decA 8 v []).map (Value.int .u8))) ∧ Below w.heap.size w w' := by
  obtain ⟨i0, hi, hz0, hz1, hz2⟩ := info_parts Try.info5
  have hv2 : v < 100000000 := hv
  have HV : Hid (v < 10 ^ 8) := hv
  clear hv
  go_enter Try.func13, Try.ntmps13
  go_wp2
  go_loopw [4, 6] (fun su si wr => ∃ (f k x jn : Nat) (acc : List Int), k + f = 8 ∧ Hid (x < 10 ^ f) ∧ x < 100000000 ∧ (0 < x ∨ k = 0) ∧ su = .int .u64 (x : Int) ∧ jn + 1 + k = 20 ∧ si = .int .i64 ((jn : Int) + 1) ∧
      Hid (decA f x acc = decA 8 v []) ∧ Hid (Buf wr w.heap.size k acc) ∧ Below w.heap.size w wr)
    (fun _ si _ => (intOf si).toNat)
  case atStart =>
    exact ⟨8, 0, v, 19, [], rfl, HV, hv2, .inr rfl, by go_num, rfl, by go_num, rfl, ⟨rfl, _, heap_alloc_last w _, rfl, fun j hj => by omega⟩, (Below.refl _ _).alloc (Nat.le_refl _) _⟩
  case round =>
    obtain ⟨f, k, x, jn, acc, hkf, hxf, hx8, hxk, rfl, hj, rfl, hdec, hbuf, hbel⟩ := hrel
    obtain ⟨f, rfl⟩ : ∃ f', f = f' + 1 := by
      cases f with
      | zero => have := hxf.out; simp at this; omega
      | succ f => exact ⟨f, rfl⟩
    obtain ⟨vc, hc⟩ := hbuf.out.cell jn (by omega)
    have hfr := hbuf.out.free jn
    have hsz := hbel.size
    have hlt : w.heap.size < wr.heap.size := by simpa using block_lt_of_cell hc
    have hbuf2 := hbuf.out.step (by omega) (48 + (x : Int) % 10)
    rw [show 19 - k = jn by omega] at hbuf2
    have HB2 : Hid (Buf (wr.setCell ⟨w.heap.size, jn, none⟩ (.int .u8 (48 + (x : Int) % 10))) w.heap.size (k + 1) ((48 + (x : Int) % 10) :: acc)) := hbuf2
    clear hbuf2
    have ec : ((x % 10 : Nat) : Int) = (x : Int) % 10 := by omega
    have EC : Hid (((x % 10 : Nat) : Int) = (x : Int) % 10) := ec
    clear ec
    have hb2 : Below w.heap.size w (wr.setCell ⟨w.heap.size, jn, none⟩ (.int .u8 (48 + (x : Int) % 10))) := hbel.setCell (Nat.le_refl _) _
    have hsl := slice43 w.heap.size jn (by omega)
    by_cases h0 : x / 10 = 0
    · have hlast := decA_last hdec.out h0
      rw [EC.out] at hlast
      have HL : Hid (decA 8 v [] = (48 + (x : Int) % 10) :: acc) := hlast
      have hal := hbuf.out.len
      clear hlast
      go_wp2_with (at_make; refine wpList_make_own _ rfl _ _ 29 rfl w.heap.size 5 i0 (.int .u8 0) 1 Try.underlying29 hi hz0 hz1 _ _ _ 21 rfl rfl (by omega) ?b2 ?b3 ?b4 ?_)
      case b2 => rw [hz2]; omega
      case b3 => unfold maxLen; omega
      case b4 => simpa using hsz
      intro w0 hown0 hgrow0
      have hblk : w0.heap[w.heap.size]? = (wr.setCell ⟨w.heap.size, jn, none⟩ (.int .u8 (48 + (x : Int) % 10))).heap[w.heap.size]? := hgrow0.block _ (by simpa using hlt) (by simp)
      go_wp2_with (at_builtin; refine wpList_append_fits _ rfl (.tmp 32) (.tmp 33) 29 rfl w.heap.size 5 i0 1 Try.underlying29 hi hz1 _ 0 21 _ rfl (hown0.alloc _) ⟨w0.heap.size, 0, none⟩ 1 1 [.int .u8 45] rfl rfl ?d1 ?d2 ?d3 ?_)
      case d1 => intro t u ht; match t, ht with | 0, ht => simp at ht; subst ht; simp [Addr.add]
      case d2 => intro u hu; simp at hu; subst hu; rfl
      case d3 => omega
      intro w1 hown1 hgrow1
      have hsz0 := hgrow0.size
      have hblk1 : w1.heap[w.heap.size]? = (wr.setCell ⟨w.heap.size, jn, none⟩ (.int .u8 (48 + (x : Int) % 10))).heap[w.heap.size]? := by
        rw [hgrow1.block _ (by simp at hsz0 ⊢; omega) (by simp; omega), Below.heap_alloc _ _ _ (by simp at hsz0; omega)]
        exact hblk
      go_wp2_with (at_builtin; refine wpList_append_fits _ rfl (.tmp 35) (.tmp 37) 29 rfl w.heap.size 5 i0 1 Try.underlying29 hi hz1 _ 1 21 _ rfl hown1 ⟨w.heap.size, jn, none⟩ (20 - jn) (20 - jn) (((48 + (x : Int) % 10) :: acc).map (Value.int .u8)) rfl ?c0 (HB2.out.news (by omega) hblk1) (news_one _) ?c1 ?_)
      case c0 => simp [hal]; omega
      case c1 => omega
      intro w2 hown2 hgrow2
      go_wp2
      go_ret
      have hl : 1 + (20 - jn) = (45 :: decA 8 v []).length := by rw [HL.out]; simp [hal]; omega
      have e : Value.int .u8 45 :: Value.int .u8 (48 + (x : Int) % 10) :: List.map (Value.int .u8) acc = (45 :: decA 8 v []).map (Value.int .u8) := by rw [HL.out]; rfl
      rw [e, hl] at hown2
      refine ⟨⟨wr.heap.size, 21, ?_, hown2⟩, ?_⟩
      · exact ret_slice hl
      · have hb3 := hb2.grown hgrow0 (by simpa using hsz) (fun t ht => by cases ht)
        have hb4 := (hb3.alloc hb3.size _).grown hgrow1 (by simp; have := hb3.size; omega) (fun t ht => by cases ht; exact hsz)
        exact hb4.grown hgrow2 hb4.size (fun t ht => by cases ht; exact hsz)
    · go_wp2
      refine ⟨⟨f, k + 1, x / 10, jn - 1, _, by omega, ?_, by omega, by omega, by go_num, by omega, by go_num, ?_, HB2, hb2⟩, ?_⟩
      · have := hxf.out
        show x / 10 < 10 ^ f
        rw [Nat.div_lt_iff_lt_mul (by omega), ← Nat.pow_succ]; exact this
      · have := decA_step hdec.out h0
        rw [EC.out] at this
        exact this
      · simp [intOf]
end Go.Proofs.Qxb6003438a
