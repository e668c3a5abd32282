import Derived.Test.Qxb6003438aKA
namespace Go.Proofs.Qxb6003438a
open Go.RowKit
open Plain

theorem Try.info5 : (Try.prog.info? 5).map (fun i => (i.zero, i.size, i.bytes)) = some (some (.int .u8 0), 1, 1) := by kernel_rfl

theorem own_head {wr : World} {b k : Nat} {z : Nat → Int} {a : Nat} (hk : 0 < k) (h : wr.ownsRow b 5 1 (.slice (some ⟨b, 0, none⟩) k 30) k ((List.range k).map fun i => .int .u8 (z (a + i)))) : wr.cell? ⟨b, 0, none⟩ = some (.int .u8 (z a)) := by
  obtain ⟨_, h2⟩ := h
  rcases h2 with ⟨h2, _⟩ | ⟨g, cap, cur, hv, _, hg, _, _, hs, ht⟩
  · cases h2
  · simp only [Value.slice.injEq, Option.some.injEq, Addr.mk.injEq] at hv
    obtain ⟨⟨rfl, _, _⟩, _, rfl⟩ := hv
    rw [cell_of_row wr b 0 cur 5 (0, 0) hg]
    have h0 : (cur.toList.take (k * 1))[0]? = ((List.range k).map fun i => Value.int .u8 (z (a + i)))[0]? := by rw [ht]
    rw [List.getElem?_take_of_lt (by omega)] at h0
    simpa [hk] using h0

set_option maxHeartbeats 1000000 in
theorem ka (cs : Array Value) (z : Nat → Int) (a : Nat) (cont : Bool) (w : World) (ha : a < 20) (hw : Hid (Win cs z)) :
    Calls Try.prog 9 #[.agg cs, .int .u64 a, .bool cont] w fun e w' => e = .returned (.bool true) ∧ Below w.heap.size w w' := by
  obtain ⟨i0, hi, hz0, hz1, hz2⟩ := info_parts Try.info5
  go_enter Try.func9, Try.ntmps9
  go_wp2_with (first
    | (refine wpList_load_row rfl 22 (.tmp 3) rfl w.heap.size rfl 22 cs (0, 0) _ ?_ Try.underlying22 rfl hw.out.info ?_; exact heap_alloc_last w _)
    | (refine wpList_store_row rfl 22 (.tmp 7) (.tmp 14) rfl (w.heap.size + 1) cs rfl rfl 22 _ (by exact heap_alloc2_new w _ _) hw.out.info ?_ hw.out.one ?_; (rw [hw.out.size]; try rfl); rw [two_rows])
    | (go_at_call 10; fail))
  refine (zve_any z _ a cont _ ha (fun j hj => hw.out.cell (heap_alloc2_new w _ _) j hj) hw.out.lo).mono ?_
  rintro e w' ⟨⟨r, rfl, hr⟩, rfl⟩
  rcases hr.form ha with rfl | ⟨en, rfl, he1, he2, hf⟩
  · clear hr
    go_wp2
    go_ret
    exact ⟨rfl, ((Below.refl _ _).alloc (Nat.le_refl _) _).alloc (by simp) _⟩
  · have HF : Hid (Plain.Form z a cont en) := hf
    clear hr hf
    have hen : ((en : Int) == 0) = false := by simp; omega
    go_wp2_with (at_make; refine wpList_make_own _ rfl _ _ 29 rfl (w.heap.size + 2) 5 i0 (.int .u8 0) 1 Try.underlying29 hi hz0 hz1 _ _ _ 30 rfl rfl (by omega) ?b2 ?b3 ?b4 ?_)
    case b2 => rw [hz2]; omega
    case b3 => unfold maxLen; omega
    case b4 => simp
    intro w0 hown0 hgrow0
    go_wp2
    have hb0 : Below (w.heap.size + 2) ((w.alloc (.cells cs 22)).alloc (.cells cs 22)) w0 := (Below.refl _ _).grown hgrow0 (by simp) (fun k h => by cases h)
    go_loopw [9, 10] (fun v j wr => ∃ k jn : Nat, Hid (jn = a + k) ∧ a ≤ jn ∧ jn ≤ en ∧ j = .int .u64 (jn : Int) ∧ v = .slice (some ⟨w.heap.size + 2, 0, none⟩) k 30 ∧
        wr.ownsRow (w.heap.size + 2) 5 1 (.slice (some ⟨w.heap.size + 2, 0, none⟩) k 30) k ((List.range k).map fun i => .int .u8 (z (a + i))) ∧ Below (w.heap.size + 2) ((w.alloc (.cells cs 22)).alloc (.cells cs 22)) wr)
      (fun _ j _ => en - (intOf j).toNat)
    case atStart => exact ⟨0, a, rfl, by omega, by omega, rfl, by simp, by simpa using hown0, hb0⟩
    case round =>
      obtain ⟨k, jn, HK, hj1, hj2, rfl, rfl, hown, hbr⟩ := hrel
      have hcell : ∀ j, j < 30 → wr.cell? ⟨w.heap.size, j, none⟩ = some (.int .u8 (z j)) := fun j hj => (hbr.cell (by simp)).trans (hw.out.cell (heap_alloc2_old w _ _) j hj)
      by_cases hlt : jn < en
      · have hcj := hcell jn (by omega)
        clear hcell
        have hsz := hbr.size
        go_wp2_with (at_builtin; refine wpList_append_fits _ rfl (.tmp 35) (.tmp 39) 29 rfl (w.heap.size + 2) 5 i0 1 Try.underlying29 hi hz1 (w.heap.size + 2) k 30 _ rfl (hown.alloc _) ⟨wr.heap.size, 0, none⟩ 1 1 [.int .u8 (z jn)] rfl rfl ?c1 ?c2 ?c3 ?_)
        case c1 => intro t u ht; match t, ht with | 0, ht => simp at ht; subst ht; simp [Addr.add]
        case c2 => intro u hu; simp at hu; subst hu; rfl
        case c3 => have := HK.out; omega
        intro w1 hown1 hgrow1
        go_wp2
        go_roundw
        case rel =>
          refine ⟨k + 1, jn + 1, by have := HK.out; unfold Hid; omega, by omega, by omega, by go_num, rfl, ?_, ?_⟩
          · have e := HK.out
            rw [List.range_succ, List.map_append]
            simpa [e] using hown1
          · exact (hbr.alloc (by simpa using hsz) _).grown hgrow1 (by simp at hsz ⊢; omega) (fun t ht => by cases ht; exact Nat.le_refl _)
        case measure => simp [intOf]; omega
      · have hjn : jn = en := by omega
        have hk : 2 ≤ k := by have := HK.out; omega
        have hc0 := own_head (by omega) hown
        have hsz := hbr.size
        have hB0 : Below w.heap.size w wr := (((Below.refl w.heap.size w).alloc (Nat.le_refl _) _).alloc (by simp) _).trans (hbr.mono (by omega))
        have h20 : w.heap.size < wr.heap.size := by simp at hsz; omega
        have hen2 : ¬ (jn : Int) < (en : Int) := by omega
        have hca := hcell a (by omega)
        have HC : Hid (∀ j, j < 30 → wr.cell? ⟨w.heap.size, j, none⟩ = some (.int .u8 (z j))) := hcell
        clear hcell
        rcases HF.out with ⟨f1, f2, f3⟩ | ⟨f1, f2, f3, f4⟩ | ⟨f1, f2, f3⟩ | ⟨f1, f2, f3⟩
        · have F3 : Hid (z (en - 1) = 101) := f3
          rw [f1] at hc0 hca
          clear f3 f1
          go_wp2_with (go_at_call 20; refine (kind_any _ k 30 105 1 _ (by omega) hc0 (.inl ⟨rfl, rfl⟩)).mono ?_; rintro e w2 ⟨rfl, hb2⟩; have h3 := (hb2.cell (p := ⟨w.heap.size, en - 1, none⟩) h20).trans (HC.out (en - 1) (by omega)); rw [F3.out] at h3)
          go_ret
          exact ⟨rfl, hB0.trans (hb2.mono hB0.size)⟩
        · have F3 : Hid (z (a + 1) = 58) := f3
          have F4 : Hid ((en : Int) - a = 2 + (z a - 48)) := f4
          have f5 : ((en : Int) - a == 2 + (z a - 48)) = true := by simp [f4]
          clear f3 f4
          go_wp2_with (go_at_call 20; refine (kind_any _ k 30 (z a) 2 _ (by omega) hc0 (.inr (.inl ⟨f1, f2, rfl⟩))).mono ?_; rintro e w2 ⟨rfl, hb2⟩; have h3 := (hb2.cell (p := ⟨w.heap.size, a + 1, none⟩) h20).trans (HC.out (a + 1) (by omega)); rw [F3.out] at h3)
          go_ret
          exact ⟨rfl, hB0.trans (hb2.mono hB0.size)⟩
        · rw [f1] at hc0 hca
          subst f2 f3
          clear f1
          go_wp2_with (go_at_call 20; refine (kind_any _ k 30 108 3 _ (by omega) hc0 (.inr (.inr (.inl ⟨rfl, rfl⟩)))).mono ?_; rintro e w2 ⟨rfl, hb2⟩)
          go_ret
          exact ⟨rfl, hB0.trans (hb2.mono hB0.size)⟩
        · rw [f1] at hc0 hca
          subst f2 f3
          clear f1
          go_wp2_with (go_at_call 20; refine (kind_any _ k 30 100 4 _ (by omega) hc0 (.inr (.inr (.inr ⟨rfl, rfl⟩)))).mono ?_; rintro e w2 ⟨rfl, hb2⟩)
          go_ret
          exact ⟨rfl, hB0.trans (hb2.mono hB0.size)⟩

set_option maxHeartbeats 400000 in
theorem ka_out (cs : Array Value) (a : Int) (cont : Bool) (w : World) (ha : 20 ≤ a) :
    Calls Try.prog 9 #[.agg cs, .int .u64 a, .bool cont] w fun e w' => e = .returned (.bool true) ∧ Below w.heap.size w w' := by
  go_enter Try.func9, Try.ntmps9
  go_wp2
  go_ret
  exact ⟨rfl, (Below.refl _ _).alloc (Nat.le_refl _) _⟩
end Go.Proofs.Qxb6003438a
