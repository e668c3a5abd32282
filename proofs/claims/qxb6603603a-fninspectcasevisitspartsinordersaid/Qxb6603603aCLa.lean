import Derived.Test.Qxb6603603aCB
namespace Go.Proofs.Qxb6603603a
open Go.RowKit

/-- the names seen against the names wanted -/
theorem same_want (B G : Nat) (sa : Option Addr) (sc gb n2 cb : Nat) (ss' ss : List ByteArray) (w : World) (hs : ss' = ss) (h2 : n2 = ss.length) (hn : ss.length ≤ 1000000) {w3 : World}
    (hown : w3.ownsRow B 9 1 (.slice sa ss'.length sc) ss'.length (ss'.map Value.string)) (hb : Below w3.heap.size w3 w)
    (hwant : w.ownsRow G 9 1 (.slice (some ⟨gb, 0, none⟩) n2 cb) n2 (ss.map Value.string)) :
    Calls Try.prog 9 #[.slice sa ss'.length sc, .slice (some ⟨gb, 0, none⟩) n2 cb] w fun e w' => e = .returned (.bool true) ∧ ∃ n, w' = w.drewN n := by
  subst h2
  refine same_own B sa sc gb 0 cb ss' ss w hs hn (own_move hown fun g hg => ?_) (fun i hi => own_cell hwant i _ (by simp [hi]))
  obtain ⟨_, cur, hh⟩ := own_blk hown hg
  exact hb.block g (lt_of_block hh)

set_option maxRecDepth 100000 in
set_option maxHeartbeats 8000000 in
theorem claw_tt (operand elseN : ByteArray) (a b : Option Addr) (ca cb : Nat) (cs rs : List ByteArray) (w : World) (hl1 : operand.size ≤ maxLen) (hl2 : elseN.size ≤ maxLen) (hl3 : cs.length ≤ maxLen) (hl4 : rs.length ≤ maxLen)
    (ha0 : a = none → cs = [] ∧ ca = 0) (hb0 : b = none → rs = [] ∧ cb = 0) (hA : Sl w a cs) (hB : Sl w b rs) :
    Calls Try.prog 4 #[.string operand, .bool true, .slice a cs.length ca, .slice b rs.length cb, .string elseN, .bool true] w fun e w' => e = .returned (.bool true) ∧ Below w.heap.size w w' := by
  obtain ⟨i0, hi0, hz0, hz1, hz2⟩ := info_parts Try.info9
  have hby := hide (cbytes operand elseN true true a b ca cb cs rs w hl1 hl2 hl3 hl4 hA hB)
  unfold maxLen at hl1 hl2 hl3 hl4
  have HA := hide hA
  have HB := hide hB
  have HA0 := hide ha0
  have HB0 := hide hb0
  clear hA hB ha0 hb0
  go_enter Try.func4, Try.ntmps4
  go_wp2_with (go_at_call 10; fail)
  refine hby.out.mono ?_
  clear hby
  rintro e w' ⟨⟨t, rfl⟩, rfl⟩
  cases t with
  | false =>
    go_wp2_with fail
    go_ret
    exact ⟨rfl, Below.refl _ _⟩
  | true =>
    by_cases hc16 : cs.length ≤ 65536 ∧ rs.length ≤ 65536 ∧ operand.size ≤ 1048576 ∧ elseN.size ≤ 1048576
    · obtain ⟨hc1, hc2, hc3, hc4⟩ := hc16
      go_wp2_with fail
      go_loop [13, 14] (fun st si => ∃ (i : Nat) (tot : Int), i ≤ cs.length ∧ si = .int .i64 (i : Int) ∧ st = .int .i64 tot ∧ 0 ≤ tot ∧ tot ≤ 2097184 + (i : Int) * 1048592) (fun _ si => cs.length - (intOf si).toNat)
      case atStart => exact ⟨0, _, by omega, rfl, rfl, by omega, by omega⟩
      case round =>
        obtain ⟨i, tot, hi, rfl, rfl, ht0, ht1⟩ := hrel
        by_cases hlt : i < cs.length
        · as_aux_lemma =>
          obtain ⟨g, off, rfl, _, hci⟩ := HA.out i hlt
          generalize cs.getD i ByteArray.empty = x at hci
          by_cases hx : x.size ≤ 1048576
          · go_wp2_with fail
            exact ⟨⟨i + 1, tot + (16 + (x.size : Int)), by omega, by go_num, by go_num, by omega, by omega⟩, by simp [intOf]; omega⟩
          · go_wp2_with fail
            go_ret
            exact ⟨rfl, Below.refl _ _⟩
        · go_wp2_with fail
          go_loop [13, 15] (fun st si => ∃ (i : Nat) (tot : Int), i ≤ rs.length ∧ si = .int .i64 (i : Int) ∧ st = .int .i64 tot ∧ 0 ≤ tot ∧ tot ≤ 68723638304 + (i : Int) * 1048592) (fun _ si => rs.length - (intOf si).toNat)
          case atStart => exact ⟨0, _, by omega, rfl, rfl, by omega, by omega⟩
          case round =>
            obtain ⟨i, tot, hi, rfl, rfl, ht0, ht1⟩ := hrel
            by_cases hlt : i < rs.length
            · as_aux_lemma =>
              obtain ⟨g, off, rfl, _, hci⟩ := HB.out i hlt
              generalize rs.getD i ByteArray.empty = x at hci
              by_cases hx : x.size ≤ 1048576
              · go_wp2_with fail
                exact ⟨⟨i + 1, tot + (16 + (x.size : Int)), by omega, by go_num, by go_num, by omega, by omega⟩, by simp [intOf]; omega⟩
              · go_wp2_with fail
                go_ret
                exact ⟨rfl, Below.refl _ _⟩
            · by_cases ht : tot ≤ 1048576
              · by_cases hlen : rs.length = cs.length
                · have HLEN := hide hlen
                  have hne : ((cs.length : Int) != (rs.length : Int)) = false := by simp; omega
                  clear hlen
                  go_wp2_with (go_at_call 7; fail)
                  refine (clone_gen a ca cs _ hc1 HA0.out HA.out).mono ?_
                  rintro e w1 ⟨a1, ca1, rfl, hA1, hb1⟩
                  have HA1 := hide hA1
                  have HB1 := hide hb1
                  clear hA1 hb1
                  go_wp2_with (go_at_call 7; fail)
                  refine (clone_gen b cb rs _ hc2 HB0.out (HB.out.move HB1.out)).mono ?_
                  rintro e w2 ⟨b1, cb1, rfl, hB2, hb2⟩
                  have HA2 := hide (HA1.out.move hb2)
                  have HB2 := hide hB2
                  have HW2 := hide (HB1.out.trans (hb2.mono HB1.out.size))
                  clear hB2 hb2 HA1 HB1
                  go_wp2_with (go_at_call 11; fail)
                  as_aux_lemma =>
                  refine (zc1 operand elseN true a1 b1 ca1 cb1 cs rs _ hc1 HLEN.out HA2.out HB2.out).mono ?_
                  rintro e w3 ⟨sa, sc, oa, oc, rfl, hso, hoo, hb3⟩
                  obtain ⟨g3, c3, e3⟩ := own_form hoo (by omega)
                  simp only [Value.slice.injEq, true_and] at e3
                  obtain ⟨rfl, rfl⟩ := e3
                  have hc3' : w3.cell? ⟨g3, 0, none⟩ = some (.int .i64 0) := own_cell hoo 0 (.int .i64 0) rfl
                  have HC3 := hide hc3'
                  have HSO := hide hso
                  have HA3 := hide (HA2.out.move hb3)
                  have HB3 := hide (HB2.out.move hb3)
                  have HW3 := hide (HW2.out.trans (hb3.mono HW2.out.size))
                  have HG3 : Hid (g3 < w3.heap.size) := by have := block_lt_of_cell hc3'; exact this
                  clear hso hoo hb3 hc3' HA2 HB2 HW2
                  go_wp2_with (at_make; refine wpList_make_own _ rfl _ _ 22 rfl w3.heap.size 9 i0 (.string ByteArray.empty) 1 Try.underlying22 hi0 hz0 hz1 _ _ _ (2 * cs.length + 2) rfl rfl (by omega) ?b2 ?b3 (Nat.le_refl _) ?_)
                  case b2 => rw [hz2]; omega
                  case b3 => unfold maxLen; omega
                  intro w4 hown4 hgrow4
                  have HB4 := hide ((Below.refl w3.heap.size w3).grown hgrow4 (Nat.le_refl _) (fun k h => by cases h))
                  clear hgrow4
                  go_wp2_with (at_builtin; refine wpList_append_fits _ rfl (.tmp 121) (.tmp 123) 22 rfl w3.heap.size 9 i0 1 Try.underlying22 hi0 hz1 w3.heap.size 0 (2 * cs.length + 2) _ rfl (hown4.alloc _) ⟨w4.heap.size, 0, none⟩ 1 1 [.string operand] rfl rfl ?p1 ?p2 ?p3 ?_)
                  case p1 => exact cell_one_new _ _ _
                  case p2 => intro u hu; simp at hu; subst hu; rfl
                  case p3 => omega
                  intro w5 hown_w5 hgrow_w5
                  have HO5 : Hid (w5.ownsRow w3.heap.size 9 1 (.slice (some ⟨w3.heap.size, 0, none⟩) 1 (2 * cs.length + 2)) 1 ((Option.toList (some operand) ++ fl cs rs 0).map Value.string)) := hown_w5
                  have HB5 := hide ((HB4.out.alloc HB4.out.size _).grown hgrow_w5 (by simp; have := HB4.out.size; omega) (fun t ht => by cases ht; exact Nat.le_refl _))
                  clear hown_w5 hgrow_w5 hown4 HB4
                  go_wp2_with fail
                  go_loopw [19, 20] (fun sw si wr => ∃ j k : Nat, j ≤ cs.length ∧ Hid (k = 1 + 2 * j) ∧ si = .int .i64 (j : Int) ∧ sw = .slice (some ⟨w3.heap.size, 0, none⟩) k (2 * cs.length + 2) ∧ Hid (wr.ownsRow w3.heap.size 9 1 (.slice (some ⟨w3.heap.size, 0, none⟩) k (2 * cs.length + 2)) k ((Option.toList (some operand) ++ fl cs rs j).map Value.string)) ∧ Hid (Below w3.heap.size w3 wr)) (fun _ si _ => cs.length - (intOf si).toNat)
                  case atStart => exact ⟨0, 1, by omega, rfl, rfl, rfl, HO5, HB5⟩
                  case round =>
                    obtain ⟨j, k, hj, HK, rfl, rfl, hown, hbel⟩ := hrel
                    by_cases hlt : j < cs.length
                    · as_aux_lemma =>
                      obtain ⟨ga, oa1, rfl, hga, hcca⟩ := HA3.out j hlt
                      obtain ⟨gb, ob1, rfl, hgb, hccb⟩ := HB3.out j (by have := HLEN.out; omega)
                      have hca' : wr.cell? ⟨ga, oa1 + j, none⟩ = some (.string (cs.getD j ByteArray.empty)) := (hbel.out.cell (p := ⟨ga, oa1 + j, none⟩) hga).trans hcca
                      have HFL := hide (fl_succ cs rs j)
                      have HCB2 := hide hccb
                      have hrlt : (j : Int) < (rs.length : Int) := by have := HLEN.out; omega
                      clear hcca hccb
                      generalize cs.getD j ByteArray.empty = x at hca' HFL
                      generalize rs.getD j ByteArray.empty = y at HCB2 HFL
                      go_wp2_with (at_builtin; refine wpList_append_fits _ rfl (.tmp 131) (.tmp 136) 22 rfl w3.heap.size 9 i0 1 Try.underlying22 hi0 hz1 w3.heap.size k (2 * cs.length + 2) _ rfl (hown.out.alloc _) ⟨wr.heap.size, 0, none⟩ 1 1 [.string x] rfl rfl ?q1 ?q2 ?q3 ?_)
                      case q1 => exact cell_one_new _ _ _
                      case q2 => intro u hu; simp at hu; subst hu; rfl
                      case q3 => have := HK.out; omega
                      intro w6 hown_w6 hgrow_w6
                      have hb6 := (hbel.out.alloc hbel.out.size _).grown hgrow_w6 (by simp; have := hbel.out.size; omega) (fun t ht => by cases ht; exact Nat.le_refl _)
                      have HB6 := hide hb6
                      have hcb' : w6.cell? ⟨gb, ob1 + j, none⟩ = some (.string y) := (hb6.cell (p := ⟨gb, ob1 + j, none⟩) hgb).trans HCB2.out
                      clear hb6 hgrow_w6
                      go_wp2_with (at_builtin; refine wpList_append_fits _ rfl (.tmp 138) (.tmp 143) 22 rfl w3.heap.size 9 i0 1 Try.underlying22 hi0 hz1 w3.heap.size (k + 1) (2 * cs.length + 2) _ rfl (hown_w6.alloc _) ⟨w6.heap.size, 0, none⟩ 1 1 [.string y] rfl rfl ?r1 ?r2 ?r3 ?_)
                      case r1 => exact cell_one_new _ _ _
                      case r2 => intro u hu; simp at hu; subst hu; rfl
                      case r3 => have := HK.out; omega
                      intro w7 hown_w7 hgrow_w7
                      have HB7 := hide ((HB6.out.alloc HB6.out.size _).grown hgrow_w7 (by simp; have := HB6.out.size; omega) (fun t ht => by cases ht; exact Nat.le_refl _))
                      have HO7 := hide hown_w7
                      clear hgrow_w7 hown_w7 hown_w6
                      go_wp2_with fail
                      refine ⟨⟨j + 1, k + 1 + 1, by omega, by have := HK.out; unfold Hid; omega, by go_num, rfl, ?_, HB7⟩, by simp [intOf]; omega⟩
                      unfold Hid
                      rw [HFL.out]
                      simpa using HO7.out
                    · as_aux_lemma =>
                      have hjn : j = cs.length := by omega
                      subst hjn
                      go_wp2_with (at_builtin; refine wpList_append_fits _ rfl (.tmp 146) (.tmp 148) 22 rfl w3.heap.size 9 i0 1 Try.underlying22 hi0 hz1 w3.heap.size k (2 * cs.length + 2) _ rfl (hown.out.alloc _) ⟨wr.heap.size, 0, none⟩ 1 1 [.string elseN] rfl rfl ?s1 ?s2 ?s3 ?_)
                      case s1 => exact cell_one_new _ _ _
                      case s2 => intro u hu; simp at hu; subst hu; rfl
                      case s3 => have := HK.out; omega
                      intro w8 hown_w8 hgrow_w8
                      have HB8 := hide ((hbel.out.alloc hbel.out.size _).grown hgrow_w8 (by simp; have := hbel.out.size; omega) (fun t ht => by cases ht; exact Nat.le_refl _))
                      have HO8 : Hid (w8.ownsRow w3.heap.size 9 1 (.slice (some ⟨w3.heap.size, 0, none⟩) (k + 1) (2 * cs.length + 2)) (k + 1) ((seenL (some operand) cs rs (some elseN)).map Value.string)) := by unfold Hid seenL; simpa using hown_w8
                      clear hgrow_w8 hown_w8
                      have hkL : (k + 1) = (seenL (some operand) cs rs (some elseN)).length := by have := HO8.out.1; simpa using this.symm
                      have HKL := hide hkL
                      have hoc : w8.cell? ⟨g3, 0, none⟩ = some (.int .i64 0) := (HB8.out.cell (p := ⟨g3, 0, none⟩) HG3.out).trans HC3.out
                      have e1 : ((1 + ((seenL (some operand) cs rs (some elseN)).length : Int)) == (k : Int) + 1 + 1) = true := by rw [← hkL]; simp; omega
                      have hkb : k ≤ 200000 := by have := HK.out; omega
                      clear hkL
                      go_wp2_with (go_at_call 9; fail)
                      refine (same_want w2.heap.size w3.heap.size sa sc w3.heap.size (k + 1) (2 * cs.length + 2) _ (seenL (some operand) cs rs (some elseN)) _ rfl HKL.out (by rw [← HKL.out]; omega) HSO.out HB8.out HO8.out).mono ?_
                      rintro e w9 ⟨rfl, nd, rfl⟩
                      go_wp2_with fail
                      go_ret
                      exact ⟨rfl, below_drewN (HW3.out.trans (HB8.out.mono HW3.out.size)) _⟩
                · have hne : ((cs.length : Int) != (rs.length : Int)) = true := by simp; omega
                  clear hlen
                  go_wp2_with fail
                  go_ret
                  exact ⟨rfl, Below.refl _ _⟩
              · go_wp2_with fail
                go_ret
                exact ⟨rfl, Below.refl _ _⟩
    · go_wp2_with fail
      all_goals first
        | (go_ret; exact ⟨rfl, Below.refl _ _⟩)
        | (exfalso; omega)

set_option maxRecDepth 100000 in
set_option maxHeartbeats 8000000 in
theorem claw_tf (operand elseN : ByteArray) (a b : Option Addr) (ca cb : Nat) (cs rs : List ByteArray) (w : World) (hl1 : operand.size ≤ maxLen) (hl2 : elseN.size ≤ maxLen) (hl3 : cs.length ≤ maxLen) (hl4 : rs.length ≤ maxLen)
    (ha0 : a = none → cs = [] ∧ ca = 0) (hb0 : b = none → rs = [] ∧ cb = 0) (hA : Sl w a cs) (hB : Sl w b rs) :
    Calls Try.prog 4 #[.string operand, .bool true, .slice a cs.length ca, .slice b rs.length cb, .string elseN, .bool false] w fun e w' => e = .returned (.bool true) ∧ Below w.heap.size w w' := by
  obtain ⟨i0, hi0, hz0, hz1, hz2⟩ := info_parts Try.info9
  have hby := hide (cbytes operand elseN true false a b ca cb cs rs w hl1 hl2 hl3 hl4 hA hB)
  unfold maxLen at hl1 hl2 hl3 hl4
  have HA := hide hA
  have HB := hide hB
  have HA0 := hide ha0
  have HB0 := hide hb0
  clear hA hB ha0 hb0
  go_enter Try.func4, Try.ntmps4
  go_wp2_with (go_at_call 10; fail)
  refine hby.out.mono ?_
  clear hby
  rintro e w' ⟨⟨t, rfl⟩, rfl⟩
  cases t with
  | false =>
    go_wp2_with fail
    go_ret
    exact ⟨rfl, Below.refl _ _⟩
  | true =>
    by_cases hc16 : cs.length ≤ 65536 ∧ rs.length ≤ 65536 ∧ operand.size ≤ 1048576 ∧ elseN.size ≤ 1048576
    · obtain ⟨hc1, hc2, hc3, hc4⟩ := hc16
      go_wp2_with fail
      go_loop [13, 14] (fun st si => ∃ (i : Nat) (tot : Int), i ≤ cs.length ∧ si = .int .i64 (i : Int) ∧ st = .int .i64 tot ∧ 0 ≤ tot ∧ tot ≤ 2097184 + (i : Int) * 1048592) (fun _ si => cs.length - (intOf si).toNat)
      case atStart => exact ⟨0, _, by omega, rfl, rfl, by omega, by omega⟩
      case round =>
        obtain ⟨i, tot, hi, rfl, rfl, ht0, ht1⟩ := hrel
        by_cases hlt : i < cs.length
        · as_aux_lemma =>
          obtain ⟨g, off, rfl, _, hci⟩ := HA.out i hlt
          generalize cs.getD i ByteArray.empty = x at hci
          by_cases hx : x.size ≤ 1048576
          · go_wp2_with fail
            exact ⟨⟨i + 1, tot + (16 + (x.size : Int)), by omega, by go_num, by go_num, by omega, by omega⟩, by simp [intOf]; omega⟩
          · go_wp2_with fail
            go_ret
            exact ⟨rfl, Below.refl _ _⟩
        · go_wp2_with fail
          go_loop [13, 15] (fun st si => ∃ (i : Nat) (tot : Int), i ≤ rs.length ∧ si = .int .i64 (i : Int) ∧ st = .int .i64 tot ∧ 0 ≤ tot ∧ tot ≤ 68723638304 + (i : Int) * 1048592) (fun _ si => rs.length - (intOf si).toNat)
          case atStart => exact ⟨0, _, by omega, rfl, rfl, by omega, by omega⟩
          case round =>
            obtain ⟨i, tot, hi, rfl, rfl, ht0, ht1⟩ := hrel
            by_cases hlt : i < rs.length
            · as_aux_lemma =>
              obtain ⟨g, off, rfl, _, hci⟩ := HB.out i hlt
              generalize rs.getD i ByteArray.empty = x at hci
              by_cases hx : x.size ≤ 1048576
              · go_wp2_with fail
                exact ⟨⟨i + 1, tot + (16 + (x.size : Int)), by omega, by go_num, by go_num, by omega, by omega⟩, by simp [intOf]; omega⟩
              · go_wp2_with fail
                go_ret
                exact ⟨rfl, Below.refl _ _⟩
            · by_cases ht : tot ≤ 1048576
              · by_cases hlen : rs.length = cs.length
                · have HLEN := hide hlen
                  have hne : ((cs.length : Int) != (rs.length : Int)) = false := by simp; omega
                  clear hlen
                  go_wp2_with (go_at_call 7; fail)
                  refine (clone_gen a ca cs _ hc1 HA0.out HA.out).mono ?_
                  rintro e w1 ⟨a1, ca1, rfl, hA1, hb1⟩
                  have HA1 := hide hA1
                  have HB1 := hide hb1
                  clear hA1 hb1
                  go_wp2_with (go_at_call 7; fail)
                  refine (clone_gen b cb rs _ hc2 HB0.out (HB.out.move HB1.out)).mono ?_
                  rintro e w2 ⟨b1, cb1, rfl, hB2, hb2⟩
                  have HA2 := hide (HA1.out.move hb2)
                  have HB2 := hide hB2
                  have HW2 := hide (HB1.out.trans (hb2.mono HB1.out.size))
                  clear hB2 hb2 HA1 HB1
                  go_wp2_with (go_at_call 11; fail)
                  as_aux_lemma =>
                  refine (zc1 operand elseN false a1 b1 ca1 cb1 cs rs _ hc1 HLEN.out HA2.out HB2.out).mono ?_
                  rintro e w3 ⟨sa, sc, oa, oc, rfl, hso, hoo, hb3⟩
                  obtain ⟨g3, c3, e3⟩ := own_form hoo (by omega)
                  simp only [Value.slice.injEq, true_and] at e3
                  obtain ⟨rfl, rfl⟩ := e3
                  have hc3' : w3.cell? ⟨g3, 0, none⟩ = some (.int .i64 0) := own_cell hoo 0 (.int .i64 0) rfl
                  have HC3 := hide hc3'
                  have HSO := hide hso
                  have HA3 := hide (HA2.out.move hb3)
                  have HB3 := hide (HB2.out.move hb3)
                  have HW3 := hide (HW2.out.trans (hb3.mono HW2.out.size))
                  have HG3 : Hid (g3 < w3.heap.size) := by have := block_lt_of_cell hc3'; exact this
                  clear hso hoo hb3 hc3' HA2 HB2 HW2
                  go_wp2_with (at_make; refine wpList_make_own _ rfl _ _ 22 rfl w3.heap.size 9 i0 (.string ByteArray.empty) 1 Try.underlying22 hi0 hz0 hz1 _ _ _ (2 * cs.length + 2) rfl rfl (by omega) ?b2 ?b3 (Nat.le_refl _) ?_)
                  case b2 => rw [hz2]; omega
                  case b3 => unfold maxLen; omega
                  intro w4 hown4 hgrow4
                  have HB4 := hide ((Below.refl w3.heap.size w3).grown hgrow4 (Nat.le_refl _) (fun k h => by cases h))
                  clear hgrow4
                  go_wp2_with (at_builtin; refine wpList_append_fits _ rfl (.tmp 121) (.tmp 123) 22 rfl w3.heap.size 9 i0 1 Try.underlying22 hi0 hz1 w3.heap.size 0 (2 * cs.length + 2) _ rfl (hown4.alloc _) ⟨w4.heap.size, 0, none⟩ 1 1 [.string operand] rfl rfl ?p1 ?p2 ?p3 ?_)
                  case p1 => exact cell_one_new _ _ _
                  case p2 => intro u hu; simp at hu; subst hu; rfl
                  case p3 => omega
                  intro w5 hown_w5 hgrow_w5
                  have HO5 : Hid (w5.ownsRow w3.heap.size 9 1 (.slice (some ⟨w3.heap.size, 0, none⟩) 1 (2 * cs.length + 2)) 1 ((Option.toList (some operand) ++ fl cs rs 0).map Value.string)) := hown_w5
                  have HB5 := hide ((HB4.out.alloc HB4.out.size _).grown hgrow_w5 (by simp; have := HB4.out.size; omega) (fun t ht => by cases ht; exact Nat.le_refl _))
                  clear hown_w5 hgrow_w5 hown4 HB4
                  go_wp2_with fail
                  go_loopw [19, 20] (fun sw si wr => ∃ j k : Nat, j ≤ cs.length ∧ Hid (k = 1 + 2 * j) ∧ si = .int .i64 (j : Int) ∧ sw = .slice (some ⟨w3.heap.size, 0, none⟩) k (2 * cs.length + 2) ∧ Hid (wr.ownsRow w3.heap.size 9 1 (.slice (some ⟨w3.heap.size, 0, none⟩) k (2 * cs.length + 2)) k ((Option.toList (some operand) ++ fl cs rs j).map Value.string)) ∧ Hid (Below w3.heap.size w3 wr)) (fun _ si _ => cs.length - (intOf si).toNat)
                  case atStart => exact ⟨0, 1, by omega, rfl, rfl, rfl, HO5, HB5⟩
                  case round =>
                    obtain ⟨j, k, hj, HK, rfl, rfl, hown, hbel⟩ := hrel
                    by_cases hlt : j < cs.length
                    · as_aux_lemma =>
                      obtain ⟨ga, oa1, rfl, hga, hcca⟩ := HA3.out j hlt
                      obtain ⟨gb, ob1, rfl, hgb, hccb⟩ := HB3.out j (by have := HLEN.out; omega)
                      have hca' : wr.cell? ⟨ga, oa1 + j, none⟩ = some (.string (cs.getD j ByteArray.empty)) := (hbel.out.cell (p := ⟨ga, oa1 + j, none⟩) hga).trans hcca
                      have HFL := hide (fl_succ cs rs j)
                      have HCB2 := hide hccb
                      have hrlt : (j : Int) < (rs.length : Int) := by have := HLEN.out; omega
                      clear hcca hccb
                      generalize cs.getD j ByteArray.empty = x at hca' HFL
                      generalize rs.getD j ByteArray.empty = y at HCB2 HFL
                      go_wp2_with (at_builtin; refine wpList_append_fits _ rfl (.tmp 131) (.tmp 136) 22 rfl w3.heap.size 9 i0 1 Try.underlying22 hi0 hz1 w3.heap.size k (2 * cs.length + 2) _ rfl (hown.out.alloc _) ⟨wr.heap.size, 0, none⟩ 1 1 [.string x] rfl rfl ?q1 ?q2 ?q3 ?_)
                      case q1 => exact cell_one_new _ _ _
                      case q2 => intro u hu; simp at hu; subst hu; rfl
                      case q3 => have := HK.out; omega
                      intro w6 hown_w6 hgrow_w6
                      have hb6 := (hbel.out.alloc hbel.out.size _).grown hgrow_w6 (by simp; have := hbel.out.size; omega) (fun t ht => by cases ht; exact Nat.le_refl _)
                      have HB6 := hide hb6
                      have hcb' : w6.cell? ⟨gb, ob1 + j, none⟩ = some (.string y) := (hb6.cell (p := ⟨gb, ob1 + j, none⟩) hgb).trans HCB2.out
                      clear hb6 hgrow_w6
                      go_wp2_with (at_builtin; refine wpList_append_fits _ rfl (.tmp 138) (.tmp 143) 22 rfl w3.heap.size 9 i0 1 Try.underlying22 hi0 hz1 w3.heap.size (k + 1) (2 * cs.length + 2) _ rfl (hown_w6.alloc _) ⟨w6.heap.size, 0, none⟩ 1 1 [.string y] rfl rfl ?r1 ?r2 ?r3 ?_)
                      case r1 => exact cell_one_new _ _ _
                      case r2 => intro u hu; simp at hu; subst hu; rfl
                      case r3 => have := HK.out; omega
                      intro w7 hown_w7 hgrow_w7
                      have HB7 := hide ((HB6.out.alloc HB6.out.size _).grown hgrow_w7 (by simp; have := HB6.out.size; omega) (fun t ht => by cases ht; exact Nat.le_refl _))
                      have HO7 := hide hown_w7
                      clear hgrow_w7 hown_w7 hown_w6
                      go_wp2_with fail
                      refine ⟨⟨j + 1, k + 1 + 1, by omega, by have := HK.out; unfold Hid; omega, by go_num, rfl, ?_, HB7⟩, by simp [intOf]; omega⟩
                      unfold Hid
                      rw [HFL.out]
                      simpa using HO7.out
                    · as_aux_lemma =>
                      have hjn : j = cs.length := by omega
                      subst hjn
                      have HB8 := hbel
                      have HO8 : Hid (wr.ownsRow w3.heap.size 9 1 (.slice (some ⟨w3.heap.size, 0, none⟩) k (2 * cs.length + 2)) k ((seenL (some operand) cs rs none).map Value.string)) := by unfold Hid seenL; simpa using hown.out
                      have hkL : k = (seenL (some operand) cs rs none).length := by have := HO8.out.1; simpa using this.symm
                      have HKL := hide hkL
                      have hoc : wr.cell? ⟨g3, 0, none⟩ = some (.int .i64 0) := (HB8.out.cell (p := ⟨g3, 0, none⟩) HG3.out).trans HC3.out
                      have e1 : ((1 + ((seenL (some operand) cs rs none).length : Int)) == (k : Int) + 1) = true := by rw [← hkL]; simp; omega
                      have hkb : k ≤ 200000 := by have := HK.out; omega
                      clear hkL
                      go_wp2_with (go_at_call 9; fail)
                      refine (same_want w2.heap.size w3.heap.size sa sc w3.heap.size k (2 * cs.length + 2) _ (seenL (some operand) cs rs none) _ rfl HKL.out (by rw [← HKL.out]; omega) HSO.out HB8.out HO8.out).mono ?_
                      rintro e w9 ⟨rfl, nd, rfl⟩
                      go_wp2_with fail
                      go_ret
                      exact ⟨rfl, below_drewN (HW3.out.trans (HB8.out.mono HW3.out.size)) _⟩
                · have hne : ((cs.length : Int) != (rs.length : Int)) = true := by simp; omega
                  clear hlen
                  go_wp2_with fail
                  go_ret
                  exact ⟨rfl, Below.refl _ _⟩
              · go_wp2_with fail
                go_ret
                exact ⟨rfl, Below.refl _ _⟩
    · go_wp2_with fail
      all_goals first
        | (go_ret; exact ⟨rfl, Below.refl _ _⟩)
        | (exfalso; omega)

end Go.Proofs.Qxb6603603a
