import Derived.Test.Qxb6003438aIt
import Derived.Test.Qxb6003438aBE
namespace Go.Proofs.Qxb6003438a
open Go.RowKit
open Plain

theorem own_cells {w : World} {base g n cap : Nat} {L : List Int} (h : w.ownsRow base 5 1 (.slice (some ⟨g, 0, none⟩) n cap) n (L.map (Value.int .u8))) : ∀ i, i < n → w.cell? ⟨g, 0 + i, none⟩ = some (.int .u8 (L.getD i 0)) := by
  obtain ⟨hl, h2⟩ := h
  rcases h2 with ⟨h2, _⟩ | ⟨g', cap', cur, hv, _, hg, _, _, hs, ht⟩
  · cases h2
  · simp only [Value.slice.injEq, Option.some.injEq, Addr.mk.injEq] at hv
    obtain ⟨⟨rfl, _, _⟩, _, rfl⟩ := hv
    intro i hi
    rw [cell_of_row w g (0 + i) cur 5 (0, 0) hg]
    have h0 : (cur.toList.take (n * 1))[i]? = (L.map (Value.int .u8))[i]? := by rw [ht]
    rw [List.getElem?_take_of_lt (by omega)] at h0
    have hL : i < L.length := by simp at hl; omega
    simp only [Nat.zero_add]
    simpa [hL] using h0

theorem seg_ext (L : List Int) (z : Nat → Int) (b n : Nat) : (L.length = n ∧ ∀ i, i < L.length → L.getD i 0 = z (b + i)) ↔ L = seg z b n := by
  constructor
  · rintro ⟨h1, h2⟩
    apply List.ext_getElem
    · rw [seg_length, h1]
    · intro i hi hi'
      have := h2 i hi
      simp [hi] at this
      simp [seg, this]
  · intro h
    subst h
    refine ⟨seg_length _ _ _, fun i hi => ?_⟩
    rw [seg_length] at hi
    simp [seg, hi]

theorem valN_num (z : Nat → Int) (b k : Nat) (h : ∀ i, i < k → dig (z (b + i))) (hk : k ≤ 8) : valN (seg z b k) < 100000000 ∧ (k ≤ 7 → valN (seg z b k) < 10000000) := by
  have h1 := valN_lt z b k h
  refine ⟨Nat.lt_of_lt_of_le h1 ?_, fun h7 => Nat.lt_of_lt_of_le h1 ?_⟩
  · exact Nat.pow_le_pow_right (n := 10) (by omega) hk
  · exact Nat.pow_le_pow_right (n := 10) (by omega) h7

theorem ret_b {a b : Bool} (h : a = b) : Ending.returned (.bool a) = .returned (.bool b) := by rw [h]

/-- the call has returned whether p holds -/
def BoolIs (e : Ending) (p : Prop) : Prop := ∃ t : Bool, e = .returned (.bool t) ∧ (t = true ↔ p)
theorem BoolIs.no {p : Prop} (h : ¬ p) : BoolIs (.returned (.bool false)) p := ⟨false, rfl, by simp [h]⟩
theorem BoolIs.of {p : Prop} {t : Bool} (h : t = true ↔ p) : BoolIs (.returned (.bool t)) p := ⟨t, rfl, h⟩

theorem itoa_any (v : Int) (w : World) (h1 : -100000000 < v) (h2 : v < 100000000) :
    Calls Try.prog 13 #[.int .i64 v] w fun e w' => (∃ g cap, e = .returned (.slice (some ⟨g, 0, none⟩) (itoaL v).length cap) ∧
      w'.ownsRow w.heap.size 5 1 (.slice (some ⟨g, 0, none⟩) (itoaL v).length cap) (itoaL v).length ((itoaL v).map (Value.int .u8))) ∧ Below w.heap.size w w' := by
  unfold itoaL
  by_cases hv : v < 0
  · rw [if_pos hv]
    have h := itoa_neg (-v).toNat w (by show _ < 100000000; omega) (by omega)
    rwa [show (-((-v).toNat : Int)) = v by omega] at h
  · rw [if_neg hv]
    have h := itoa_pos v.toNat w (by show _ < 100000000; omega)
    rwa [show ((v.toNat : Int)) = v by omega] at h

theorem itoaL_len (v : Int) (h1 : -100000000 < v) (h2 : v < 100000000) : (itoaL v).length ≤ 9 := by
  unfold itoaL
  by_cases hv : v < 0
  · rw [if_pos hv]
    have := decA_len 8 (-v).toNat 8 [] (by show _ < 100000000; omega) (by omega)
    simp at this ⊢; omega
  · rw [if_neg hv]
    have := decA_len 8 v.toNat 8 [] (by show _ < 100000000; omega) (by omega)
    simp at this ⊢; omega

theorem can_pos' {z : Nat → Int} {b n : Nat} (h45 : z b ≠ 45) (hn : 0 < n) (h8 : n ≤ 8) (h : ∀ i, i < n → dig (z (b + i))) : (itoaL (valN (seg z b n) : Int) = seg z b n) ↔ Plain.Can z b (b + n) := by
  obtain ⟨k, rfl⟩ : ∃ k, n = k + 1 := ⟨n - 1, by omega⟩
  exact can_pos h45 (by omega) h

theorem can_neg' {z : Nat → Int} {b m : Nat} (h45 : z b = 45) (hn : 0 < m) (h8 : m ≤ 8) (h : ∀ i, i < m → dig (z (b + 1 + i))) : (itoaL (-(valN (seg z (b + 1) m) : Int)) = seg z b (m + 1)) ↔ Plain.Can z b (b + (m + 1)) := by
  obtain ⟨k, rfl⟩ : ∃ k, m = k + 1 := ⟨m - 1, by omega⟩
  exact can_neg h45 (by omega) h

theorem seg_step {z : Nat → Int} {b k vn : Nat} (h : Hid (vn = valN (seg z b k))) (_h1 : 48 ≤ z (b + k)) : Hid ((vn * 10 + (z (b + k) - 48).toNat) = valN (seg z b (k + 1))) := by
  unfold Hid
  rw [seg_succ, valN_snoc, ← h.out]

theorem dig_step {z : Nat → Int} {b k : Nat} (h : Hid (∀ j, j < k → dig (z (b + j)))) (h1 : 48 ≤ z (b + k)) (h2 : z (b + k) ≤ 57) : Hid (∀ j, j < k + 1 → dig (z (b + j))) := fun j hj => by
  by_cases e : j = k
  · subst e; exact ⟨h1, h2⟩
  · exact h.out j (by omega)

theorem can_not {z : Nat → Int} {b n k : Nat} (h45 : z b ≠ 45) (hk : k < n) (hd : ¬ dig (z (b + k))) : ¬ Plain.Can z b (b + n) := by
  rintro (⟨_, _, _, h, _⟩ | ⟨h, _⟩)
  · exact hd (h (b + k) (by omega) (by omega))
  · exact h45 h

theorem can_not' {z : Nat → Int} {b m k : Nat} (h45 : z b = 45) (hk : k < m) (hd : ¬ dig (z (b + 1 + k))) : ¬ Plain.Can z b (b + (m + 1)) := by
  rintro (⟨h, _⟩ | ⟨_, _, _, h, _⟩)
  · exact h h45
  · exact hd (h (b + 1 + k) (by omega) (by omega))

set_option maxHeartbeats 1000000 in
theorem canon_pos (z : Nat → Int) (g b n cap : Nat) (w : World) (hn : n < cap) (hn1 : 0 < n) (hn30 : n ≤ 30)
    (hc : ∀ i, i < n → w.cell? ⟨g, b + i, none⟩ = some (.int .u8 (z (b + i)))) (hz : ∀ i, i < n → 0 ≤ z (b + i) ∧ z (b + i) ≤ 255) (h45 : z b ≠ 45) :
    Calls Try.prog 22 #[.slice (some ⟨g, b, none⟩) n cap] w fun e w' => BoolIs e (Plain.Can z b (b + n)) ∧ Below w.heap.size w w' := by
  have hne : ((n : Int) == 0) = false := by simp; omega
  have h0 := hc 0 hn1
  simp only [Nat.add_zero] at h0
  have hm : (z b == 45) = false := by simpa using h45
  have hgl : g < w.heap.size := by simpa using block_lt_of_cell h0
  have HCA : Hid (∀ i, i < n → w.cell? ⟨g, b + i, none⟩ = some (.int .u8 (z (b + i)))) := hc
  have HC : Hid (∀ i, i < n → w.cell? ⟨g, b + i, none⟩ = some (.int .u8 (z (b + i)))) := hc
  have HZ : Hid (∀ i, i < n → 0 ≤ z (b + i) ∧ z (b + i) ≤ 255) := hz
  clear hc hz
  by_cases h8 : n ≤ 8
  · go_enter Try.func22, Try.ntmps22
    go_wp2
    go_loop [5, 6] (fun sv si => ∃ k vn : Nat, k ≤ n ∧ si = .int .i64 (k : Int) ∧ sv = .int .i64 (vn : Int) ∧ Hid (vn = valN (seg z b k)) ∧ Hid (∀ j, j < k → dig (z (b + j)))) (fun _ si => n - (intOf si).toNat)
    case atStart => exact ⟨0, 0, by omega, rfl, rfl, rfl, fun j h => by omega⟩
    case round =>
      obtain ⟨k, vn, hk, rfl, rfl, hv, hd⟩ := hrel
      by_cases hlt : k < n
      · have hck := HC.out k hlt
        obtain ⟨hz0, hz1⟩ := HZ.out k hlt
        have hv7 : vn < 10000000 := by have := (valN_num z b k hd.out (by omega)).2 (by omega); rw [hv.out]; exact this
        by_cases hd1 : 48 ≤ z (b + k)
        · by_cases hd2 : z (b + k) ≤ 57
          · go_wp2
            go_round
            case rel => exact ⟨k + 1, vn * 10 + (z (b + k) - 48).toNat, by omega, by go_num, congrArg _ (by omega), seg_step hv hd1, dig_step hd hd1 hd2⟩
            case measure => simp [intOf]; omega
          · go_wp2
            go_ret
            exact ⟨BoolIs.no (can_not h45 hlt (fun h => by unfold dig at h; omega)), Below.refl _ _⟩
        · go_wp2
          go_ret
          exact ⟨BoolIs.no (can_not h45 hlt (fun h => by unfold dig at h; omega)), Below.refl _ _⟩
      · have hkn : k = n := by omega
        have hv8 : vn < 100000000 := by have := (valN_num z b k hd.out (by omega)).1; rw [hv.out]; exact this
        have hkl : ¬ ((k : Int) < (n : Int)) := by omega
        go_wp2_with (go_at_call 13; fail)
        subst hkn
        refine (itoa_any (vn : Int) _ (by omega) (by omega)).mono ?_
        rintro e w1 ⟨⟨g1, c1, rfl, hown1⟩, hb1⟩
        have hlen := itoaL_len (vn : Int) (by omega) (by omega)
        go_wp2_with (go_at_call 25; fail)
        refine (be_any g1 0 _ c1 g b _ cap (fun i => (itoaL (vn : Int)).getD i 0) (fun i => z (b + i)) _ (by omega) (by omega) (own_cells hown1) (fun i hi => (hb1.cell (by exact hgl)).trans (HCA.out i hi))).mono ?_
        rintro e w2 ⟨⟨t, rfl, ht⟩, nd, rfl⟩
        go_wp2
        go_ret
        refine ⟨BoolIs.of (ht.trans ((seg_ext _ z b _).trans ?_)), below_drewN hb1 _⟩
        rw [hv.out]
        exact can_pos' h45 hn1 h8 hd.out
  · go_enter Try.func22, Try.ntmps22
    go_wp2
    go_ret
    refine ⟨BoolIs.no ?_, Below.refl _ _⟩
    unfold Plain.Can
    omega

set_option maxHeartbeats 1000000 in
theorem canon_neg (z : Nat → Int) (g b m cap : Nat) (w : World) (hn : m + 1 < cap) (hn30 : m + 1 ≤ 30)
    (hc : ∀ i, i < (m + 1) → w.cell? ⟨g, b + i, none⟩ = some (.int .u8 (z (b + i)))) (hz : ∀ i, i < (m + 1) → 0 ≤ z (b + i) ∧ z (b + i) ≤ 255) (h45 : z b = 45) :
    Calls Try.prog 22 #[.slice (some ⟨g, b, none⟩) (m + 1) cap] w fun e w' => BoolIs e (Plain.Can z b (b + (m + 1))) ∧ Below w.heap.size w w' := by
  have h0 := hc 0 (by omega)
  simp only [Nat.add_zero] at h0
  rw [h45] at h0
  have hgl : g < w.heap.size := by simpa using block_lt_of_cell h0
  have HCA : Hid (∀ i, i < m + 1 → w.cell? ⟨g, b + i, none⟩ = some (.int .u8 (z (b + i)))) := hc
  have HC : Hid (∀ i, i < m → w.cell? ⟨g, b + 1 + i, none⟩ = some (.int .u8 (z (b + 1 + i)))) := fun i hi => by have := hc (1 + i) (by omega); rwa [← Nat.add_assoc] at this
  have HZ : Hid (∀ i, i < m → 0 ≤ z (b + 1 + i) ∧ z (b + 1 + i) ≤ 255) := fun i hi => by have := hz (1 + i) (by omega); rwa [← Nat.add_assoc] at this
  have H45 : Hid (z b = 45) := h45
  clear hc hz h45
  by_cases hm0 : m = 0
  · subst hm0
    go_enter Try.func22, Try.ntmps22
    go_wp2
    go_ret
    refine ⟨BoolIs.no ?_, Below.refl _ _⟩
    have := H45.out
    unfold Plain.Can
    omega
  have hne : ((m : Int) == 0) = false := by simp; omega
  by_cases h8 : m ≤ 8
  · go_enter Try.func22, Try.ntmps22
    go_wp2
    go_loop [5, 6] (fun sv si => ∃ k vn : Nat, k ≤ m ∧ si = .int .i64 (k : Int) ∧ sv = .int .i64 (vn : Int) ∧ Hid (vn = valN (seg z (b + 1) k)) ∧ Hid (∀ j, j < k → dig (z (b + 1 + j)))) (fun _ si => m - (intOf si).toNat)
    case atStart => exact ⟨0, 0, by omega, rfl, rfl, rfl, fun j h => by omega⟩
    case round =>
      obtain ⟨k, vn, hk, rfl, rfl, hv, hd⟩ := hrel
      by_cases hlt : k < m
      · have hck := HC.out k hlt
        obtain ⟨hz0, hz1⟩ := HZ.out k hlt
        have hv7 : vn < 10000000 := by have := (valN_num z (b + 1) k hd.out (by omega)).2 (by omega); rw [hv.out]; exact this
        by_cases hd1 : 48 ≤ z (b + 1 + k)
        · by_cases hd2 : z (b + 1 + k) ≤ 57
          · go_wp2
            go_round
            case rel => exact ⟨_, .int .i64 ((vn * 10 + (z (b + 1 + k) - 48).toNat : Nat) : Int), .int .i64 ((k + 1 : Nat) : Int), ⟨k + 1, by omega, rfl, _, rfl, seg_step hv hd1, dig_step hd hd1 hd2⟩, rfl, congrArg _ (by omega), by go_num⟩
            case measure => simp [intOf]; omega
          · go_wp2
            go_ret
            exact ⟨BoolIs.no (can_not' H45.out hlt (fun h => by unfold dig at h; omega)), Below.refl _ _⟩
        · go_wp2
          go_ret
          exact ⟨BoolIs.no (can_not' H45.out hlt (fun h => by unfold dig at h; omega)), Below.refl _ _⟩
      · have hkn : k = m := by omega
        have hv8 : vn < 100000000 := by have := (valN_num z (b + 1) k hd.out (by omega)).1; rw [hv.out]; exact this
        have hkl : ¬ ((k : Int) < (m : Int)) := by omega
        go_wp2_with (go_at_call 13; fail)
        subst hkn
        refine (itoa_any (-(vn : Int)) _ (by omega) (by omega)).mono ?_
        rintro e w1 ⟨⟨g1, c1, rfl, hown1⟩, hb1⟩
        have hlen := itoaL_len (-(vn : Int)) (by omega) (by omega)
        go_wp2_with (go_at_call 25; fail)
        refine (be_any g1 0 _ c1 g b _ cap (fun i => (itoaL (-(vn : Int))).getD i 0) (fun i => z (b + i)) _ (by omega) (by omega) (own_cells hown1) (fun i hi => (hb1.cell (by exact hgl)).trans (HCA.out i hi))).mono ?_
        rintro e w2 ⟨⟨t, rfl, ht⟩, nd, rfl⟩
        go_wp2
        go_ret
        refine ⟨BoolIs.of (ht.trans ((seg_ext _ z b _).trans ?_)), below_drewN hb1 _⟩
        rw [hv.out]
        exact can_neg' H45.out (by omega) h8 hd.out
  · go_enter Try.func22, Try.ntmps22
    go_wp2
    go_ret
    refine ⟨BoolIs.no ?_, Below.refl _ _⟩
    have := H45.out
    unfold Plain.Can
    omega
end Go.Proofs.Qxb6003438a
