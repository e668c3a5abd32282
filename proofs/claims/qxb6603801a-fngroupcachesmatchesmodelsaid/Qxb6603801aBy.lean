import Derived.Test.Qxb6603801aCpb
namespace Go.Proofs.Qxb6603801a
open Go.RowKit

/-- some integer, and nothing else has changed -/
def IntPost (w : World) (e : Ending) (w' : World) : Prop := ∃ b : Int, e = .returned (.int .i64 b) ∧ w' = w

/-- zzBytes: where it answers true, each length is at most 2^20 -/
def ZbPost (w : World) (n k1 m fl k2 : Nat) (lc ln : Nat → Nat) (e : Ending) (w' : World) : Prop := ∃ r, e = .returned (.bool r) ∧ w' = w ∧
  (r = true → n ≤ 1048576 ∧ k1 ≤ 1048576 ∧ m ≤ 1048576 ∧ fl ≤ 1048576 ∧ k2 ≤ 1048576 ∧ (∀ i, i < n → lc i ≤ 1048576) ∧ ∀ i, i < m → ln i ≤ 1048576)

set_option maxRecDepth 100000 in
set_option maxHeartbeats 4000000 in
theorem gcBytes_any {B : Nat} {w : World} {n k1 m fl k2 : Nat} {lc ln : Nat → Nat} {ca na sa fa ua : Option Addr} {cc nc sc fc uc : Nat} (h1 : Hid (Lens B w ca n lc)) (h2 : Hid (Lens B w sa m ln)) (hn : n ≤ 1048576) (hk1 : k1 ≤ 1048576) (hm : m ≤ 1048576) (hfl : fl ≤ 1048576) (hk2 : k2 ≤ 1048576)
    (hc : Hid (∀ i, i < n → lc i ≤ 1048576)) (hs : Hid (∀ i, i < m → ln i ≤ 1048576)) :
    Calls Try.prog 14 #[.slice ca n cc, .slice na k1 nc, .slice sa m sc, .slice fa fl fc, .slice ua k2 uc] w fun e w' => IntPost w e w' := by
  go_enter Try.func14, Try.ntmps14
  go_wp2_with fail
  go_loopg [11, 12] n (fun k v11 v12 wr => ∃ b i : Nat, v11 = .int .i64 (b : Int) ∧ v12 = .int .i64 (i : Int) ∧ i + k = n ∧ b ≤ 67108864 ∧ wr = w)
  case atStart => exact ⟨8 * (n + k1 + m + fl + 2 * k2), 0, by congr 1, rfl, by omega, by omega, rfl⟩
  case round =>
    obtain ⟨b, i, rfl, rfl, hik, hb, hw⟩ := hrel
    subst wr
    by_cases hi : i < n
    · have hiz : (i : Int) < (n : Int) := by omega
      by_cases hb2 : b ≤ 1048576
      · have hbz : (b : Int) ≤ 1048576 := by omega
        obtain ⟨xb, xo, xa, xc, rfl, _, c1⟩ := h1.out i hi
        have hL := hc.out i hi
        generalize lc i = L at *
        by_cases hL2 : L ≤ 131072
        · have hLz : ¬ ((L : Int) > 131072) := by omega
          go_wp2_with fail
          go_roundg (n - (i + 1))
          case measure => omega
          case rel => exact ⟨b + 8 * L, i + 1, by congr 1, by simp, by omega, by omega, rfl⟩
        · have hLz : ((L : Int) > 131072) := by omega
          go_wp2_with fail
          refine bodyPost_ret (results_tmp rfl _ _ _) rfl ?_
          exact ⟨_, rfl, rfl⟩
      · have hbz : ¬ ((b : Int) ≤ 1048576) := by omega
        go_wp2_with fail
        go_loopg [11, 13] m (fun k v11 v12 wr => ∃ b i : Nat, v11 = .int .i64 (b : Int) ∧ v12 = .int .i64 (i : Int) ∧ i + k = m ∧ b ≤ 67108864 ∧ wr = w)
        case atStart => exact ⟨b, 0, rfl, rfl, by omega, by omega, rfl⟩
        case round =>
          obtain ⟨b, i, rfl, rfl, hik, hb, hw⟩ := hrel
          subst wr
          by_cases hi : i < m
          · by_cases hb2 : b ≤ 1048576
            · have hiz : (i : Int) < (m : Int) := by omega
              have hbz : (b : Int) ≤ 1048576 := by omega
              obtain ⟨xb, xo, xa, xc, rfl, _, c1⟩ := h2.out i hi
              have hL := hs.out i hi
              generalize ln i = L at *
              by_cases hL2 : L ≤ 131072
              · have hLz : ¬ ((L : Int) > 131072) := by omega
                go_wp2_with fail
                go_roundg (m - (i + 1))
                case measure => omega
                case rel => exact ⟨b + 8 * L, i + 1, by congr 1, by simp, by omega, by omega, rfl⟩
              · have hLz : ((L : Int) > 131072) := by omega
                go_wp2_with fail
                refine bodyPost_ret (results_tmp rfl _ _ _) rfl ?_
                exact ⟨_, rfl, rfl⟩
            · have hiz : (i : Int) < (m : Int) := by omega
              have hbz : ¬ ((b : Int) ≤ 1048576) := by omega
              go_wp2_with fail
              refine bodyPost_ret (results_tmp rfl _ _ _) rfl ?_
              exact ⟨_, rfl, rfl⟩
          · have hiz : ¬ ((i : Int) < (m : Int)) := by omega
            go_wp2_with fail
            refine bodyPost_ret (results_tmp rfl _ _ _) rfl ?_
            exact ⟨_, rfl, rfl⟩
    · have hiz : ¬ ((i : Int) < (n : Int)) := by omega
      go_wp2_with fail
      go_loopg [11, 13] m (fun k v11 v12 wr => ∃ b i : Nat, v11 = .int .i64 (b : Int) ∧ v12 = .int .i64 (i : Int) ∧ i + k = m ∧ b ≤ 67108864 ∧ wr = w)
      case atStart => exact ⟨b, 0, rfl, rfl, by omega, by omega, rfl⟩
      case round =>
        obtain ⟨b, i, rfl, rfl, hik, hb, hw⟩ := hrel
        subst wr
        by_cases hi : i < m
        · by_cases hb2 : b ≤ 1048576
          · have hiz : (i : Int) < (m : Int) := by omega
            have hbz : (b : Int) ≤ 1048576 := by omega
            obtain ⟨xb, xo, xa, xc, rfl, _, c1⟩ := h2.out i hi
            have hL := hs.out i hi
            generalize ln i = L at *
            by_cases hL2 : L ≤ 131072
            · have hLz : ¬ ((L : Int) > 131072) := by omega
              go_wp2_with fail
              go_roundg (m - (i + 1))
              case measure => omega
              case rel => exact ⟨b + 8 * L, i + 1, by congr 1, by simp, by omega, by omega, rfl⟩
            · have hLz : ((L : Int) > 131072) := by omega
              go_wp2_with fail
              refine bodyPost_ret (results_tmp rfl _ _ _) rfl ?_
              exact ⟨_, rfl, rfl⟩
          · have hiz : (i : Int) < (m : Int) := by omega
            have hbz : ¬ ((b : Int) ≤ 1048576) := by omega
            go_wp2_with fail
            refine bodyPost_ret (results_tmp rfl _ _ _) rfl ?_
            exact ⟨_, rfl, rfl⟩
        · have hiz : ¬ ((i : Int) < (m : Int)) := by omega
          go_wp2_with fail
          refine bodyPost_ret (results_tmp rfl _ _ _) rfl ?_
          exact ⟨_, rfl, rfl⟩

set_option maxRecDepth 100000 in
set_option maxHeartbeats 4000000 in
theorem zzBytes_any {B : Nat} {w : World} {n k1 m fl k2 : Nat} {lc ln : Nat → Nat} {ca na sa fa ua : Option Addr} {cc nc sc fc uc : Nat} {p : Int} (h1 : Hid (Lens B w ca n lc)) (h2 : Hid (Lens B w sa m ln)) :
    Calls Try.prog 13 #[.slice ca n cc, .slice na k1 nc, .slice sa m sc, .slice fa fl fc, .slice ua k2 uc, .int .i64 p] w fun e w' => ZbPost w n k1 m fl k2 lc ln e w' := by
  go_enter Try.func13, Try.ntmps13
  by_cases hn : n ≤ 1048576
  · have hnz : ¬ ((n : Int) > 1048576) := by omega
    go_wp2_with fail
    go_loopg [13, 14] n (fun k v13 v14 wr => ∃ b i : Nat, v13 = .int .i64 (b : Int) ∧ v14 = .int .i64 (i : Int) ∧ i + k = n ∧ b ≤ 1048576 ∧ wr = w ∧ Hid (∀ j, j < i → lc j ≤ 1048576))
    case atStart => exact ⟨n, 0, by first | rfl | simp, rfl, by omega, by omega, rfl, fun j hj => by omega⟩
    case round =>
      obtain ⟨b, i, rfl, rfl, hik, hb, hw, HJ⟩ := hrel
      subst wr
      by_cases hi : i < n
      · have hiz : (i : Int) < (n : Int) := by omega
        obtain ⟨xb, xo, xa, xc, rfl, _, c1⟩ := h1.out i hi
        obtain ⟨L, hL⟩ : ∃ L, lc i = L := ⟨_, rfl⟩
        have HL := hide hL
        rw [hL] at c1
        clear hL
        by_cases hL2 : L ≤ 1048576
        · have hLz : ¬ ((L : Int) > 1048576) := by omega
          by_cases hb2 : b + L ≤ 1048576
          · have hbz : ¬ ((b : Int) + (L : Int) > 1048576) := by omega
            go_wp2_with fail
            go_roundg (n - (i + 1))
            case measure => omega
            case rel =>
              refine ⟨b + L, i + 1, by simp, by simp, by omega, by omega, rfl, fun j hj => ?_⟩
              by_cases e : j = i
              · rw [e, HL.out]; exact hL2
              · exact HJ.out j (by omega)
          · have hbz : ((b : Int) + (L : Int) > 1048576) := by omega
            go_wp2_with fail
            refine bodyPost_ret (results_tmp rfl _ _ _) rfl ?_
            exact ⟨false, rfl, rfl, fun h => by cases h⟩
        · have hLz : ((L : Int) > 1048576) := by omega
          go_wp2_with fail
          refine bodyPost_ret (results_tmp rfl _ _ _) rfl ?_
          exact ⟨false, rfl, rfl, fun h => by cases h⟩
      · have hiz : ¬ ((i : Int) < (n : Int)) := by omega
        have HJn : Hid (∀ j, j < n → lc j ≤ 1048576) := fun j hj => HJ.out j (by omega)
        by_cases hk1 : k1 ≤ 1048576
        · have hkz : ¬ ((k1 : Int) > 1048576) := by omega
          by_cases hb1 : b + k1 ≤ 1048576
          · have hbz : ¬ ((b : Int) + (k1 : Int) > 1048576) := by omega
            by_cases hm : m ≤ 1048576
            · have hmz : ¬ ((m : Int) > 1048576) := by omega
              by_cases hb2 : b + k1 + m ≤ 1048576
              · have hbz2 : ¬ ((b : Int) + (k1 : Int) + (m : Int) > 1048576) := by omega
                go_wp2_with fail
                go_loopg [13, 15] m (fun k v13 v14 wr => ∃ b i : Nat, v13 = .int .i64 (b : Int) ∧ v14 = .int .i64 (i : Int) ∧ i + k = m ∧ b ≤ 1048576 ∧ wr = w ∧ Hid (∀ j, j < i → ln j ≤ 1048576))
                case atStart => exact ⟨b + k1 + m, 0, by simp, rfl, by omega, by omega, rfl, fun j hj => by omega⟩
                case round =>
                  clear HJ hbz hbz2
                  obtain ⟨b, i, rfl, rfl, hik, hb, hw, HJ⟩ := hrel
                  subst wr
                  by_cases hi : i < m
                  · have hiz : (i : Int) < (m : Int) := by omega
                    obtain ⟨xb, xo, xa, xc, rfl, _, c1⟩ := h2.out i hi
                    obtain ⟨L, hL⟩ : ∃ L, ln i = L := ⟨_, rfl⟩
                    have HL := hide hL
                    rw [hL] at c1
                    clear hL
                    by_cases hL2 : L ≤ 1048576
                    · have hLz : ¬ ((L : Int) > 1048576) := by omega
                      by_cases hb2 : b + L ≤ 1048576
                      · have hbz : ¬ ((b : Int) + (L : Int) > 1048576) := by omega
                        go_wp2_with fail
                        go_roundg (m - (i + 1))
                        case measure => omega
                        case rel =>
                          refine ⟨b + L, i + 1, by simp, by simp, by omega, by omega, rfl, fun j hj => ?_⟩
                          by_cases e : j = i
                          · rw [e, HL.out]; exact hL2
                          · exact HJ.out j (by omega)
                      · have hbz : ((b : Int) + (L : Int) > 1048576) := by omega
                        go_wp2_with fail
                        refine bodyPost_ret (results_tmp rfl _ _ _) rfl ?_
                        exact ⟨false, rfl, rfl, fun h => by cases h⟩
                    · have hLz : ((L : Int) > 1048576) := by omega
                      go_wp2_with fail
                      refine bodyPost_ret (results_tmp rfl _ _ _) rfl ?_
                      exact ⟨false, rfl, rfl, fun h => by cases h⟩
                  · have hiz : ¬ ((i : Int) < (m : Int)) := by omega
                    have HJm : Hid (∀ j, j < m → ln j ≤ 1048576) := fun j hj => HJ.out j (by omega)
                    by_cases hf : fl ≤ 1048576
                    · have hfz : ¬ ((fl : Int) > 1048576) := by omega
                      by_cases hb3 : b + fl ≤ 1048576
                      · have hbz3 : ¬ ((b : Int) + (fl : Int) > 1048576) := by omega
                        by_cases hk2 : k2 ≤ 1048576
                        · have hk2z : ¬ ((k2 : Int) > 1048576) := by omega
                          by_cases hb4 : b + fl + k2 ≤ 1048576
                          · have hbz4 : ¬ ((b : Int) + (fl : Int) + (k2 : Int) > 1048576) := by omega
                            go_wp2_with fail
                            refine bodyPost_ret (results_tmp rfl _ _ _) rfl ?_
                            exact ⟨true, rfl, rfl, fun _ => ⟨hn, hk1, hm, hf, hk2, HJn.out, HJm.out⟩⟩
                          · have hbz4 : ((b : Int) + (fl : Int) + (k2 : Int) > 1048576) := by omega
                            go_wp2_with fail
                            refine bodyPost_ret (results_tmp rfl _ _ _) rfl ?_
                            exact ⟨false, rfl, rfl, fun h => by cases h⟩
                        · have hk2z : ((k2 : Int) > 1048576) := by omega
                          go_wp2_with fail
                          refine bodyPost_ret (results_tmp rfl _ _ _) rfl ?_
                          exact ⟨false, rfl, rfl, fun h => by cases h⟩
                      · have hbz3 : ((b : Int) + (fl : Int) > 1048576) := by omega
                        go_wp2_with fail
                        refine bodyPost_ret (results_tmp rfl _ _ _) rfl ?_
                        exact ⟨false, rfl, rfl, fun h => by cases h⟩
                    · have hfz : ((fl : Int) > 1048576) := by omega
                      go_wp2_with fail
                      refine bodyPost_ret (results_tmp rfl _ _ _) rfl ?_
                      exact ⟨false, rfl, rfl, fun h => by cases h⟩
              · have hbz2 : ((b : Int) + (k1 : Int) + (m : Int) > 1048576) := by omega
                go_wp2_with fail
                refine bodyPost_ret (results_tmp rfl _ _ _) rfl ?_
                exact ⟨false, rfl, rfl, fun h => by cases h⟩
            · have hmz : ((m : Int) > 1048576) := by omega
              go_wp2_with fail
              refine bodyPost_ret (results_tmp rfl _ _ _) rfl ?_
              exact ⟨false, rfl, rfl, fun h => by cases h⟩
          · have hbz : ((b : Int) + (k1 : Int) > 1048576) := by omega
            go_wp2_with fail
            refine bodyPost_ret (results_tmp rfl _ _ _) rfl ?_
            exact ⟨false, rfl, rfl, fun h => by cases h⟩
        · have hkz : ((k1 : Int) > 1048576) := by omega
          go_wp2_with fail
          refine bodyPost_ret (results_tmp rfl _ _ _) rfl ?_
          exact ⟨false, rfl, rfl, fun h => by cases h⟩
  · have hnz : ((n : Int) > 1048576) := by omega
    go_wp2_with fail
    refine bodyPost_ret (results_tmp rfl _ _ _) rfl ?_
    exact ⟨false, rfl, rfl, fun h => by cases h⟩
end Go.Proofs.Qxb6603801a
