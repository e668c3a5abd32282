import Derived.Test.Qxb6603801aBy
import Derived.Deep.DeepCutAuto
namespace Go.Proofs.Qxb6603801a
open Go.RowKit

/-- the layout fits -/
def Fits (n k1 m fl k2 : Nat) (p : Int) (key : Nat → Key) (ln : Nat → Nat) (fp : Nat → Int) : Prop :=
  ∃ pp : Nat, p = (pp : Int) ∧ pp ≤ 65536 ∧ n ≤ 4096 ∧ k1 = n ∧ k2 = n ∧ (∀ u, u < n → ∃ i : Nat, (key u).2.2 = (i : Int) ∧ i < m) ∧ pp = fpU key ln n ∧ (0 < pp → fl = n + 1 ∧ ∀ u, u ≤ n → fp u = (fpU key ln u : Int))

def FtPost (w : World) (n k1 m fl k2 : Nat) (p : Int) (key : Nat → Key) (ln : Nat → Nat) (fp : Nat → Int) (e : Ending) (w' : World) : Prop :=
  ∃ r q, e = .returned (.bool r) ∧ w' = w.drewN q ∧ (r = true → Fits n k1 m fl k2 p key ln fp)

theorem fpU_zero {key : Nat → Key} {ln : Nat → Nat} : ∀ n, (∀ u, u < n → sU key ln u = 0) → fpU key ln n = 0
  | 0, _ => rfl
  | k + 1, h => by rw [fpU_succ, fpU_zero k (fun u hu => h u (by omega)), h k (by omega)]

theorem sU_le {key : Nat → Key} {ln : Nat → Nat} {i u : Nat} (h : (key u).2.2 = (i : Int)) : sU key ln u = szOf ln i := by
  unfold sU
  rw [h]
  rfl

theorem fpU_le {key : Nat → Key} {ln : Nat → Nat} {m : Nat} (hl : ∀ i, i < m → ln i ≤ 1048576) : ∀ n, (∀ u, u < n → ∃ i : Nat, (key u).2.2 = (i : Int) ∧ i < m) → fpU key ln n ≤ n * 1048576
  | 0, _ => by simp [fpU, base]
  | k + 1, h => by
    have h1 := fpU_le hl k (fun u hu => h u (by omega))
    obtain ⟨i, h2, h3⟩ := h k (by omega)
    have h4 := hl i h3
    have h5 : sU key ln k ≤ 1048576 := by
      rw [sU_le h2]
      unfold szOf
      split <;> omega
    rw [fpU_succ]
    omega

set_option maxRecDepth 100000 in
set_option maxHeartbeats 8000000 in
theorem gcFits_any {B : Nat} {w : World} {n k1 m fl k2 : Nat} {lc ln : Nat → Nat} {key : Nat → Key} {fp : Nat → Int} {ca na sa fa ua : Option Addr} {cc nc sc fc uc : Nat} {p : Int} (h1 : Hid (Lens B w ca n lc)) (h2 : Hid (Lens B w sa m ln)) (h3 : Hid (Ints B w na k1 fun u => (key u).2.2)) (h4 : Hid (Ints B w fa fl fp))
    (hn : n ≤ 1048576) (hk1 : k1 ≤ 1048576) (hm : m ≤ 1048576) (hfl : fl ≤ 1048576) (hk2 : k2 ≤ 1048576)
    (hc : Hid (∀ i, i < n → lc i ≤ 1048576)) (hs : Hid (∀ i, i < m → ln i ≤ 1048576)) :
    Calls Try.prog 15 #[.slice ca n cc, .slice na k1 nc, .slice sa m sc, .slice fa fl fc, .slice ua k2 uc, .int .i64 p] w fun e w' => FtPost w n k1 m fl k2 p key ln fp e w' := by
  have hnil := fun w a n c => Lib.run_eql_slice_nil (P := Try.prog) w 22 3 a n c 0 0 Try.underlying22
  go_enter Try.func15, Try.ntmps15
  by_cases a1 : n ≤ 4096
  · have z1 : ¬ ((n : Int) > 4096) := by omega
    by_cases a2 : k1 ≤ 131072
    · have z2 : ¬ ((k1 : Int) > 131072) := by omega
      by_cases a3 : m ≤ 131072
      · have z3 : ¬ ((m : Int) > 131072) := by omega
        by_cases a4 : fl ≤ 131072
        · have z4 : ¬ ((fl : Int) > 131072) := by omega
          by_cases a5 : k2 ≤ 131072
          · have z5 : ¬ ((k2 : Int) > 131072) := by omega
            go_wp2_with (go_at_call 14; fail)
            refine (gcBytes_any h1 h2 hn hk1 hm hfl hk2 hc hs).mono ?_
            rintro e w1 ⟨b, rfl, hw⟩
            subst w1
            by_cases b1 : b > 1048576
            · go_wp2_with fail
              refine bodyPost_ret (results_tmp rfl _ _ _) rfl ?_
              exact ⟨false, 0, rfl, rfl, fun h => by cases h⟩
            · by_cases p1 : p < 0
              · go_wp2_with fail
                refine bodyPost_ret (results_tmp rfl _ _ _) rfl ?_
                exact ⟨false, 0, rfl, rfl, fun h => by cases h⟩
              · by_cases p2 : p > 65536
                · go_wp2_with fail
                  refine bodyPost_ret (results_tmp rfl _ _ _) rfl ?_
                  exact ⟨false, 0, rfl, rfl, fun h => by cases h⟩
                · obtain ⟨pp, rfl⟩ : ∃ pp : Nat, p = (pp : Int) := ⟨p.toNat, by omega⟩
                  by_cases e1 : k1 = n
                  · subst e1
                    by_cases e2 : k2 = k1
                    · subst e2
                      go_wp2_with fail
                      go_loopg [14] k2 (fun k v wr => ∃ u : Nat, v = .int .i64 (u : Int) ∧ u + k = k2 ∧ wr = w ∧ Hid (∀ j, j < u → ∃ i : Nat, (key j).2.2 = (i : Int) ∧ i < m))
                      case atStart => exact ⟨0, rfl, by omega, rfl, fun j hj => by omega⟩
                      case round =>
                        obtain ⟨u, rfl, huk, hw, HJ⟩ := hrel
                        subst wr
                        by_cases hu : u < k2
                        · have huz : (u : Int) < (k2 : Int) := by omega
                          obtain ⟨xb, xo, rfl, _, c1⟩ := h3.out u hu
                          obtain ⟨x, hx⟩ : ∃ x, (key u).2.2 = x := ⟨_, rfl⟩
                          have HX := hide hx
                          change _ = some (Value.int .i64 (key u).2.2) at c1
                          rw [hx] at c1
                          clear hx
                          by_cases x1 : x < 0
                          · go_wp2_with fail
                            refine bodyPost_ret (results_tmp rfl _ _ _) rfl ?_
                            exact ⟨false, 0, rfl, rfl, fun h => by cases h⟩
                          · by_cases x2 : x ≥ (m : Int)
                            · go_wp2_with fail
                              refine bodyPost_ret (results_tmp rfl _ _ _) rfl ?_
                              exact ⟨false, 0, rfl, rfl, fun h => by cases h⟩
                            · go_wp2_with fail
                              go_roundg (k2 - (u + 1))
                              case measure => omega
                              case rel =>
                                refine ⟨u + 1, by simp, by omega, rfl, fun j hj => ?_⟩
                                by_cases e : j = u
                                · rw [e, HX.out]; exact ⟨x.toNat, by omega, by omega⟩
                                · exact HJ.out j (by omega)
                        · have huz : ¬ ((u : Int) < (k2 : Int)) := by omega
                          have HND : Hid (∀ j, j < k2 → ∃ i : Nat, (key j).2.2 = (i : Int) ∧ i < m) := fun j hj => HJ.out j (by omega)
                          clear HJ
                          cases fa with
                          | none =>
                            go_wp2_with fail
                            go_loopg [15] k2 (fun k v wr => ∃ v' : Nat, v = .int .i64 (v' : Int) ∧ v' + k = k2 ∧ wr = w ∧ Hid (∀ j, j < v' → sU key ln j = 0))
                            case atStart => exact ⟨0, rfl, by omega, rfl, fun j hj => by omega⟩
                            case round =>
                              obtain ⟨v, rfl, hvk, hw, HJ⟩ := hrel
                              subst wr
                              by_cases hv : v < k2
                              · have hvz : (v : Int) < (k2 : Int) := by omega
                                obtain ⟨i, hi, him⟩ := HND.out v hv
                                obtain ⟨xb, xo, rfl, _, c1⟩ := h3.out v hv
                                have HSU : Hid (sU key ln v = szOf ln i) := sU_le hi
                                change _ = some (Value.int .i64 (key v).2.2) at c1
                                rw [hi] at c1
                                have hcall := size_any (c := sc) h2.out him (hs.out i him)
                                clear hi
                                generalize szOf ln i = z at *
                                go_wp2_with (go_at_call 19; fail)
                                refine hcall.mono ?_
                                rintro e w1 ⟨rfl, hw⟩
                                subst w1
                                clear hcall
                                by_cases hz : z = 0
                                · subst hz
                                  go_wp2_with fail
                                  go_roundg (k2 - (v + 1))
                                  case measure => omega
                                  case rel =>
                                    refine ⟨v + 1, by simp, by omega, rfl, fun j hj => ?_⟩
                                    by_cases e : j = v
                                    · rw [e]; exact HSU.out
                                    · exact HJ.out j (by omega)
                                · have hzz : ¬ ((z : Int) = 0) := by omega
                                  go_wp2_with fail
                                  refine bodyPost_ret (results_tmp rfl _ _ _) rfl ?_
                                  exact ⟨false, 0, rfl, rfl, fun h => by cases h⟩
                              · have hvz : ¬ ((v : Int) < (k2 : Int)) := by omega
                                go_wp2_with fail
                                refine bodyPost_ret (results_tmp rfl _ _ _) rfl ?_
                                by_cases hp0 : pp = 0
                                · subst hp0
                                  exact ⟨true, 0, rfl, rfl, fun _ => ⟨0, rfl, by omega, by omega, rfl, rfl, HND.out, (fpU_zero k2 (fun j hj => HJ.out j (by omega))).symm, fun h => by omega⟩⟩
                                · have hpz : ((pp : Int) == 0) = false := by simp; omega
                                  exact ⟨false, 0, by rw [← hpz]; rfl, rfl, fun h => by cases h⟩
                          | some ad =>
                            by_cases f1 : fl = k2 + 1
                            · subst f1
                              obtain ⟨b, o, hab, _, c0⟩ := h4.out 0 (by omega)
                              cases hab
                              obtain ⟨f0, hf0⟩ : ∃ x, fp 0 = x := ⟨_, rfl⟩
                              have HF0 := hide hf0
                              rw [hf0] at c0
                              clear hf0
                              rw [Nat.add_zero] at c0
                              have hz0 : (0 : Int) < (k2 : Int) + 1 := by omega
                              by_cases f2 : f0 = 0
                              · subst f2
                                go_wp2_with fail
                                go_loopg [16] k2 (fun k v wr => ∃ v' q : Nat, v = .int .i64 (v' : Int) ∧ v' + k = k2 ∧ wr = w.drewN q ∧ Hid (∀ j, j ≤ v' → fp j = (fpU key ln j : Int)))
                                case atStart =>
                                  refine ⟨0, 0, rfl, by omega, rfl, fun j hj => ?_⟩
                                  obtain rfl : j = 0 := by omega
                                  exact HF0.out
                                case round =>
                                  obtain ⟨v, q, rfl, hvk, hw, HJ⟩ := hrel
                                  by_cases hv : v < k2
                                  · have hvz : (v : Int) < (k2 : Int) := by omega
                                    have hvz1 : (v : Int) < (k2 : Int) + 1 := by omega
                                    have hvz2 : (v : Int) + 1 < (k2 : Int) + 1 := by omega
                                    obtain ⟨i, hi, him⟩ := HND.out v hv
                                    obtain ⟨xb, xo, rfl, _, c1⟩ := h3.out v hv
                                    have HSU : Hid (sU key ln v = szOf ln i) := sU_le hi
                                    change _ = some (Value.int .i64 (key v).2.2) at c1
                                    rw [hi] at c1
                                    obtain ⟨b', o', hab, _, d0⟩ := h4.out v (by omega)
                                    cases hab
                                    obtain ⟨b', o', hab, _, d1⟩ := h4.out (v + 1) (by omega)
                                    cases hab
                                    rw [HJ.out v (Nat.le_refl _)] at d0
                                    have HB : fpU key ln v ≤ v * 1048576 := fpU_le hs.out v (fun u hu => HND.out u (by omega))
                                    have HZ : szOf ln i ≤ 1048576 := by
                                      have := hs.out i him
                                      unfold szOf
                                      split <;> omega
                                    obtain ⟨f1, hf1⟩ : ∃ x, fp (v + 1) = x := ⟨_, rfl⟩
                                    have HF1 := hide hf1
                                    rw [hf1] at d1
                                    have hcall : ∀ q, Calls Try.prog 19 #[.slice sa m sc, .int .i64 (i : Int)] (w.drewN q) fun e w' => e = .returned (.int .i64 (szOf ln i : Int)) ∧ w' = w.drewN q := fun q => size_any (c := sc) (h2.out.move (fun _ _ => rfl)) him (hs.out i him)
                                    have c1' : wr.cell? ⟨xb, xo + v, none⟩ = some (.int .i64 (i : Int)) := by rw [hw]; exact c1
                                    have d0' : wr.cell? ⟨b, o + v, none⟩ = some (.int .i64 (fpU key ln v : Int)) := by rw [hw]; exact d0
                                    have d1' : wr.cell? ⟨b, o + (v + 1), none⟩ = some (.int .i64 f1) := by rw [hw]; exact d1
                                    have hcall' : ∀ q, Calls Try.prog 19 #[.slice sa m sc, .int .i64 (i : Int)] (wr.drewN q) fun e w' => e = .returned (.int .i64 (szOf ln i : Int)) ∧ w' = wr.drewN q := fun q => size_any (c := sc) (h2.out.move (fun _ _ => by rw [hw]; rfl)) him (hs.out i him)
                                    have HWQ := hide hw
                                    clear hi c1 d0 d1 hf1 hcall hw c0
                                    obtain ⟨x, hx⟩ : ∃ x, fpU key ln v = x := ⟨_, rfl⟩
                                    have HXX := hide hx
                                    rw [hx] at d0' HB
                                    clear hx
                                    generalize szOf ln i = z at *
                                    by_cases hne : f1 = (x : Int) + (z : Int)
                                    · subst hne
                                      go_wp2_with fail
                                      go_quiet (first | (go_at_call 19; exact Calls.quiet_of_same (hcall' _)))
                                      go_wp2_with fail
                                      go_roundg (k2 - (v + 1))
                                      case measure => omega
                                      case rel =>
                                        refine ⟨v + 1, q + nq, by simp, by omega, by rw [HWQ.out, World.drewN_drewN], fun j hj => ?_⟩
                                        by_cases e : j = v + 1
                                        · rw [e, HF1.out, fpU_succ, HSU.out, HXX.out]; simp
                                        · exact HJ.out j (by omega)
                                    · have hneb : (f1 == (x : Int) + (z : Int)) = false := by simp [hne]
                                      have hneb2 : (f1 != (x : Int) + (z : Int)) = true := by simp [hne]
                                      clear hne
                                      go_wp2_with fail
                                      go_quiet (first | (go_at_call 19; exact Calls.quiet_of_same (hcall' _)))
                                      go_wp2_with fail
                                      refine bodyPost_ret (results_tmp rfl _ _ _) rfl ?_
                                      exact ⟨false, q + nq, rfl, by rw [HWQ.out, World.drewN_drewN], fun h => by cases h⟩
                                  · have hvz : ¬ ((v : Int) < (k2 : Int)) := by omega
                                    obtain ⟨b', o', hab, _, d0⟩ := h4.out k2 (by omega)
                                    cases hab
                                    rw [HJ.out k2 (by omega)] at d0
                                    have d0' : wr.cell? ⟨b, o + k2, none⟩ = some (.int .i64 (fpU key ln k2 : Int)) := by rw [hw]; exact d0
                                    have HWQ := hide hw
                                    have hkz : (k2 : Int) < (k2 : Int) + 1 := by omega
                                    clear hw d0 c0
                                    obtain ⟨x, hx⟩ : ∃ x, fpU key ln k2 = x := ⟨_, rfl⟩
                                    have HXX := hide hx
                                    rw [hx] at d0'
                                    clear hx
                                    go_wp2_with fail
                                    refine bodyPost_ret (results_tmp rfl _ _ _) rfl ?_
                                    by_cases hp0 : pp = x
                                    · subst hp0
                                      exact ⟨true, q, by simp, HWQ.out, fun _ => ⟨pp, rfl, by omega, by omega, rfl, rfl, HND.out, HXX.out.symm, fun _ => ⟨rfl, fun u hu => HJ.out u (by omega)⟩⟩⟩
                                    · have hpz : ((pp : Int) == (x : Int)) = false := by simp; omega
                                      exact ⟨false, q, by rw [← hpz]; rfl, HWQ.out, fun h => by cases h⟩
                              · have f2b : (f0 == 0) = false := by simp [f2]
                                have f2b2 : (f0 != 0) = true := by simp [f2]
                                clear f2
                                go_wp2_with fail
                                refine bodyPost_ret (results_tmp rfl _ _ _) rfl ?_
                                exact ⟨false, 0, rfl, rfl, fun h => by cases h⟩
                            · have f1z : ¬ ((fl : Int) = (k2 : Int) + 1) := by omega
                              go_wp2_with fail
                              refine bodyPost_ret (results_tmp rfl _ _ _) rfl ?_
                              exact ⟨false, 0, rfl, rfl, fun h => by cases h⟩
                    · have y2 : ¬ ((k2 : Int) = (k1 : Int)) := by omega
                      go_wp2_with fail
                      refine bodyPost_ret (results_tmp rfl _ _ _) rfl ?_
                      exact ⟨false, 0, rfl, rfl, fun h => by cases h⟩
                  · have y1 : ¬ ((k1 : Int) = (n : Int)) := by omega
                    go_wp2_with fail
                    refine bodyPost_ret (results_tmp rfl _ _ _) rfl ?_
                    exact ⟨false, 0, rfl, rfl, fun h => by cases h⟩
          · have z5 : ((k2 : Int) > 131072) := by omega
            go_wp2_with fail
            refine bodyPost_ret (results_tmp rfl _ _ _) rfl ?_
            exact ⟨false, 0, rfl, rfl, fun h => by cases h⟩
        · have z4 : ((fl : Int) > 131072) := by omega
          go_wp2_with fail
          refine bodyPost_ret (results_tmp rfl _ _ _) rfl ?_
          exact ⟨false, 0, rfl, rfl, fun h => by cases h⟩
      · have z3 : ((m : Int) > 131072) := by omega
        go_wp2_with fail
        refine bodyPost_ret (results_tmp rfl _ _ _) rfl ?_
        exact ⟨false, 0, rfl, rfl, fun h => by cases h⟩
    · have z2 : ((k1 : Int) > 131072) := by omega
      go_wp2_with fail
      refine bodyPost_ret (results_tmp rfl _ _ _) rfl ?_
      exact ⟨false, 0, rfl, rfl, fun h => by cases h⟩
  · have z1 : ((n : Int) > 4096) := by omega
    go_wp2_with fail
    refine bodyPost_ret (results_tmp rfl _ _ _) rfl ?_
    exact ⟨false, 0, rfl, rfl, fun h => by cases h⟩
end Go.Proofs.Qxb6603801a
