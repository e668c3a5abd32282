import Derived.Test.Qxb6003438aKA
import Derived.Deep.QuietTactic
import Derived.BigQuiet
namespace Go.Proofs.Qxb6003438a
open Go.RowKit

set_option maxHeartbeats 400000 in
/-- zzBytesEqual at two slices that are not nil -/
theorem be_any (ga oa la ca gb ob lb cb : Nat) (A B : Nat → Int) (w : World) (hla : la ≤ 1000) (hlb : lb ≤ 1000)
    (hA : ∀ i, i < la → w.cell? ⟨ga, oa + i, none⟩ = some (.int .u8 (A i)))
    (hB : ∀ i, i < lb → w.cell? ⟨gb, ob + i, none⟩ = some (.int .u8 (B i))) :
    Calls Try.prog 25 #[.slice (some ⟨ga, oa, none⟩) la ca, .slice (some ⟨gb, ob, none⟩) lb cb] w fun e w' => (∃ t : Bool, e = .returned (.bool t) ∧ (t = true ↔ la = lb ∧ ∀ i, i < la → A i = B i)) ∧ ∃ n, w' = w.drewN n := by
  by_cases hl : la = lb
  · subst hl
    have HA : Hid (∀ i, i < la → w.cell? ⟨ga, oa + i, none⟩ = some (.int .u8 (A i))) := hA
    have HB : Hid (∀ i, i < la → w.cell? ⟨gb, ob + i, none⟩ = some (.int .u8 (B i))) := hB
    clear hA hB
    go_enter Try.func25, Try.ntmps25
    go_wp2
    go_loopw [5] (fun i wr => ∃ k n : Nat, k ≤ la ∧ i = .int .i64 (k : Int) ∧ wr = w.drewN n ∧ Hid (∀ j, j < k → A j = B j)) (fun i _ => la - (intOf i).toNat)
    case atStart => exact ⟨0, 0, by omega, rfl, rfl, fun j h => by omega⟩
    case round =>
      obtain ⟨k, n, hk, rfl, rfl, hall⟩ := hrel
      by_cases hlt : k < la
      · have ha := HA.out k hlt
        have hb := HB.out k hlt
        go_wp2
        go_quiet (fail)
        go_wp2
        all_goals first
          | (go_ret
             have hne : A k ≠ B k := by simpa using ‹(A k != B k) = true›
             exact ⟨⟨false, rfl, by simp; exact ⟨k, hlt, hne⟩⟩, n + nq, by simp⟩)
          | (have he : A k = B k := by simpa using ‹(A k != B k) = false›
             refine ⟨⟨k + 1, n + nq, by omega, by go_num, rfl, fun j hj => ?_⟩, by simp [intOf]; omega⟩
             by_cases e : j = k
             · subst e; exact he
             · exact hall.out j (by omega))
      · go_wp2
        go_ret
        exact ⟨⟨true, rfl, by simp; intro i hi; exact hall.out i (by omega)⟩, n, rfl⟩
  · have hne : ((la : Int) != (lb : Int)) = true := by simp; omega
    clear hA hB
    go_enter Try.func25, Try.ntmps25
    go_wp2
    go_ret
    exact ⟨⟨false, rfl, by simp; intro h; exact absurd h hl⟩, 0, rfl⟩
end Go.Proofs.Qxb6003438a
