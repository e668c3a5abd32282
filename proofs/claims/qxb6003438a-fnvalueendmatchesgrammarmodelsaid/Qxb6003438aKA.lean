import Derived.Test.Qxb6003438aVE
import Derived.Deep.WholeRow
namespace Go.Proofs.Qxb6003438a
open Go.RowKit
open Plain

theorem Try.size22 : (Try.prog.info? 22).map (·.size) = some 30 := by kernel_rfl

set_option maxHeartbeats 400000 in
theorem zve_any (z : Nat → Int) (g a : Nat) (cont : Bool) (w : World) (ha : a < 20)
    (hc : ∀ j : Nat, j < 30 → w.cell? ⟨g, j, none⟩ = some (.int .u8 (z j)))
    (hz : ∀ j : Nat, j < 30 → 0 ≤ z j ∧ z j ≤ 255) :
    Calls Try.prog 10 #[.pointer (some ⟨g, 0, none⟩), .int .u64 a, .bool cont] w fun e w' => (∃ r, e = .returned (.int .u64 r) ∧ VE z a cont r) ∧ w' = w := by
  have h := ve_any z g a cont w ha hc hz
  have H : Hid (Calls Try.prog 21 #[.pointer (some ⟨g, 0, none⟩), .int .u64 a, .bool cont] w fun e w' => (∃ r, e = .returned (.int .u64 r) ∧ VE z a cont r) ∧ w' = w) := h
  clear h hc hz
  go_enter Try.func10, Try.ntmps10
  go_wp2_with (go_at_call 21; refine (H.out).mono ?_; rintro e w' ⟨⟨r, rfl, hr⟩, rfl⟩)
  go_ret
  exact ⟨⟨_, rfl, hr⟩, rfl⟩

theorem two_rows (w : World) (X : Obj) (c c' : Array Value) (t : TypeId) : ((w.alloc X).alloc (.cells c t)).setRow (w.heap.size + 1) c' = (w.alloc X).alloc (.cells c' t) := by
  have h := World.setRow_alloc_new (w.alloc X) c c' t
  have e : (w.alloc X).heap.size = w.heap.size + 1 := by show (w.heap.push X).size = _; simp
  rwa [e] at h

/-- what is known of a window's cells -/
structure Win (cs : Array Value) (z : Nat → Int) : Prop where
  size : cs.size = 30
  at_ : ∀ j : Nat, j < 30 → cs[j]? = some (.int .u8 (z j))
  lo : ∀ j : Nat, j < 30 → 0 ≤ z j ∧ z j ≤ 255

theorem Win.one {cs : Array Value} {z : Nat → Int} (h : Win cs z) : cs.all (·.oneCell') = true := by
  rw [Array.all_eq_true]
  intro i hi
  have := h.at_ i (by have := h.size; omega)
  rw [Array.getElem?_eq_getElem hi] at this
  rw [Option.some.inj this]; rfl

theorem Win.info {cs : Array Value} {z : Nat → Int} (h : Win cs z) : (Try.prog.info? 22).map (·.size) = some cs.size := by rw [h.size]; exact Try.size22

theorem Win.cell {cs : Array Value} {z : Nat → Int} (h : Win cs z) {w : World} {g : Nat} (hg : w.heap[g]? = some (.cells cs 22 (0, 0))) (j : Nat) (hj : j < 30) : w.cell? ⟨g, j, none⟩ = some (.int .u8 (z j)) := by
  rw [cell_of_row w g j cs 22 (0, 0) hg]; exact h.at_ j hj

set_option maxHeartbeats 400000 in
theorem kind_any (g n cap : Nat) (c k : Int) (w : World) (hn : 0 < n) (hc : w.cell? ⟨g, 0, none⟩ = some (.int .u8 c))
    (hk : (c = 105 ∧ k = 1) ∨ (48 ≤ c ∧ c ≤ 57 ∧ k = 2) ∨ (c = 108 ∧ k = 3) ∨ (c = 100 ∧ k = 4)) :
    Calls Try.prog 20 #[.slice (some ⟨g, 0, none⟩) n cap] w fun e w' => e = .returned (.int .u8 k) ∧ Below w.heap.size w w' := by
  have hlt := World.block_lt_of_cell? w _ hc
  have hp : (0 : Int) < (n : Int) := by omega
  have hne : ((n : Int) == 0) = false := by simp; omega
  simp only at hlt
  rcases hk with ⟨rfl, rfl⟩ | ⟨h1, h2, rfl⟩ | ⟨rfl, rfl⟩ | ⟨rfl, rfl⟩
  all_goals
    go_enter Try.func20, Try.ntmps20
    go_wp2
    go_ret
    exact ⟨rfl, (Below.refl _ _).alloc (Nat.le_refl _) _⟩

end Go.Proofs.Qxb6003438a
