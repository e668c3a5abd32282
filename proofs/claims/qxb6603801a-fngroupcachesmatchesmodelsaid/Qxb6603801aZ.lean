import Derived.Test.Qxb6603801aCpb
import Derived.Deep.DeepCutAuto
namespace Go.Proofs.Qxb6603801a
open Go.RowKit

theorem Try.info81 : (Try.prog.info? 81).map (fun i => (i.zero, i.size, i.bytes)) = some (some (.agg #[.int .i64 0, .slice none 0 0, .slice none 0 0]), 3, 56) := by kernel_rfl

/-! ### the six parallel rows of ZZGroupCaches -/

def z6E : Nat → TypeId
  | 0 => 39 | 1 => 3 | 2 => 22 | 3 => 22 | 4 => 39 | _ => 22
def z6S : Nat → Nat
  | 0 => 2 | 1 => 1 | 2 => 1 | 3 => 1 | 4 => 2 | _ => 1

/-- what the rows hold of group g -/
def z6R (K : Nat → Key) (FM : Ix → Slot) : Nat → Nat → List Value
  | 0, g => [.int .i64 (K g).1, .int .i64 (K g).2.1]
  | 1, g => [.int .i64 (K g).2.2]
  | 2, g => [(FM (.mem g)).v]
  | 3, g => [(FM (.par g)).v]
  | 4, _ => [.int .i64 0, .int .i64 0]
  | _, _ => [.slice none 0 0]

/-- g groups are through, and of the next the first s rows -/
structure Z6 (w4 : World) (K : Nat → Key) (FM : Ix → Slot) (g s : Nat) (F : Ix → Slot) (wx : World) : Prop where
  fam : Fam w4.heap.size wx F
  gr : w4.grownBy wx none
  row : ∀ j, j < 6 → (F (.mem j)).e = z6E j ∧ (F (.mem j)).size = z6S j ∧ (F (.mem j)).n = (if j < s then g + 1 else g) ∧ (F (.mem j)).xs = (List.range (if j < s then g + 1 else g)).flatMap (z6R K FM j)

section
variable {w4 wx w' : World} {K : Nat → Key} {FM F : Ix → Slot} {g s : Nat}

theorem Z6.start (w4 : World) (K : Nat → Key) (FM : Ix → Slot) : ∃ F, Z6 w4 K FM 0 0 F w4 ∧ ∀ j, (F (.mem j)).v = .slice none 0 0 := by
  refine ⟨fun i => match i with | .mem j => ⟨z6E j, z6S j, .slice none 0 0, 0, []⟩ | _ => ⟨3, 1, .slice none 0 0, 0, []⟩, ⟨⟨fun i => ?_, fun i j g hi hj => ?_⟩, World.grownBy.refl _ _, fun j hj => ?_⟩, fun j => rfl⟩
  · cases i <;> exact World.ownsRow_nil _ _ _ _
  · cases i <;> simp [Value.ownBlock] at hi
  · simp

theorem Z6.own (h : Z6 w4 K FM g s F wx) (hs : s < 6) : wx.ownsRow w4.heap.size (z6E s) (z6S s) (F (.mem s)).v g ((List.range g).flatMap (z6R K FM s)) := by
  have h1 := h.fam.own (.mem s)
  obtain ⟨a, b, c, d⟩ := h.row s hs
  rw [a, b, c, d, if_neg (Nat.lt_irrefl s)] at h1
  exact h1

theorem Z6.step (h : Z6 w4 K FM g s F wx) (hs : s < 6) (o : Obj) {v' : Value} (hg : (wx.alloc o).grownBy w' (F (.mem s)).v.ownBlock) (ho : w'.ownsRow w4.heap.size (z6E s) (z6S s) v' (g + 1) ((List.range g).flatMap (z6R K FM s) ++ z6R K FM s g))
    (hloc : v'.ownBlock = (F (.mem s)).v.ownBlock ∨ v'.ownBlock = some (wx.heap.size + 1)) : ∃ F', Z6 w4 K FM g (s + 1) F' w' ∧ (F' (.mem s)).v = v' ∧ ∀ j, j ≠ s → (F' (.mem j)).v = (F (.mem j)).v := by
  have hf := (h.fam.alloc o).grown (i := .mem s) hg (s := ⟨z6E s, z6S s, v', g + 1, (List.range g).flatMap (z6R K FM s) ++ z6R K FM s g⟩) ho (by
    rcases hloc with h1 | h1
    · exact .inl h1
    · exact .inr ⟨_, h1, by simp⟩)
  refine ⟨_, ⟨hf, ?_, fun j hj => ?_⟩, by rw [upd_same], fun j hj => by rw [upd_other (by simp [hj])]⟩
  · refine (grown_alloc h.gr o).andThen hg (fun k hk => .inl ?_)
    exact (h.fam.lt (.mem s) hk).1
  · by_cases e : j = s
    · subst e
      rw [upd_same, if_pos (by omega)]
      refine ⟨rfl, rfl, rfl, ?_⟩
      rw [List.range_succ, List.flatMap_append]
      simp
    · rw [upd_other (by simp [e])]
      have := h.row j hj
      by_cases e2 : j < s
      · rw [if_pos e2] at this
        rw [if_pos (by omega)]; exact this
      · rw [if_neg e2] at this
        rw [if_neg (by omega)]; exact this

theorem Z6.next (h : Z6 w4 K FM g 6 F wx) : Z6 w4 K FM (g + 1) 0 F wx := by
  refine ⟨h.fam, h.gr, fun j hj => ?_⟩
  have := h.row j hj
  rw [if_pos hj] at this
  simpa using this
end
end Go.Proofs.Qxb6603801a
