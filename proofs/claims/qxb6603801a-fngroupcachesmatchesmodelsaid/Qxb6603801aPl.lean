import Derived.Test.Qxb6603801aMapK
import Derived.Deep.QuietTactic
import Derived.BigQuiet
namespace Go.Proofs.Qxb6603801a
open Go.RowKit

/-- pl's block -/
structure Pl (pb : Nat) (w : World) (gv : Value) (ofc : Int) (rv : Value) : Prop where
  blk : ∃ c : Array Value, w.heap[pb]? = some (.cells c 56 (0, 0)) ∧ c.size = 25 ∧ c[0]? = some gv ∧ c[1]? = some (.int .i64 ofc) ∧ c[3]? = some rv

/-- below H the world is as it was, but for pl's block -/
structure Kp (pb H : Nat) (w w' : World) : Prop where
  os : w'.os = w.os
  tape : w'.tape = w.tape
  output : w'.output = w.output
  size : w.heap.size ≤ w'.heap.size
  block : ∀ i, i < H → i ≠ pb → w'.heap[i]? = w.heap[i]?

section
variable {pb H : Nat} {w w' w'' : World} {gv rv : Value} {ofc : Int}

theorem Kp.refl : Kp pb H w w := ⟨rfl, rfl, rfl, Nat.le_refl _, fun _ _ _ => rfl⟩
theorem Kp.trans (h : Kp pb H w w') (k : Kp pb H w' w'') : Kp pb H w w'' := ⟨k.os.trans h.os, k.tape.trans h.tape, k.output.trans h.output, Nat.le_trans h.size k.size, fun i h1 h2 => (k.block i h1 h2).trans (h.block i h1 h2)⟩
theorem Kp.alloc (h : Kp pb H w w') (hH : H ≤ w'.heap.size) (o : Obj) : Kp pb H w (w'.alloc o) := h.trans ⟨rfl, rfl, rfl, by simp, fun i hi _ => Below.heap_alloc _ _ _ (by omega)⟩
theorem Kp.drew (h : Kp pb H w w') : Kp pb H w w'.drew := ⟨h.os, h.tape, h.output, h.size, h.block⟩
theorem Kp.grown (h : Kp pb H w w') (hH : H ≤ w'.heap.size) {row : Option Nat} (hg : w'.grownBy w'' row) (hr : ∀ k, row = some k → H ≤ k) : Kp pb H w w'' :=
  h.trans ⟨hg.os, hg.tape, hg.output, hg.size, fun i hi _ => hg.block i (by omega) (fun e => by have := hr i e.symm; omega)⟩
theorem Kp.setCell (h : Kp pb H w w') {a : Addr} (ha : H ≤ a.block ∨ a.block = pb) (u : Value) : Kp pb H w (w'.setCell a u) :=
  h.trans ⟨rfl, rfl, rfl, by simp, fun i hi hne => Below.heap_setCell _ _ _ _ (by rcases ha with h | h <;> omega)⟩
theorem Kp.cell (h : Kp pb H w w') {a : Addr} {v : Value} (h1 : a.block < H) (h2 : a.block ≠ pb) (hc : w.cell? a = some v) : w'.cell? a = some v := by
  rw [World.cell?_of_block (h.block a.block h1 h2)]; exact hc

theorem Pl.move (h : Pl pb w gv ofc rv) (hb : w'.heap[pb]? = w.heap[pb]?) : Pl pb w' gv ofc rv := by
  obtain ⟨c, h1, r⟩ := h.blk
  exact ⟨c, by rw [hb]; exact h1, r⟩
theorem Pl.lt (h : Pl pb w gv ofc rv) : pb < w.heap.size := by
  obtain ⟨c, h1, r⟩ := h.blk
  exact (Array.getElem?_eq_some_iff.1 h1).1
theorem Pl.alloc (h : Pl pb w gv ofc rv) (o : Obj) : Pl pb (w.alloc o) gv ofc rv := h.move (Below.heap_alloc _ _ _ h.lt)
theorem Pl.drew (h : Pl pb w gv ofc rv) : Pl pb w.drew gv ofc rv := h.move rfl
theorem Pl.grown (h : Pl pb w gv ofc rv) {row : Option Nat} (hg : w.grownBy w' row) (hr : ∀ k, row = some k → pb < k) : Pl pb w' gv ofc rv := h.move (hg.block pb h.lt (fun e => by have := hr pb e.symm; omega))
theorem Pl.setBeside (h : Pl pb w gv ofc rv) {a : Addr} (ha : pb ≠ a.block) (u : Value) : Pl pb (w.setCell a u) gv ofc rv := h.move (Below.heap_setCell _ _ _ _ ha)
theorem Pl.cell0 (h : Pl pb w gv ofc rv) : w.cell? ⟨pb, 0, none⟩ = some gv := by
  obtain ⟨c, h1, h2, h3, h4, h5⟩ := h.blk
  simp [World.cell?, h1, h3]
theorem Pl.cell1 (h : Pl pb w gv ofc rv) : w.cell? ⟨pb, 1, none⟩ = some (.int .i64 ofc) := by
  obtain ⟨c, h1, h2, h3, h4, h5⟩ := h.blk
  simp [World.cell?, h1, h4]
theorem Pl.cell3 (h : Pl pb w gv ofc rv) : w.cell? ⟨pb, 3, none⟩ = some rv := by
  obtain ⟨c, h1, h2, h3, h4, h5⟩ := h.blk
  simp [World.cell?, h1, h5]
theorem Pl.free (h : Pl pb w gv ofc rv) (o : Nat) : w.frozen? ⟨pb, o, none⟩ = false := by
  obtain ⟨c, h1, h2, h3, h4, h5⟩ := h.blk
  simp [World.frozen?, h1]
theorem Pl.put (h : Pl pb w gv ofc rv) (o : Nat) (u : Value) : ∃ c : Array Value, (w.setCell ⟨pb, o, none⟩ u).heap[pb]? = some (.cells (c.setIfInBounds o u) 56 (0, 0)) ∧ c.size = 25 ∧ c[0]? = some gv ∧ c[1]? = some (.int .i64 ofc) ∧ c[3]? = some rv := by
  obtain ⟨c, h1, h2, h3, h4, h5⟩ := h.blk
  refine ⟨c, ?_, h2, h3, h4, h5⟩
  simp [World.setCell, Array.getElem?_modify, h1]
theorem Pl.set0 (h : Pl pb w gv ofc rv) (u : Value) : Pl pb (w.setCell ⟨pb, 0, none⟩ u) u ofc rv := by
  obtain ⟨c, h1, h2, h3, h4, h5⟩ := h.put 0 u
  exact ⟨_, h1, by simp [h2], by simp [h2], by simp [h4], by simp [h5]⟩
theorem Pl.set1 (h : Pl pb w gv ofc rv) (x : Int) : Pl pb (w.setCell ⟨pb, 1, none⟩ (.int .i64 x)) gv x rv := by
  obtain ⟨c, h1, h2, h3, h4, h5⟩ := h.put 1 (.int .i64 x)
  exact ⟨_, h1, by simp [h2], by simp [h3], by simp [h2], by simp [h5]⟩
theorem Pl.set3 (h : Pl pb w gv ofc rv) (u : Value) : Pl pb (w.setCell ⟨pb, 3, none⟩ u) gv ofc u := by
  obtain ⟨c, h1, h2, h3, h4, h5⟩ := h.put 3 u
  exact ⟨_, h1, by simp [h2], by simp [h3], by simp [h4], by simp [h2]⟩
end

/-- what the cacheLayout behind lay holds -/
structure Lay (lb pb H : Nat) (w : World) (n parts m : Nat) (key : Nat → Key) (ln : Nat → Nat) (fp : Nat → Nat) (ca na sa pa fa ua : Option Addr) (cc nc sc pc fl fc uc : Nat) : Prop where
  lbH : lb < H
  lbp : lb ≠ pb
  cpus : w.cell? ⟨lb, 4, none⟩ = some (.slice ca n cc)
  nodes : w.cell? ⟨lb, 5, none⟩ = some (.slice na n nc)
  sets : w.cell? ⟨lb, 6, none⟩ = some (.slice sa m sc)
  prts : w.cell? ⟨lb, 7, none⟩ = some (.slice pa parts pc)
  first : w.cell? ⟨lb, 8, none⟩ = some (.slice fa fl fc)
  units : w.cell? ⟨lb, 10, none⟩ = some (.slice ua n uc)
  nodeAt : ∀ u, u < n → ∃ b o, na = some ⟨b, o, none⟩ ∧ b < H ∧ b ≠ pb ∧ w.cell? ⟨b, o + u, none⟩ = some (.int .i64 (key u).2.2)
  unitAt : ∀ u, u < n → ∃ b o, ua = some ⟨b, o, none⟩ ∧ b < H ∧ b ≠ pb ∧ w.cell? ⟨b, o + u * 2, none⟩ = some (.int .i64 (key u).1) ∧ w.cell? ⟨b, o + u * 2 + 1, none⟩ = some (.int .i64 (key u).2.1)
  setAt : ∀ i, i < m → ∃ b o a c, sa = some ⟨b, o, none⟩ ∧ b < H ∧ b ≠ pb ∧ w.cell? ⟨b, o + i, none⟩ = some (.slice a (ln i) c)
  firstAt : ∀ u, u < n → 0 < parts → u < fl ∧ ∃ b o, fa = some ⟨b, o, none⟩ ∧ b < H ∧ b ≠ pb ∧ w.cell? ⟨b, o + u, none⟩ = some (.int .i64 (fp u : Int))

theorem Lay.move {lb pb H : Nat} {w w' : World} {n parts m : Nat} {key : Nat → Key} {ln fp : Nat → Nat} {ca na sa pa fa ua : Option Addr} {cc nc sc pc fl fc uc : Nat} (h : Lay lb pb H w n parts m key ln fp ca na sa pa fa ua cc nc sc pc fl fc uc) (k : Kp pb H w w') :
    Lay lb pb H w' n parts m key ln fp ca na sa pa fa ua cc nc sc pc fl fc uc := by
  refine ⟨h.lbH, h.lbp, k.cell h.lbH h.lbp h.cpus, k.cell h.lbH h.lbp h.nodes, k.cell h.lbH h.lbp h.sets, k.cell h.lbH h.lbp h.prts, k.cell h.lbH h.lbp h.first, k.cell h.lbH h.lbp h.units, ?_, ?_, ?_, ?_⟩
  · intro u hu
    obtain ⟨b, o, h1, h2, h3, h4⟩ := h.nodeAt u hu
    exact ⟨b, o, h1, h2, h3, k.cell h2 h3 h4⟩
  · intro u hu
    obtain ⟨b, o, h1, h2, h3, h4, h5⟩ := h.unitAt u hu
    exact ⟨b, o, h1, h2, h3, k.cell h2 h3 h4, k.cell h2 h3 h5⟩
  · intro u hu
    obtain ⟨b, o, a, c, h1, h2, h3, h4⟩ := h.setAt u hu
    exact ⟨b, o, a, c, h1, h2, h3, k.cell h2 h3 h4⟩
  · intro u hu hp
    obtain ⟨h0, b, o, h1, h2, h3, h4⟩ := h.firstAt u hu hp
    exact ⟨h0, b, o, h1, h2, h3, k.cell h2 h3 h4⟩

theorem members_any {w : World} {lb n parts : Nat} {ca pa : Option Addr} {cc pc : Nat} (h1 : w.cell? ⟨lb, 4, none⟩ = some (.slice ca n cc)) (h2 : w.cell? ⟨lb, 7, none⟩ = some (.slice pa parts pc)) (hn : n ≤ 4096) (hp : parts ≤ 65536) :
    Calls Try.prog 22 #[.pointer (some ⟨lb, 0, none⟩)] w fun e w' => e = .returned (.int .i64 ((n : Int) + (parts : Int))) ∧ ∃ k, w' = w.drewN k := by
  go_enter Try.func22, Try.ntmps22
  go_wp2_with fail
  go_quiet (fail)
  go_wp2_with fail
  go_ret
  exact ⟨rfl, _, rfl⟩

theorem partMember_any {w : World} {lb n u k fl : Nat} {fp : Nat → Nat} {ca fa : Option Addr} {cc fc b o : Nat} (h1 : w.cell? ⟨lb, 4, none⟩ = some (.slice ca n cc)) (h2 : w.cell? ⟨lb, 8, none⟩ = some (.slice fa fl fc)) (hfa : fa = some ⟨b, o, none⟩)
    (hc : w.cell? ⟨b, o + u, none⟩ = some (.int .i64 (fp u : Int))) (hu : u < fl) (hn : n ≤ 4096) (hp : fp u ≤ 65536) (hk : k ≤ 131072) :
    Calls Try.prog 23 #[.pointer (some ⟨lb, 0, none⟩), .int .i64 (u : Int), .int .i64 (k : Int)] w fun e w' => e = .returned (.int .i64 ((n : Int) + (fp u : Int) + (k : Int))) ∧ ∃ k, w' = w.drewN k := by
  subst hfa
  generalize fp u = f at *
  go_enter Try.func23, Try.ntmps23
  go_wp2_with fail
  go_quiet (fail)
  go_wp2_with fail
  go_ret
  exact ⟨rfl, _, rfl⟩
end Go.Proofs.Qxb6603801a
