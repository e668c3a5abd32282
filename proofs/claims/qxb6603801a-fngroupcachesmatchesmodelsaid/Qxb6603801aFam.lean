import Derived.Test.Qxb6603801aRows
import Derived.WalkKit
import Derived.WalkSpells
import Derived.WalkLawsBesides
import Derived.Deep.RegionLaw
import Derived.Maps.AppendAt
import Derived.Maps.OwnSet
namespace Go.Proofs.Qxb6603801a
open Go.RowKit

theorem hide {p : Prop} (h : p) : Hid p := h

/-! ### a family of slices that the call itself owns, no two in one row -/

/-- a slice of the call's own: its element type, cells an element, value, length, cells -/
structure Slot where
  e : TypeId
  size : Nat
  v : Value
  n : Nat
  xs : List Value

/-- the places of the family: pl.group, pl.groups, and of each group its members and its parts -/
inductive Ix where
  | grp | grps | mem (g : Nat) | par (g : Nat)
deriving DecidableEq

def upd (F : Ix → Slot) (i : Ix) (s : Slot) : Ix → Slot := fun j => if j = i then s else F j

theorem upd_same (F : Ix → Slot) (i : Ix) (s : Slot) : upd F i s i = s := by simp [upd]
theorem upd_other {F : Ix → Slot} {i j : Ix} {s : Slot} (h : j ≠ i) : upd F i s j = F j := by simp [upd, h]

structure Fam (B : Nat) (w : World) (F : Ix → Slot) : Prop where
  own : ∀ i, w.ownsRow B (F i).e (F i).size (F i).v (F i).n (F i).xs
  sep : ∀ i j g, (F i).v.ownBlock = some g → (F j).v.ownBlock = some g → i = j

theorem own_move {w w' : World} {H e size n : Nat} {v : Value} {xs : List Value} (h : w.ownsRow H e size v n xs) (hb : ∀ g, v.ownBlock = some g → w'.heap[g]? = w.heap[g]?) : w'.ownsRow H e size v n xs := by
  obtain ⟨h1, h2⟩ := h
  refine ⟨h1, ?_⟩
  rcases h2 with h2 | ⟨g, cap, cur, rfl, hg, hh, r⟩
  · exact .inl h2
  · exact .inr ⟨g, cap, cur, rfl, hg, by rw [hb g rfl]; exact hh, r⟩

theorem own_form {w : World} {H e size n : Nat} {v : Value} {xs : List Value} (h : w.ownsRow H e size v n xs) (hn : 0 < n) : ∃ g cap, v = .slice (some ⟨g, 0, none⟩) n cap := by
  obtain ⟨_, h5⟩ := h
  rcases h5 with ⟨_, h6⟩ | ⟨g, cap, cur, h6, _⟩
  · omega
  · exact ⟨g, cap, h6⟩

theorem own_val {w : World} {H e size n : Nat} {v : Value} {xs : List Value} (h : w.ownsRow H e size v n xs) : ∃ a cap, v = .slice a n cap := by
  obtain ⟨_, h5⟩ := h
  rcases h5 with ⟨h6, rfl⟩ | ⟨g, cap, cur, h6, _⟩
  · exact ⟨_, _, h6⟩
  · exact ⟨_, cap, h6⟩

section
variable {B : Nat} {w w' : World} {F : Ix → Slot}

theorem Fam.keep (h : Fam B w F) (hb : ∀ g, B ≤ g → g < w.heap.size → w'.heap[g]? = w.heap[g]?) : Fam B w' F :=
  ⟨fun i => own_move (h.own i) fun g hg => hb g ((h.own i).lt g hg).1 ((h.own i).lt g hg).2, h.sep⟩

theorem Fam.alloc (h : Fam B w F) (o : Obj) : Fam B (w.alloc o) F := h.keep fun _ _ hg => Below.heap_alloc _ _ _ hg

theorem Fam.drew (h : Fam B w F) : Fam B w.drew F := h.keep fun _ _ _ => rfl

/-- a cell below the rows is written -/
theorem Fam.setLow (h : Fam B w F) {a : Addr} (ha : a.block < B) (u : Value) : Fam B (w.setCell a u) F := h.keep fun g hg _ => Below.heap_setCell _ _ _ _ (by omega)

/-- a cell of a block that is none of the rows is written -/
theorem Fam.setBeside (h : Fam B w F) {a : Addr} (ha : ∀ i, (F i).v.ownBlock ≠ some a.block) (u : Value) : Fam B (w.setCell a u) F :=
  ⟨fun i => own_move (h.own i) fun _ hg => Below.heap_setCell _ _ _ _ (fun e => ha i (e ▸ hg)), h.sep⟩

/-- one of the slices has been appended to (or made) -/
theorem Fam.grown (h : Fam B w F) {i : Ix} (hg : w.grownBy w' (F i).v.ownBlock) {s : Slot} (ho : w'.ownsRow B s.e s.size s.v s.n s.xs)
    (hloc : s.v.ownBlock = (F i).v.ownBlock ∨ ∃ g, s.v.ownBlock = some g ∧ w.heap.size ≤ g) : Fam B w' (upd F i s) := by
  have fresh : ∀ j, j ≠ i → ∀ g, (F j).v.ownBlock = some g → s.v.ownBlock ≠ some g := by
    intro j hj g hg e
    rcases hloc with h1 | ⟨g', h1, h2⟩
    · rw [h1] at e
      exact hj (h.sep j i g hg e)
    · rw [h1] at e
      have := ((h.own j).lt g hg).2
      simp only [Option.some.injEq] at e
      omega
  refine ⟨fun j => ?_, fun j k g hj hk => ?_⟩
  · by_cases hj : j = i
    · subst hj
      rw [upd_same]; exact ho
    · rw [upd_other hj]
      refine own_move (h.own j) fun g hgj => hg.block g ((h.own j).lt g hgj).2 (fun e => ?_)
      exact hj (h.sep j i g hgj e.symm)
  · by_cases hji : j = i
    · subst hji
      by_cases hki : k = j
      · exact hki.symm
      · rw [upd_other hki] at hk
        rw [upd_same] at hj
        exact absurd hj (fresh k hki g hk)
    · rw [upd_other hji] at hj
      by_cases hki : k = i
      · subst hki
        rw [upd_same] at hk
        exact absurd hk (fresh j hji g hj)
      · rw [upd_other hki] at hk
        exact h.sep j k g hj hk

/-- a cell of one of the rows is written -/
theorem Fam.stored (h : Fam B w F) {i : Ix} {g cap : Nat} (hv : (F i).v = .slice (some ⟨g, 0, none⟩) (F i).n cap) (j : Nat) (u : Value) :
    Fam B (w.setCell ⟨g, j, none⟩ u) (upd F i { F i with xs := (F i).xs.set j u }) := by
  have ho := h.own i
  rw [hv] at ho
  have hst := ho.stored j u
  have h1 : (w.grownBy (w.setCell ⟨g, j, none⟩ u) (F i).v.ownBlock) := by
    rw [hv]
    exact ⟨rfl, rfl, rfl, by simp, fun k _ hne => Below.heap_setCell _ _ _ _ (fun e => hne (by simp [Value.ownBlock, e]))⟩
  refine h.grown h1 ?_ (.inl rfl)
  show (w.setCell ⟨g, j, none⟩ u).ownsRow B (F i).e (F i).size (F i).v (F i).n ((F i).xs.set j u)
  rw [hv]
  exact hst.1

theorem Fam.lt (h : Fam B w F) (i : Ix) {g : Nat} (hg : (F i).v.ownBlock = some g) : B ≤ g ∧ g < w.heap.size := (h.own i).lt g hg
end

/-- an append to a row of the call's own, as one step of a region that draws -/
theorem step_append_at {P : Program} {ops : Array Oper} {o : Oper} {a : Act} {w : World} {K : Act → World → Prop} {Q : Exit → Act → World → Prop} {E : Prop}
    (hg : o.guard = none) (s x : Operand) (t : TypeId) (hop : o.op = Op.call { callee := Callee.builtin Builtin.append, args := #[s, x], argTypes := #[t, t] })
    (base : Nat) (e : TypeId) (i : TypeInfo) (z : Value) (size bytes : Nat) (ht : P.underlying t = some (.slice e)) (hi : P.info? e = some i) (hz : i.zero = some z)
    (hsize : i.size = size) (hby : i.bytes = bytes) (hzs : z.cells.size = size) (hsz : 0 < size)
    (v : Value) (n : Nat) (xs : List Value) (hs : a.eval s = v) (hown : w.ownsRow base e size v n xs)
    (ad : Addr) (m c : Nat) (news : List Value) (hx : a.eval x = .slice (some ad) m c) (hl : news.length = m * size) (hnews : ∀ j u, news[j]? = some u → w.cell? (ad.add j) = some u) (h1 : ∀ u ∈ news, u.oneCell' = true)
    (h63 : n + m ≤ maxLen) (hbytes : (n + m) * bytes ≤ 140737488355328) (hbase : base ≤ w.heap.size) (hm : 0 < m)
    (hK : ∀ g cap w', w'.ownsRow base e size (.slice (some ⟨g, 0, none⟩) (n + m) cap) (n + m) (xs ++ news) → w.grownBy w' v.ownBlock → (v.ownBlock = some g ∨ g = w.heap.size) → K (a.put o.dst (.slice (some ⟨g, 0, none⟩) (n + m) cap)) w') :
    if Region.wanted o (yielded ops a.tmps) = true then Oper.wp P o a w K Q else E := by
  have hw : Region.wanted o (yielded ops a.tmps) = true := by simp [Region.wanted, hg]
  rw [if_pos hw]
  obtain ⟨v', w', hr, h2, h3, h4, h5⟩ := run_append_own_at (P := P) w base t o.type e i z size bytes ht hi hz hsize hby hzs hsz v n xs hown ad m c news hl hnews h1 h63 hbytes hbase
  obtain ⟨g, cap, rfl⟩ := own_form h2 (by omega)
  unfold Oper.wp
  simp [execOp, hop, resolve, invoke, builtin, hs, hx, hr, Result.andThen]
  refine hK g cap w' h2 h3 ?_
  rcases h5 with h5 | h5
  · exact .inl (h5.symm.trans rfl)
  · exact .inr (by simpa [Value.ownBlock] using h5)
end Go.Proofs.Qxb6603801a
