import Derived.Test.Qxb6603801aMid
namespace Go.Proofs.Qxb6603801a
open Go.RowKit Go.Maps

/-- the state at the head of the first loop's round u -/
def St1 (pb H n parts : Nat) (key : Nat → Key) (w : World) (u : Nat) (F : Ix → Slot) (wr : World) : Prop :=
  Mid pb H (n + parts) w (fs key u).length (kAt key u) (mems key u) (fun _ => []) (fun m => if m < u then (gi key m : Int) else 0) 0 F wr ∧ Mp key H u wr

/-- the state behind the round's 'if' -/
def St1m (pb H n parts : Nat) (key : Nat → Key) (w : World) (u : Nat) (F : Ix → Slot) (wr : World) : Prop :=
  Mid pb H (n + parts) w (fs key (u + 1)).length (kAt key (u + 1)) (mems key u) (fun _ => []) (fun m => if m < u then (gi key m : Int) else 0) 0 F wr ∧ Mp key H (u + 1) wr

theorem mems_none {key : Nat → Key} {u g : Nat} (h : (fs key u).length ≤ g) : mems key u g = [] := by
  unfold mems
  rw [List.filter_eq_nil_iff]
  intro x hx
  have := gi_lt (key := key) (List.mem_range.1 hx)
  simp; omega

theorem kAt_new {key : Nat → Key} {u : Nat} (hk : key u ∉ kls key u) {g : Nat} (hg : g < (fs key u).length + 1) : updN (kAt key u) (fs key u).length (key u) g = kAt key (u + 1) g := by
  have e : kls key (u + 1) = kls key u ++ [key u] := by rw [kls, fs_new hk, List.map_append]; rfl
  have hl : (kls key u).length = (fs key u).length := by simp [kls]
  unfold updN kAt
  rw [e]
  by_cases h : g = (fs key u).length
  · rw [if_pos h, h, ← hl]; simp
  · rw [if_neg h, List.getD_eq_getElem?_getD, List.getD_eq_getElem?_getD, List.getElem?_append_left (by omega)]

/-- a new group -/
theorem newGroup {pb H n parts : Nat} {key : Nat → Key} {w wr w6 : World} {u : Nat} {F : Ix → Slot} (hk : key u ∉ kls key u)
    (h : Mid pb H (n + parts) w (fs key u).length (kAt key u) (mems key u) (fun _ => []) (fun m => if m < u then (gi key m : Int) else 0) 0 F wr) (hp : Mp key H (u + 1) wr) {g6 cap6 : Nat} (hg : wr.grownBy w6 (F .grps).v.ownBlock)
    (ho : w6.ownsRow (H + 1) 59 8 (.slice (some ⟨g6, 0, none⟩) ((fs key u).length + 1) cap6) ((fs key u).length + 1) ((F .grps).xs ++ gcells (key u) (.slice none 0 0) (.slice none 0 0))) (hloc : (F .grps).v.ownBlock = some g6 ∨ g6 = wr.heap.size) :
    ∃ F', St1m pb H n parts key w u F' (w6.setCell ⟨pb, 0, none⟩ (.slice (some ⟨g6, 0, none⟩) ((fs key u).length + 1) cap6)) := by
  have hmn : (F (.mem (fs key u).length)).v = .slice none 0 0 := h.gw.nl _ (by simp) (by rw [(h.gw.mm _).2.2.1, mems_none (Nat.le_refl _)]; rfl)
  obtain ⟨⟨F', h1, h2, h3⟩, h4⟩ := h.addGroup (k := key u) rfl hg (by rw [hmn]; exact ho) hloc
  refine ⟨F', h1.congr (by rw [fs_new hk]; simp) (fun g hg => kAt_new hk hg) (fun _ => rfl) (fun _ => rfl) (fun _ _ => rfl), hp.move h4⟩

/-- the member is added: the round's end -/
theorem endRound1 {pb H n parts : Nat} {key : Nat → Key} {w wr w3 : World} {u : Nat} {F : Ix → Slot}
    (h : Mid pb H (n + parts) w (fs key (u + 1)).length (kAt key (u + 1)) (mems key u) (fun _ => []) (updN (fun m => if m < u then (gi key m : Int) else 0) u (gi key u : Int)) 0 F wr) (hp : Mp key H (u + 1) wr) {g3 cap3 : Nat} (hg : wr.grownBy w3 (F (.mem (gi key u))).v.ownBlock)
    (ho : w3.ownsRow (H + 1) 3 1 (.slice (some ⟨g3, 0, none⟩) ((mems key u (gi key u)).length + 1) cap3) ((mems key u (gi key u)).length + 1) (intsV (mems key u (gi key u)) ++ [.int .i64 (u : Int)])) (hloc : (F (.mem (gi key u))).v.ownBlock = some g3 ∨ g3 = wr.heap.size)
    {gb gc : Nat} (hv : (F .grps).v = .slice (some ⟨gb, 0, none⟩) (fs key (u + 1)).length gc) :
    ∃ F', St1 pb H n parts key w (u + 1) F' (w3.setCell ⟨gb, gi key u * 8 + 3, none⟩ (.slice (some ⟨g3, 0, none⟩) ((mems key u (gi key u)).length + 1) cap3)) := by
  obtain ⟨⟨F', h1, h2, h3⟩, h4⟩ := h.addMem (gi_lt (by omega)) hg ho hloc hv
  refine ⟨F', h1.congr rfl (fun _ _ => rfl) (fun g => ?_) (fun _ => rfl) (fun m _ => ?_), hp.move h4⟩
  · rw [mems_succ]
    unfold updN
    by_cases e : gi key u = g
    · subst e; simp
    · rw [if_neg e, if_neg (fun h => e h.symm)]
  · unfold updN
    by_cases e : m = u
    · subst e; simp
    · rw [if_neg e]
      show (if m < u then (gi key m : Int) else 0) = _
      by_cases h : m < u
      · rw [if_pos h, if_pos (by omega)]
      · rw [if_neg h, if_neg (by omega)]
end Go.Proofs.Qxb6603801a
