import Derived.Test.Qxb6603801aP2
namespace Go.Proofs.Qxb6603801a
open Go.RowKit

/-- the state at (g, k) of the second loop -/
def St2 (pb H n parts : Nat) (key : Nat → Key) (ln : Nat → Nat) (w : World) (g k : Nat) (F : Ix → Slot) (wx : World) : Prop :=
  ∃ K M Pt gr, P2 key ln n g k K M Pt gr ∧ Mid pb H (n + parts) w (bG key ln n g + k) K M Pt gr ((fs key n).length : Int) F wx

section
variable {pb H n parts : Nat} {key : Nat → Key} {ln : Nat → Nat} {w : World} {g k : Nat} {F : Ix → Slot} {wx : World}

theorem St2.start (h : Mid pb H (n + parts) w (fs key n).length (kAt key n) (mems key n) (fun _ => []) (fun m => if m < n then (gi key m : Int) else 0) ((fs key n).length : Int) F wx) : St2 pb H n parts key ln w 0 0 F wx :=
  ⟨_, _, _, _, P2.start, h⟩

theorem St2.skip (h : St2 pb H n parts key ln w g k F wx) (hk : k = sG key ln n g) : St2 pb H n parts key ln w (g + 1) 0 F wx := by
  obtain ⟨K, M, Pt, gr, hP, hM⟩ := h
  subst hk
  exact ⟨K, M, Pt, gr, hP.next, by rw [bG_succ]; exact hM⟩

theorem St2.drewN (h : St2 pb H n parts key ln w g k F wx) (q : Nat) : St2 pb H n parts key ln w g k F (wx.drewN q) := by
  obtain ⟨K, M, Pt, gr, hP, hM⟩ := h
  exact ⟨K, M, Pt, gr, hP, hM.drewN q⟩

/-- the state at the head of the members' loop: j members are through; the group's own variable is block vb -/
structure StI (pb H n parts : Nat) (key : Nat → Key) (ln : Nat → Nat) (w : World) (g k j : Nat) (kk : Key) (vb : Nat) (mv : Value) (K : Nat → Key) (Pt : Nat → List Nat) (F : Ix → Slot) (M : Nat → List Nat) (gr : Nat → Int) (wx : World) : Prop where
  p : P2i key ln n g k j K M Pt gr
  m : Mid pb H (n + parts) w (bG key ln n g + k) K M Pt gr ((fs key n).length : Int) F wx
  mv : (F (.mem g)).v = mv
  vbH : H + 1 ≤ vb
  ne : ∀ i, (F i).v.ownBlock ≠ some vb
  blk : wx.heap[vb]? = some (.cells (gcells kk (F (.mem (bG key ln n g + k))).v (.slice none 0 0)).toArray 59 (0, 0))

/-- the group's own variable is laid -/
theorem StI.start {K : Nat → Key} {M Pt : Nat → List Nat} {gr : Nat → Int} (hP : P2 key ln n g k K M Pt gr) (hM : Mid pb H (n + parts) w (bG key ln n g + k) K M Pt gr ((fs key n).length : Int) F wx) {mv : Value} (hmv : (F (.mem g)).v = mv) (kk : Key) :
    StI pb H n parts key ln w g k 0 kk wx.heap.size mv K Pt F M gr ((wx.alloc (.cells #[.int .i64 kk.1, .int .i64 kk.2.1, .int .i64 kk.2.2, .slice none 0 0, .int .i64 0, .int .i64 0, .slice none 0 0, .slice none 0 0] 59)).drew) := by
  refine ⟨hP.inner, (hM.alloc _).drew, hmv, hM.sz, fun i e => ?_, ?_⟩
  · have := (hM.gw.fam.lt i e).2
    omega
  · have hn : (F (.mem (bG key ln n g + k))).v = .slice none 0 0 := hM.gw.nl _ (by simp) (by rw [(hM.gw.mm _).2.2.1, hP.M3 _ (Nat.le_refl _)]; rfl)
    rw [hn]
    exact heap_alloc_new wx _

theorem StI.drewN {j : Nat} {kk : Key} {vb : Nat} {mv : Value} {K : Nat → Key} {M Pt : Nat → List Nat} {gr : Nat → Int} (h : StI pb H n parts key ln w g k j kk vb mv K Pt F M gr wx) (q : Nat) : StI pb H n parts key ln w g k j kk vb mv K Pt F M gr (wx.drewN q) :=
  ⟨h.p, h.m.drewN q, h.mv, h.vbH, h.ne, h.blk⟩

theorem StI.lt {j : Nat} {kk : Key} {vb : Nat} {mv : Value} {K : Nat → Key} {M Pt : Nat → List Nat} {gr : Nat → Int} (h : StI pb H n parts key ln w g k j kk vb mv K Pt F M gr wx) : vb < wx.heap.size := (Array.getElem?_eq_some_iff.1 h.blk).1

theorem blk_cell {w : World} {vb : Nat} {xs : List Value} {t : TypeId} (h : w.heap[vb]? = some (.cells xs.toArray t (0, 0))) (j : Nat) : w.cell? ⟨vb, j, none⟩ = xs[j]? := by
  unfold World.cell?
  simp only [h]
  simp

theorem blk_free {w : World} {vb : Nat} {xs : List Value} {t : TypeId} (h : w.heap[vb]? = some (.cells xs.toArray t (0, 0))) (j : Nat) : w.frozen? ⟨vb, j, none⟩ = false := by
  unfold World.frozen?
  simp only [h]
  simp

theorem blk_set {w : World} {vb : Nat} {xs : List Value} {t : TypeId} (h : w.heap[vb]? = some (.cells xs.toArray t (0, 0))) (j : Nat) (u : Value) : (w.setCell ⟨vb, j, none⟩ u).heap[vb]? = some (.cells (xs.set j u).toArray t (0, 0)) := by
  simp [World.setCell, Array.getElem?_modify, h]

/-- pl.group[m] = parts -/
theorem StI.setG {j u : Nat} {kk : Key} {vb : Nat} {mv : Value} {K : Nat → Key} {M Pt : Nat → List Nat} {gr : Nat → Int} (h : StI pb H n parts key ln w g k j kk vb mv K Pt F M gr wx) {rb rc : Nat} (hv : (F .grp).v = .slice (some ⟨rb, 0, none⟩) (n + parts) rc)
    (hm : n + fpU key ln u + k < n + parts) : ∃ F', Mid pb H (n + parts) w (bG key ln n g + k) K M Pt (updN gr (n + fpU key ln u + k) ((bG key ln n g + k : Nat) : Int)) ((fs key n).length : Int) F' (wx.setCell ⟨rb, n + fpU key ln u + k, none⟩ (.int .i64 ((bG key ln n g + k : Nat) : Int))) ∧ (∀ i, (F' i).v = (F i).v) ∧
      (wx.setCell ⟨rb, n + fpU key ln u + k, none⟩ (.int .i64 ((bG key ln n g + k : Nat) : Int))).heap[vb]? = some (.cells (gcells kk (F (.mem (bG key ln n g + k))).v (.slice none 0 0)).toArray 59 (0, 0)) := by
  obtain ⟨⟨F', h1, h2⟩, _⟩ := h.m.setGrp hv hm ((bG key ln n g + k : Nat) : Int)
  refine ⟨F', h1, h2, ?_⟩
  rw [Below.heap_setCell _ _ _ _ (fun e => h.ne .grp (by rw [hv]; simp [Value.ownBlock, e]))]
  exact h.blk

/-- group.members = append(group.members, m): the round's end -/
theorem StI.step {j u : Nat} {kk : Key} {vb : Nat} {mv : Value} {K : Nat → Key} {M Pt : Nat → List Nat} {gr : Nat → Int} {w3 : World} (hp : P2i key ln n g k j K M Pt gr) (hk : k < sG key ln n g) (hg : g < (fs key n).length) (hu : (mems key n g)[j]? = some u)
    (hm : Mid pb H (n + parts) w (bG key ln n g + k) K M Pt (updN gr (n + fpU key ln u + k) ((bG key ln n g + k : Nat) : Int)) ((fs key n).length : Int) F wx) (hmv : (F (.mem g)).v = mv) (hvb : H + 1 ≤ vb) (hne : ∀ i, (F i).v.ownBlock ≠ some vb)
    (hblk : wx.heap[vb]? = some (.cells (gcells kk (F (.mem (bG key ln n g + k))).v (.slice none 0 0)).toArray 59 (0, 0))) {g' cap' : Nat} (hgr : wx.grownBy w3 (F (.mem (bG key ln n g + k))).v.ownBlock)
    (ho : w3.ownsRow (H + 1) 3 1 (.slice (some ⟨g', 0, none⟩) ((M (bG key ln n g + k)).length + 1) cap') ((M (bG key ln n g + k)).length + 1) (intsV (M (bG key ln n g + k)) ++ [.int .i64 ((n + fpU key ln u + k : Nat) : Int)]))
    (hloc : (F (.mem (bG key ln n g + k))).v.ownBlock = some g' ∨ g' = wx.heap.size) :
    ∃ F' M' gr', StI pb H n parts key ln w g k (j + 1) kk vb mv K Pt F' M' gr' (w3.setCell ⟨vb, 3, none⟩ (.slice (some ⟨g', 0, none⟩) ((M (bG key ln n g + k)).length + 1) cap')) := by
  have hlt : vb < wx.heap.size := (Array.getElem?_eq_some_iff.1 hblk).1
  obtain ⟨F', h1, h2, h3, h4, h5, h6⟩ : ∃ F', Mid pb H (n + parts) w (bG key ln n g + k) K (updN M (bG key ln n g + k) (M (bG key ln n g + k) ++ [n + fpU key ln u + k])) Pt (updN gr (n + fpU key ln u + k) ((bG key ln n g + k : Nat) : Int)) ((fs key n).length : Int) F' (w3.setCell ⟨vb, 3, none⟩ (.slice (some ⟨g', 0, none⟩) ((M (bG key ln n g + k)).length + 1) cap')) ∧ (F' .grps).v = (F .grps).v ∧ (F' .grp).v = (F .grp).v ∧ (F' (.mem (bG key ln n g + k))).v = .slice (some ⟨g', 0, none⟩) ((M (bG key ln n g + k)).length + 1) cap' ∧ (∀ i, (F' i).v.ownBlock ≠ some vb) ∧ (∀ i, i ≠ .mem (bG key ln n g + k) → (F' i).v = (F i).v) := by
    obtain ⟨F', h1, h2, h3, h4, h5, h6⟩ := hm.addMemNew hgr ho hloc hvb hlt hne
    exact ⟨F', h1, h2, h3, h4, h5, h6⟩
  have hge := bG_ge (key := key) (ln := ln) (n := n) g
  refine ⟨F', _, _, hp.step hk hu, h1, by rw [h6 (.mem g) (by simp; omega)]; exact hmv, hvb, h5, ?_⟩
  have hb3 : w3.heap[vb]? = wx.heap[vb]? := hgr.block vb hlt (fun e => hne _ e.symm)
  rw [blk_set (by rw [hb3]; exact hblk) 3, h4]
  rfl
/-- the part group stands in pl.groups, and its number is added to group g's parts: the round's end -/
theorem endRound3 {j : Nat} {K : Nat → Key} {M Pt : Nat → List Nat} {gr : Nat → Int} {w3 : World} (hp : P2i key ln n g k j K M Pt gr) (hj : (mems key n g).length ≤ j) (hg : g < (fs key n).length) (hk : k < sG key ln n g)
    (h : Mid pb H (n + parts) w (bG key ln n g + k + 1) (updN K (bG key ln n g + k) (kAt key n g)) M Pt gr ((fs key n).length : Int) F wx) {g' cap' : Nat} (hgr : wx.grownBy w3 (F (.par g)).v.ownBlock)
    (ho : w3.ownsRow (H + 1) 3 1 (.slice (some ⟨g', 0, none⟩) ((Pt g).length + 1) cap') ((Pt g).length + 1) (intsV (Pt g) ++ [.int .i64 ((bG key ln n g + k : Nat) : Int)]))
    (hloc : (F (.par g)).v.ownBlock = some g' ∨ g' = wx.heap.size) {gb cap : Nat} (hv : (F .grps).v = .slice (some ⟨gb, 0, none⟩) (bG key ln n g + k + 1) cap) :
    ∃ F', St2 pb H n parts key ln w g (k + 1) F' (w3.setCell ⟨gb, g * 8 + 6, none⟩ (.slice (some ⟨g', 0, none⟩) ((Pt g).length + 1) cap')) ∧ (F' (.mem g)).v = (F (.mem g)).v := by
  have hge := bG_ge (key := key) (ln := ln) (n := n) g
  obtain ⟨F', h1, h2, h3, h4⟩ := h.addPar (by omega) hgr ho hloc hv
  exact ⟨F', ⟨_, _, _, _, hp.done hj hg hk, h1⟩, h4 g⟩

theorem P2i.ptNil {j : Nat} {K : Nat → Key} {M Pt : Nat → List Nat} {gr : Nat → Int} (h : P2i key ln n g k j K M Pt gr) : Pt (bG key ln n g + k) = [] := by
  obtain ⟨M0, gr0, h1, _⟩ := h.old
  have hge := bG_ge (key := key) (ln := ln) (n := n) g
  exact h1.P3 _ (by omega)

theorem P2i.ptLen {j : Nat} {K : Nat → Key} {M Pt : Nat → List Nat} {gr : Nat → Int} (h : P2i key ln n g k j K M Pt gr) (hg : g < (fs key n).length) : (Pt g).length = k := by
  obtain ⟨M0, gr0, h1, _⟩ := h.old
  rw [h1.P1 g hg]
  simp

theorem P2i.memLen {j : Nat} {K : Nat → Key} {M Pt : Nat → List Nat} {gr : Nat → Int} (h : P2i key ln n g k j K M Pt gr) : (M (bG key ln n g + k)).length ≤ n := by
  obtain ⟨M0, gr0, h1, h2, _⟩ := h.old
  rw [h2]
  simp only [updN, if_pos, List.length_map]
  exact Nat.le_trans (by simp; omega) (mems_len (key := key) n g)

theorem P2i.memAt {j : Nat} {K : Nat → Key} {M Pt : Nat → List Nat} {gr : Nat → Int} (h : P2i key ln n g k j K M Pt gr) (hg : g < (fs key n).length) : M g = mems key n g := by
  obtain ⟨M0, gr0, h1, h2, _⟩ := h.old
  have hge := bG_ge (key := key) (ln := ln) (n := n) g
  rw [h2]
  unfold updN
  rw [if_neg (by omega)]
  exact h1.M1 g hg
end
end Go.Proofs.Qxb6603801a
