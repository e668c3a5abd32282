import Derived.Test.Qxb6603801aPl
namespace Go.Proofs.Qxb6603801a
open Go.RowKit Go.Maps

theorem Try.info3 : (Try.prog.info? 3).map (fun i => (i.zero, i.size, i.bytes)) = some (some (.int .i64 0), 1, 8) := by kernel_rfl
theorem Try.info59 : (Try.prog.info? 59).map (fun i => (i.zero, i.size, i.bytes)) = some (some (.agg #[.int .i64 0, .int .i64 0, .int .i64 0, .slice none 0 0, .int .i64 0, .int .i64 0, .slice none 0 0, .slice none 0 0]), 8, 112) := by kernel_rfl

theorem Gw.congr {B : Nat} {w : World} {F : Ix → Slot} {cnt N cnt' : Nat} {K K' : Nat → Key} {M M' Pt Pt' : Nat → List Nat} {gr gr' : Nat → Int} (h : Gw B w F cnt N K M Pt gr) (hc : cnt = cnt') (hK : ∀ g, g < cnt → K g = K' g) (hM : ∀ g, M g = M' g) (hP : ∀ g, Pt g = Pt' g) (hg : ∀ m, m < N → gr m = gr' m) :
    Gw B w F cnt' N K' M' Pt' gr' := by
  subst hc
  obtain rfl : M = M' := funext hM
  obtain rfl : Pt = Pt' := funext hP
  refine ⟨h.fam, ⟨h.gp.1, h.gp.2.1, h.gp.2.2.1, ?_⟩, h.gs, ?_, h.mm, h.pp, h.nl⟩
  · rw [h.gp.2.2.2]
    exact List.map_congr_left fun m hm => by rw [hg m (List.mem_range.1 hm)]
  · intro g hgc j hj
    rw [h.gx g hgc j hj, hK g hgc]

/-- the state, whatever the groups hold -/
structure Mid (pb H N : Nat) (w : World) (cnt : Nat) (K : Nat → Key) (M Pt : Nat → List Nat) (gr : Nat → Int) (ofc : Int) (F : Ix → Slot) (wr : World) : Prop where
  gw : Gw (H + 1) wr F cnt N K M Pt gr
  pl : Pl pb wr (F .grps).v ofc (F .grp).v
  kp : Kp pb H w wr
  sz : H + 1 ≤ wr.heap.size
  pbH : pb < H

/-- the map's block holds the keys met -/
def Mp (key : Nat → Key) (H u : Nat) (wr : World) : Prop := ∃ D, MapIs key u D ∧ wr.ownsMap Try.prog 63 (plainElem Try.prog 3) H u D

theorem Mp.move {key : Nat → Key} {H u : Nat} {w w' : World} (h : Mp key H u w) (e : w'.heap[H]? = w.heap[H]?) : Mp key H u w' := by
  obtain ⟨D, h1, es, clock, hb, r⟩ := h
  exact ⟨D, h1, es, clock, by rw [e]; exact hb, r⟩

section
variable {pb H N : Nat} {w wr wr' : World} {cnt : Nat} {K : Nat → Key} {M Pt : Nat → List Nat} {gr : Nat → Int} {ofc : Int} {F : Ix → Slot}

theorem Mid.alloc (h : Mid pb H N w cnt K M Pt gr ofc F wr) (o : Obj) : Mid pb H N w cnt K M Pt gr ofc F (wr.alloc o) :=
  ⟨h.gw.move (h.gw.fam.alloc o), h.pl.alloc o, h.kp.alloc (by have := h.sz; omega) o, by have := h.sz; simp; omega, h.pbH⟩
theorem Mid.drew (h : Mid pb H N w cnt K M Pt gr ofc F wr) : Mid pb H N w cnt K M Pt gr ofc F wr.drew := ⟨h.gw.move h.gw.fam.drew, h.pl.drew, h.kp.drew, h.sz, h.pbH⟩
theorem Mid.drewN (h : Mid pb H N w cnt K M Pt gr ofc F wr) : ∀ k : Nat, Mid pb H N w cnt K M Pt gr ofc F (wr.drewN k)
  | 0 => h
  | k + 1 => (h.drewN k).drew

theorem Mid.congr {cnt' : Nat} {K' : Nat → Key} {M' Pt' : Nat → List Nat} {gr' : Nat → Int} (h : Mid pb H N w cnt K M Pt gr ofc F wr) (hc : cnt = cnt') (hK : ∀ g, g < cnt → K g = K' g) (hM : ∀ g, M g = M' g) (hP : ∀ g, Pt g = Pt' g) (hg : ∀ m, m < N → gr m = gr' m) :
    Mid pb H N w cnt' K' M' Pt' gr' ofc F wr := ⟨h.gw.congr hc hK hM hP hg, h.pl, h.kp, h.sz, h.pbH⟩

/-- the map has been written -/
theorem Mid.mapped (h : Mid pb H N w cnt K M Pt gr ofc F wr) (hg : wr.grownBy wr' (some H)) : Mid pb H N w cnt K M Pt gr ofc F wr' :=
  ⟨h.gw.move (h.gw.fam.keep fun g h1 h2 => hg.block g h2 (by simp; omega)), h.pl.move (hg.block pb h.pl.lt (by have := h.pbH; simp; omega)), h.kp.grown (by have := h.sz; omega) hg (by simp), Nat.le_trans h.sz hg.size, h.pbH⟩

theorem Mid.rowLow (h : Mid pb H N w cnt K M Pt gr ofc F wr) (i : Ix) : ∀ k, (F i).v.ownBlock = some k → H + 1 ≤ k := fun _ hk => (h.gw.fam.lt i hk).1

theorem grown_H (h : Mid pb H N w cnt K M Pt gr ofc F wr) {i : Ix} (hg : wr.grownBy wr' (F i).v.ownBlock) : wr'.heap[H]? = wr.heap[H]? := hg.block H (by have := h.sz; omega) (fun e => by have := h.rowLow i H e.symm; omega)

theorem Mid.locd {i : Ix} {v' : Value} {g' cap' n' : Nat} (hloc : (F i).v.ownBlock = some g' ∨ g' = wr.heap.size) (hv : v' = .slice (some ⟨g', 0, none⟩) n' cap') : v'.ownBlock = (F i).v.ownBlock ∨ ∃ g, v'.ownBlock = some g ∧ wr.heap.size ≤ g := by
  subst hv
  rcases hloc with h1 | h1
  · exact .inl h1.symm
  · exact .inr ⟨g', rfl, by omega⟩

/-- pl.groups = append(pl.groups, group) -/
theorem Mid.addGroup (h : Mid pb H N w cnt K M Pt gr ofc F wr) {k : Key} (hPt : Pt cnt = []) {g' cap' : Nat} (hg : wr.grownBy wr' (F .grps).v.ownBlock)
    (ho : wr'.ownsRow (H + 1) 59 8 (.slice (some ⟨g', 0, none⟩) (cnt + 1) cap') (cnt + 1) ((F .grps).xs ++ gcells k (F (.mem cnt)).v (.slice none 0 0))) (hloc : (F .grps).v.ownBlock = some g' ∨ g' = wr.heap.size) :
    (∃ F', Mid pb H N w (cnt + 1) (updN K cnt k) M Pt gr ofc F' (wr'.setCell ⟨pb, 0, none⟩ (.slice (some ⟨g', 0, none⟩) (cnt + 1) cap')) ∧ (F' .grps).v = .slice (some ⟨g', 0, none⟩) (cnt + 1) cap' ∧ (∀ i, i ≠ .grps → F' i = F i)) ∧ (wr'.setCell ⟨pb, 0, none⟩ (.slice (some ⟨g', 0, none⟩) (cnt + 1) cap')).heap[H]? = wr.heap[H]? := by
  have hp := h.pbH
  have h1 := h.gw.addGroup hPt hg ho (Mid.locd hloc rfl)
  refine ⟨⟨_, ⟨h1.move (h1.fam.setLow (by show pb < H + 1; omega) _), ?_, ?_, ?_, hp⟩, ?_, ?_⟩, ?_⟩
  · have h2 := (h.pl.grown hg (fun k hk => by have := h.rowLow .grps k hk; omega)).set0 (.slice (some ⟨g', 0, none⟩) (cnt + 1) cap')
    rw [upd_same, upd_other (by simp)]
    exact h2
  · exact (h.kp.grown (by have := h.sz; omega) hg (fun k hk => by have := h.rowLow .grps k hk; omega)).setCell (.inr rfl) _
  · have := h.sz
    have := hg.size
    simp; omega
  · rw [upd_same]
  · intro i hi; exact upd_other hi
  · rw [Below.heap_setCell _ _ _ _ (by show H ≠ pb; omega)]
    exact grown_H h hg

/-- pl.group[m] = x -/
theorem Mid.setGrp (h : Mid pb H N w cnt K M Pt gr ofc F wr) {m gb cap : Nat} (hv : (F .grp).v = .slice (some ⟨gb, 0, none⟩) N cap) (hm : m < N) (x : Int) :
    (∃ F', Mid pb H N w cnt K M Pt (updN gr m x) ofc F' (wr.setCell ⟨gb, m, none⟩ (.int .i64 x)) ∧ ∀ i, (F' i).v = (F i).v) ∧ (wr.setCell ⟨gb, m, none⟩ (.int .i64 x)).heap[H]? = wr.heap[H]? := by
  have hb := h.rowLow .grp gb (by rw [hv]; rfl)
  have hp := h.pbH
  obtain ⟨F', h1, h2⟩ := h.gw.setGrp hv hm x
  refine ⟨⟨F', ⟨h1, ?_, h.kp.setCell (.inl (by show H ≤ gb; omega)) _, by have := h.sz; simpa using this, hp⟩, h2⟩, Below.heap_setCell _ _ _ _ (by show H ≠ gb; omega)⟩
  rw [h2, h2]
  exact h.pl.setBeside (by show pb ≠ gb; omega) _

/-- pl.groups[g].members = append(pl.groups[g].members, u) -/
theorem Mid.addMem (h : Mid pb H N w cnt K M Pt gr ofc F wr) {g u : Nat} (hgc : g < cnt) {g' cap' : Nat} (hg : wr.grownBy wr' (F (.mem g)).v.ownBlock)
    (ho : wr'.ownsRow (H + 1) 3 1 (.slice (some ⟨g', 0, none⟩) ((M g).length + 1) cap') ((M g).length + 1) (intsV (M g) ++ [.int .i64 (u : Int)]))
    (hloc : (F (.mem g)).v.ownBlock = some g' ∨ g' = wr.heap.size) {gb cap : Nat} (hv : (F .grps).v = .slice (some ⟨gb, 0, none⟩) cnt cap) :
    (∃ F', Mid pb H N w cnt K (updN M g (M g ++ [u])) Pt gr ofc F' (wr'.setCell ⟨gb, g * 8 + 3, none⟩ (.slice (some ⟨g', 0, none⟩) ((M g).length + 1) cap')) ∧ (F' .grps).v = (F .grps).v ∧ (F' .grp).v = (F .grp).v) ∧
      (wr'.setCell ⟨gb, g * 8 + 3, none⟩ (.slice (some ⟨g', 0, none⟩) ((M g).length + 1) cap')).heap[H]? = wr.heap[H]? := by
  have hb := h.rowLow .grps gb (by rw [hv]; rfl)
  have hp := h.pbH
  obtain ⟨F', h1, h2, h3⟩ := h.gw.addMem hgc hg ho (Mid.locd hloc rfl) hv
  refine ⟨⟨F', ⟨h1, ?_, ?_, ?_, hp⟩, h2, h3⟩, ?_⟩
  · rw [h2, h3]
    exact (h.pl.grown hg (fun k hk => by have := h.rowLow _ k hk; omega)).setBeside (by show pb ≠ gb; omega) _
  · exact (h.kp.grown (by have := h.sz; omega) hg (fun k hk => by have := h.rowLow _ k hk; omega)).setCell (.inl (by show H ≤ gb; omega)) _
  · have := h.sz
    have := hg.size
    simp; omega
  · rw [Below.heap_setCell _ _ _ _ (by show H ≠ gb; omega)]
    exact grown_H h hg

/-- pl.groups[g].parts = append(pl.groups[g].parts, u) -/
theorem Mid.addPar (h : Mid pb H N w cnt K M Pt gr ofc F wr) {g u : Nat} (hgc : g < cnt) {g' cap' : Nat} (hg : wr.grownBy wr' (F (.par g)).v.ownBlock)
    (ho : wr'.ownsRow (H + 1) 3 1 (.slice (some ⟨g', 0, none⟩) ((Pt g).length + 1) cap') ((Pt g).length + 1) (intsV (Pt g) ++ [.int .i64 (u : Int)]))
    (hloc : (F (.par g)).v.ownBlock = some g' ∨ g' = wr.heap.size) {gb cap : Nat} (hv : (F .grps).v = .slice (some ⟨gb, 0, none⟩) cnt cap) :
    ∃ F', Mid pb H N w cnt K M (updN Pt g (Pt g ++ [u])) gr ofc F' (wr'.setCell ⟨gb, g * 8 + 6, none⟩ (.slice (some ⟨g', 0, none⟩) ((Pt g).length + 1) cap')) ∧ (F' .grps).v = (F .grps).v ∧ (F' .grp).v = (F .grp).v ∧ ∀ g', (F' (.mem g')).v = (F (.mem g')).v := by
  have hb := h.rowLow .grps gb (by rw [hv]; rfl)
  have hp := h.pbH
  obtain ⟨F', h1, h2, h3, h9⟩ := h.gw.addPar hgc hg ho (Mid.locd hloc rfl) hv
  refine ⟨F', ⟨h1, ?_, ?_, ?_, hp⟩, h2, h3, h9⟩
  · rw [h2, h3]
    exact (h.pl.grown hg (fun k hk => by have := h.rowLow _ k hk; omega)).setBeside (by show pb ≠ gb; omega) _
  · exact (h.kp.grown (by have := h.sz; omega) hg (fun k hk => by have := h.rowLow _ k hk; omega)).setCell (.inl (by show H ≤ gb; omega)) _
  · have := h.sz
    have := hg.size
    simp; omega

/-- group.members = append(group.members, u), the group in no row yet; its own variable's cell is written -/
theorem Mid.addMemNew (h : Mid pb H N w cnt K M Pt gr ofc F wr) {u : Nat} {g' cap' : Nat} (hg : wr.grownBy wr' (F (.mem cnt)).v.ownBlock)
    (ho : wr'.ownsRow (H + 1) 3 1 (.slice (some ⟨g', 0, none⟩) ((M cnt).length + 1) cap') ((M cnt).length + 1) (intsV (M cnt) ++ [.int .i64 (u : Int)]))
    (hloc : (F (.mem cnt)).v.ownBlock = some g' ∨ g' = wr.heap.size) {vb : Nat} (hvb : H + 1 ≤ vb) (hlt : vb < wr.heap.size) (hne : ∀ i, (F i).v.ownBlock ≠ some vb) :
    ∃ F', Mid pb H N w cnt K (updN M cnt (M cnt ++ [u])) Pt gr ofc F' (wr'.setCell ⟨vb, 3, none⟩ (.slice (some ⟨g', 0, none⟩) ((M cnt).length + 1) cap')) ∧ (F' .grps).v = (F .grps).v ∧ (F' .grp).v = (F .grp).v ∧ (F' (.mem cnt)).v = .slice (some ⟨g', 0, none⟩) ((M cnt).length + 1) cap' ∧ (∀ i, (F' i).v.ownBlock ≠ some vb) ∧ ∀ i, i ≠ .mem cnt → (F' i).v = (F i).v := by
  have hp := h.pbH
  have h1 := h.gw.addMemNew (Nat.le_refl _) hg ho (Mid.locd hloc rfl)
  have hne' : ∀ i, (upd F (.mem cnt) ⟨3, 1, .slice (some ⟨g', 0, none⟩) ((M cnt).length + 1) cap', (M cnt).length + 1, intsV (M cnt) ++ [.int .i64 (u : Int)]⟩ i).v.ownBlock ≠ some vb := by
    intro i
    by_cases hi : i = .mem cnt
    · subst hi
      rw [upd_same]
      rcases hloc with h2 | h2
      · intro e
        simp only [Value.ownBlock, Option.some.injEq] at e
        exact hne (.mem cnt) (by rw [h2, e])
      · intro e
        simp only [Value.ownBlock, Option.some.injEq] at e
        omega
    · rw [upd_other hi]; exact hne i
  refine ⟨_, ⟨h1.move (h1.fam.setBeside (a := ⟨vb, 3, none⟩) hne' _), ?_, ?_, ?_, hp⟩, ?_, ?_, ?_, hne', fun i hi => by rw [upd_other hi]⟩
  · rw [upd_other (by simp), upd_other (by simp)]
    exact (h.pl.grown hg (fun k hk => by have := h.rowLow _ k hk; omega)).setBeside (by show pb ≠ vb; omega) _
  · exact (h.kp.grown (by have := h.sz; omega) hg (fun k hk => by have := h.rowLow _ k hk; omega)).setCell (.inl (by show H ≤ vb; omega)) _
  · have := h.sz
    have := hg.size
    simp; omega
  · rw [upd_other (by simp)]
  · rw [upd_other (by simp)]
  · rw [upd_same]

/-- pl.ofCaches = x -/
theorem Mid.setOfc (h : Mid pb H N w cnt K M Pt gr ofc F wr) (x : Int) : Mid pb H N w cnt K M Pt gr x F (wr.setCell ⟨pb, 1, none⟩ (.int .i64 x)) :=
  ⟨h.gw.move (h.gw.fam.setLow (by have := h.pbH; show pb < H + 1; omega) _), h.pl.set1 x, h.kp.setCell (.inr rfl) _, by have := h.sz; simpa using this, h.pbH⟩

/-- the cells of a new block -/
theorem cells_new (w : World) (xs : Array Value) (t : TypeId) : ∀ j u, xs.toList[j]? = some u → (w.alloc (.cells xs t)).cell? ((⟨w.heap.size, 0, none⟩ : Addr).add j) = some u := by
  intro j u hj
  have h : (w.alloc (.cells xs t)).heap[w.heap.size]? = some (.cells xs t) := heap_alloc_new w _
  rw [show (⟨w.heap.size, 0, none⟩ : Addr).add j = ⟨w.heap.size, j, none⟩ from by rw [Addr.add_lit]; simp]
  unfold World.cell?
  simp only [h]
  simpa using hj

/-- pl.groups' row, read -/
theorem Mid.row (h : Mid pb H N w cnt K M Pt gr ofc F wr) (hc : 0 < cnt) : ∃ gb gc, (F .grps).v = .slice (some ⟨gb, 0, none⟩) cnt gc ∧ H + 1 ≤ gb ∧ gb < wr.heap.size ∧
    (∀ g, g < cnt → ∀ j, j < 8 → wr.cell? ⟨gb, g * 8 + j, none⟩ = some (gcell (K g) (F (.mem g)).v (F (.par g)).v j)) ∧ ∀ j, wr.frozen? ⟨gb, j, none⟩ = false := by
  obtain ⟨gb, gc, hv⟩ := own_form h.gw.ownGrps hc
  have ho := h.gw.ownGrps
  rw [hv] at ho
  have hlt := ho.lt gb rfl
  refine ⟨gb, gc, hv, hlt.1, hlt.2, fun g hg j hj => ?_, fun j => ho.frozenAt j⟩
  rw [ho.cellAt (g * 8 + j) (by omega)]
  exact h.gw.gx g hg j hj

/-- pl.group's row, written -/
theorem Mid.grpRow (h : Mid pb H N w cnt K M Pt gr ofc F wr) (hN : 0 < N) : ∃ gb gc, (F .grp).v = .slice (some ⟨gb, 0, none⟩) N gc ∧ H + 1 ≤ gb ∧ gb < wr.heap.size ∧
    (∀ m, m < N → wr.cell? ⟨gb, m, none⟩ = some (.int .i64 (gr m))) ∧ ∀ j, wr.frozen? ⟨gb, j, none⟩ = false := by
  obtain ⟨gb, gc, hv⟩ := own_form h.gw.ownGrp hN
  have ho := h.gw.ownGrp
  rw [hv] at ho
  have hlt := ho.lt gb rfl
  refine ⟨gb, gc, hv, hlt.1, hlt.2, fun m hm => ?_, fun j => ho.frozenAt j⟩
  rw [ho.cellAt m (by omega)]
  simp [hm]

/-- pl.group = make([]int, N) -/
theorem Mid.start (hpl : Pl pb w (.slice none 0 0) 0 (.slice none 0 0)) (hpb : pb < w.heap.size) (hH : w.heap.size = H) {w1 : World} {g' : Nat} (hb : w1.heap = (w.alloc (.map #[] 0)).heap) (hos : w1.os = w.os) (htape : w1.tape = w.tape) (hout : w1.output = w.output)
    (hg : w1.grownBy wr none) (ho : wr.ownsRow (H + 1) 3 1 (.slice (some ⟨g', 0, none⟩) N N) N (madeCells (Value.int .i64 0).cells (N * 1)).toList) (key : Nat → Key) :
    (∃ F, Mid pb H N w 0 (kAt key 0) (mems key 0) (fun _ => []) (fun m => if m < 0 then (gi key m : Int) else 0) 0 F (wr.setCell ⟨pb, 3, none⟩ (.slice (some ⟨g', 0, none⟩) N N)) ∧ (F .grp).v = .slice (some ⟨g', 0, none⟩) N N) ∧ Mp key H 0 (wr.setCell ⟨pb, 3, none⟩ (.slice (some ⟨g', 0, none⟩) N N)) := by
  have hsz : w1.heap.size = H + 1 := by rw [hb]; simp; omega
  have hblk : ∀ i, i ≤ H → wr.heap[i]? = (w.alloc (.map #[] 0)).heap[i]? := fun i hi => by rw [hg.block i (by omega) (by simp), hb]
  have e1 : (madeCells (Value.int .i64 0).cells (N * 1)).toList = (List.range N).map fun _ => Value.int .i64 0 := by
    rw [Nat.mul_one, show (Value.int .i64 0).cells = #[Value.int .i64 0] from rfl, toList_madeCells_one]
    apply List.ext_getElem?
    intro i
    by_cases hi : i < N <;> simp [hi]
  rw [e1] at ho
  have hF : Fam (H + 1) wr (fun i => match i with | .grp => ⟨3, 1, .slice (some ⟨g', 0, none⟩) N N, N, (List.range N).map fun _ => Value.int .i64 0⟩ | .grps => ⟨59, 8, .slice none 0 0, 0, []⟩ | _ => ⟨3, 1, .slice none 0 0, 0, []⟩) := by
    refine ⟨fun i => ?_, fun i j g hi hj => ?_⟩
    · cases i with
      | grp => exact ho
      | grps => exact World.ownsRow_nil _ _ _ _
      | mem g => exact World.ownsRow_nil _ _ _ _
      | par g => exact World.ownsRow_nil _ _ _ _
    · cases i <;> cases j <;> simp_all [Value.ownBlock]
  refine ⟨⟨_, ⟨⟨hF.setLow (by show pb < H + 1; omega) _, ?_, ?_, ?_, ?_, ?_, ?_⟩, ?_, ?_, ?_, by omega⟩, rfl⟩, ?_⟩
  · exact ⟨rfl, rfl, rfl, by simp⟩
  · exact ⟨rfl, rfl, rfl⟩
  · intro g hg; omega
  · intro g; simp [mems, intsV]
  · intro g; simp [intsV]
  · intro i hi _
    cases i <;> simp_all
  · exact ((hpl.alloc (.map #[] 0)).move (hblk pb (by omega))).set3 _
  · refine Kp.setCell (a := ⟨pb, 3, none⟩) (pb := pb) (H := H) ⟨hg.os.trans hos, hg.tape.trans htape, hg.output.trans hout, by have := hg.size; omega, fun i hi _ => ?_⟩ (.inr rfl) _
    rw [hblk i (by omega), Below.heap_alloc _ _ _ (by omega)]
  · have := hg.size
    simp; omega
  · have h2 := World.ownsMap_made (H := Unit) w Try.prog 63 (plainElem Try.prog 3)
    rw [hH] at h2
    refine Mp.move (w := w.alloc (.map #[] 0)) ⟨_, mapIs_start key, h2⟩ ?_
    rw [Below.heap_setCell _ _ _ _ (by show H ≠ pb; omega)]
    exact hblk H (Nat.le_refl _)
end
end Go.Proofs.Qxb6603801a
