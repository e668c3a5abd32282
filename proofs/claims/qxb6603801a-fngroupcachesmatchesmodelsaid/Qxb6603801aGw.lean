import Derived.Test.Qxb6603801aFam
namespace Go.Proofs.Qxb6603801a
open Go.RowKit

abbrev Key := Int × Int × Int

/-- the eight cells of a cacheGroup -/
def gcell (k : Key) (m p : Value) : Nat → Value
  | 0 => .int .i64 k.1
  | 1 => .int .i64 k.2.1
  | 2 => .int .i64 k.2.2
  | 3 => m
  | 4 => .int .i64 0
  | 5 => .int .i64 0
  | 6 => p
  | _ => .slice none 0 0

def gcells (k : Key) (m p : Value) : List Value := [.int .i64 k.1, .int .i64 k.2.1, .int .i64 k.2.2, m, .int .i64 0, .int .i64 0, p, .slice none 0 0]

theorem gcells_at (k : Key) (m p : Value) {j : Nat} (hj : j < 8) : (gcells k m p)[j]? = some (gcell k m p j) := by
  match j, hj with
  | 0, _ | 1, _ | 2, _ | 3, _ | 4, _ | 5, _ | 6, _ | 7, _ => rfl

def updN {α : Type} (f : Nat → α) (i : Nat) (x : α) : Nat → α := fun j => if j = i then x else f j

def intsV (l : List Nat) : List Value := l.map fun (u : Nat) => Value.int .i64 (u : Int)

/-- what pl.group, pl.groups and the groups' own slices hold -/
structure Gw (B : Nat) (w : World) (F : Ix → Slot) (cnt N : Nat) (K : Nat → Key) (M Pt : Nat → List Nat) (gr : Nat → Int) : Prop where
  fam : Fam B w F
  gp : (F .grp).e = 3 ∧ (F .grp).size = 1 ∧ (F .grp).n = N ∧ (F .grp).xs = (List.range N).map fun m => .int .i64 (gr m)
  gs : (F .grps).e = 59 ∧ (F .grps).size = 8 ∧ (F .grps).n = cnt
  gx : ∀ g, g < cnt → ∀ j, j < 8 → (F .grps).xs[g * 8 + j]? = some (gcell (K g) (F (.mem g)).v (F (.par g)).v j)
  mm : ∀ g, (F (.mem g)).e = 3 ∧ (F (.mem g)).size = 1 ∧ (F (.mem g)).n = (M g).length ∧ (F (.mem g)).xs = intsV (M g)
  pp : ∀ g, (F (.par g)).e = 3 ∧ (F (.par g)).size = 1 ∧ (F (.par g)).n = (Pt g).length ∧ (F (.par g)).xs = intsV (Pt g)
  nl : ∀ i, i ≠ .grp → (F i).n = 0 → (F i).v = .slice none 0 0

section
variable {B : Nat} {w w' : World} {F : Ix → Slot} {cnt N : Nat} {K : Nat → Key} {M Pt : Nat → List Nat} {gr : Nat → Int}

theorem Gw.move (h : Gw B w F cnt N K M Pt gr) (hf : Fam B w' F) : Gw B w' F cnt N K M Pt gr := ⟨hf, h.gp, h.gs, h.gx, h.mm, h.pp, h.nl⟩

theorem Gw.ownGrps (h : Gw B w F cnt N K M Pt gr) : w.ownsRow B 59 8 (F .grps).v cnt (F .grps).xs := by
  have := h.fam.own .grps
  rw [h.gs.1, h.gs.2.1, h.gs.2.2] at this
  exact this

theorem Gw.ownMem (h : Gw B w F cnt N K M Pt gr) (g : Nat) : w.ownsRow B 3 1 (F (.mem g)).v (M g).length (intsV (M g)) := by
  have := h.fam.own (.mem g)
  rw [(h.mm g).1, (h.mm g).2.1, (h.mm g).2.2.1, (h.mm g).2.2.2] at this
  exact this

theorem Gw.ownPar (h : Gw B w F cnt N K M Pt gr) (g : Nat) : w.ownsRow B 3 1 (F (.par g)).v (Pt g).length (intsV (Pt g)) := by
  have := h.fam.own (.par g)
  rw [(h.pp g).1, (h.pp g).2.1, (h.pp g).2.2.1, (h.pp g).2.2.2] at this
  exact this

theorem Gw.ownGrp (h : Gw B w F cnt N K M Pt gr) : w.ownsRow B 3 1 (F .grp).v N ((List.range N).map fun m => .int .i64 (gr m)) := by
  have := h.fam.own .grp
  rw [h.gp.1, h.gp.2.1, h.gp.2.2.1, h.gp.2.2.2] at this
  exact this

/-- a group is added -/
theorem Gw.addGroup (h : Gw B w F cnt N K M Pt gr) {k : Key} (hPt : Pt cnt = []) {v' : Value} (hg : w.grownBy w' (F .grps).v.ownBlock)
    (ho : w'.ownsRow B 59 8 v' (cnt + 1) ((F .grps).xs ++ gcells k (F (.mem cnt)).v (.slice none 0 0)))
    (hloc : v'.ownBlock = (F .grps).v.ownBlock ∨ ∃ g, v'.ownBlock = some g ∧ w.heap.size ≤ g) :
    Gw B w' (upd F .grps ⟨59, 8, v', cnt + 1, (F .grps).xs ++ gcells k (F (.mem cnt)).v (.slice none 0 0)⟩) (cnt + 1) N (updN K cnt k) M Pt gr := by
  have hlen : (F .grps).xs.length = cnt * 8 := h.ownGrps.1
  refine ⟨h.fam.grown hg ho hloc, ?_, ?_, ?_, ?_, ?_, ?_⟩
  · rw [upd_other (by simp)]; exact h.gp
  · rw [upd_same]; exact ⟨rfl, rfl, rfl⟩
  · intro g hg j hj
    rw [upd_same, upd_other (by simp), upd_other (by simp)]
    show ((F .grps).xs ++ _)[g * 8 + j]? = _
    by_cases hgc : g < cnt
    · rw [List.getElem?_append_left (by omega), h.gx g hgc j hj]
      simp [updN, show g ≠ cnt by omega]
    · obtain rfl : g = cnt := by omega
      rw [List.getElem?_append_right (by omega), hlen, Nat.add_sub_cancel_left, gcells_at _ _ _ hj]
      have : (F (.par g)).v = .slice none 0 0 := h.nl _ (by simp) (by rw [(h.pp g).2.2.1, hPt]; rfl)
      simp [updN, this]
  · intro g; rw [upd_other (by simp)]; exact h.mm g
  · intro g; rw [upd_other (by simp)]; exact h.pp g
  · intro i hi hn
    by_cases hig : i = .grps
    · subst hig; rw [upd_same] at hn; simp at hn
    · rw [upd_other hig] at hn ⊢; exact h.nl i hi hn

/-- a cell of pl.group is written -/
theorem Gw.setGrp (h : Gw B w F cnt N K M Pt gr) {m gb cap : Nat} (hv : (F .grp).v = .slice (some ⟨gb, 0, none⟩) N cap) (hm : m < N) (x : Int) :
    ∃ F', Gw B (w.setCell ⟨gb, m, none⟩ (.int .i64 x)) F' cnt N K M Pt (updN gr m x) ∧ ∀ i, (F' i).v = (F i).v := by
  refine ⟨upd F .grp { F .grp with xs := (F .grp).xs.set m (.int .i64 x) }, ⟨h.fam.stored (i := .grp) (by rw [h.gp.2.2.1]; exact hv) m _, ?_, ?_, ?_, ?_, ?_, ?_⟩, ?_⟩
  · rw [upd_same]
    refine ⟨h.gp.1, h.gp.2.1, h.gp.2.2.1, ?_⟩
    show (F .grp).xs.set m _ = _
    rw [h.gp.2.2.2]
    apply List.ext_getElem?
    intro i
    rw [List.getElem?_set]
    by_cases hi : m = i
    · subst hi
      simp [hm, updN]
    · rw [if_neg hi]
      simp only [List.getElem?_map]
      by_cases hiN : i < N
      · simp [hiN, updN, show i ≠ m from fun e => hi e.symm]
      · simp [hiN]
  · rw [upd_other (by simp)]; exact h.gs
  · intro g hg j hj
    rw [upd_other (by simp), upd_other (by simp), upd_other (by simp)]; exact h.gx g hg j hj
  · intro g; rw [upd_other (by simp)]; exact h.mm g
  · intro g; rw [upd_other (by simp)]; exact h.pp g
  · intro i hi hn
    rw [upd_other hi] at hn ⊢; exact h.nl i hi hn
  · intro i
    by_cases hi : i = .grp
    · subst hi; rw [upd_same]
    · rw [upd_other hi]

/-- a member is added to a group that stands in no row yet -/
theorem Gw.addMemNew (h : Gw B w F cnt N K M Pt gr) {g u : Nat} (hgc : cnt ≤ g) {v' : Value} (hg : w.grownBy w' (F (.mem g)).v.ownBlock)
    (ho : w'.ownsRow B 3 1 v' ((M g).length + 1) (intsV (M g) ++ [.int .i64 (u : Int)]))
    (hloc : v'.ownBlock = (F (.mem g)).v.ownBlock ∨ ∃ g, v'.ownBlock = some g ∧ w.heap.size ≤ g) :
    Gw B w' (upd F (.mem g) ⟨3, 1, v', (M g).length + 1, intsV (M g) ++ [.int .i64 (u : Int)]⟩) cnt N K (updN M g (M g ++ [u])) Pt gr := by
  refine ⟨h.fam.grown hg ho hloc, ?_, ?_, ?_, ?_, ?_, ?_⟩
  · rw [upd_other (by simp)]; exact h.gp
  · rw [upd_other (by simp)]; exact h.gs
  · intro g' hg' j hj
    rw [upd_other (by simp), upd_other (by simp; omega), upd_other (by simp)]; exact h.gx g' hg' j hj
  · intro g'
    by_cases e : g' = g
    · subst e; rw [upd_same]; simp [updN, intsV]
    · rw [upd_other (by simp [e])]; simpa [updN, e] using h.mm g'
  · intro g'; rw [upd_other (by simp)]; exact h.pp g'
  · intro i hi hn
    by_cases hig : i = .mem g
    · subst hig; rw [upd_same] at hn; simp at hn
    · rw [upd_other hig] at hn ⊢; exact h.nl i hi hn

theorem set_row {xs : List Value} {cnt : Nat} {f f' : Nat → Nat → Value} (hlen : xs.length = cnt * 8) (hx : ∀ g, g < cnt → ∀ j, j < 8 → xs[g * 8 + j]? = some (f g j)) {g j : Nat} (hg : g < cnt) (hj : j < 8) (x : Value)
    (h1 : f' g j = x) (h2 : ∀ g' j', g' < cnt → j' < 8 → (g' ≠ g ∨ j' ≠ j) → f' g' j' = f g' j') : ∀ g', g' < cnt → ∀ j', j' < 8 → (xs.set (g * 8 + j) x)[g' * 8 + j']? = some (f' g' j') := by
  intro g' hg' j' hj'
  rw [List.getElem?_set]
  by_cases e : g * 8 + j = g' * 8 + j'
  · obtain ⟨rfl, rfl⟩ : g = g' ∧ j = j' := by omega
    rw [if_pos rfl, if_pos (by omega), h1]
  · rw [if_neg e, hx g' hg' j' hj', h2 g' j' hg' hj' (by omega)]

/-- a member is added to a group, and the group's field is written -/
theorem Gw.addMem (h : Gw B w F cnt N K M Pt gr) {g u : Nat} (hgc : g < cnt) {v' : Value} (hg : w.grownBy w' (F (.mem g)).v.ownBlock)
    (ho : w'.ownsRow B 3 1 v' ((M g).length + 1) (intsV (M g) ++ [.int .i64 (u : Int)]))
    (hloc : v'.ownBlock = (F (.mem g)).v.ownBlock ∨ ∃ g, v'.ownBlock = some g ∧ w.heap.size ≤ g) {gb cap : Nat} (hv : (F .grps).v = .slice (some ⟨gb, 0, none⟩) cnt cap) :
    ∃ F', Gw B (w'.setCell ⟨gb, g * 8 + 3, none⟩ v') F' cnt N K (updN M g (M g ++ [u])) Pt gr ∧ (F' .grps).v = (F .grps).v ∧ (F' .grp).v = (F .grp).v := by
  have h1 := h.fam.grown hg (s := ⟨3, 1, v', (M g).length + 1, intsV (M g) ++ [.int .i64 (u : Int)]⟩) ho hloc
  have hlen : (F .grps).xs.length = cnt * 8 := h.ownGrps.1
  have e1 : upd F (.mem g) ⟨3, 1, v', (M g).length + 1, intsV (M g) ++ [.int .i64 (u : Int)]⟩ .grps = F .grps := upd_other (by simp)
  have h2 := h1.stored (i := .grps) (g := gb) (cap := cap) (by rw [e1, h.gs.2.2]; exact hv) (g * 8 + 3) v'
  rw [e1] at h2
  refine ⟨_, ⟨h2, ?_, ?_, ?_, ?_, ?_, ?_⟩, ?_, ?_⟩
  · rw [upd_other (by simp), upd_other (by simp)]; exact h.gp
  · rw [upd_same]; exact h.gs
  · rw [upd_same]
    refine set_row hlen h.gx hgc (by omega) v' ?_ ?_
    · rw [upd_other (by simp), upd_same]; rfl
    · intro g' j' _ hj' hne
      rw [upd_other (i := .grps) (j := .mem g') (by simp), upd_other (i := .grps) (j := .par g') (by simp), upd_other (i := .mem g) (j := .par g') (by simp)]
      by_cases e : g' = g
      · subst e
        rw [upd_same]
        match j', hj', hne with
        | 0, _, _ | 1, _, _ | 2, _, _ | 4, _, _ | 5, _, _ | 6, _, _ | 7, _, _ => rfl
        | 3, _, hne => simp at hne
      · rw [upd_other (by simp [e])]
  · intro g'
    rw [upd_other (by simp)]
    by_cases e : g' = g
    · subst e; rw [upd_same]; simp [updN, intsV]
    · rw [upd_other (by simp [e])]; simpa [updN, e] using h.mm g'
  · intro g'; rw [upd_other (by simp), upd_other (by simp)]; exact h.pp g'
  · intro i hi hn
    by_cases hig : i = .grps
    · subst hig; rw [upd_same] at hn ⊢; exact h.nl _ hi hn
    · rw [upd_other hig] at hn ⊢
      by_cases hig : i = .mem g
      · subst hig; rw [upd_same] at hn; simp at hn
      · rw [upd_other hig] at hn ⊢; exact h.nl i hi hn
  · rw [upd_same]
  · rw [upd_other (by simp), upd_other (by simp)]

/-- a part is added to a group, and the group's field is written -/
theorem Gw.addPar (h : Gw B w F cnt N K M Pt gr) {g u : Nat} (hgc : g < cnt) {v' : Value} (hg : w.grownBy w' (F (.par g)).v.ownBlock)
    (ho : w'.ownsRow B 3 1 v' ((Pt g).length + 1) (intsV (Pt g) ++ [.int .i64 (u : Int)]))
    (hloc : v'.ownBlock = (F (.par g)).v.ownBlock ∨ ∃ g, v'.ownBlock = some g ∧ w.heap.size ≤ g) {gb cap : Nat} (hv : (F .grps).v = .slice (some ⟨gb, 0, none⟩) cnt cap) :
    ∃ F', Gw B (w'.setCell ⟨gb, g * 8 + 6, none⟩ v') F' cnt N K M (updN Pt g (Pt g ++ [u])) gr ∧ (F' .grps).v = (F .grps).v ∧ (F' .grp).v = (F .grp).v ∧ ∀ g', (F' (.mem g')).v = (F (.mem g')).v := by
  have h1 := h.fam.grown hg (s := ⟨3, 1, v', (Pt g).length + 1, intsV (Pt g) ++ [.int .i64 (u : Int)]⟩) ho hloc
  have hlen : (F .grps).xs.length = cnt * 8 := h.ownGrps.1
  have e1 : upd F (.par g) ⟨3, 1, v', (Pt g).length + 1, intsV (Pt g) ++ [.int .i64 (u : Int)]⟩ .grps = F .grps := upd_other (by simp)
  have h2 := h1.stored (i := .grps) (g := gb) (cap := cap) (by rw [e1, h.gs.2.2]; exact hv) (g * 8 + 6) v'
  rw [e1] at h2
  refine ⟨_, ⟨h2, ?_, ?_, ?_, ?_, ?_, ?_⟩, ?_, ?_, fun g' => by rw [upd_other (by simp), upd_other (by simp)]⟩
  · rw [upd_other (by simp), upd_other (by simp)]; exact h.gp
  · rw [upd_same]; exact h.gs
  · rw [upd_same]
    refine set_row hlen h.gx hgc (by omega) v' ?_ ?_
    · rw [upd_other (j := .par g) (by simp), upd_same]; rfl
    · intro g' j' _ hj' hne
      rw [upd_other (i := .grps) (j := .mem g') (by simp), upd_other (i := .grps) (j := .par g') (by simp), upd_other (i := .par g) (j := .mem g') (by simp)]
      by_cases e : g' = g
      · subst e
        rw [upd_same]
        match j', hj', hne with
        | 0, _, _ | 1, _, _ | 2, _, _ | 4, _, _ | 5, _, _ | 3, _, _ | 7, _, _ => rfl
        | 6, _, hne => simp at hne
      · rw [upd_other (by simp [e])]
  · intro g'; rw [upd_other (by simp), upd_other (by simp)]; exact h.mm g'
  · intro g'
    rw [upd_other (by simp)]
    by_cases e : g' = g
    · subst e; rw [upd_same]; simp [updN, intsV]
    · rw [upd_other (by simp [e])]; simpa [updN, e] using h.pp g'
  · intro i hi hn
    by_cases hig : i = .grps
    · subst hig; rw [upd_same] at hn ⊢; exact h.nl _ hi hn
    · rw [upd_other hig] at hn ⊢
      by_cases hig : i = .par g
      · subst hig; rw [upd_same] at hn; simp at hn
      · rw [upd_other hig] at hn ⊢; exact h.nl i hi hn
  · rw [upd_same]
  · rw [upd_other (by simp), upd_other (by simp)]
end
end Go.Proofs.Qxb6603801a
