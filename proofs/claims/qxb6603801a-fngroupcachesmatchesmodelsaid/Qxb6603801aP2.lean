import Derived.Test.Qxb6603801aStep
namespace Go.Proofs.Qxb6603801a

/-- how many parts a cache of node set i has -/
def szOf (ln : Nat → Nat) (i : Nat) : Nat := if ln i < 2 then 0 else ln i

/-- the parts of cache u -/
def sU (key : Nat → Key) (ln : Nat → Nat) (u : Nat) : Nat := szOf ln (key u).2.2.toNat

/-- the parts of group g -/
def sG (key : Nat → Key) (ln : Nat → Nat) (n g : Nat) : Nat := szOf ln (kAt key n g).2.2.toNat

/-- where cache u's parts start -/
def fpU (key : Nat → Key) (ln : Nat → Nat) (u : Nat) : Nat := base (sU key ln) 0 u

/-- where group g's part groups start -/
def bG (key : Nat → Key) (ln : Nat → Nat) (n g : Nat) : Nat := base (sG key ln n) (fs key n).length g

section
variable {key : Nat → Key} {ln : Nat → Nat} {n : Nat}

theorem sG_gi {u : Nat} (hu : u < n) : sG key ln n (gi key u) = sU key ln u := by
  unfold sG sU
  rw [kAt_gi hu]

theorem base_add {sg : Nat → Nat} {c g : Nat} : base sg c g = c + base sg 0 g := by
  induction g with
  | zero => simp [base]
  | succ k ih => simp only [base]; omega

theorem bG_succ (g : Nat) : bG key ln n (g + 1) = bG key ln n g + sG key ln n g := rfl
theorem bG_zero : bG key ln n 0 = (fs key n).length := rfl
theorem bG_ge (g : Nat) : (fs key n).length ≤ bG key ln n g := base_ge
theorem fpU_succ (u : Nat) : fpU key ln (u + 1) = fpU key ln u + sU key ln u := rfl
theorem fpU_mono {u v : Nat} (h : u ≤ v) : fpU key ln u ≤ fpU key ln v := base_mono h

theorem fpU_lt {u k : Nat} (hu : u < n) (hk : k < sU key ln u) : fpU key ln u + k < fpU key ln n := by
  have h1 : fpU key ln (u + 1) ≤ fpU key ln n := fpU_mono hu
  rw [fpU_succ] at h1
  omega

theorem sum_le : ∀ u, u ≤ n → base (sG key ln n) 0 (fs key u).length ≤ fpU key ln u
  | 0, _ => by simp [fs, base]
  | u + 1, h => by
    have ih := sum_le u (by omega)
    rw [fpU_succ]
    by_cases hk : key u ∈ kls key u
    · rw [fs_old hk]; omega
    · rw [fs_new hk]
      simp only [List.length_append, List.length_cons, List.length_nil, Nat.zero_add]
      show base _ 0 (fs key u).length + sG key ln n (fs key u).length ≤ _
      rw [← gi_new hk, sG_gi (by omega), gi_new hk]
      omega

theorem bG_total : bG key ln n (fs key n).length ≤ n + fpU key ln n := by
  unfold bG
  rw [base_add]
  have h1 := sum_le (key := key) (ln := ln) n (Nat.le_refl n)
  have h2 := fs_len (key := key) n
  omega

theorem bG_lt {g k : Nat} (hg : g < (fs key n).length) (hk : k < sG key ln n g) : bG key ln n g + k < bG key ln n (fs key n).length := by
  have h1 : bG key ln n (g + 1) ≤ bG key ln n (fs key n).length := base_mono hg
  rw [bG_succ] at h1
  omega

/-- which part groups have been made at (g, k) -/
def Done (key : Nat → Key) (ln : Nat → Nat) (n g k g' k' : Nat) : Prop := k' < sG key ln n g' ∧ g' < (fs key n).length ∧ (g' < g ∨ (g' = g ∧ k' < k))

/-- what the groups hold at (g, k) of the second loop -/
structure P2 (key : Nat → Key) (ln : Nat → Nat) (n g k : Nat) (K : Nat → Key) (M Pt : Nat → List Nat) (gr : Nat → Int) : Prop where
  K1 : ∀ g', g' < (fs key n).length → K g' = kAt key n g'
  K2 : ∀ g' k', Done key ln n g k g' k' → K (bG key ln n g' + k') = kAt key n g'
  M1 : ∀ g', g' < (fs key n).length → M g' = mems key n g'
  M2 : ∀ g' k', Done key ln n g k g' k' → M (bG key ln n g' + k') = (mems key n g').map fun u => n + fpU key ln u + k'
  M3 : ∀ p, bG key ln n g + k ≤ p → M p = []
  P1 : ∀ g', g' < (fs key n).length → Pt g' = List.range' (bG key ln n g') (if g' < g then sG key ln n g' else if g' = g then k else 0)
  P3 : ∀ p, (fs key n).length ≤ p → Pt p = []
  G1 : ∀ m, m < n → gr m = (gi key m : Int)
  G2 : ∀ u, u < n → ∀ k', Done key ln n g k (gi key u) k' → gr (n + fpU key ln u + k') = ((bG key ln n (gi key u) + k' : Nat) : Int)

theorem P2.start : P2 key ln n 0 0 (kAt key n) (mems key n) (fun _ => []) (fun m => if m < n then (gi key m : Int) else 0) := by
  refine ⟨fun _ _ => rfl, fun g' k' h => ?_, fun _ _ => rfl, fun g' k' h => ?_, fun p hp => ?_, fun g' _ => ?_, fun _ _ => rfl, fun m hm => by simp [hm], fun u _ k' h => ?_⟩
  · have := h.2.2; omega
  · have := h.2.2; omega
  · exact mems_none (by rw [bG_zero] at hp; omega)
  · simp
  · have := h.2.2; omega

/-- a group is through -/
theorem P2.next {g : Nat} {K : Nat → Key} {M Pt : Nat → List Nat} {gr : Nat → Int} (h : P2 key ln n g (sG key ln n g) K M Pt gr) : P2 key ln n (g + 1) 0 K M Pt gr := by
  have hd : ∀ {g' k'}, Done key ln n (g + 1) 0 g' k' → Done key ln n g (sG key ln n g) g' k' := by
    intro g' k' hd
    refine ⟨hd.1, hd.2.1, ?_⟩
    rcases hd.2.2 with h1 | h1
    · by_cases e : g' = g
      · subst e; exact .inr ⟨rfl, hd.1⟩
      · exact .inl (by omega)
    · omega
  refine ⟨h.K1, fun g' k' hd' => h.K2 g' k' (hd hd'), h.M1, fun g' k' hd' => h.M2 g' k' (hd hd'), fun p hp => h.M3 p (by rw [bG_succ] at hp; omega), fun g' hg' => ?_, h.P3, h.G1, fun u hu k' hd' => h.G2 u hu k' (hd hd')⟩
  rw [h.P1 g' hg']
  congr 1
  by_cases e1 : g' < g
  · rw [if_pos e1, if_pos (by omega)]
  · rw [if_neg e1]
    by_cases e2 : g' = g
    · subst e2; simp
    · rw [if_neg e2, if_neg (by omega)]
      split <;> rfl

/-- inside the members' loop: j members are through -/
structure P2i (key : Nat → Key) (ln : Nat → Nat) (n g k j : Nat) (K : Nat → Key) (M Pt : Nat → List Nat) (gr : Nat → Int) : Prop where
  old : ∃ M0 gr0, P2 key ln n g k K M0 Pt gr0 ∧ M = updN M0 (bG key ln n g + k) (((mems key n g).take j).map fun u => n + fpU key ln u + k) ∧
    (∀ m, m < n → gr m = gr0 m) ∧ (∀ u k', u < n → k' < sU key ln u → (gi key u ≠ g ∨ k' ≠ k) → gr (n + fpU key ln u + k') = gr0 (n + fpU key ln u + k'))
  new : ∀ i u, i < j → (mems key n g)[i]? = some u → gr (n + fpU key ln u + k) = ((bG key ln n g + k : Nat) : Int)

theorem P2.inner {g k : Nat} {K : Nat → Key} {M Pt : Nat → List Nat} {gr : Nat → Int} (h : P2 key ln n g k K M Pt gr) : P2i key ln n g k 0 K M Pt gr := by
  refine ⟨⟨M, gr, h, ?_, fun _ _ => rfl, fun _ _ _ _ _ => rfl⟩, fun i u hi => by omega⟩
  funext p
  unfold updN
  by_cases e : p = bG key ln n g + k
  · rw [if_pos e, h.M3 p (by omega)]; simp
  · rw [if_neg e]

/-- no two parts of caches have one place -/
theorem part_inj {u u' k k' : Nat} (hk : k < sU key ln u) (hk' : k' < sU key ln u') (h : fpU key ln u + k = fpU key ln u' + k') : u = u' ∧ k = k' := base_inj hk hk' h

theorem P2i.step {g k j u : Nat} {K : Nat → Key} {M Pt : Nat → List Nat} {gr : Nat → Int} (h : P2i key ln n g k j K M Pt gr) (hk : k < sG key ln n g) (hu : (mems key n g)[j]? = some u) :
    P2i key ln n g k (j + 1) K (updN M (bG key ln n g + k) (M (bG key ln n g + k) ++ [n + fpU key ln u + k])) Pt (updN gr (n + fpU key ln u + k) ((bG key ln n g + k : Nat) : Int)) := by
  obtain ⟨M0, gr0, h1, h2, h3, h4⟩ := h.old
  have hum : u < n ∧ gi key u = g := mems_mem.1 (List.mem_of_getElem? hu)
  have hsu : k < sU key ln u := by rw [← sG_gi hum.1, hum.2]; exact hk
  refine ⟨⟨M0, gr0, h1, ?_, fun m hm => ?_, fun u' k' hu' hk' hne => ?_⟩, fun i u' hi hu' => ?_⟩
  · rw [h2]
    funext p
    unfold updN
    by_cases e : p = bG key ln n g + k
    · rw [if_pos e, if_pos e, if_pos rfl, List.take_add_one, hu]
      simp
    · rw [if_neg e, if_neg e, if_neg e]
  · rw [← h3 m hm]
    unfold updN
    rw [if_neg (by omega)]
  · rw [← h4 u' k' hu' hk' hne]
    unfold updN
    rw [if_neg]
    intro e
    obtain ⟨rfl, rfl⟩ := part_inj hk' hsu (by omega)
    rcases hne with h5 | h5
    · exact h5 hum.2
    · exact h5 rfl
  · unfold updN
    by_cases e : n + fpU key ln u' + k = n + fpU key ln u + k
    · rw [if_pos e]
    · rw [if_neg e]
      by_cases ij : i = j
      · subst ij
        rw [hu] at hu'
        cases hu'
        exact absurd rfl e
      · exact h.new i u' (by omega) hu'

/-- a part group is through -/
theorem P2i.done {g k j : Nat} {K : Nat → Key} {M Pt : Nat → List Nat} {gr : Nat → Int} (h : P2i key ln n g k j K M Pt gr) (hj : (mems key n g).length ≤ j) (hg : g < (fs key n).length) (hk : k < sG key ln n g) :
    P2 key ln n g (k + 1) (updN K (bG key ln n g + k) (kAt key n g)) M (updN Pt g (Pt g ++ [bG key ln n g + k])) gr := by
  obtain ⟨M0, gr0, h1, h2, h3, h4⟩ := h.old
  rw [List.take_of_length_le hj] at h2
  have hge := bG_ge (key := key) (ln := ln) (n := n) g
  have hd : ∀ {g' k'}, Done key ln n g (k + 1) g' k' → (g' = g ∧ k' = k) ∨ (Done key ln n g k g' k' ∧ bG key ln n g' + k' ≠ bG key ln n g + k) := by
    intro g' k' hd
    by_cases e : g' = g ∧ k' = k
    · exact .inl e
    · refine .inr ⟨⟨hd.1, hd.2.1, ?_⟩, fun e' => e (base_inj hd.1 hk e')⟩
      rcases hd.2.2 with h5 | h5
      · exact .inl h5
      · exact .inr ⟨h5.1, by omega⟩
  refine ⟨fun g' hg' => ?_, fun g' k' hd' => ?_, fun g' hg' => ?_, fun g' k' hd' => ?_, fun p hp => ?_, fun g' hg' => ?_, fun p hp => ?_, fun m hm => ?_, fun u hu k' hd' => ?_⟩
  · unfold updN
    rw [if_neg (by omega)]; exact h1.K1 g' hg'
  · unfold updN
    rcases hd hd' with ⟨rfl, rfl⟩ | ⟨h5, h6⟩
    · rw [if_pos rfl]
    · rw [if_neg h6]; exact h1.K2 g' k' h5
  · rw [h2]
    unfold updN
    rw [if_neg (by omega)]; exact h1.M1 g' hg'
  · rw [h2]
    unfold updN
    rcases hd hd' with ⟨rfl, rfl⟩ | ⟨h5, h6⟩
    · rw [if_pos rfl]
    · rw [if_neg h6]; exact h1.M2 g' k' h5
  · rw [h2]
    unfold updN
    rw [if_neg (by omega)]; exact h1.M3 p (by omega)
  · unfold updN
    by_cases e : g' = g
    · subst e
      rw [if_pos rfl, h1.P1 g' hg']
      simp [List.range'_concat]
    · rw [if_neg e, h1.P1 g' hg']
      congr 1
      rw [if_neg e, if_neg e]
  · unfold updN
    rw [if_neg (by omega)]; exact h1.P3 p hp
  · rw [h3 m hm]; exact h1.G1 m hm
  · have hsu : sG key ln n (gi key u) = sU key ln u := sG_gi hu
    rcases hd hd' with ⟨e1, rfl⟩ | ⟨h5, h6⟩
    · have hmem : u ∈ mems key n g := mems_mem.2 ⟨hu, e1⟩
      obtain ⟨i, hi⟩ := List.mem_iff_getElem?.1 hmem
      have hil : i < (mems key n g).length := (List.getElem?_eq_some_iff.1 hi).1
      rw [h.new i u (by omega) hi, e1]
    · rw [h4 u k' hu (by rw [← hsu]; exact h5.1) (by
        by_cases e : gi key u = g
        · right; intro e2; subst e2; rw [e] at h6; exact h6 rfl
        · exact .inl e)]
      exact h1.G2 u hu k' h5
end
end Go.Proofs.Qxb6603801a
