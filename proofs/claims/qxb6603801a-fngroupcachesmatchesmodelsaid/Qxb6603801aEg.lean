import Derived.Test.Qxb6603801aP2
namespace Go.Proofs.Qxb6603801a

/-- two rising lists with the same members are one -/
theorem rising_ext : ∀ {l l' : List Nat}, l.Pairwise (· < ·) → l'.Pairwise (· < ·) → (∀ x, x ∈ l ↔ x ∈ l') → l = l'
  | [], [], _, _, _ => rfl
  | [], y :: l', _, _, h => by
    have := (h y).2 (by simp)
    simp at this
  | x :: l, [], _, _, h => by
    have := (h x).1 (by simp)
    simp at this
  | x :: l, y :: l', h1, h2, h => by
    rw [List.pairwise_cons] at h1 h2
    have hxy : x = y := by
      have hx := (h x).1 (by simp)
      have hy := (h y).2 (by simp)
      rw [List.mem_cons] at hx hy
      rcases hx with hx | hx
      · exact hx
      · rcases hy with hy | hy
        · exact hy.symm
        · have a := h2.1 x hx
          have b := h1.1 y hy
          omega
    subst hxy
    congr 1
    refine rising_ext h1.2 h2.2 fun z => ⟨fun hz => ?_, fun hz => ?_⟩
    · have := (h z).1 (List.mem_cons_of_mem _ hz)
      rw [List.mem_cons] at this
      rcases this with rfl | h'
      · exact absurd (h1.1 _ hz) (Nat.lt_irrefl _)
      · exact h'
    · have := (h z).2 (List.mem_cons_of_mem _ hz)
      rw [List.mem_cons] at this
      rcases this with rfl | h'
      · exact absurd (h2.1 _ hz) (Nat.lt_irrefl _)
      · exact h'

theorem base_split {sg : Nat → Nat} {c : Nat} : ∀ (N p : Nat), c ≤ p → p < base sg c N → ∃ g k, g < N ∧ k < sg g ∧ p = base sg c g + k
  | 0, p, h1, h2 => by
    have : p < c := h2
    omega
  | N + 1, p, h1, h2 => by
    by_cases h : p < base sg c N
    · obtain ⟨g, k, a, b, c'⟩ := base_split N p h1 h
      exact ⟨g, k, by omega, b, c'⟩
    · have h3 : p < base sg c N + sg N := h2
      exact ⟨N, p - base sg c N, by omega, by omega, by omega⟩

section
variable {key : Nat → Key} {ln : Nat → Nat} {n : Nat}

/-- what the law's own table eg holds: the caches below ua; the parts of the caches below u, and the first k of u's -/
structure ER (key : Nat → Key) (ln : Nat → Nat) (n ua u k : Nat) (e : Nat → Int) : Prop where
  a : ∀ m, m < ua → e m = (gi key m : Int)
  b : ∀ u' k', u' < n → k' < sU key ln u' → (u' < u ∨ (u' = u ∧ k' < k)) → e (n + fpU key ln u' + k') = ((bG key ln n (gi key u') + k' : Nat) : Int)

theorem ER.start : ER key ln n 0 0 0 fun _ => 0 := ⟨fun m hm => by omega, fun u' k' _ _ h => by omega⟩

theorem ER.setA {u : Nat} {e : Nat → Int} (h : ER key ln n u u 0 e) (hu : u < n) : ER key ln n (u + 1) u 0 (updN e u (gi key u : Int)) := by
  refine ⟨fun m hm => ?_, fun u' k' h1 h2 h3 => ?_⟩
  · unfold updN
    by_cases e' : m = u
    · rw [if_pos e', e']
    · rw [if_neg e']; exact h.a m (by omega)
  · unfold updN
    rw [if_neg (by omega)]; exact h.b u' k' h1 h2 h3

theorem ER.setB {u k : Nat} {e : Nat → Int} (h : ER key ln n (u + 1) u k e) (hu : u < n) (hk : k < sU key ln u) : ER key ln n (u + 1) u (k + 1) (updN e (n + fpU key ln u + k) ((bG key ln n (gi key u) + k : Nat) : Int)) := by
  refine ⟨fun m hm => ?_, fun u' k' h1 h2 h3 => ?_⟩
  · unfold updN
    rw [if_neg (by omega)]; exact h.a m hm
  · unfold updN
    by_cases e' : n + fpU key ln u' + k' = n + fpU key ln u + k
    · obtain ⟨rfl, rfl⟩ := part_inj h2 hk (by omega)
      rw [if_pos rfl]
    · rw [if_neg e']
      refine h.b u' k' h1 h2 ?_
      rcases h3 with h4 | ⟨rfl, h5⟩
      · exact .inl h4
      · refine .inr ⟨rfl, ?_⟩
        rcases Nat.lt_or_ge k' k with h6 | h6
        · exact h6
        · exact absurd (by rw [show k' = k by omega]) e'

theorem ER.next {u : Nat} {e : Nat → Int} (h : ER key ln n (u + 1) u (sU key ln u) e) : ER key ln n (u + 1) (u + 1) 0 e := by
  refine ⟨h.a, fun u' k' h1 h2 h3 => h.b u' k' h1 h2 ?_⟩
  rcases h3 with h4 | h4
  · by_cases e' : u' = u
    · subst e'; exact .inr ⟨rfl, h2⟩
    · exact .inl (by omega)
  · omega

theorem bG_le {g k : Nat} (hg : g < (fs key n).length) (hk : k < sG key ln n g) : bG key ln n g + k < bG key ln n (fs key n).length := bG_lt hg hk

/-- each member's group -/
theorem ER.nat {e : Nat → Int} (h : ER key ln n n n 0 e) {m : Nat} (hm : m < n + fpU key ln n) : ∃ g : Nat, e m = (g : Int) ∧ g < bG key ln n (fs key n).length := by
  by_cases hn : m < n
  · refine ⟨gi key m, h.a m hn, Nat.lt_of_lt_of_le (gi_lt hn) (bG_ge _)⟩
  · obtain ⟨u, k, h1, h2, h3⟩ := base_split (sg := sU key ln) (c := 0) n (m - n) (Nat.zero_le _) (by show m - n < fpU key ln n; omega)
    have h4 : m = n + fpU key ln u + k := by
      have : m - n = fpU key ln u + k := h3
      omega
    refine ⟨bG key ln n (gi key u) + k, by rw [h4]; exact h.b u k h1 h2 (.inl h1), bG_lt (gi_lt h1) (by rw [sG_gi h1]; exact h2)⟩

section
variable {K : Nat → Key} {M Pt : Nat → List Nat} {gr : Nat → Int}

/-- pl.group is the law's table -/
theorem ER.grp {e : Nat → Int} (h : ER key ln n n n 0 e) (hp : P2 key ln n (fs key n).length 0 K M Pt gr) {m : Nat} (hm : m < n + fpU key ln n) : gr m = e m := by
  by_cases hn : m < n
  · rw [h.a m hn, hp.G1 m hn]
  · obtain ⟨u, k, h1, h2, h3⟩ := base_split (sg := sU key ln) (c := 0) n (m - n) (Nat.zero_le _) (by show m - n < fpU key ln n; omega)
    have h4 : m = n + fpU key ln u + k := by
      have : m - n = fpU key ln u + k := h3
      omega
    rw [h4, h.b u k h1 h2 (.inl h1), hp.G2 u h1 k ⟨by rw [sG_gi h1]; exact h2, gi_lt h1, .inl (gi_lt h1)⟩]

/-- the members of a group: those that the table gives it, rising -/
theorem ER.mem {e : Nat → Int} (h : ER key ln n n n 0 e) (hp : P2 key ln n (fs key n).length 0 K M Pt gr) {g : Nat} (hg : g < bG key ln n (fs key n).length) :
    M g = (List.range (n + fpU key ln n)).filter fun m => decide (e m = (g : Int)) := by
  by_cases hc : g < (fs key n).length
  · rw [hp.M1 g hc]
    refine rising_ext ((List.pairwise_lt_range).filter _) ((List.pairwise_lt_range).filter _) fun x => ?_
    rw [mems_mem]
    simp only [List.mem_filter, List.mem_range, decide_eq_true_eq]
    refine ⟨fun ⟨h1, h2⟩ => ⟨by omega, by rw [h.a x h1, h2]⟩, fun ⟨h1, h2⟩ => ?_⟩
    by_cases hn : x < n
    · rw [h.a x hn] at h2
      exact ⟨hn, by omega⟩
    · obtain ⟨u, k, h3, h4, h5⟩ := base_split (sg := sU key ln) (c := 0) n (x - n) (Nat.zero_le _) (by show x - n < fpU key ln n; omega)
      have h6 : x = n + fpU key ln u + k := by
        have : x - n = fpU key ln u + k := h5
        omega
      rw [h6, h.b u k h3 h4 (.inl h3)] at h2
      have := bG_ge (key := key) (ln := ln) (n := n) (gi key u)
      omega
  · obtain ⟨g', k', h1, h2, h3⟩ := base_split (sg := sG key ln n) (c := (fs key n).length) (fs key n).length g (by omega) hg
    have h4 : g = bG key ln n g' + k' := h3
    subst h4
    rw [hp.M2 g' k' ⟨h2, h1, .inl h1⟩]
    have hsz : ∀ u, u ∈ mems key n g' → k' < sU key ln u := fun u hu => by
      obtain ⟨a, b⟩ := mems_mem.1 hu
      rw [← sG_gi a, b]; exact h2
    refine rising_ext ?_ ((List.pairwise_lt_range).filter _) fun x => ?_
    · rw [List.pairwise_map]
      refine List.Pairwise.imp_of_mem ?_ ((List.pairwise_lt_range (n := n)).filter _)
      intro a b ha hb hab
      have h5 : fpU key ln (a + 1) ≤ fpU key ln b := fpU_mono hab
      have h6 := hsz a ha
      rw [fpU_succ] at h5
      omega
    · simp only [List.mem_map, List.mem_filter, List.mem_range, decide_eq_true_eq]
      refine ⟨fun ⟨u, hu, he⟩ => ?_, fun ⟨h5, h6⟩ => ?_⟩
      · obtain ⟨a, b⟩ := mems_mem.1 hu
        have h7 := hsz u hu
        have h8 := fpU_lt a h7
        refine ⟨by omega, ?_⟩
        rw [← he, h.b u k' a h7 (.inl a), b]
      · by_cases hn : x < n
        · rw [h.a x hn] at h6
          have h7 := gi_lt (key := key) hn
          have h8 := bG_ge (key := key) (ln := ln) (n := n) g'
          omega
        · obtain ⟨u, k, h7, h8, h9⟩ := base_split (sg := sU key ln) (c := 0) n (x - n) (Nat.zero_le _) (by show x - n < fpU key ln n; omega)
          have h10 : x = n + fpU key ln u + k := by
            have : x - n = fpU key ln u + k := h9
            omega
          rw [h10, h.b u k h7 h8 (.inl h7)] at h6
          obtain ⟨e1, e2⟩ := base_inj (sg := sG key ln n) (c := (fs key n).length) (g := gi key u) (k := k) (g' := g') (k' := k') (by rw [sG_gi h7]; exact h8) h2 (by
            have : bG key ln n (gi key u) + k = bG key ln n g' + k' := by omega
            exact this)
          exact ⟨u, mems_mem.2 ⟨h7, e1⟩, by rw [h10, e2]⟩
end

/-- how many members below m a group has -/
def cntE (e : Nat → Int) (m g : Nat) : Nat := ((List.range m).filter fun x => decide (e x = (g : Int))).length

theorem cntE_succ (e : Nat → Int) (m g : Nat) : cntE e (m + 1) g = cntE e m g + (if e m = (g : Int) then 1 else 0) := by
  unfold cntE
  rw [List.range_succ, List.filter_append, List.length_append]
  congr 1
  by_cases h : e m = (g : Int) <;> simp [h]

theorem filt_at {p : Nat → Bool} {m N : Nat} (hp : p m = true) (hm : m < N) : ((List.range N).filter p)[((List.range m).filter p).length]? = some m := by
  obtain ⟨d, rfl⟩ : ∃ d, N = m + (d + 1) := ⟨N - m - 1, by omega⟩
  rw [List.range_add, List.filter_append, List.getElem?_append_right (Nat.le_refl _), Nat.sub_self, List.range_succ_eq_map]
  simp [hp]
end
end Go.Proofs.Qxb6603801a
