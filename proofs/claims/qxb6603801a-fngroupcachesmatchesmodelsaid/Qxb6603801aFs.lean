import Derived.Test.Qxb6603801aGw
namespace Go.Proofs.Qxb6603801a

/-- the first places, by key, among the first u -/
def fs (key : Nat → Key) : Nat → List Nat
  | 0 => []
  | u + 1 => if key u ∈ (fs key u).map key then fs key u else fs key u ++ [u]

/-- the different keys among the first u, in the order of their first places -/
def kls (key : Nat → Key) (u : Nat) : List Key := (fs key u).map key

/-- the group of x -/
def gi (key : Nat → Key) (x : Nat) : Nat := (kls key (x + 1)).idxOf (key x)

variable {key : Nat → Key}

theorem fs_old {u : Nat} (h : key u ∈ kls key u) : fs key (u + 1) = fs key u := by
  show (if key u ∈ kls key u then _ else _) = _
  rw [if_pos h]
theorem fs_new {u : Nat} (h : key u ∉ kls key u) : fs key (u + 1) = fs key u ++ [u] := by
  show (if key u ∈ kls key u then _ else _) = _
  rw [if_neg h]

theorem fs_lt : ∀ {u x : Nat}, x ∈ fs key u → x < u
  | 0, x, h => by simp [fs] at h
  | u + 1, x, h => by
    by_cases hk : key u ∈ kls key u
    · rw [fs_old hk] at h
      have := fs_lt h
      omega
    · rw [fs_new hk, List.mem_append] at h
      rcases h with h | h
      · have := fs_lt h
        omega
      · simp at h
        omega

theorem fs_len : ∀ u : Nat, (fs key u).length ≤ u
  | 0 => by simp [fs]
  | u + 1 => by
    have := fs_len u
    by_cases hk : key u ∈ kls key u
    · rw [fs_old hk]; omega
    · rw [fs_new hk]; simp; omega

theorem kls_mem : ∀ {u : Nat} {k : Key}, k ∈ kls key u ↔ ∃ x, x < u ∧ key x = k
  | 0, k => by simp [kls, fs]
  | u + 1, k => by
    have ih : k ∈ kls key u ↔ _ := kls_mem
    constructor
    · intro h
      by_cases hk : key u ∈ kls key u
      · rw [kls, fs_old hk] at h
        obtain ⟨x, h1, h2⟩ := ih.1 h
        exact ⟨x, by omega, h2⟩
      · rw [kls, fs_new hk, List.map_append, List.mem_append] at h
        rcases h with h | h
        · obtain ⟨x, h1, h2⟩ := ih.1 h
          exact ⟨x, by omega, h2⟩
        · simp at h
          exact ⟨u, by omega, h.symm⟩
    · rintro ⟨x, h1, h2⟩
      by_cases hk : key u ∈ kls key u
      · rw [kls, fs_old hk]
        by_cases hx : x = u
        · subst hx h2; exact hk
        · exact ih.2 ⟨x, by omega, h2⟩
      · rw [kls, fs_new hk, List.map_append, List.mem_append]
        by_cases hx : x = u
        · subst hx h2; right; simp
        · exact .inl (ih.2 ⟨x, by omega, h2⟩)

theorem kls_nodup : ∀ u : Nat, (kls key u).Nodup
  | 0 => by simp [kls, fs]
  | u + 1 => by
    have ih := kls_nodup u
    by_cases hk : key u ∈ kls key u
    · rw [kls, fs_old hk]; exact ih
    · rw [kls, fs_new hk, List.map_append]
      refine List.nodup_append.2 ⟨ih, by simp, ?_⟩
      intro a ha b hb
      simp at hb
      subst hb
      intro e
      exact hk (e ▸ ha)

theorem fs_prefix : ∀ {u v : Nat}, u ≤ v → fs key u <+: fs key v
  | u, 0, h => by obtain rfl : u = 0 := by omega
                  exact List.prefix_refl _
  | u, v + 1, h => by
    by_cases e : u = v + 1
    · subst e; exact List.prefix_refl _
    · have ih := fs_prefix (u := u) (v := v) (by omega)
      by_cases hk : key v ∈ kls key v
      · rw [fs_old hk]; exact ih
      · rw [fs_new hk]; exact ih.trans (List.prefix_append _ _)

theorem kls_prefix {u v : Nat} (h : u ≤ v) : kls key u <+: kls key v := (fs_prefix h).map key

theorem idx_prefix {l l' : List Key} (h : l <+: l') {k : Key} (hk : k ∈ l) : l'.idxOf k = l.idxOf k := by
  obtain ⟨t, rfl⟩ := h
  rw [List.idxOf_append, if_pos hk]

theorem gi_at {x u : Nat} (h : x < u) : (kls key u).idxOf (key x) = gi key x := idx_prefix (kls_prefix (by omega)) (kls_mem.2 ⟨x, by omega, rfl⟩)

theorem gi_lt {x u : Nat} (h : x < u) : gi key x < (fs key u).length := by
  rw [← gi_at h]
  have := List.idxOf_lt_length_of_mem (kls_mem.2 ⟨x, h, rfl⟩ : key x ∈ kls key u)
  simpa [kls] using this

theorem gi_get {x u : Nat} (h : x < u) : (kls key u)[gi key x]? = some (key x) := by
  have h1 := gi_lt (key := key) h
  have h2 : gi key x < (kls key u).length := by simpa [kls] using h1
  rw [List.getElem?_eq_getElem h2]
  congr 1
  have := List.getElem_idxOf (x := key x) (xs := kls key u) (by rw [gi_at h]; exact h2)
  simpa [gi_at h] using this

theorem gi_inj {x y : Nat} : gi key x = gi key y ↔ key x = key y := by
  constructor
  · intro h
    have h1 := gi_get (key := key) (x := x) (u := max x y + 1) (by omega)
    have h2 := gi_get (key := key) (x := y) (u := max x y + 1) (by omega)
    rw [h, h2] at h1
    exact (Option.some.inj h1).symm
  · intro h
    rw [← gi_at (u := max x y + 1) (x := x) (by omega), ← gi_at (u := max x y + 1) (x := y) (by omega), h]

theorem gi_new {u : Nat} (h : key u ∉ kls key u) : gi key u = (fs key u).length := by
  unfold gi
  rw [kls, fs_new h, List.map_append, List.idxOf_append, if_neg (show key u ∉ List.map key (fs key u) from h)]
  simp

theorem fs_get_key {u g : Nat} (h : g < (fs key u).length) : (kls key u)[g]? = some (key ((fs key u)[g])) := by simp [kls, h]

theorem gi_first {u g : Nat} (h : g < (fs key u).length) : gi key ((fs key u)[g]) = g := by
  have hlt : (fs key u)[g] < u := fs_lt (List.getElem_mem h)
  rw [← gi_at hlt]
  have h2 : g < (kls key u).length := by simpa [kls] using h
  have h3 : (kls key u)[g] = key ((fs key u)[g]) := by simp [kls]
  rw [← h3]
  exact (kls_nodup u).idxOf_getElem g h2

/-- the members of group g among the first u -/
def mems (key : Nat → Key) (u g : Nat) : List Nat := (List.range u).filter fun x => gi key x = g

theorem mems_succ (u g : Nat) : mems key (u + 1) g = if gi key u = g then mems key u g ++ [u] else mems key u g := by
  unfold mems
  rw [List.range_succ, List.filter_append]
  by_cases h : gi key u = g
  · simp [h]
  · simp [h]

theorem mems_len (u g : Nat) : (mems key u g).length ≤ u := by
  have := List.length_filter_le (fun x => decide (gi key x = g)) (List.range u)
  simpa [mems] using this

theorem mems_mem {u g x : Nat} : x ∈ mems key u g ↔ x < u ∧ gi key x = g := by simp [mems]

/-- the key of group g -/
def kAt (key : Nat → Key) (u g : Nat) : Key := (kls key u).getD g (0, 0, 0)

theorem kAt_gi {x u : Nat} (h : x < u) : kAt key u (gi key x) = key x := by
  unfold kAt
  rw [List.getD_eq_getElem?_getD, gi_get h]; rfl

/-- n0 and the sizes of the groups before g -/
def base (sg : Nat → Nat) (c : Nat) : Nat → Nat
  | 0 => c
  | g + 1 => base sg c g + sg g

theorem base_mono {sg : Nat → Nat} {c g g' : Nat} (h : g ≤ g') : base sg c g ≤ base sg c g' := by
  induction g' with
  | zero => obtain rfl : g = 0 := by omega
            exact Nat.le_refl _
  | succ k ih =>
    by_cases e : g = k + 1
    · subst e; exact Nat.le_refl _
    · have := ih (by omega)
      show _ ≤ base sg c k + sg k
      omega

theorem base_ge {sg : Nat → Nat} {c g : Nat} : c ≤ base sg c g := base_mono (g := 0) (Nat.zero_le _)

/-- no two parts have one place -/
theorem base_inj {sg : Nat → Nat} {c g k g' k' : Nat} (hk : k < sg g) (hk' : k' < sg g') (h : base sg c g + k = base sg c g' + k') : g = g' ∧ k = k' := by
  have h1 : ∀ a b, a < b → base sg c a + sg a ≤ base sg c b := fun a b hab => base_mono (sg := sg) (c := c) (g := a + 1) (g' := b) hab
  rcases Nat.lt_trichotomy g g' with h2 | h2 | h2
  · have := h1 _ _ h2; omega
  · subst h2; exact ⟨rfl, by omega⟩
  · have := h1 _ _ h2; omega

theorem base_congr {sg sg' : Nat → Nat} {c g : Nat} (h : ∀ i, i < g → sg i = sg' i) : base sg c g = base sg' c g := by
  induction g with
  | zero => rfl
  | succ k ih =>
    show base sg c k + sg k = base sg' c k + sg' k
    rw [ih (fun i hi => h i (by omega)), h k (by omega)]

end Go.Proofs.Qxb6603801a
