/-
  THE PLAIN MATHEMATICS of the two laws on valueEnd: no Go in sight.
-/
namespace Go.Proofs.Qxb6003438a.Plain

/-- a decimal digit's byte -/
def dig (c : Int) : Prop := 48 ≤ c ∧ c ≤ 57

/-- 'en' ends the run of digits, of at most eight, that starts at 'fi' -/
def RunEnd (z : Nat → Int) (fi en : Nat) : Prop :=
  fi ≤ en ∧ en ≤ fi + 8 ∧ (∀ j, fi ≤ j → j < en → dig (z j)) ∧ (en < fi + 8 → ¬ dig (z en))

/-- the integer form is refused -/
def Bad (z : Nat → Int) (a fi en : Nat) : Prop :=
  en = fi ∨ z en ≠ 101 ∨ (z fi = 48 ∧ (fi + 1 < en ∨ a + 1 < fi))

/-- what valueEnd answers, for a start below 20 -/
def VE (z : Nat → Int) (a : Nat) (cont : Bool) (r : Int) : Prop :=
  (dig (z a) ∧ z (a + 1) = 58 ∧ r = (a : Int) + 2 + (z a - 48)) ∨
  (dig (z a) ∧ z (a + 1) ≠ 58 ∧ r = 0) ∨
  (z a = 105 ∧ ∃ fi en, ((fi = a + 1 ∧ z (a + 1) ≠ 45) ∨ (fi = a + 2 ∧ z (a + 1) = 45)) ∧ RunEnd z fi en ∧
    ((Bad z a fi en ∧ r = 0) ∨ (¬ Bad z a fi en ∧ r = (en : Int) + 1))) ∨
  ((z a = 108 ∨ z a = 100) ∧ cont = true ∧ z (a + 1) = 101 ∧ r = (a : Int) + 2) ∨
  (¬ dig (z a) ∧ z a ≠ 105 ∧ ¬ ((z a = 108 ∨ z a = 100) ∧ cont = true ∧ z (a + 1) = 101) ∧ r = 0)

theorem VE.none {z : Nat → Int} {a : Nat} {cont : Bool} (h1 : z a < 48 ∨ 57 < z a) (h2 : z a ≠ 105) (h3 : cont = false ∨ z (a + 1) ≠ 101 ∨ (z a ≠ 108 ∧ z a ≠ 100)) : VE z a cont 0 := by
  refine .inr (.inr (.inr (.inr ⟨fun h => ?_, h2, fun h => ?_, rfl⟩)))
  · unfold dig at h; omega
  · obtain ⟨k1, k2, k3⟩ := h
    rcases h3 with h3 | h3 | h3
    · simp [h3] at k2
    · exact h3 k3
    · rcases k1 with k | k
      · exact h3.1 k
      · exact h3.2 k

theorem VE.box {z : Nat → Int} {a : Nat} (h1 : z a = 108 ∨ z a = 100) (h2 : z (a + 1) = 101) : VE z a true ((a : Int) + 2) :=
  .inr (.inr (.inr (.inl ⟨h1, rfl, h2, rfl⟩)))

theorem VE.int0 {z : Nat → Int} {a fi en : Nat} {cont : Bool} (h : z a = 105) (hf : (fi = a + 1 ∧ z (a + 1) ≠ 45) ∨ (fi = a + 2 ∧ z (a + 1) = 45)) (hr : RunEnd z fi en) (hb : Bad z a fi en) : VE z a cont 0 :=
  .inr (.inr (.inl ⟨h, fi, en, hf, hr, .inl ⟨hb, rfl⟩⟩))

theorem VE.int1 {z : Nat → Int} {a fi en : Nat} {cont : Bool} (h : z a = 105) (hf : (fi = a + 1 ∧ z (a + 1) ≠ 45) ∨ (fi = a + 2 ∧ z (a + 1) = 45)) (hr : RunEnd z fi en) (hb : ¬ Bad z a fi en) : VE z a cont ((en : Int) + 1) :=
  .inr (.inr (.inl ⟨h, fi, en, hf, hr, .inr ⟨hb, rfl⟩⟩))

/-- what an accepted value looks like: 1: integer, 2: string, 3: list, 4: dictionary -/
def Form (z : Nat → Int) (a : Nat) (cont : Bool) (e : Nat) : Prop :=
  (z a = 105 ∧ a + 3 ≤ e ∧ z (e - 1) = 101) ∨ (48 ≤ z a ∧ z a ≤ 57 ∧ z (a + 1) = 58 ∧ (e : Int) - a = 2 + (z a - 48)) ∨ (z a = 108 ∧ cont = true ∧ e = a + 2) ∨ (z a = 100 ∧ cont = true ∧ e = a + 2)

theorem VE.form {z : Nat → Int} {a : Nat} {cont : Bool} {r : Int} (ha : a < 20) (h : VE z a cont r) : r = 0 ∨ ∃ e : Nat, r = (e : Int) ∧ a + 2 ≤ e ∧ e ≤ 30 ∧ Form z a cont e := by
  unfold Form
  rcases h with ⟨⟨h1, h2⟩, h3, h4⟩ | ⟨_, _, h4⟩ | ⟨h1, fi, en, hf, ⟨r1, r2, r3, r4⟩, ⟨_, h4⟩ | ⟨hb, h4⟩⟩ | ⟨h1, h2, h3, h4⟩ | ⟨_, _, _, h4⟩
  · right
    refine ⟨a + 2 + (z a - 48).toNat, by omega, by omega, by omega, .inr (.inl ⟨h1, h2, h3, by omega⟩)⟩
  · exact .inl h4
  · exact .inl h4
  · right
    unfold Bad at hb
    refine ⟨en + 1, by omega, by omega, by omega, .inl ⟨h1, by omega, ?_⟩⟩
    have : z en = 101 := by omega
    simpa using this
  · right
    refine ⟨a + 2, by omega, by omega, by omega, ?_⟩
    rcases h1 with h1 | h1
    · exact .inr (.inr (.inl ⟨h1, h2, rfl⟩))
    · exact .inr (.inr (.inr ⟨h1, h2, rfl⟩))
  · exact .inl h4

end Go.Proofs.Qxb6003438a.Plain
