/- THE PLAIN MATHEMATICS of the seat b6616722a: which reports have a finding; a limit inserted. No Go program in sight. -/
namespace Go.Proofs.Qxb6616722a.Pl

/-- One of the first n answers yes. -/
def some1 (p : Nat → Bool) (n : Nat) : Bool := (List.range n).any p

theorem some1_yes {p : Nat → Bool} {n k : Nat} (hk : k < n) (h : p k = true) : some1 p n = true := by
  unfold some1; rw [List.any_eq_true]; exact ⟨k, by simpa using hk, h⟩
theorem some1_no {p : Nat → Bool} {n : Nat} (h : ∀ i, i < n → p i = false) : some1 p n = false := by
  unfold some1; rw [List.any_eq_false]; intro i hi; rw [h i (by simpa using hi)]; simp
theorem of_some1_no {p : Nat → Bool} {n : Nat} (h : some1 p n = false) {i : Nat} (hi : i < n) : p i = false := by
  cases hp : p i
  · rfl
  · rw [some1_yes hi hp] at h; cases h
theorem of_some1_yes {p : Nat → Bool} {n : Nat} (h : some1 p n = true) : ∃ i, i < n ∧ p i = true := by
  unfold some1 at h
  rw [List.any_eq_true] at h
  obtain ⟨i, hi, hp⟩ := h
  exact ⟨i, by simpa using hi, hp⟩

/-- x put at place 'at0' among l. -/
def ins (l : Nat → Int) (at0 : Nat) (x : Int) (i : Nat) : Int := if i < at0 then l i else if i = at0 then x else l (i - 1)

theorem some1_ins (l : Nat → Int) (at0 n : Nat) (x : Int) (h : at0 ≤ n) : some1 (fun i => ins l at0 x i == 1) (n + 1) = (some1 (fun i => l i == 1) n || x == 1) := by
  rw [Bool.eq_iff_iff, Bool.or_eq_true]
  constructor
  · intro h1
    obtain ⟨i, hi, hp⟩ := of_some1_yes h1
    unfold ins at hp
    by_cases h2 : i < at0
    · rw [if_pos h2] at hp; exact .inl (some1_yes (k := i) (by omega) hp)
    · rw [if_neg h2] at hp
      by_cases h3 : i = at0
      · rw [if_pos h3] at hp; exact .inr hp
      · rw [if_neg h3] at hp; exact .inl (some1_yes (k := i - 1) (by omega) hp)
  · rintro (h1 | h1)
    · obtain ⟨i, hi, hp⟩ := of_some1_yes h1
      by_cases h2 : i < at0
      · refine some1_yes (k := i) (by omega) ?_
        unfold ins; rw [if_pos h2]; exact hp
      · refine some1_yes (k := i + 1) (by omega) ?_
        unfold ins; rw [if_neg (by omega), if_neg (by omega), Nat.add_sub_cancel]; exact hp
    · refine some1_yes (k := at0) (by omega) ?_
      unfold ins; rw [if_neg (by omega), if_pos rfl]; exact h1

/-- Has the report a finding? m: some manager limit is in breach · bn: it follows no breaches · l: some limit is in breach · b: some breach counts · r: some review differs. -/
def finds (stale bu m bn l b r : Bool) : Bool := stale || m || (bn && !bu && l) || b || r

theorem law (stale bu m bn l b r s : Bool) : (finds stale bu m bn (l || s) b r == (finds stale bu m bn l b r || (s && bn && !bu))) = true := by
  revert stale bu m bn l b r s; decide
end Go.Proofs.Qxb6616722a.Pl
