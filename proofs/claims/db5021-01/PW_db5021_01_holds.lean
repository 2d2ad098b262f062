import PyProof.Rows.All
import Wide.All
import OpenK.AllK
import Wide.FinOn
import PySem.Challenge.RW_db5021_01
set_option Elab.async false
set_option linter.unusedVariables false
set_option rowWalk.seconds 0
section
namespace Mine
/-- the next row of the table: row i+1 out of rows i and i-1 -/
def nxt (sw : Bool) (a b : Nat → Nat) (i : Nat) (r1 r0 : Nat → Nat) : Nat → Nat
  | 0 => i + 1
  | j + 1 =>
    let base := min (min (r1 (j + 1) + 1) (nxt sw a b i r1 r0 j + 1)) (r1 j + if a i = b j then 0 else 1)
    if sw = true ∧ 0 < i ∧ 0 < j ∧ a i = b (j - 1) ∧ a (i - 1) = b j then min base (r0 (j - 1) + 1) else base
def tr (sw : Bool) (a b : Nat → Nat) : Nat → (Nat → Nat) × (Nat → Nat)
  | 0 => (fun j => j, fun j => j)
  | i + 1 => (nxt sw a b i (tr sw a b i).1 (tr sw a b i).2, (tr sw a b i).1)
/-- the fewest edits between the first i signs of a and the first j of b -/
def T (sw : Bool) (a b : Nat → Nat) (i j : Nat) : Nat := (tr sw a b i).1 j

section
variable (sw : Bool) (a b : Nat → Nat)
theorem T_zero (j : Nat) : T sw a b 0 j = j := rfl
theorem T_col (i : Nat) : T sw a b i 0 = i := by cases i <;> rfl
theorem T_base (i j : Nat) (h : ¬ (sw = true ∧ 0 < i ∧ 0 < j ∧ a i = b (j - 1) ∧ a (i - 1) = b j)) :
    T sw a b (i + 1) (j + 1) = min (min (T sw a b i (j + 1) + 1) (T sw a b (i + 1) j + 1)) (T sw a b i j + if a i = b j then 0 else 1) := by
  show nxt sw a b i (tr sw a b i).1 (tr sw a b i).2 (j + 1) = _
  unfold nxt
  simp only [if_neg h]
  rfl
theorem T_swap (i j : Nat) (h : sw = true) (e1 : a (i + 1) = b j) (e2 : a i = b (j + 1)) :
    T sw a b (i + 1 + 1) (j + 1 + 1) = min (min (min (T sw a b (i + 1) (j + 1 + 1) + 1) (T sw a b (i + 1 + 1) (j + 1) + 1)) (T sw a b (i + 1) (j + 1) + if a (i + 1) = b (j + 1) then 0 else 1)) (T sw a b i j + 1) := by
  show nxt sw a b (i + 1) (tr sw a b (i + 1)).1 (tr sw a b (i + 1)).2 (j + 1 + 1) = _
  rw [nxt]
  have hc : sw = true ∧ 0 < i + 1 ∧ 0 < j + 1 ∧ a (i + 1) = b (j + 1 - 1) ∧ a (i + 1 - 1) = b (j + 1) := ⟨h, Nat.succ_pos _, Nat.succ_pos _, e1, e2⟩
  simp only [if_pos hc]
  rfl
/-- the step, in both ways at once -/
theorem T_cases (i j : Nat) : (T sw a b (i + 1) (j + 1) = min (min (T sw a b i (j + 1) + 1) (T sw a b (i + 1) j + 1)) (T sw a b i j + if a i = b j then 0 else 1)) ∨
    (∃ p q, i = p + 1 ∧ j = q + 1 ∧ sw = true ∧ a (p + 1) = b q ∧ a p = b (q + 1) ∧
      T sw a b (i + 1) (j + 1) = min (min (min (T sw a b i (j + 1) + 1) (T sw a b (i + 1) j + 1)) (T sw a b i j + if a i = b j then 0 else 1)) (T sw a b p q + 1)) := by
  by_cases h : sw = true ∧ 0 < i ∧ 0 < j ∧ a i = b (j - 1) ∧ a (i - 1) = b j
  · obtain ⟨h1, h2, h3, h4, h5⟩ := h
    obtain ⟨p, rfl⟩ : ∃ p, i = p + 1 := ⟨i - 1, by omega⟩
    obtain ⟨q, rfl⟩ : ∃ q, j = q + 1 := ⟨j - 1, by omega⟩
    exact .inr ⟨p, q, rfl, rfl, h1, h4, h5, T_swap sw a b p q h1 h4 h5⟩
  · exact .inl (T_base sw a b i j h)

theorem T_A (i j : Nat) : T sw a b i (j + 1) ≤ T sw a b i j + 1 := by
  cases i with
  | zero => simp [T_zero]
  | succ i => rcases T_cases sw a b i j with h | ⟨p, q, _, _, _, _, _, h⟩ <;> omega
theorem T_B (i j : Nat) : T sw a b (i + 1) j ≤ T sw a b i j + 1 := by
  cases j with
  | zero => simp [T_col]
  | succ j => rcases T_cases sw a b i j with h | ⟨p, q, _, _, _, _, _, h⟩ <;> omega
theorem T_diag (i j : Nat) : T sw a b (i + 1) (j + 1) ≤ T sw a b i j + if a i = b j then 0 else 1 := by
  rcases T_cases sw a b i j with h | ⟨p, q, _, _, _, _, _, h⟩ <;> omega
theorem T_C' (i j : Nat) : T sw a b (i + 1) (j + 1) ≤ T sw a b i j + 1 := by
  have := T_diag sw a b i j
  split at this <;> omega
theorem T_diag0 (i j : Nat) (h : a i = b j) : T sw a b (i + 1) (j + 1) ≤ T sw a b i j := by
  have := T_diag sw a b i j
  rw [if_pos h] at this; exact this
theorem T_A' (i : Nat) : ∀ j, T sw a b i j ≤ T sw a b i (j + 1) + 1 := by
  induction i with
  | zero => intro j; simp only [T_zero]; omega
  | succ i ih =>
    intro j
    have h1 := ih j
    have h2 := T_B sw a b i j
    rcases T_cases sw a b i j with h | ⟨p, q, rfl, rfl, hs, e1, e2, h⟩
    · split at h <;> omega
    · have h3 := T_diag0 sw a b (p + 1) q e1
      have h4 := T_B sw a b p q
      split at h <;> omega
theorem T_B' (j : Nat) : ∀ i, T sw a b i j ≤ T sw a b (i + 1) j + 1 := by
  induction j with
  | zero => intro i; simp only [T_col]; omega
  | succ j ih =>
    intro i
    have h1 := ih i
    have h2 := T_A sw a b i j
    rcases T_cases sw a b i j with h | ⟨p, q, rfl, rfl, hs, e1, e2, h⟩
    · split at h <;> omega
    · have h3 := T_diag0 sw a b p (q + 1) e2
      have h4 := T_A sw a b p q
      split at h <;> omega
theorem T_C (i j : Nat) : T sw a b i j ≤ T sw a b (i + 1) (j + 1) := by
  have h1 := T_A' sw a b i j
  have h2 := T_B' sw a b j i
  rcases T_cases sw a b i j with h | ⟨p, q, rfl, rfl, hs, e1, e2, h⟩
  · split at h <;> omega
  · have h3 := T_C' sw a b p q
    split at h <;> omega
theorem T_eq (i j : Nat) (h : a i = b j) : T sw a b (i + 1) (j + 1) = T sw a b i j :=
  Nat.le_antisymm (T_diag0 sw a b i j h) (T_C sw a b i j)
/-- unequal signs -/
theorem T_ne (i j : Nat) (h : a i ≠ b j) (hs : ¬ (sw = true ∧ 0 < i ∧ 0 < j ∧ a i = b (j - 1) ∧ a (i - 1) = b j)) :
    T sw a b (i + 1) (j + 1) = min (min (T sw a b i j) (T sw a b (i + 1) j)) (T sw a b i (j + 1)) + 1 := by
  rw [T_base sw a b i j hs, if_neg h]; omega
theorem T_neS (i j : Nat) (h : a (i + 1) ≠ b (j + 1)) (hs : sw = true) (e1 : a (i + 1) = b j) (e2 : a i = b (j + 1)) :
    T sw a b (i + 1 + 1) (j + 1 + 1) = min (min (min (T sw a b (i + 1) (j + 1)) (T sw a b (i + 1 + 1) (j + 1))) (T sw a b (i + 1) (j + 1 + 1)) + 1) (T sw a b i j + 1) := by
  rw [T_swap sw a b i j hs e1 e2, if_neg h]; omega
theorem T_loJ (i j : Nat) : j ≤ T sw a b i j + i := by
  induction i with
  | zero => simp [T_zero]
  | succ i ih => have := T_B' sw a b j i; omega
theorem T_loI (i j : Nat) : i ≤ T sw a b i j + j := by
  induction j with
  | zero => simp [T_col]
  | succ j ih => have := T_A' sw a b i j; omega
theorem T_hi (i j : Nat) : T sw a b i j ≤ i + j := by
  induction i with
  | zero => simp [T_zero]
  | succ i ih => have := T_B sw a b i j; omega
theorem T_zero_iff (i j : Nat) : T sw a b i j = 0 ↔ i = j ∧ ∀ k, k < i → a k = b k := by
  constructor
  · intro h
    have e : i = j := by have := T_loJ sw a b i j; have := T_loI sw a b i j; omega
    subst e
    refine ⟨rfl, ?_⟩
    induction i with
    | zero => intro k hk; omega
    | succ i ih =>
      have h1 := T_C sw a b i i
      have e : a i = b i := by
        by_cases e : a i = b i
        · exact e
        · rcases T_cases sw a b i i with h' | ⟨p, q, _, _, _, _, _, h'⟩ <;> rw [if_neg e] at h' <;> omega
      intro k hk
      by_cases hki : k = i
      · rw [hki]; exact e
      · exact ih (by omega) k (by omega)
  · rintro ⟨rfl, h⟩
    induction i with
    | zero => rfl
    | succ i ih => rw [T_eq sw a b i i (h i (by omega))]; exact ih fun k hk => h k (by omega)
theorem T_suffix (i j : Nat) : ∀ d, (∀ k, k < d → a (i + k) = b (j + k)) → T sw a b (i + d) (j + d) = T sw a b i j
  | 0, _ => rfl
  | d + 1, h => by
    have := T_eq sw a b (i + d) (j + d) (h d (by omega))
    rw [show i + (d + 1) = i + d + 1 by omega, show j + (d + 1) = j + d + 1 by omega, this]
    exact T_suffix i j d fun k hk => h k (by omega)
end
theorem T_symm (sw : Bool) (a b : Nat → Nat) : ∀ i j, T sw a b i j = T sw b a j i := by
  intro i
  induction i using Nat.strongRecOn with
  | ind i ih =>
    intro j
    induction j with
    | zero => rw [T_col, T_zero]
    | succ j jh =>
      cases i with
      | zero => rw [T_col, T_zero]
      | succ i =>
        have h1 := ih i (by omega) (j + 1)
        have h2 := ih i (by omega) j
        have hite : (if a i = b j then 0 else 1) = (if b j = a i then 0 else 1) := by
          by_cases e : a i = b j
          · rw [if_pos e, if_pos e.symm]
          · rw [if_neg e, if_neg fun e' => e e'.symm]
        by_cases hc : sw = true ∧ 0 < i ∧ 0 < j ∧ a i = b (j - 1) ∧ a (i - 1) = b j
        · obtain ⟨hs, c2, c3, c4, c5⟩ := hc
          obtain ⟨p, rfl⟩ : ∃ p, i = p + 1 := ⟨i - 1, by omega⟩
          obtain ⟨q, rfl⟩ : ∃ q, j = q + 1 := ⟨j - 1, by omega⟩
          simp only [Nat.add_sub_cancel] at c4 c5
          have h3 := ih p (by omega) q
          rw [T_swap sw a b p q hs c4 c5, T_swap sw b a q p hs c5.symm c4.symm, hite]
          omega
        · have hc' : ¬ (sw = true ∧ 0 < j ∧ 0 < i ∧ b j = a (i - 1) ∧ b (j - 1) = a i) := fun ⟨x1, x2, x3, x4, x5⟩ => hc ⟨x1, x3, x2, x5.symm, x4.symm⟩
          rw [T_base sw a b i j hc, T_base sw b a j i hc', hite]
          omega
theorem T_shift1 (sw : Bool) (a b : Nat → Nat) (h0 : a 0 = b 0) : ∀ i j, T sw a b (i + 1) (j + 1) = T sw (fun k => a (k + 1)) (fun k => b (k + 1)) i j := by
  intro i
  induction i using Nat.strongRecOn with
  | ind i ih =>
    intro j
    induction j with
    | zero =>
      rw [T_col]
      cases i with
      | zero => exact T_eq sw a b 0 0 h0
      | succ i =>
        have h1 := ih i (by omega) 0
        rw [T_col] at h1
        have hc : ¬ (sw = true ∧ 0 < i + 1 ∧ 0 < 0 ∧ a (i + 1) = b (0 - 1) ∧ a (i + 1 - 1) = b 0) := fun h => by omega
        rw [T_base sw a b (i + 1) 0 hc, h1, T_col, T_col]
        split <;> omega
    | succ j jh =>
      cases i with
      | zero =>
        rw [T_zero] at jh ⊢
        have hc : ¬ (sw = true ∧ 0 < 0 ∧ 0 < j + 1 ∧ a 0 = b (j + 1 - 1) ∧ a (0 - 1) = b (j + 1)) := fun h => by omega
        rw [T_base sw a b 0 (j + 1) hc, T_zero, T_zero, jh]
        split <;> omega
      | succ i =>
        have h1 := ih i (by omega) (j + 1)
        have h2 := ih i (by omega) j
        by_cases hc : sw = true ∧ 0 < i ∧ 0 < j ∧ a (i + 1) = b (j - 1 + 1) ∧ a (i - 1 + 1) = b (j + 1)
        · obtain ⟨hs, c2, c3, c4, c5⟩ := hc
          obtain ⟨p, rfl⟩ : ∃ p, i = p + 1 := ⟨i - 1, by omega⟩
          obtain ⟨q, rfl⟩ : ∃ q, j = q + 1 := ⟨j - 1, by omega⟩
          simp only [Nat.add_sub_cancel] at c4 c5
          have h3 := ih p (by omega) q
          rw [T_swap sw a b (p + 1) (q + 1) hs c4 c5, T_swap sw (fun k => a (k + 1)) (fun k => b (k + 1)) p q hs c4 c5, h1, h2, h3, jh]
        · rw [T_base sw (fun k => a (k + 1)) (fun k => b (k + 1)) i j hc]
          by_cases hd : sw = true ∧ 0 < i + 1 ∧ 0 < j + 1 ∧ a (i + 1) = b (j + 1 - 1) ∧ a (i + 1 - 1) = b (j + 1)
          · obtain ⟨hs, _, _, c4, c5⟩ := hd
            simp only [Nat.add_sub_cancel] at c4 c5
            rw [T_swap sw a b i j hs c4 c5, h1, h2, jh]
            have k1 := T_A sw (fun k => a (k + 1)) (fun k => b (k + 1)) (i + 1) j
            have k2 := T_B sw (fun k => a (k + 1)) (fun k => b (k + 1)) i (j + 1)
            -- here i = 0 or j = 0
            have key : min (min (T sw (fun k => a (k + 1)) (fun k => b (k + 1)) i (j + 1) + 1) (T sw (fun k => a (k + 1)) (fun k => b (k + 1)) (i + 1) j + 1))
                (T sw (fun k => a (k + 1)) (fun k => b (k + 1)) i j + if a (i + 1) = b (j + 1) then 0 else 1) ≤ T sw a b i j + 1 := by
              by_cases hi : i = 0
              · subst hi
                simp only [T_zero]
                cases j with
                | zero =>
                  have e : a (0 + 1) = b (0 + 1) := by rw [c4, ← h0]; exact c5
                  rw [if_pos e]; omega
                | succ j =>
                  have e := T_diag0 sw (fun k => a (k + 1)) (fun k => b (k + 1)) 0 j (by show a (0 + 1) = b (j + 1); exact c4)
                  rw [T_zero] at e
                  omega
              · have hj : j = 0 := by
                  by_cases hj : j = 0
                  · exact hj
                  · refine absurd ⟨hs, by omega, by omega, ?_, ?_⟩ hc
                    · rw [show j - 1 + 1 = j by omega]; exact c4
                    · rw [show i - 1 + 1 = i by omega]; exact c5
                subst hj
                simp only [T_col]
                obtain ⟨p, rfl⟩ : ∃ p, i = p + 1 := ⟨i - 1, by omega⟩
                have e := T_diag0 sw (fun k => a (k + 1)) (fun k => b (k + 1)) p 0 (by show a (p + 1) = b (0 + 1); exact c5)
                rw [T_col] at e
                omega
            omega
          · rw [T_base sw a b (i + 1) (j + 1) hd, h1, h2, jh]
theorem T_prefix (sw : Bool) : ∀ (s : Nat) (a b : Nat → Nat) (i j : Nat), (∀ k, k < s → a k = b k) → T sw a b (s + i) (s + j) = T sw (fun k => a (s + k)) (fun k => b (s + k)) i j
  | 0, a, b, i, j, _ => by simp only [Nat.zero_add]
  | s + 1, a, b, i, j, h => by
    have h1 := T_shift1 sw a b (h 0 (by omega)) (s + i) (s + j)
    have h2 := T_prefix sw s (fun k => a (k + 1)) (fun k => b (k + 1)) i j fun k hk => h (k + 1) (by omega)
    rw [show s + 1 + i = s + i + 1 by omega, show s + 1 + j = s + j + 1 by omega, h1, h2]
    have e (f : Nat → Nat) : (fun k => f (s + k + 1)) = fun k => f (s + 1 + k) := by funext k; rw [show s + k + 1 = s + 1 + k by omega]
    rw [e, e]
/-- only the signs that are asked count -/
theorem T_congr (sw : Bool) {a a' b b' : Nat → Nat} : ∀ i j, (∀ k, k < i → a k = a' k) → (∀ k, k < j → b k = b' k) → T sw a b i j = T sw a' b' i j := by
  intro i
  induction i using Nat.strongRecOn with
  | ind i ih =>
    intro j
    induction j with
    | zero => intro _ _; rw [T_col, T_col]
    | succ j jh =>
      intro ha hb
      cases i with
      | zero => rw [T_zero, T_zero]
      | succ i =>
        have h1 := ih i (by omega) (j + 1) (fun k hk => ha k (by omega)) hb
        have h2 := ih i (by omega) j (fun k hk => ha k (by omega)) fun k hk => hb k (by omega)
        have h3 := jh ha fun k hk => hb k (by omega)
        have ea := ha i (by omega)
        have eb := hb j (by omega)
        by_cases hc : sw = true ∧ 0 < i ∧ 0 < j ∧ a i = b (j - 1) ∧ a (i - 1) = b j
        · obtain ⟨hs, c2, c3, c4, c5⟩ := hc
          obtain ⟨p, rfl⟩ : ∃ p, i = p + 1 := ⟨i - 1, by omega⟩
          obtain ⟨q, rfl⟩ : ∃ q, j = q + 1 := ⟨j - 1, by omega⟩
          simp only [Nat.add_sub_cancel] at c4 c5
          have h4 := ih p (by omega) q (fun k hk => ha k (by omega)) fun k hk => hb k (by omega)
          have ea' := ha p (by omega)
          have eb' := hb q (by omega)
          rw [T_swap sw a b p q hs c4 c5, T_swap sw a' b' p q hs (by rw [← ea, ← eb']; exact c4) (by rw [← ea', ← eb]; exact c5), h1, h2, h3, h4, ea, eb]
        · have hc' : ¬ (sw = true ∧ 0 < i ∧ 0 < j ∧ a' i = b' (j - 1) ∧ a' (i - 1) = b' j) := by
            rintro ⟨x1, x2, x3, x4, x5⟩
            exact hc ⟨x1, x2, x3, by rw [ea, hb (j - 1) (by omega)]; exact x4, by rw [ha (i - 1) (by omega), eb]; exact x5⟩
          rw [T_base sw a b i j hc, T_base sw a' b' i j hc', h1, h2, h3, ea, eb]
end Mine
end
section
namespace Mine
/-- what a path from the cell (i, j) to the end costs at least -/
def rem (l1 l2 i j : Nat) : Int := (((l2 : Int) - j - ((l1 : Int) - i)).natAbs : Int)
/-- a reckoned value stands for the true one as far as the bound lets it count -/
def Ap (mx r v t : Int) : Prop := v = t ∨ (mx < v + r ∧ mx < t + r)
theorem Ap.rfl' {mx r v : Int} : Ap mx r v v := .inl rfl
section
variable {sw : Bool} {a b : Nat → Nat} {l1 l2 i j : Nat} {mx prev above up v : Int}
theorem band_eq (e : a i = b j) (h : Ap mx (rem l1 l2 i j) prev (T sw a b i j : Nat)) : Ap mx (rem l1 l2 (i + 1) (j + 1)) prev (T sw a b (i + 1) (j + 1) : Nat) := by
  rw [T_eq sw a b i j e]
  have e : rem l1 l2 (i + 1) (j + 1) = rem l1 l2 i j := by unfold rem; omega
  rw [e]; exact h
theorem band_ne (hp : Ap mx (rem l1 l2 i j) prev (T sw a b i j : Nat)) (ha : (j = 0 ∧ above = i ∧ prev = i) ∨ Ap mx (rem l1 l2 (i + 1) j) above (T sw a b (i + 1) j : Nat))
    (hu : Ap mx (rem l1 l2 i (j + 1)) up (T sw a b i (j + 1) : Nat))
    (ht : T sw a b (i + 1) (j + 1) = min (min (T sw a b i j) (T sw a b (i + 1) j)) (T sw a b i (j + 1)) + 1) :
    Ap mx (rem l1 l2 (i + 1) (j + 1)) (min (min prev above) up + 1) (T sw a b (i + 1) (j + 1) : Nat) := by
  rw [ht]
  have e1 : rem l1 l2 (i + 1) (j + 1) = rem l1 l2 i j := by unfold rem; omega
  have e2 : rem l1 l2 (i + 1) j ≤ rem l1 l2 i j + 1 := by unfold rem; omega
  have e3 : rem l1 l2 i (j + 1) ≤ rem l1 l2 i j + 1 := by unfold rem; omega
  rw [e1]
  generalize rem l1 l2 i j = r at *
  generalize rem l1 l2 (i + 1) j = r1 at *
  generalize rem l1 l2 i (j + 1) = r2 at *
  unfold Ap at *
  rcases ha with ⟨rfl, rfl, hpi⟩ | ha
  · subst hpi
    have c1 := T_col sw a b i
    have c2 := T_col sw a b (i + 1)
    rw [c1] at hp
    rw [c1, c2]
    omega
  · omega
/-- with a swap -/
theorem band_neS {pp : Int} (hp : Ap mx (rem l1 l2 (i + 1) (j + 1)) prev (T sw a b (i + 1) (j + 1) : Nat)) (ha : Ap mx (rem l1 l2 (i + 1 + 1) (j + 1)) above (T sw a b (i + 1 + 1) (j + 1) : Nat))
    (hu : Ap mx (rem l1 l2 (i + 1) (j + 1 + 1)) up (T sw a b (i + 1) (j + 1 + 1) : Nat)) (hs : Ap mx (rem l1 l2 i j) pp (T sw a b i j : Nat))
    (ht : T sw a b (i + 1 + 1) (j + 1 + 1) = min (min (min (T sw a b (i + 1) (j + 1)) (T sw a b (i + 1 + 1) (j + 1))) (T sw a b (i + 1) (j + 1 + 1)) + 1) (T sw a b i j + 1)) :
    Ap mx (rem l1 l2 (i + 1 + 1) (j + 1 + 1)) (min (min (min prev above) up + 1) (pp + 1)) (T sw a b (i + 1 + 1) (j + 1 + 1) : Nat) := by
  rw [ht]
  have e0 : rem l1 l2 (i + 1 + 1) (j + 1 + 1) = rem l1 l2 i j := by unfold rem; omega
  have e1 : rem l1 l2 (i + 1) (j + 1) = rem l1 l2 i j := by unfold rem; omega
  have e2 : rem l1 l2 (i + 1 + 1) (j + 1) ≤ rem l1 l2 i j + 1 := by unfold rem; omega
  have e3 : rem l1 l2 (i + 1) (j + 1 + 1) ≤ rem l1 l2 i j + 1 := by unfold rem; omega
  rw [e0]
  rw [e1] at hp
  generalize rem l1 l2 i j = r at *
  generalize rem l1 l2 (i + 1 + 1) (j + 1) = r1 at *
  generalize rem l1 l2 (i + 1) (j + 1 + 1) = r2 at *
  unfold Ap at *
  omega
/-- from any cell the end costs at least what is left -/
theorem T_far (sw : Bool) (a b : Nat → Nat) (i j : Nat) : ∀ d, T sw a b i j ≤ T sw a b (i + d) (j + d)
  | 0 => Nat.le_refl _
  | d + 1 => Nat.le_trans (T_far sw a b i j d) (T_C sw a b (i + d) (j + d))
theorem T_pos (h0 : a 0 ≠ b 0) (hi : 1 ≤ i) : 1 ≤ T sw a b i j := by
  by_cases h : T sw a b i j = 0
  · exact absurd (((T_zero_iff sw a b i j).mp h).2 0 (by omega)) h0
  · omega
/-- the left edge of the band: what stands for the diagonal and for the left cell -/
theorem band_left (h0 : a 0 ≠ b 0) {off diff : Nat} (hd : l2 = l1 + diff) (ho : mx = (off : Int) + diff) (hj : j = i - off) : Ap mx (rem l1 l2 i j) i (T sw a b i j : Nat) := by
  by_cases h : i ≤ off
  · have e : j = 0 := by omega
    subst e
    rw [T_col]; exact .inl rfl
  · have hp := T_pos (sw := sw) (j := j) h0 (show 1 ≤ i by omega)
    have e : rem l1 l2 i j = mx := by unfold rem; omega
    rw [e]
    exact .inr ⟨by omega, by omega⟩
theorem band_left' (h0 : a 0 ≠ b 0) {off diff : Nat} (hd : l2 = l1 + diff) (ho : mx = (off : Int) + diff) (hj : j = i - off) : (j = 0 ∧ (i : Int) = i ∧ (i : Int) = i) ∨ Ap mx (rem l1 l2 (i + 1) j) i (T sw a b (i + 1) j : Nat) := by
  by_cases h : i ≤ off
  · exact .inl ⟨by omega, rfl, rfl⟩
  · have e : rem l1 l2 (i + 1) j = mx + 1 := by unfold rem; omega
    rw [e]
    exact .inr (.inr ⟨by omega, by omega⟩)
end
/-- right of the band -/
theorem band_right {sw : Bool} {a b : Nat → Nat} {l1 l2 i q : Nat} {mx : Int} (h : mx + i ≤ q) : Ap mx (rem l1 l2 i (q + 1)) (mx + 1) (T sw a b i (q + 1) : Nat) := by
  have h1 := T_loJ sw a b i (q + 1)
  have h2 : 0 ≤ rem l1 l2 i (q + 1) := by unfold rem; omega
  exact .inr ⟨by omega, by omega⟩
/-- the first row -/
theorem band_first {sw : Bool} {a b : Nat → Nat} {l1 l2 q : Nat} {mx : Int} : Ap mx (rem l1 l2 0 (q + 1)) (if (q : Int) < mx then (q : Int) + 1 else mx + 1) (T sw a b 0 (q + 1) : Nat) := by
  have h2 : 0 ≤ rem l1 l2 0 (q + 1) := by unfold rem; omega
  rw [T_zero]
  split
  · exact .inl (by omega)
  · exact .inr ⟨by omega, by omega⟩
end Mine
end
section
open PySem PySem.W PyProof.Rows PyProof.V PySem.Calls PySem.Spec
namespace Mine
def Hold (P : Prop) : Prop := P
theorem hold {P : Prop} (h : Hold P) : P := h
theorem fr_to {h₀ h : Heap} {L : Addr} {m m' : Str → Option Value} (F : Fr h₀ L h m) (e : m = m') : Fr h₀ L h m' := e ▸ F

section
variable {prog : Program} {w : World} {A : Around} {E : Value → Shared → Prop} {s : Shared} {env : Env} {h₀ : Heap} {x : Str} {body : List Stmt} {Q : Flow → Shared → Prop}
/-- a loop over a range by an invariant; the ledger may grow -/
theorem kst_rangeG {σ : Type} {r : Addr} {a₀ b₀ : Int} {t₀ u₀ v₀ : Tok} {n : Nat} {m₀ : Str → Option Value} (Led : σ → List (Addr × Obj)) (ps : σ → List (Str × Value)) (Facts : σ → Prop) (stored : List Str) (P : List Int → σ → Prop) (c₀ : σ)
    (hh : A.handled = none) (hr : IsRange s.heap r a₀ b₀ 1 t₀ u₀ v₀) (hsmall : Builtin.Range.small a₀ b₀ 1 = true) (hn : Builtin.Range.rangeSize a₀ b₀ 1 = (n : Int)) (F : Fr h₀ env.locals s.heap m₀) (N : News h₀ env.locals s.heap (Led c₀)) (hf : Facts c₀) (hk : ∀ p ∈ ps c₀, m₀ p.1 = some p.2) (hp : P [] c₀)
    (turn : ∀ (c : σ) (pre : List Int) (k : Int) t (u : Str → Option Value) h tk own, k = a₀ + (pre.length : Int) → pre.length < n → OwnOff own ((Led c).map (·.1)) → Facts c → P pre c →
      Fr h₀ env.locals h (fun y => if y = x then some (.int k t) else kstB (fun z => if stored.contains z then u z else m₀ z) (ps c) y) → News h₀ env.locals h (Led c ++ own) →
      wpAny (model prog w) A (execs body env) (InvPostG h₀ env.locals (KstS Led ps Facts x stored m₀ P (pre ++ [k])) own { s with heap := h, toks := tk } Q) E { s with heap := h, toks := tk })
    (done : ∀ (c : σ) (u : Str → Option Value) h tk, Facts c → P (rangeKs a₀ n) c → Fr h₀ env.locals h (fun y => if y = x then u y else kstB (fun z => if stored.contains z then u z else m₀ z) (ps c) y) → News h₀ env.locals h (Led c) → Q .next { s with heap := h, toks := tk }) :
    wpAny (model prog w) A (pyIter (.ref r)) (fun it s₂ => LoopAtV prog w A h₀ env x body Q E it s₂) E s := by
  refine wpAny_pyIter_range hr hsmall ?_
  have W : Walks prog w A s.heap.objs.size [s.heap.objs.size] [s.heap.objs.size] n (fun i v => i < n ∧ ∃ t, v = .int (a₀ + i * 1) t)
      (fun i h => IsRangeIter h s.heap.objs.size (a₀ + (i : Nat) * 1) ((n : Int) - (i : Nat)) 1) := (Walks.range hh _ a₀ 1 n).bound
  refine ⟨_, _, _, n, _, _, m₀, Led c₀, fun i m nx => KstS Led ps Facts x stored m₀ P ((rangeKs a₀ n).take i) m nx, rfl, W, ?_, ?_, ?_, (by show IsRangeIter _ _ _ _ _; rw [hn]; simpa using Heap.get?_push_size _ rfl), F.push _, (fun p hp => ⟨Heap.get?_push_of_some _ (N p hp).1, (N p hp).2⟩), ⟨c₀, rfl, hf, hk, fun _ _ _ _ => rfl, by simpa using hp⟩, ?_, ?_⟩
  · intro hm
    exact absurd F.ns.lt ((List.mem_singleton.mp hm) ▸ Nat.lt_irrefl _)
  · intro b hb
    rw [List.mem_singleton.mp hb]
    exact next_is_new F
  · intro p hp hI
    exact absurd (Heap.lt_size (N p hp).1) ((List.mem_singleton.mp hI) ▸ Nat.lt_irrefl _)
  · rintro i v m₁ nx s₁ own ⟨hh', tk', rfl⟩ hin hP ⟨c, rfl, hf', h1, h2, hp'⟩ hoff hown _ hfp hst F₁ N₁
    obtain ⟨hi, t, rfl⟩ := hP
    have hI0 : h₀.get? s.heap.objs.size = none := next_is_new F
    have hIown : ∃ o, (s.heap.objs.size, o) ∈ own := ⟨_, hfp _ (List.mem_cons.mpr (.inl rfl)) hI0 _ hst⟩
    obtain ⟨oI, hIown⟩ := hIown
    have hsep : OwnOff own ((Led c).map (·.1)) := by
      intro p hp b hb e
      obtain ⟨q, hq, rfl⟩ := List.mem_map.mp hb
      exact hoff q hq (e ▸ hown p hp)
    have N₂ : News h₀ env.locals hh' (Led c ++ own) := fun p hp => N₁ p ((List.mem_append.mp hp).elim (fun h => List.mem_append.mpr (.inr h)) fun h => List.mem_append.mpr (.inl h))
    have e1 : a₀ + (i : Int) * 1 = a₀ + (i : Int) := by omega
    rw [e1] at F₁
    have hk' : (rangeKs a₀ n)[i]? = some (a₀ + (i : Int)) := by simp [rangeKs, hi]
    have hs : (rangeKs a₀ n).take (i + 1) = (rangeKs a₀ n).take i ++ [a₀ + (i : Int)] := by simp [List.take_add_one, hk']
    have hlen : ((rangeKs a₀ n).take i).length = i := by rw [List.length_take, rangeKs_length]; omega
    refine wpAny_mono (turn c _ _ t m₁ hh' tk' own (by rw [hlen]) (by rw [hlen]; exact hi) hsep hf' hp' (kst_fr h1 h2 F₁) N₂) (fun f s₂ p => ?_) fun _ _ e => e
    have fin : InvEndG h₀ env.locals (KstS Led ps Facts x stored m₀ P ((rangeKs a₀ n).take i ++ [a₀ + (i : Int)])) own { s with heap := hh', toks := tk' } s₂ →
        LoopStepU h₀ env.locals [s.heap.objs.size] own (fun m nx => KstS Led ps Facts x stored m₀ P ((rangeKs a₀ n).take (i + 1)) m nx) { s with heap := hh', toks := tk' } .next s₂ := by
      rintro ⟨h', tk, m', news', nx, e, F', N', hn, ho, ha, hm⟩
      rw [hs]
      refine ⟨rfl, h', tk, m', nx, e, F', fun p hp => N' p ((List.mem_append.mp hp).elim (ho p) (hn p)), fun p hp hq => ?_, hm⟩
      exact ha _ hIown p.1 (List.mem_map.mpr ⟨p, hp, rfl⟩) (List.mem_singleton.mp hq).symm
    cases f with
    | ret v => exact .ret p
    | brk => exact .brk p
    | next => exact .next (fin p)
    | cont => exact .cont (fin p)
  · rintro h' tk m' news' F' N' _ ⟨c, rfl, hf', h1, h2, hp'⟩
    have hl : (rangeKs a₀ n).take n = rangeKs a₀ n := List.take_of_length_le (Nat.le_of_eq (rangeKs_length _ _))
    rw [hl] at hp'
    exact done c m' h' tk hf' hp' (kst_frOut h1 h2 F') N'

theorem kstG_end {σ : Type} {Led : σ → List (Addr × Obj)} {ps : σ → List (Str × Value)} {Facts : σ → Prop} {stored : List Str} {m₀ : Str → Option Value} {P : List Int → σ → Prop} {pre : List Int} (c : σ) {L : Addr} {m' : Str → Option Value} {own news' : List (Addr × Obj)} {s₁ : Shared} {h' : Heap} {tk : Nat}
    (F : Fr h₀ L h' m') (N : News h₀ L h' news') (hn : ∀ p ∈ Led c, p ∈ news') (ho : ∀ p ∈ own, p ∈ news') (ha : OwnOff own ((Led c).map (·.1))) (hf : Facts c) (hk : ∀ p ∈ ps c, m' p.1 = some p.2) (hr : ∀ z, z ≠ x → (∀ p ∈ ps c, z ≠ p.1) → stored.contains z = false → m' z = m₀ z) (hp : P pre c) :
    InvEndG h₀ L (KstS Led ps Facts x stored m₀ P pre) own s₁ { s₁ with heap := h', toks := tk } :=
  InvEndG.intro F N ⟨c, rfl, hf, hk, hr, hp⟩ ha hn ho
end

section
variable {prog : Program} {w : World} {A : Around} {E : Value → Shared → Prop} {s : Shared} {h₀ : Heap} {L : Addr} {news : List (Addr × Obj)} {Q : Value → Shared → Prop} {value slice : PySem.Expr} {k : Int} {u : Tok}
/-- an item of a list on the ledger -/
theorem sub_any {R : Addr} {rv : List Value} {rn : Nat} {v : Value} (N : News h₀ L s.heap news) (hm : (R, listOf rv.toArray rn) ∈ news) (h0 : 0 ≤ k) (h1 : k < 2 ^ 63) (hx : rv[k.toNat]? = some v) (h : Q v s)
    (hs : subscripted slice false (.ref R) (.int k u) = operate [.ref R, .int k u] (getItem (.ref R) (.int k u)) := by with_unfolding_all rfl) :
    wpAny (model prog w) A (subscriptTail value slice (.ref R) (.int k u)) Q E s :=
  have hl : s.heap.IsList R rv.toArray := News.isList N hm
  tail_any hl.typeIs slot_list_getitem.lookup (wpAny_getItem_list hl h0 h1 (by simpa using hx) h) hs
/-- an object that is a list of ints -/
def RowIs (o : Obj) (ns : List Int) : Prop := ∃ vs n, o = listOf vs.toArray n ∧ IntsAre vs ns
theorem sub_row {R : Addr} {o : Obj} {ns : List Int} {v : Int} (N : News h₀ L s.heap news) (hm : (R, o) ∈ news) (ho : RowIs o ns) (h0 : 0 ≤ k) (h1 : k < 2 ^ 63) (hx : ns[k.toNat]? = some v) (h : ∀ t, Q (.int v t) s)
    (hs : subscripted slice false (.ref R) (.int k u) = operate [.ref R, .int k u] (getItem (.ref R) (.int k u)) := by with_unfolding_all rfl) :
    wpAny (model prog w) A (subscriptTail value slice (.ref R) (.int k u)) Q E s := by
  obtain ⟨vs, n, rfl, hi⟩ := ho
  obtain ⟨t, ht⟩ := hi.get _ _ hx
  exact sub_any N hm h0 h1 ht (h t) hs
end

section
variable {prog : Program} {w : World} {A : Around} {E : Value → Shared → Prop} {s : Shared} {h₀ : Heap} {L : Addr} {m : Str → Option Value} {news : List (Addr × Obj)}
theorem min3_N {a b c : Int} {t u x : Tok} {Q : Value → Shared → Prop} (hh : A.handled = none) (F : Fr h₀ L s.heap m) (N : News h₀ L s.heap news)
    (h : ∀ t' h' tk, Fr h₀ L h' m → News h₀ L h' news → Q (.int (min (min a b) c) t') { s with heap := h', toks := tk }) :
    wpAny (model prog w) A (call (.builtin "min") [.int a t, .int b u, .int c x]) Q E s := by
  refine PySem.min_three_ints hh fun h' tk hk => ?_
  have key := fun t' => h t' h' tk (F.grownK hk) (N.grown hk)
  by_cases h1 : b < a <;> by_cases h2 : c < b <;> by_cases h3 : c < a <;> simp only [h1, h2, h3, if_true, if_false]
  all_goals first
    | (have e : min (min a b) c = c := by omega
       rw [e] at key; exact key _)
    | (have e : min (min a b) c = b := by omega
       rw [e] at key; exact key _)
    | (have e : min (min a b) c = a := by omega
       rw [e] at key; exact key _)
theorem min2_N {a b : Int} {t u : Tok} {Q : Value → Shared → Prop} (hh : A.handled = none) (F : Fr h₀ L s.heap m) (N : News h₀ L s.heap news)
    (h : ∀ t' h' tk, Fr h₀ L h' m → News h₀ L h' news → Q (.int (min a b) t') { s with heap := h', toks := tk }) :
    wpAny (model prog w) A (call (.builtin "min") [.int a t, .int b u]) Q E s :=
  min_two_N hh F N fun h' tk F' N' => by
    have key := fun t' => h t' h' tk F' N'
    by_cases c : b < a
    · have e : min a b = b := by omega
      rw [if_pos c, if_pos c]; rw [e] at key; exact key _
    · have e : min a b = a := by omega
      rw [if_neg c, if_neg c]; rw [e] at key; exact key _
end
end Mine
end
section
open PySem PySem.W PyProof.Rows PySem.Builtin.Str
namespace Mine
def ca (x : Str) (k : Nat) : Nat := x.cps.getD k 0
theorem item_ca {x : Str} {q : Int} (h : 0 ≤ q) : Txt.item x q = ⟨#[ca x q.toNat]⟩ := by
  have e : (Txt.charAt x q).getD 0 = x.cps.getD q.toNat 0 := by
    unfold Txt.charAt seqIndex?
    have hl : x.length = x.cps.size := rfl
    rw [Array.getD_eq_getD_getElem?]
    by_cases hq : q < x.length
    · simp [Int.not_lt.mpr h, h, hq]
    · rw [Array.getElem?_eq_none (by omega)]
      simp [Int.not_lt.mpr h, h, hq]
  show (⟨#[(Txt.charAt x q).getD 0]⟩ : PySem.Str) = _
  rw [e]; rfl
theorem item_beq {x y : Str} {q r : Int} {c : Bool} (h : (Txt.item x q == Txt.item y r) = c) (h0 : 0 ≤ q) (h1 : 0 ≤ r) : decide (ca x q.toNat = ca y r.toNat) = c := by
  rw [← h, item_ca h0, item_ca h1]
  by_cases e : ca x q.toNat = ca y r.toNat
  · simp [e]
  · have : ((⟨#[ca x q.toNat]⟩ : PySem.Str) == ⟨#[ca y r.toNat]⟩) = false := by
      apply beq_false_of_ne
      intro h'
      injection h' with h'
      exact e (by simpa using h')
    rw [this]; simp [e]
theorem row_next {ns : List Int} {pre : List Int} {j v : Int} {f : Nat → Int} (hns : ns = (List.range (pre.length + 1)).map f) (hv : v = f (pre.length + 1)) :
    ns ++ [v] = (List.range ((pre ++ [j]).length + 1)).map f := by
  rw [hns, List.length_append, List.length_singleton, List.range_succ (n := pre.length + 1), List.map_append, hv]; rfl
theorem row_getD {ns : List Int} {n : Nat} {f : Nat → Int} {q : Int} (hns : ns = (List.range (n + 1)).map f) (h0 : 0 ≤ q) (h1 : q ≤ n) : ns.getD q.toNat 0 = f q.toNat := by
  rw [hns, List.getD_eq_getElem?_getD, List.getElem?_map, List.getElem?_range (by omega)]; rfl
section
variable {b : Bool} {x y : Str} {ns : List Int} {k j : Int} {i' j' : Nat} {c : Bool}
theorem tab_base (hk : k = 1 + (i' : Int)) (hj : j = 1 + (j' : Int)) (hns : ns = (List.range (j' + 1)).map fun q => ((T b (ca x) (ca y) k.toNat q : Nat) : Int)) (hc : (Txt.item x (k - 1) == Txt.item y (j - 1)) = c)
    (hn : ¬ (b = true ∧ 1 < k ∧ 1 < j ∧ ca x (k - 1).toNat = ca y (j - 2).toNat ∧ ca x (k - 2).toNat = ca y (j - 1).toNat)) :
    min (min (((T b (ca x) (ca y) (k - 1).toNat j.toNat : Nat) : Int) + 1) (ns.getD (j - 1).toNat 0 + 1)) (((T b (ca x) (ca y) (k - 1).toNat (j - 1).toNat : Nat) : Int) + if c then 0 else 1) = ((T b (ca x) (ca y) k.toNat (j' + 1) : Nat) : Int) := by
  have hc' := item_beq hc (by omega) (by omega)
  rw [row_getD hns (by omega) (by omega)]
  subst hk hj
  have e1 : (1 + (i' : Int) - 1).toNat = i' := by omega
  have e2 : (1 + (j' : Int)).toNat = j' + 1 := by omega
  have e3 : (1 + (j' : Int) - 1).toNat = j' := by omega
  have e4 : (1 + (i' : Int)).toNat = i' + 1 := by omega
  have e5 : (1 + (j' : Int) - 2).toNat = j' - 1 := by omega
  have e6 : (1 + (i' : Int) - 2).toNat = i' - 1 := by omega
  simp only [e1, e2, e3, e4, e5, e6] at hc' hn ⊢
  rw [T_base b (ca x) (ca y) i' j' (fun ⟨h1, h2, h3, h4, h5⟩ => hn ⟨h1, by omega, by omega, h4, h5⟩)]
  subst hc'
  by_cases h : ca x i' = ca y j'
  · simp only [h, decide_true, if_true]; omega
  · simp only [h, decide_false, if_false, Bool.false_eq_true]; omega
theorem tab_swap (hk : k = 1 + (i' : Int)) (hj : j = 1 + (j' : Int)) (hns : ns = (List.range (j' + 1)).map fun q => ((T b (ca x) (ca y) k.toNat q : Nat) : Int)) (hc : (Txt.item x (k - 1) == Txt.item y (j - 1)) = c)
    (hb : b = true) (hk1 : 1 < k) (hj1 : 1 < j) (c1 : (Txt.item x (k - 1) == Txt.item y (j - 2)) = true) (c2 : (Txt.item x (k - 2) == Txt.item y (j - 1)) = true) :
    min (min (min (((T b (ca x) (ca y) (k - 1).toNat j.toNat : Nat) : Int) + 1) (ns.getD (j - 1).toNat 0 + 1)) (((T b (ca x) (ca y) (k - 1).toNat (j - 1).toNat : Nat) : Int) + if c then 0 else 1)) (((T b (ca x) (ca y) (k - 2).toNat (j - 2).toNat : Nat) : Int) + 1) = ((T b (ca x) (ca y) k.toNat (j' + 1) : Nat) : Int) := by
  have hc' := item_beq hc (by omega) (by omega)
  have c1' := of_decide_eq_true (item_beq c1 (by omega) (by omega))
  have c2' := of_decide_eq_true (item_beq c2 (by omega) (by omega))
  rw [row_getD hns (by omega) (by omega)]
  obtain ⟨p, rfl⟩ : ∃ p, i' = p + 1 := ⟨i' - 1, by omega⟩
  obtain ⟨q, rfl⟩ : ∃ q, j' = q + 1 := ⟨j' - 1, by omega⟩
  subst hk hj
  have e1 : (1 + ((p + 1 : Nat) : Int) - 1).toNat = p + 1 := by omega
  have e2 : (1 + ((q + 1 : Nat) : Int)).toNat = q + 1 + 1 := by omega
  have e3 : (1 + ((q + 1 : Nat) : Int) - 1).toNat = q + 1 := by omega
  have e4 : (1 + ((p + 1 : Nat) : Int)).toNat = p + 1 + 1 := by omega
  have e5 : (1 + ((q + 1 : Nat) : Int) - 2).toNat = q := by omega
  have e6 : (1 + ((p + 1 : Nat) : Int) - 2).toNat = p := by omega
  simp only [e1, e2, e3, e4, e5, e6] at hc' c1' c2' ⊢
  rw [T_swap b (ca x) (ca y) p q hb c1' c2']
  subst hc'
  by_cases h : ca x (p + 1) = ca y (q + 1)
  · simp only [h, decide_true, if_true]; omega
  · simp only [h, decide_false, if_false, Bool.false_eq_true]; omega
end
section
variable {M : Model} {A : Around} {E : Value → Shared → Prop} {s : Shared} {env : Env} {Q : Value → Shared → Prop}
theorem ite_constsP {c : Prop} [Decidable c] {a b : Int} {k k' : Nat} {p p' : Pos} (h : Q (.int (if c then a else b) s.toks) { s with toks := s.toks + 1 }) :
    if c then wpAny M A (eval (.Constant (.int a) k p) env) Q E s else wpAny M A (eval (.Constant (.int b) k' p') env) Q E s := by
  by_cases hc : c
  · rw [if_pos hc]; rw [if_pos hc] at h; exact wpAny_Constant_int h
  · rw [if_neg hc]; rw [if_neg hc] at h; exact wpAny_Constant_int h
theorem ite_consts {c : Bool} {a b : Int} {k k' : Nat} {p p' : Pos} (h : Q (.int (if c then a else b) s.toks) { s with toks := s.toks + 1 }) :
    if c = true then wpAny M A (eval (.Constant (.int a) k p) env) Q E s else wpAny M A (eval (.Constant (.int b) k' p') env) Q E s := by
  cases c
  · rw [if_neg Bool.false_ne_true]; exact wpAny_Constant_int h
  · rw [if_pos rfl]; exact wpAny_Constant_int h
end
end Mine
end
section
open PySem PySem.W PyProof.Rows PySem.Builtin.Str
namespace Mine
/-- a text from a place on -/
def sh (x : PySem.Str) (st : Nat) (k : Nat) : Nat := ca x (st + k)
/-- a row half told anew -/
def mix (f g : Nat → Int) (n j : Nat) : List Int := (List.range n).map fun q => if q < j then f q else g q
theorem mix_len (f g : Nat → Int) (n j : Nat) : (mix f g n j).length = n := by unfold mix; rw [List.length_map, List.length_range]
theorem mix_get {f g : Nat → Int} {n j q : Nat} (h : q < n) : (mix f g n j)[q]? = some (if q < j then f q else g q) := by
  unfold mix; rw [List.getElem?_map, List.getElem?_range h]; rfl
theorem mix_set {f g : Nat → Int} {n j : Nat} {v : Int} (hv : v = f j) : (mix f g n j).set j v = mix f g n (j + 1) := by
  apply List.ext_getElem?
  intro q
  by_cases hq : q < n
  · rw [List.getElem?_set, mix_get hq, mix_get hq, mix_len]
    by_cases e : j = q
    · subst e; simp [hq, hv]
    · simp only [if_neg e]
      by_cases h1 : q < j
      · simp [h1, Nat.lt_succ_of_lt h1]
      · simp [h1, show ¬ q < j + 1 by omega]
  · rw [List.getElem?_eq_none (by rw [List.length_set, mix_len]; omega), List.getElem?_eq_none (by rw [mix_len]; omega)]
theorem mix_0 (f g : Nat → Int) (n : Nat) : mix f g n 0 = (List.range n).map g := by unfold mix; simp
theorem mix_n (f g : Nat → Int) (n : Nat) : mix f g n n = (List.range n).map f := by
  unfold mix
  refine List.map_congr_left fun q hq => ?_
  rw [if_pos (List.mem_range.mp hq)]

def rowL (b : Bool) (x y : PySem.Str) (st l2 i : Nat) : List Int := (List.range l2).map fun q => ((T b (sh x st) (sh y st) i (q + 1) : Nat) : Int)
theorem first_row (l2 : Nat) : List.map (fun k' => k' + 1) (rangeKs 0 ((l2 : Int) - 0).toNat) = (List.range l2).map fun q => ((q + 1 : Nat) : Int) := by
  unfold rangeKs
  have e : ((l2 : Int) - 0).toNat = l2 := by omega
  rw [e, List.map_map]
  refine List.map_congr_left fun q _ => ?_
  show (0 : Int) + (q : Int) + 1 = _
  omega
theorem row_first {b : Bool} {x y : PySem.Str} {st l2 : Nat} : ((List.range l2).map fun q => ((q + 1 : Nat) : Int)) = rowL b x y st l2 0 := rfl
/-- the state of the inner loop of Levenshtein's plain table: row i+1 up to column j -/
structure InnerL (x y : PySem.Str) (st l2 i j : Nat) (cur left above : Int) (ns : List Int) : Prop where
  row : ns = mix (fun q => ((T false (sh x st) (sh y st) (i + 1) (q + 1) : Nat) : Int)) (fun q => ((T false (sh x st) (sh y st) i (q + 1) : Nat) : Int)) l2 j
  left : left = ((T false (sh x st) (sh y st) i j : Nat) : Int)
  above : above = if j = 0 then (i : Int) else ((T false (sh x st) (sh y st) (i + 1) j : Nat) : Int)
  cur : 0 < j → cur = ((T false (sh x st) (sh y st) (i + 1) j : Nat) : Int)
theorem innerL_0 {x y : PySem.Str} {st l2 n : Nat} {cur i : Int} {ns : List Int} (h : ns = rowL false x y st l2 n) (hi : i = n) : InnerL x y st l2 n 0 cur i i ns :=
  ⟨by rw [mix_0]; exact h, by rw [T_col]; exact hi, hi, fun h => absurd h (Nat.lt_irrefl _)⟩
theorem off1_all {D : Addr} : ∀ {l : List (Addr × Obj)}, LCg.Off1 D l → ∀ p ∈ l, p.1 ≠ D
  | [], _, _, hp => nomatch hp
  | q :: r, h, p, hp => by
    rcases List.mem_cons.mp hp with rfl | hp
    · exact h.1
    · exact off1_all h.2 p hp
theorem in_two {α : Type} {p q : α} {r s t : List α} (h : t = r ++ s) : ∀ z ∈ p :: q :: r, z ∈ p :: q :: t := fun z hz => by
  subst h
  rcases List.mem_cons.mp hz with rfl | hz
  · exact .head _
  · rcases List.mem_cons.mp hz with rfl | hz
    · exact .tail _ (.head _)
    · exact .tail _ (.tail _ (List.mem_append_left _ hz))
theorem in_two' {α : Type} {p q : α} {r s t : List α} (h : t = r ++ s) : ∀ z ∈ s, z ∈ p :: q :: t := fun z hz => by
  subst h
  exact .tail _ (.tail _ (List.mem_append_right _ hz))
theorem in_one {α : Type} {p : α} {r s t : List α} (h : t = r ++ s) : ∀ z ∈ p :: r, z ∈ p :: t := fun z hz => by
  subst h
  rcases List.mem_cons.mp hz with rfl | hz
  · exact .head _
  · exact .tail _ (List.mem_append_left _ hz)
theorem in_one' {α : Type} {p : α} {r s t : List α} (h : t = r ++ s) : ∀ z ∈ s, z ∈ p :: t := fun z hz => by
  subst h
  exact .tail _ (List.mem_append_right _ hz)
theorem item_bne {x y : PySem.Str} {q r : Int} {c : Bool} (h : (Txt.item x q != Txt.item y r) = c) (h0 : 0 ≤ q) (h1 : 0 ≤ r) : decide (ca x q.toNat ≠ ca y r.toNat) = c := by
  rw [← h, bne, ← item_beq rfl h0 h1]
  by_cases e : ca x q.toNat = ca y r.toNat <;> simp [e]
theorem innerL_step {x y : PySem.Str} {st l2 i j : Nat} {cur left above jj ii v k : Int} {ns pre : List Int} (h : InnerL x y st l2 i j cur left above ns) (hj : j < l2) (ej : jj = j) (ei : ii = i)
    (hv : ((Txt.item y (st + jj) != Txt.item x (st + ii)) = true ∧ v = min (min left above) (ns.getD jj.toNat 0) + 1) ∨ ((Txt.item y (st + jj) != Txt.item x (st + ii)) = false ∧ v = left)) (hpre : pre.length = j) :
    InnerL x y st l2 i (pre ++ [k]).length v (ns.getD jj.toNat 0) v (ns.set jj.toNat v) := by
  obtain ⟨h1, h2, h3, h4⟩ := h
  subst ej ei
  simp only [Int.toNat_natCast] at hv ⊢
  have eL : (pre ++ [k]).length = j + 1 := by rw [List.length_append, hpre]; rfl
  rw [eL]
  have up : ns.getD j 0 = ((T false (sh x st) (sh y st) i (j + 1) : Nat) : Int) := by
    rw [h1, List.getD_eq_getElem?_getD, mix_get hj, if_neg (Nat.lt_irrefl _)]; rfl
  have hval : v = ((T false (sh x st) (sh y st) (i + 1) (j + 1) : Nat) : Int) := by
    rcases hv with ⟨hc, hv⟩ | ⟨hc, hv⟩
    · have e := of_decide_eq_true (item_bne hc (by omega) (by omega))
      rw [show ((st : Int) + (j : Int)).toNat = st + j by omega, show ((st : Int) + (i : Int)).toNat = st + i by omega] at e
      have ht := T_ne false (sh x st) (sh y st) i j (fun e' => e e'.symm) (fun h => by cases h.1)
      rw [hv, up, ht, h2, h3]
      by_cases hj0 : j = 0
      · subst hj0
        simp only [if_true, T_col]
        omega
      · simp only [if_neg hj0]
        omega
    · have e := of_decide_eq_false (item_bne hc (by omega) (by omega))
      rw [show ((st : Int) + (j : Int)).toNat = st + j by omega, show ((st : Int) + (i : Int)).toNat = st + i by omega] at e
      have e' : sh x st i = sh y st j := by
        by_cases q : ca y (st + j) = ca x (st + i)
        · exact q.symm
        · exact absurd q e
      rw [hv, h2, T_eq false (sh x st) (sh y st) i j e']
  refine ⟨?_, up, ?_, fun _ => hval⟩
  · rw [h1]; exact mix_set hval
  · rw [if_neg (Nat.succ_ne_zero j)]; exact hval
theorem innerL_end {x y : PySem.Str} {st l2 i n : Nat} {cur left above k : Int} {ns pre : List Int} (h : InnerL x y st l2 i n cur left above ns) (hn : n = l2) (p2 : 1 ≤ l2) (hp : pre.length = i) :
    ns = rowL false x y st l2 (pre ++ [k]).length ∧ (0 < (pre ++ [k]).length → cur = ((T false (sh x st) (sh y st) (pre ++ [k]).length l2 : Nat) : Int)) := by
  have eL : (pre ++ [k]).length = i + 1 := by rw [List.length_append, hp]; rfl
  rw [eL]
  subst hn
  exact ⟨by rw [h.row, mix_n]; rfl, fun _ => h.cur p2⟩
end Mine
end
section
open PySem PySem.W PyProof.Rows PySem.Builtin.Str
namespace Mine
/-- the state ahead of row i of the banded table -/
structure OuterM (sw : Bool) (x y : PySem.Str) (st l1 l2 M off i : Nat) (cur js je : Int) (ns : List Int) : Prop where
  len : ns.length = l2
  js : js = ((i - 1 - off : Nat) : Int)
  je : je = ((min (M + i) l2 : Nat) : Int)
  cells : ∀ q, i - 1 - off ≤ q → q < l2 → Ap M (rem l1 l2 i (q + 1)) (ns.getD q 0) (T sw (sh x st) (sh y st) i (q + 1) : Nat)
  right : ∀ q, M + i ≤ q → q < l2 → ns.getD q 0 = (M : Int) + 1
  cur : 0 < i → cur = ns.getD (min (M + i) l2 - 1) 0
/-- the state within row i, ahead of column j -/
structure InnerM (sw : Bool) (x y : PySem.Str) (st l1 l2 M off i j : Nat) (cur prev above : Int) (ns : List Int) : Prop where
  len : ns.length = l2
  hprev : Ap M (rem l1 l2 i j) prev (T sw (sh x st) (sh y st) i j : Nat)
  habove : (j = 0 ∧ above = i ∧ prev = i) ∨ Ap M (rem l1 l2 (i + 1) j) above (T sw (sh x st) (sh y st) (i + 1) j : Nat)
  done : ∀ q, i - off ≤ q → q < j → Ap M (rem l1 l2 (i + 1) (q + 1)) (ns.getD q 0) (T sw (sh x st) (sh y st) (i + 1) (q + 1) : Nat)
  todo : ∀ q, i - off ≤ q → j ≤ q → q < l2 → Ap M (rem l1 l2 i (q + 1)) (ns.getD q 0) (T sw (sh x st) (sh y st) i (q + 1) : Nat)
  right : ∀ q, M + i + 1 ≤ q → q < l2 → ns.getD q 0 = (M : Int) + 1
  hcur : i - off < j → cur = ns.getD (j - 1) 0
theorem getD_set {ns : List Int} {j q : Nat} {v : Int} (hj : j < ns.length) : (ns.set j v).getD q 0 = if q = j then v else ns.getD q 0 := by
  rw [List.getD_eq_getElem?_getD, List.getD_eq_getElem?_getD, List.getElem?_set]
  by_cases h : j = q
  · subst h; simp [hj]
  · simp [h, Ne.symm h]
theorem firstM {M l2 : Nat} : List.map (fun k' => if k' < (M : Int) then k' + 1 else (M : Int) + 1) (rangeKs 0 ((l2 : Int) - 0).toNat) = (List.range l2).map fun q => if ((q : Nat) : Int) < M then (q : Int) + 1 else (M : Int) + 1 := by
  unfold rangeKs
  have e : ((l2 : Int) - 0).toNat = l2 := by omega
  rw [e, List.map_map]
  refine List.map_congr_left fun q _ => ?_
  show (if (0 : Int) + (q : Int) < M then 0 + (q : Int) + 1 else (M : Int) + 1) = _
  rw [Int.zero_add]
section
variable {sw : Bool} {x y : PySem.Str} {st l1 l2 M off i j : Nat} {cur js je prev above : Int} {ns : List Int}
theorem outerM_0 (hM : M < l2) : OuterM sw x y st l1 l2 M off 0 0 0 M ((List.range l2).map fun q => if ((q : Nat) : Int) < M then (q : Int) + 1 else (M : Int) + 1) := by
  have g (q : Nat) (hq : q < l2) : ((List.range l2).map fun q => if ((q : Nat) : Int) < M then (q : Int) + 1 else (M : Int) + 1).getD q 0 = if ((q : Nat) : Int) < M then (q : Int) + 1 else (M : Int) + 1 := by
    rw [List.getD_eq_getElem?_getD, List.getElem?_map, List.getElem?_range hq]; rfl
  refine ⟨by rw [List.length_map, List.length_range], by simp, by omega, fun q _ hq => ?_, fun q h hq => ?_, fun h => absurd h (Nat.lt_irrefl _)⟩
  · rw [g q hq]; exact band_first
  · rw [g q hq, if_neg (by omega)]
theorem innerM_0 (h : OuterM sw x y st l1 l2 M off i cur js je ns) (hne : ca x st ≠ ca y st) {diff : Nat} (hd : l2 = l1 + diff) (hM : M = off + diff) :
    InnerM sw x y st l1 l2 M off i (i - off) cur i i ns := by
  have h0 : sh x st 0 ≠ sh y st 0 := hne
  refine ⟨h.len, band_left h0 (diff := diff) hd (by omega) rfl, band_left' h0 (diff := diff) hd (by omega) rfl, fun q h1 h2 => by omega, fun q h1 h2 h3 => h.cells q (by omega) h3, fun q h1 h2 => h.right q (by omega) h2, fun h => by omega⟩
theorem innerM_step (h : InnerM sw x y st l1 l2 M off i j cur prev above ns) (hjs : i - off ≤ j) (hj : j < l2) (hje : j < M + i + 1) {v : Int}
    (hv : Ap M (rem l1 l2 (i + 1) (j + 1)) v (T sw (sh x st) (sh y st) (i + 1) (j + 1) : Nat)) :
    InnerM sw x y st l1 l2 M off i (j + 1) v (ns.getD j 0) v (ns.set j v) := by
  have hl : j < ns.length := by rw [h.len]; exact hj
  refine ⟨by rw [List.length_set, h.len], h.todo j hjs (Nat.le_refl _) hj, .inr hv, fun q h1 h2 => ?_, fun q h0 h1 h2 => ?_, fun q h1 h2 => ?_, fun _ => ?_⟩
  · rw [getD_set hl]
    by_cases e : q = j
    · subst e; rw [if_pos rfl]; exact hv
    · rw [if_neg e]; exact h.done q h1 (by omega)
  · rw [getD_set hl, if_neg (by omega)]; exact h.todo q h0 (by omega) h2
  · rw [getD_set hl, if_neg (by omega)]; exact h.right q h1 h2
  · rw [Nat.add_sub_cancel, getD_set hl, if_pos rfl]
theorem innerM_end (h : InnerM sw x y st l1 l2 M off i j cur prev above ns) (hj : j = min (M + i + 1) l2) (hlt : i - off < j) {js je : Int} (ejs : js = ((i - off : Nat) : Int)) (eje : je = (j : Int)) :
    OuterM sw x y st l1 l2 M off (i + 1) cur js je ns := by
  refine ⟨h.len, by rw [ejs]; omega, by omega, fun q h1 h2 => ?_, fun q h1 h2 => h.right q (by omega) h2, fun _ => ?_⟩
  · by_cases hq : q < j
    · exact h.done q (by omega) hq
    · rw [h.right q (by omega) h2]; exact band_right (by omega)
  · rw [h.hcur hlt, hj]
    congr 1
theorem stepL (h : InnerM false x y st l1 l2 M off i j cur prev above ns) (hjs : i - off ≤ j) (hj : j < l2) {v : Int} {jj ii : Int} (ej : jj = j) (ei : ii = i)
    (hv : ((Txt.item y (st + jj) != Txt.item x (st + ii)) = true ∧ v = min (min prev above) (ns.getD jj.toNat 0) + 1) ∨ ((Txt.item y (st + jj) != Txt.item x (st + ii)) = false ∧ v = prev)) :
    Ap M (rem l1 l2 (i + 1) (j + 1)) v (T false (sh x st) (sh y st) (i + 1) (j + 1) : Nat) := by
  subst ej ei
  simp only [Int.toNat_natCast] at hv
  rcases hv with ⟨hc, hv⟩ | ⟨hc, hv⟩
  · have e := of_decide_eq_true (item_bne hc (by omega) (by omega))
    rw [show ((st : Int) + (j : Int)).toNat = st + j by omega, show ((st : Int) + (i : Int)).toNat = st + i by omega] at e
    rw [hv]
    exact band_ne h.hprev h.habove (h.todo j hjs (Nat.le_refl _) hj) (T_ne false (sh x st) (sh y st) i j (fun e' => e e'.symm) (fun h => by cases h.1))
  · have e := of_decide_eq_false (item_bne hc (by omega) (by omega))
    rw [show ((st : Int) + (j : Int)).toNat = st + j by omega, show ((st : Int) + (i : Int)).toNat = st + i by omega] at e
    have e' : sh x st i = sh y st j := by
      by_cases q : ca y (st + j) = ca x (st + i)
      · exact q.symm
      · exact absurd q e
    rw [hv]
    exact band_eq e' h.hprev
theorem innerM_stepL (h : InnerM false x y st l1 l2 M off i j cur prev above ns) (hjs : i - off ≤ j) (hj : j < l2) (hje : j < M + i + 1) {v jj ii k : Int} {pre : List Int} {J0 : Nat} (ej : jj = j) (ei : ii = i)
    (hv : ((Txt.item y (st + jj) != Txt.item x (st + ii)) = true ∧ v = min (min prev above) (ns.getD jj.toNat 0) + 1) ∨ ((Txt.item y (st + jj) != Txt.item x (st + ii)) = false ∧ v = prev)) (hp : J0 + pre.length = j) :
    InnerM false x y st l1 l2 M off i (J0 + (pre ++ [k]).length) v (ns.getD jj.toNat 0) v (ns.set jj.toNat v) := by
  have hs := innerM_step h hjs hj hje (stepL h hjs hj ej ei hv)
  subst ej
  rw [List.length_append, List.length_singleton, ← Nat.add_assoc, hp, Int.toNat_natCast]
  exact hs
/-- the early end: the last diagonal stands above the bound -/
theorem outerM_early (h : OuterM sw x y st l1 l2 M off (i + 1) cur js je ns) {diff : Nat} (hd : l2 = l1 + diff) (hM : M = off + diff) (hi : i < l1) (hv : (M : Int) < ns.getD (i + diff) 0) : ¬ T sw (sh x st) (sh y st) l1 l2 ≤ M := by
  have h1 := h.cells (i + diff) (by omega) (by omega)
  have e : rem l1 l2 (i + 1) (i + diff + 1) = 0 := by unfold rem; omega
  rw [e] at h1
  have h2 := T_far sw (sh x st) (sh y st) (i + 1) (i + diff + 1) (l1 - (i + 1))
  rw [show i + 1 + (l1 - (i + 1)) = l1 by omega, show i + diff + 1 + (l1 - (i + 1)) = l2 by omega] at h2
  unfold Ap at h1
  omega
theorem outerM_fin (h : OuterM sw x y st l1 l2 M off l1 cur js je ns) {diff : Nat} (hd : l2 = l1 + diff) (hM : M = off + diff) (p1 : 1 ≤ l1) :
    (if cur ≤ M then cur else -1) = (if T sw (sh x st) (sh y st) l1 l2 ≤ M then ((T sw (sh x st) (sh y st) l1 l2 : Nat) : Int) else -1) := by
  have hc := h.cur (by omega)
  have e0 : min (M + l1) l2 - 1 = l2 - 1 := by omega
  rw [e0] at hc
  have h1 := h.cells (l2 - 1) (by omega) (by omega)
  rw [show l2 - 1 + 1 = l2 by omega] at h1
  have e : rem l1 l2 l1 l2 = 0 := by unfold rem; omega
  rw [e, ← hc] at h1
  unfold Ap at h1
  by_cases hT : T sw (sh x st) (sh y st) l1 l2 ≤ M
  · rw [if_pos hT, if_pos (by omega)]; omega
  · rw [if_neg hT, if_neg (by omega)]
end
end Mine
end
section
open PySem PySem.W PyProof.Rows PySem.Calls
namespace Mine
section
variable {prog : Program} {w : World} {A : Around} {E : Value → Shared → Prop} {s : Shared} {h₀ : Heap} {L a : Addr} {m : Str → Option Value} {news : List (Addr × Obj)} {cn : Str} {cs : Scope} {ccd : Value} {cl : List (Str × Addr)}
/-- «if a < b: b = a» on two local ints: one way -/
theorem if_min {x y : Str} {vx vy : Int} {tx ty : Tok} {p1 p2 p3 p4 p5 p6 p7 : Pos} {Q : Flow → Shared → Prop} (F : Fr h₀ L s.heap m) (N : News h₀ L s.heap news) (hx : m x = some (.int vx tx)) (hy : m y = some (.int vy ty))
    (h : ∀ t h' tk', Fr h₀ L h' (fun z => if z = y then some (.int (min vy vx) t) else m z) → News h₀ L h' news → Q .next { s with heap := h', toks := tk' })
    (hk : cs.kind = .function := by rfl) (kx : (envX cn cs L a ccd cl).kindOf x = some .local := by rfl) (ky : (envX cn cs L a ccd cl).kindOf y = some .local := by rfl) (dx : (x == ("__debug__" : Str)) = false := by decide) (dy : (y == ("__debug__" : Str)) = false := by decide)
    (hb : behindInMarks .Lt (.Name y p2) = false := by with_unfolding_all rfl) (hs : swapsWith (.Name x p5) (some (.Name y p4)) p6.line (envX cn cs L a ccd cl) = pure false := by rfl) :
    wpAny (model prog w) A (exec (.If (.Compare (.Name x p1) [.Lt] [.Name y p2] p3) [.Assign [.Name y p4] (.Name x p5) p6] [] p7) (envX cn cs L a ccd cl)) Q E s := by
  refine wpAny_If (wpAny_isTrue_Compare1 ?_ hb)
  refine nameX_L F hx (nameX_L F hy (lt_int (wpAny_truthy_bool ?_)) hk ky dy) hk kx dx
  by_cases hlt : vx < vy
  · rw [decide_eq_true hlt, if_pos rfl]
    refine wpAny_execs_cons (wpAny_Assign_Name (nameX_L F hx ?_ hk kx dx) hs)
    refine storeX_L F N (fun h' F' N' => ?_) hk ky
    refine wpAny_execs_nil ?_
    have e : min vy vx = vx := by omega
    rw [e] at h
    exact h _ _ _ F' N'
  · rw [decide_eq_false hlt, if_neg Bool.false_ne_true]
    refine wpAny_execs_nil ?_
    have e : min vy vx = vy := by omega
    rw [e] at h
    have em : (fun z => if z = y then some (Value.int vy ty) else m z) = m := by
      funext z
      by_cases hz : z = y
      · rw [if_pos hz, hz, hy]
      · rw [if_neg hz]
    have := h ty s.heap s.toks (by rw [em]; exact F) N
    exact this
end
end Mine
end
section
open PySem PySem.W PyProof.Rows PySem.Builtin.Str
namespace Mine
/-- the state of the inner loop of the plain table with swaps: row i+1 up to column j -/
structure InnerO (x y : PySem.Str) (st l2 i j : Nat) (cur left above next : Int) (c2 : PySem.Str) (ns ps : List Int) : Prop where
  row : ns = mix (fun q => ((T true (sh x st) (sh y st) (i + 1) (q + 1) : Nat) : Int)) (fun q => ((T true (sh x st) (sh y st) i (q + 1) : Nat) : Int)) l2 j
  hleft : left = ((T true (sh x st) (sh y st) i j : Nat) : Int)
  habove : above = if j = 0 then (i : Int) else ((T true (sh x st) (sh y st) (i + 1) j : Nat) : Int)
  hcur : 0 < j → cur = ((T true (sh x st) (sh y st) (i + 1) j : Nat) : Int)
  plen : l2 ≤ ps.length
  pold : ∀ q, q < j → ps.getD q 0 = ((T true (sh x st) (sh y st) i q : Nat) : Int)
  pnew : 0 < i → ∀ q, j ≤ q → q < l2 → ps.getD q 0 = ((T true (sh x st) (sh y st) (i - 1) q : Nat) : Int)
  hnext : 0 < i → 0 < j → next = ((T true (sh x st) (sh y st) (i - 1) (j - 1) : Nat) : Int)
  hc2 : 0 < j → c2 = Txt.item y ((st : Int) + (j : Int) - 1)
/-- the state ahead of row i -/
structure OuterO (x y : PySem.Str) (st l2 i n : Nat) (cur : Int) (c1 : PySem.Str) (ns ps : List Int) : Prop where
  row : ns = rowL true x y st l2 i
  hcur : 0 < i → cur = ((T true (sh x st) (sh y st) i l2 : Nat) : Int)
  hc1 : 0 < i → c1 = Txt.item x ((st : Int) + (i : Int) - 1)
  plen : ps.length = n
  pold : 0 < i → ∀ q, q < l2 → ps.getD q 0 = ((T true (sh x st) (sh y st) (i - 1) q : Nat) : Int)
section
variable {x y : PySem.Str} {st l2 i j n : Nat} {cur left above next : Int} {c1 c2 pc1 : PySem.Str} {ns ps : List Int}
theorem outerO_0 (hp : ps.length = n) : OuterO x y st l2 0 n 0 c1 (rowL true x y st l2 0) ps :=
  ⟨rfl, fun h => absurd h (Nat.lt_irrefl _), fun h => absurd h (Nat.lt_irrefl _), hp, fun h => absurd h (Nat.lt_irrefl _)⟩
theorem innerO_0 (h : OuterO x y st l2 i n cur c1 ns ps) (hn : l2 ≤ n) : InnerO x y st l2 i 0 cur i i 0 c2 ns ps :=
  ⟨by rw [mix_0]; exact h.row, by rw [T_col], rfl, fun h => absurd h (Nat.lt_irrefl _), by rw [h.plen]; exact hn, fun q h => absurd h (Nat.not_lt_zero _), fun hi q _ hq => h.pold hi q hq, fun _ h => absurd h (Nat.lt_irrefl _), fun h => absurd h (Nat.lt_irrefl _)⟩
theorem innerO_end (h : InnerO x y st l2 i j cur left above next c2 ns ps) (hj : j = l2) (p2 : 1 ≤ l2) (hp : ps.length = n) {pre : List Int} {k : Int} (hpre : pre.length = i) (hc1 : c1 = Txt.item x ((st : Int) + (i : Int))) :
    OuterO x y st l2 (pre ++ [k]).length n cur c1 ns ps := by
  have eL : (pre ++ [k]).length = i + 1 := by rw [List.length_append, hpre]; rfl
  rw [eL]
  subst hj
  refine ⟨by rw [h.row, mix_n]; rfl, fun _ => h.hcur p2, fun _ => ?_, hp, fun _ q hq => by rw [Nat.add_sub_cancel]; exact h.pold q hq⟩
  rw [hc1]; congr 1; omega
theorem innerO_step (h : InnerO x y st l2 i j cur left above next c2 ns ps) (hj : j < l2) {jj ii v : Int} (ej : jj = j) (ei : ii = i) (hc1 : c1 = Txt.item x ((st : Int) + ii)) (hp1 : 0 < i → pc1 = Txt.item x ((st : Int) + ii - 1))
    (hv : ((c1 != Txt.item y (st + jj)) = false ∧ v = left) ∨ ((c1 != Txt.item y (st + jj)) = true ∧
      (((ii ≠ 0 ∧ jj ≠ 0 ∧ (c1 == c2) = true ∧ (pc1 == Txt.item y (st + jj)) = true) ∧ v = min (min (min left above) (ns.getD jj.toNat 0) + 1) (next + 1)) ∨
       (¬ (ii ≠ 0 ∧ jj ≠ 0 ∧ (c1 == c2) = true ∧ (pc1 == Txt.item y (st + jj)) = true) ∧ v = min (min left above) (ns.getD jj.toNat 0) + 1)))) {pre : List Int} {k : Int} (hpre : pre.length = j) :
    InnerO x y st l2 i (pre ++ [k]).length v (ns.getD jj.toNat 0) v (ps.getD jj.toNat 0) (Txt.item y ((st : Int) + jj)) (ns.set jj.toNat v) (ps.set jj.toNat left) := by
  obtain ⟨h1, h2, h3, h4, h5, h6, h7, h8, h9⟩ := h
  subst ej ei
  simp only [Int.toNat_natCast] at hv ⊢
  have eL : (pre ++ [k]).length = j + 1 := by rw [List.length_append, hpre]; rfl
  rw [eL]
  have up : ns.getD j 0 = ((T true (sh x st) (sh y st) i (j + 1) : Nat) : Int) := by
    rw [h1, List.getD_eq_getElem?_getD, mix_get hj, if_neg (Nat.lt_irrefl _)]; rfl
  have e1 : ((st : Int) + (j : Int)).toNat = st + j := by omega
  have e2 : ((st : Int) + (i : Int)).toNat = st + i := by omega
  have hval : v = ((T true (sh x st) (sh y st) (i + 1) (j + 1) : Nat) : Int) := by
    rcases hv with ⟨hc, hv⟩ | ⟨hc, hv⟩
    · rw [hc1] at hc
      have e := of_decide_eq_false (item_bne hc (by omega) (by omega))
      rw [e1, e2] at e
      have e' : sh x st i = sh y st j := by
        by_cases q : ca x (st + i) = ca y (st + j)
        · exact q
        · exact absurd q e
      rw [hv, h2, T_eq true (sh x st) (sh y st) i j e']
    · have hc' := hc
      rw [hc1] at hc'
      have e := of_decide_eq_true (item_bne hc' (by omega) (by omega))
      rw [e1, e2] at e
      have hbase : min (min left above) (ns.getD j 0) = min (min ((T true (sh x st) (sh y st) i j : Nat) : Int) ((T true (sh x st) (sh y st) (i + 1) j : Nat) : Int)) ((T true (sh x st) (sh y st) i (j + 1) : Nat) : Int) := by
        rw [up, h2, h3]
        by_cases hj0 : j = 0
        · subst hj0
          simp only [if_true, T_col]
          omega
        · simp only [if_neg hj0]
      rcases hv with ⟨⟨c1', c2', c3', c4'⟩, hv⟩ | ⟨hn, hv⟩
      · obtain ⟨p, rfl⟩ : ∃ p, i = p + 1 := ⟨i - 1, by omega⟩
        obtain ⟨q, rfl⟩ : ∃ q, j = q + 1 := ⟨j - 1, by omega⟩
        rw [hc1, h9 (by omega)] at c3'
        rw [hp1 (by omega)] at c4'
        have a1 := of_decide_eq_true (item_beq c3' (by omega) (by omega))
        have a2 := of_decide_eq_true (item_beq c4' (by omega) (by omega))
        rw [show ((st : Int) + ((p + 1 : Nat) : Int)).toNat = st + (p + 1) by omega, show ((st : Int) + ((q + 1 : Nat) : Int) - 1).toNat = st + q by omega] at a1
        rw [show ((st : Int) + ((p + 1 : Nat) : Int) - 1).toNat = st + p by omega, show ((st : Int) + ((q + 1 : Nat) : Int)).toNat = st + (q + 1) by omega] at a2
        have ht := T_neS true (sh x st) (sh y st) p q e rfl a1 a2
        have hx' := h8 (by omega) (by omega)
        simp only [Nat.add_sub_cancel] at hx'
        rw [hv, hbase, hx', ht]
        omega
      · have ht := T_ne true (sh x st) (sh y st) i j e (fun ⟨_, g1, g2, g3, g4⟩ => hn (by
          refine ⟨by omega, by omega, ?_, ?_⟩
          · rw [hc1, h9 g2]
            cases hq : (Txt.item x ((st : Int) + (i : Int)) == Txt.item y ((st : Int) + (j : Int) - 1)) with
            | true => rfl
            | false =>
              have z := of_decide_eq_false (item_beq hq (by omega) (by omega))
              rw [e2, show ((st : Int) + (j : Int) - 1).toNat = st + (j - 1) by omega] at z
              exact absurd g3 z
          · rw [hp1 g1]
            cases hq : (Txt.item x ((st : Int) + (i : Int) - 1) == Txt.item y ((st : Int) + (j : Int))) with
            | true => rfl
            | false =>
              have z := of_decide_eq_false (item_beq hq (by omega) (by omega))
              rw [e1, show ((st : Int) + (i : Int) - 1).toNat = st + (i - 1) by omega] at z
              exact absurd g4 z))
        rw [hv, hbase, ht]
        omega
  have hl : j < ps.length := by omega
  refine ⟨?_, up, ?_, fun _ => hval, by rw [List.length_set]; exact h5, fun q hq => ?_, fun hi q hq hq2 => ?_, fun hi _ => ?_, fun _ => ?_⟩
  · rw [h1]; exact mix_set hval
  · rw [if_neg (Nat.succ_ne_zero j)]; exact hval
  · rw [getD_set hl]
    by_cases hqj : q = j
    · subst hqj; rw [if_pos rfl]; exact h2
    · rw [if_neg hqj]; exact h6 q (by omega)
  · rw [getD_set hl, if_neg (by omega)]; exact h7 hi q (by omega) hq2
  · rw [Nat.add_sub_cancel]; exact h7 hi j (Nat.le_refl _) hj
  · congr 1; omega
end
end Mine
end
section
open PySem PySem.W PyProof.Rows PySem.Builtin.Str
namespace Mine
/-- the state within row i of the banded table with swaps, ahead of column j -/
structure InnerMO (x y : PySem.Str) (st l1 l2 M off i j : Nat) (cur prev above next : Int) (c2 : PySem.Str) (ns ps : List Int) : Prop where
  base : InnerM true x y st l1 l2 M off i j cur prev above ns
  plen : l2 ≤ ps.length
  pold : ∀ q, i - off ≤ q → q < j → Ap M (rem l1 l2 i q) (ps.getD q 0) (T true (sh x st) (sh y st) i q : Nat)
  pnew : 0 < i → ∀ q, j ≤ q → i - 1 - off ≤ q → q < M + i → q < l2 → Ap M (rem l1 l2 (i - 1) q) (ps.getD q 0) (T true (sh x st) (sh y st) (i - 1) q : Nat)
  hnext : 0 < i → i - off < j → j ≤ M + i → Ap M (rem l1 l2 (i - 1) (j - 1)) next (T true (sh x st) (sh y st) (i - 1) (j - 1) : Nat)
  hzero : j = i - off → next = 0 ∧ prev = i ∧ above = i
  hc2 : i - off < j → c2 = Txt.item y ((st : Int) + (j : Int) - 1)
/-- the state ahead of row i -/
structure OuterMO (x y : PySem.Str) (st l1 l2 M off i n : Nat) (cur js je : Int) (c1 : PySem.Str) (ns ps : List Int) : Prop where
  base : OuterM true x y st l1 l2 M off i cur js je ns
  hc1 : 0 < i → c1 = Txt.item x ((st : Int) + (i : Int) - 1)
  plen : ps.length = n
  pold : 0 < i → ∀ q, i - 1 - off ≤ q → q < M + i → q < l2 → Ap M (rem l1 l2 (i - 1) q) (ps.getD q 0) (T true (sh x st) (sh y st) (i - 1) q : Nat)
section
variable {x y : PySem.Str} {st l1 l2 M off i j n : Nat} {cur js je prev above next : Int} {c1 c2 pc1 : PySem.Str} {ns ps : List Int}
theorem outerMO_0 (hM : M < l2) (hp : ps.length = n) : OuterMO x y st l1 l2 M off 0 n 0 0 M c1 ((List.range l2).map fun q => if ((q : Nat) : Int) < M then (q : Int) + 1 else (M : Int) + 1) ps :=
  ⟨outerM_0 hM, fun h => absurd h (Nat.lt_irrefl _), hp, fun h => absurd h (Nat.lt_irrefl _)⟩
theorem innerMO_0 (h : OuterMO x y st l1 l2 M off i n cur js je c1 ns ps) (hn : l2 ≤ n) (hne : ca x st ≠ ca y st) {diff : Nat} (hd : l2 = l1 + diff) (hM : M = off + diff) :
    InnerMO x y st l1 l2 M off i (i - off) cur i i 0 c2 ns ps :=
  ⟨innerM_0 h.base hne hd hM, by rw [h.plen]; exact hn, fun q h1 h2 => by omega, fun hi q _ h2 h3 h4 => h.pold hi q h2 h3 h4, fun _ h => by omega, fun _ => ⟨rfl, rfl, rfl⟩, fun h => by omega⟩
theorem innerMO_end (h : InnerMO x y st l1 l2 M off i j cur prev above next c2 ns ps) (hj : j = min (M + i + 1) l2) (hlt : i - off < j) {js je : Int} (ejs : js = ((i - off : Nat) : Int)) (eje : je = (j : Int)) (hp : ps.length = n) (hc1 : c1 = Txt.item x ((st : Int) + (i : Int))) :
    OuterMO x y st l1 l2 M off (i + 1) n cur js je c1 ns ps :=
  ⟨innerM_end h.base hj hlt ejs eje, fun _ => by rw [hc1]; congr 1; omega, hp, fun _ q h1 h2 h3 => by rw [Nat.add_sub_cancel]; exact h.pold q (by omega) (by omega)⟩
theorem rem_edge {l1 l2 M off diff i j : Nat} (hd : l2 = l1 + diff) (hM : M = off + diff) (pM : 1 ≤ M) (hjj : j = i - off) (hj0 : j ≠ 0) : rem l1 l2 (i + 1) (j + 1) = M ∧ rem l1 l2 i (j + 1) = M - 1 ∧ 1 ≤ i := by
  unfold rem
  refine ⟨?_, ?_, ?_⟩ <;> omega
theorem edge_any {M i : Nat} {v prev above next up : Int} {t1 t2 : Nat} {c d : Prop} (hi1 : 1 ≤ i) (hp : 1 ≤ t1) (hp2 : 1 ≤ t2) (hup : Ap M ((M : Int) - 1) up t2) (z1 : next = 0) (z2 : prev = i) (z3 : above = i)
    (hv : (c ∧ v = min (min (min prev above) up + 1) (next + 1)) ∨ (d ∧ v = min (min prev above) up + 1)) : Ap M M v t1 := by
  have hu1 : 1 ≤ up := by
    clear hv
    unfold Ap at hup
    omega
  clear hup
  have hv1 : 1 ≤ v := by
    rcases hv with ⟨_, hv⟩ | ⟨_, hv⟩ <;> omega
  exact .inr ⟨by omega, by omega⟩
set_option maxHeartbeats 1000000 in
theorem stepMO (h : InnerMO x y st l1 l2 M off i j cur prev above next c2 ns ps) (hne : ca x st ≠ ca y st) {diff : Nat} (hd : l2 = l1 + diff) (hM : M = off + diff) (pM : 1 ≤ M) (hjs : i - off ≤ j) (hj : j < l2) (hje : j < M + i + 1) {jj ii v : Int} (ej : jj = j) (ei : ii = i) (hc1 : c1 = Txt.item x ((st : Int) + ii)) (hp1 : 0 < i → pc1 = Txt.item x ((st : Int) + ii - 1))
    (hv : ((c1 != Txt.item y (st + jj)) = false ∧ v = prev) ∨ ((c1 != Txt.item y (st + jj)) = true ∧
      (((ii ≠ 0 ∧ jj ≠ 0 ∧ (c1 == c2) = true ∧ (pc1 == Txt.item y (st + jj)) = true) ∧ v = min (min (min prev above) (ns.getD jj.toNat 0) + 1) (next + 1)) ∨
       (¬ (ii ≠ 0 ∧ jj ≠ 0 ∧ (c1 == c2) = true ∧ (pc1 == Txt.item y (st + jj)) = true) ∧ v = min (min prev above) (ns.getD jj.toNat 0) + 1)))) :
    Ap M (rem l1 l2 (i + 1) (j + 1)) v (T true (sh x st) (sh y st) (i + 1) (j + 1) : Nat) := by
  obtain ⟨hb, h5, h6, h7, h8, hz, h9⟩ := h
  subst ej ei
  simp only [Int.toNat_natCast] at hv
  have h0 : sh x st 0 ≠ sh y st 0 := hne
  have e1 : ((st : Int) + (j : Int)).toNat = st + j := by omega
  have e2 : ((st : Int) + (i : Int)).toNat = st + i := by omega
  have hup := hb.todo j hjs (Nat.le_refl _) hj
  rcases hv with ⟨hc, hv⟩ | ⟨hc, hv⟩
  · rw [hc1] at hc
    have e := of_decide_eq_false (item_bne hc (by omega) (by omega))
    rw [e1, e2] at e
    have e' : sh x st i = sh y st j := by
      by_cases q : ca x (st + i) = ca y (st + j)
      · exact q
      · exact absurd q e
    rw [hv]
    exact band_eq e' hb.hprev
  · rw [hc1] at hc
    have e := of_decide_eq_true (item_bne hc (by omega) (by omega))
    rw [e1, e2] at e
    by_cases hjj : j = i - off
    · by_cases hj0 : j = 0
      · rcases hv with ⟨⟨_, c2', _, _⟩, _⟩ | ⟨_, hv⟩
        · omega
        · rw [hv]
          exact band_ne hb.hprev hb.habove hup (T_ne true (sh x st) (sh y st) i j e (fun ⟨_, _, g2, _⟩ => by omega))
      · -- the left edge, behind the first column: any value of one or more will do
        obtain ⟨z1, z2, z3⟩ := hz hjj
        obtain ⟨er, er2, hi1⟩ := rem_edge hd hM pM hjj hj0
        have hp := T_pos (sw := true) (i := i + 1) (j := j + 1) h0 (Nat.le_add_left 1 i)
        have hp2 := T_pos (sw := true) (i := i) (j := j + 1) h0 hi1
        rw [er]
        rw [er2] at hup
        exact edge_any hi1 hp hp2 hup z1 z2 z3 hv
    · have hlt : i - off < j := by omega
      rcases hv with ⟨⟨c1', c2', c3', c4'⟩, hv⟩ | ⟨hn, hv⟩
      · obtain ⟨p, rfl⟩ : ∃ p, i = p + 1 := ⟨i - 1, by omega⟩
        obtain ⟨q, rfl⟩ : ∃ q, j = q + 1 := ⟨j - 1, by omega⟩
        rw [hc1, h9 hlt] at c3'
        rw [hp1 (by omega)] at c4'
        have a1 := of_decide_eq_true (item_beq c3' (by omega) (by omega))
        have a2 := of_decide_eq_true (item_beq c4' (by omega) (by omega))
        rw [show ((st : Int) + ((p + 1 : Nat) : Int)).toNat = st + (p + 1) by omega, show ((st : Int) + ((q + 1 : Nat) : Int) - 1).toNat = st + q by omega] at a1
        rw [show ((st : Int) + ((p + 1 : Nat) : Int) - 1).toNat = st + p by omega, show ((st : Int) + ((q + 1 : Nat) : Int)).toNat = st + (q + 1) by omega] at a2
        have ht := T_neS true (sh x st) (sh y st) p q e rfl a1 a2
        have hx' := h8 (by omega) hlt (by omega)
        simp only [Nat.add_sub_cancel] at hx'
        rw [hv]
        refine band_neS hb.hprev ?_ hup hx' ht
        rcases hb.habove with ⟨g, _⟩ | g
        · omega
        · exact g
      · rw [hv]
        refine band_ne hb.hprev hb.habove hup (T_ne true (sh x st) (sh y st) i j e (fun ⟨_, g1, g2, g3, g4⟩ => hn ?_))
        refine ⟨by omega, by omega, ?_, ?_⟩
        · rw [hc1, h9 hlt]
          cases hq : (Txt.item x ((st : Int) + (i : Int)) == Txt.item y ((st : Int) + (j : Int) - 1)) with
          | true => rfl
          | false =>
            have z := of_decide_eq_false (item_beq hq (by omega) (by omega))
            rw [e2, show ((st : Int) + (j : Int) - 1).toNat = st + (j - 1) by omega] at z
            exact absurd g3 z
        · rw [hp1 g1]
          cases hq : (Txt.item x ((st : Int) + (i : Int) - 1) == Txt.item y ((st : Int) + (j : Int))) with
          | true => rfl
          | false =>
            have z := of_decide_eq_false (item_beq hq (by omega) (by omega))
            rw [e1, show ((st : Int) + (i : Int) - 1).toNat = st + (i - 1) by omega] at z
            exact absurd g4 z
theorem innerMO_step (h : InnerMO x y st l1 l2 M off i j cur prev above next c2 ns ps) (hne : ca x st ≠ ca y st) {diff : Nat} (hd : l2 = l1 + diff) (hM : M = off + diff) (pM : 1 ≤ M) (hjs : i - off ≤ j) (hj : j < l2) (hje : j < M + i + 1) {jj ii v k : Int} {pre : List Int} {J0 : Nat} (ej : jj = j) (ei : ii = i) (hc1 : c1 = Txt.item x ((st : Int) + ii)) (hp1 : 0 < i → pc1 = Txt.item x ((st : Int) + ii - 1))
    (hv : ((c1 != Txt.item y (st + jj)) = false ∧ v = prev) ∨ ((c1 != Txt.item y (st + jj)) = true ∧
      (((ii ≠ 0 ∧ jj ≠ 0 ∧ (c1 == c2) = true ∧ (pc1 == Txt.item y (st + jj)) = true) ∧ v = min (min (min prev above) (ns.getD jj.toNat 0) + 1) (next + 1)) ∨
       (¬ (ii ≠ 0 ∧ jj ≠ 0 ∧ (c1 == c2) = true ∧ (pc1 == Txt.item y (st + jj)) = true) ∧ v = min (min prev above) (ns.getD jj.toNat 0) + 1)))) (hp : J0 + pre.length = j) :
    InnerMO x y st l1 l2 M off i (J0 + (pre ++ [k]).length) v (ns.getD jj.toNat 0) v (ps.getD jj.toNat 0) (Txt.item y ((st : Int) + jj)) (ns.set jj.toNat v) (ps.set jj.toNat prev) := by
  have hval := stepMO h hne hd hM pM hjs hj hje ej ei hc1 hp1 hv
  have hbase := innerM_step h.base hjs hj hje hval
  obtain ⟨hb, h5, h6, h7, h8, hz, h9⟩ := h
  subst ej
  rw [List.length_append, List.length_singleton, ← Nat.add_assoc, hp, Int.toNat_natCast]
  have hl : j < ps.length := by omega
  refine ⟨hbase, by rw [List.length_set]; exact h5, fun q h1 h2 => ?_, fun hi q g1 g2 g3 g4 => ?_, fun hi g1 g2 => ?_, fun g => by omega, fun _ => ?_⟩
  · rw [getD_set hl]
    by_cases hq : q = j
    · subst hq; rw [if_pos rfl]; exact hb.hprev
    · rw [if_neg hq]; exact h6 q h1 (by omega)
  · rw [getD_set hl, if_neg (by omega)]; exact h7 hi q (by omega) g2 g3 g4
  · rw [Nat.add_sub_cancel]; exact h7 hi j (Nat.le_refl _) (by omega) (by omega) hj
  · congr 1; omega
end
end Mine
end
section
open PySem PySem.W PyProof.Rows PySem.Builtin.Str
namespace Mine
/-- what the trimming tells -/
structure Trim (x y : PySem.Str) (l1 l2 st : Nat) : Prop where
  fit : st + l1 ≤ x.length
  len : l2 + x.length = l1 + y.length
  pre : ∀ k, k < st → ca x k = ca y k
  suf : ∀ k, k < x.length - (st + l1) → ca x (st + l1 + k) = ca y (st + l2 + k)
  ne : l1 = 0 ∨ ca x st ≠ ca y st

theorem suf_step {x y : PySem.Str} {d : Nat} (hd : d < x.length) (hxy : x.length ≤ y.length) (h : ∀ k, k < d → ca x (x.length - d + k) = ca y (y.length - d + k)) (e : ca x (x.length - (d + 1)) = ca y (y.length - (d + 1))) :
    ∀ k, k < d + 1 → ca x (x.length - (d + 1) + k) = ca y (y.length - (d + 1) + k) := by
  intro k hk
  cases k with
  | zero => exact e
  | succ k =>
    have := h k (by omega)
    rw [show x.length - (d + 1) + (k + 1) = x.length - d + k by omega, show y.length - (d + 1) + (k + 1) = y.length - d + k by omega]
    exact this
theorem pre_step {x y : PySem.Str} {n : Nat} (h : ∀ k, k < n → ca x k = ca y k) (e : ca x n = ca y n) : ∀ k, k < n + 1 → ca x k = ca y k := by
  intro k hk
  by_cases hkn : k = n
  · rw [hkn]; exact e
  · exact h k (by omega)
theorem trim_of {x y : PySem.Str} {d n l1 l2 : Nat} (hxy : x.length ≤ y.length) (hd : d ≤ x.length) (hsuf : ∀ k, k < d → ca x (x.length - d + k) = ca y (y.length - d + k)) (hn : n ≤ x.length - d) (hpre : ∀ k, k < n → ca x k = ca y k)
    (e1 : l1 = x.length - d - n) (e2 : l2 = y.length - d - n) (hne : l1 = 0 ∨ ca x n ≠ ca y n) : Trim x y l1 l2 n := by
  refine ⟨by omega, by omega, hpre, fun k hk => ?_, hne⟩
  have := hsuf k (by omega)
  rw [show n + l1 + k = x.length - d + k by omega, show n + l2 + k = y.length - d + k by omega]
  exact this

theorem trim_T {sw : Bool} {x y : PySem.Str} {l1 l2 st : Nat} (tr : Trim x y l1 l2 st) (hxy : x.length ≤ y.length) :
    T sw (ca x) (ca y) x.length y.length = T sw (sh x st) (sh y st) l1 l2 := by
  obtain ⟨h1, h2, h3, h4, h5⟩ := tr
  have e1 := T_prefix sw st (ca x) (ca y) (x.length - st) (y.length - st) h3
  rw [show st + (x.length - st) = x.length by omega, show st + (y.length - st) = y.length by omega] at e1
  rw [e1]
  have e2 := T_suffix (sw := sw) (a := sh x st) (b := sh y st) l1 l2 (x.length - (st + l1)) (fun k hk => by
    show ca x (st + (l1 + k)) = ca y (st + (l2 + k))
    rw [← Nat.add_assoc, ← Nat.add_assoc]; exact h4 k hk)
  rw [show l1 + (x.length - (st + l1)) = x.length - st by omega, show l2 + (x.length - (st + l1)) = y.length - st by omega] at e2
  exact e2
theorem T_run (sw : Bool) (a b : Nat → Nat) (i j : Nat) : ∀ d, T sw a b (i + d) (j + d) ≤ T sw a b i j + d
  | 0 => Nat.le_refl _
  | d + 1 => by
    have h1 := T_run sw a b i j d
    have h2 := T_C' (sw := sw) (a := a) (b := b) (i + d) (j + d)
    rw [← Nat.add_assoc, ← Nat.add_assoc]; omega
theorem T_max {sw : Bool} {a b : Nat → Nat} (i j : Nat) : T sw a b i j ≤ max i j := by
  by_cases h : i ≤ j
  · have := T_run sw a b 0 (j - i) i
    rw [show 0 + i = i by omega, show j - i + i = j by omega, T_zero] at this
    omega
  · have := T_run sw a b (i - j) 0 j
    rw [show 0 + j = j by omega, show i - j + j = i by omega, T_col] at this
    omega
/-- what the comparer is to tell at a distance d and a bound -/
def due (d : Nat) (bd : Int) : Int := if d = 0 ∨ (d : Int) ≤ bd then d else -1
theorem due_le {d : Nat} {bd : Int} (h : (d : Int) ≤ bd) : due d bd = d := by unfold due; rw [if_pos (.inr h)]
theorem due_gt {d : Nat} {bd : Int} (h0 : 0 < bd) (h : ¬ (d : Int) ≤ bd) : due d bd = -1 := by
  unfold due; rw [if_neg]; omega
theorem due_eq {x y : PySem.Str} {sw : Bool} {bd : Int} (h : (x == y) = true) : due (T sw (ca x) (ca y) x.length y.length) bd = 0 := by
  have e : x = y := eq_of_beq h
  subst e
  unfold due
  rw [(T_zero_iff _ _ _ _ _).mpr ⟨rfl, fun _ _ => rfl⟩]; rfl
theorem ca_ext {x y : PySem.Str} (hl : x.length = y.length) (h : ∀ k, k < x.length → ca x k = ca y k) : x = y := by
  obtain ⟨a⟩ := x
  obtain ⟨b⟩ := y
  congr 1
  refine Array.ext hl fun i h1 h2 => ?_
  have := h i h1
  unfold ca at this
  simp only [Array.getD_eq_getD_getElem?, Array.getElem?_eq_getElem h1, Array.getElem?_eq_getElem h2, Option.getD_some] at this
  exact this
theorem due_ne {x y : PySem.Str} {sw : Bool} {bd : Int} (h : (x == y) = false) (hb : bd ≤ 0) : due (T sw (ca x) (ca y) x.length y.length) bd = -1 := by
  unfold due
  rw [if_neg]
  rintro (g | g)
  · obtain ⟨e1, e2⟩ := (T_zero_iff _ _ _ _ _).mp g
    rw [ca_ext e1 e2] at h
    simp at h
  · have : T sw (ca x) (ca y) x.length y.length = 0 := by omega
    obtain ⟨e1, e2⟩ := (T_zero_iff _ _ _ _ _).mp this
    rw [ca_ext e1 e2] at h
    simp at h
theorem due_symm {x y : PySem.Str} {sw : Bool} {bd : Int} : due (T sw (ca x) (ca y) x.length y.length) bd = due (T sw (ca y) (ca x) y.length x.length) bd := by
  rw [T_symm]
theorem due_far {x y : PySem.Str} {sw : Bool} {bd : Int} (h0 : 0 < bd) (hx : x.length ≤ 64) (hy : y.length ≤ 64) (h : min 2147483647 bd < (y.length : Int) - (x.length : Int)) : due (T sw (ca x) (ca y) x.length y.length) bd = -1 := by
  refine due_gt h0 ?_
  have := T_loJ (sw := sw) (a := ca x) (b := ca y) x.length y.length
  omega
theorem due_trim0 {x y : PySem.Str} {sw : Bool} {bd : Int} {l1 l2 st : Nat} (tr : Trim x y l1 l2 st) (hxy : x.length ≤ y.length) (h1 : l1 = 0) : T sw (ca x) (ca y) x.length y.length = l2 := by
  rw [trim_T tr hxy, h1, T_zero]
theorem due_max {x y : PySem.Str} {sw : Bool} {bd : Int} {l1 l2 st M : Nat} (tr : Trim x y l1 l2 st) (hxy : x.length ≤ y.length) (hx : x.length ≤ 64) (hy : y.length ≤ 64) (h0 : 0 < bd) (hM : min 2147483647 bd = M) :
    (if T sw (sh x st) (sh y st) l1 l2 ≤ M then ((T sw (sh x st) (sh y st) l1 l2 : Nat) : Int) else -1) = due (T sw (ca x) (ca y) x.length y.length) bd := by
  have hi := T_hi (sw := sw) (a := ca x) (b := ca y) x.length y.length
  rw [← trim_T tr hxy]
  by_cases h : T sw (ca x) (ca y) x.length y.length ≤ M
  · rw [if_pos h, due_le (by omega)]
  · rw [if_neg h, due_gt h0 (by omega)]
theorem due_all {x y : PySem.Str} {sw : Bool} {bd : Int} {l1 l2 st : Nat} (tr : Trim x y l1 l2 st) (hxy : x.length ≤ y.length) (hx : x.length ≤ 64) (hy : y.length ≤ 64) (h0 : 0 < bd) (hM : ¬ min 2147483647 bd < (l2 : Int)) :
    ((T sw (sh x st) (sh y st) l1 l2 : Nat) : Int) = due (T sw (ca x) (ca y) x.length y.length) bd := by
  have e := trim_T (sw := sw) tr hxy
  have h1 : T sw (sh x st) (sh y st) l1 l2 ≤ max l1 l2 := by
    have := T_max (sw := sw) (a := sh x st) (b := sh y st) l1 l2
    exact this
  rw [e, due_le]
  have := tr.len
  have := tr.fit
  omega
end Mine
end
section
open PySem PySem.W PyProof.Rows PyProof.V PySem.Calls PySem.Spec
namespace Mine
section
variable {prog : Program} {w : World} {M : Model} {A : Around} {E : Value → Shared → Prop} {s : Shared} {K : Frag} {x y C : Addr} {ox oy : Obj} {od od' : Option Obj}
theorem ifBound_slot {name : Str} {id : String} {args : List Value} {Q : Option Value → Shared → Prop} (X : K.In s.heap) (I : InstAt s.heap x ox C od) (hs : findIn K (.ref C) name = some (some (.builtin id)))
    (hb : ∀ self, bindSpecial (.builtin id) self = pure (.builtin id, [self])) (h : wpAny M A (call (.builtin id) (.ref x :: args)) (fun v => Q (some v)) E s) : wpAny M A (callSpecialIfBound? (.ref x) name args) Q E s := by
  simp only [callSpecialIfBound?, bindSpecialIfBound?]
  refine wpAny_holding (wpAny_bind (wpAny_bind (wpAny_bind (I.type.here ((looks_findIn X hs).here ?_)))))
  refine wpAny_bind (wpAny_askSetting (wpAny_ite ?_))
  have fin : wpAny M A (call (.builtin id) ([.ref x] ++ args) >>= fun v => pure (some v)) Q E s := wpAny_bind (wpAny_mono h (fun v s' h' => wpAny_pure h') fun _ _ h' => h')
  split
  · exact wpAny_bind ((Looks.of_pure (hb _)).here (wpAny_pure (by exact fin)))
  · exact wpAny_tryCatch (wpAny_bind ((Looks.of_pure (hb _)).here (wpAny_pure (by exact fin))))
theorem eq_call_same {Q : Value → Shared → Prop} (X : K.In s.heap) (I : InstAt s.heap x ox C od) (hm : mroIn K C (.type "object") = some true) (h : Q (.bool true) s) :
    wpAny (model prog w) A (call (.builtin "object.__eq__") [.ref x, .ref x]) Q E s :=
  wpAny_call (codeAny_call_builtin F.cmp_object.eq.plain F.cmpEntry_eq (check_slot F.cmpKind_eq F.cmpSplit_eq (I.type.andThen (looks_mroIn X hm)) (F.cmpArgs_eq _ _) (objEq_entry_same h)))
theorem eq_call_other {Q : Value → Shared → Prop} (X : K.In s.heap) (I : InstAt s.heap x ox C od) (J : InstAt s.heap y oy C od') (hxy : x ≠ y) (hm : mroIn K C (.type "object") = some true) (h : Q .notImplemented s) :
    wpAny (model prog w) A (call (.builtin "object.__eq__") [.ref x, .ref y]) Q E s :=
  wpAny_call (codeAny_call_builtin F.cmp_object.eq.plain F.cmpEntry_eq (check_slot F.cmpKind_eq F.cmpSplit_eq (I.type.andThen (looks_mroIn X hm)) (F.cmpArgs_eq _ _) (objEq_entry_other hxy I.at_ J.at_ (by rw [I.cls]; exact fun e => nomatch e) h)))
theorem eq_same {Q : Value → Shared → Prop} (hu : A.units < cLine) (X : K.In s.heap) (I : InstAt s.heap x ox C od) (hs : findIn K (.ref C) "__eq__" = some (some (.builtin "object.__eq__"))) (hm : mroIn K C (.type "object") = some true) (h : Q (.bool true) s) :
    wpAny (model prog w) A (compareOp .Eq (.ref x) (.ref x)) Q E s := by
  refine cmp_ofEq ?_
  unfold richCompare
  simp only [oneThing_ref]
  refine wpAny_holding (wpAny_bind (wpAny_cRoomFor hu ?_))
  refine wpAny_bind (I.type.here (wpAny_bind (I.type.here ?_)))
  rw [if_neg (by simp)]
  refine wpAny_bind (wpAny_pure ?_)
  simp only [Bool.false_eq_true, if_false]
  refine wpAny_bind (m := tryCompare (.ref x) "__eq__" (.ref x)) ?_
  unfold tryCompare
  refine wpAny_bind (ifBound_slot X I hs F.cmp_object.eq.bind (eq_call_same X I hm ?_))
  exact wpAny_pure (wpAny_pure h)
theorem eq_other {Q : Value → Shared → Prop} (hu : A.units < cLine) (X : K.In s.heap) (I : InstAt s.heap x ox C od) (J : InstAt s.heap y oy C od') (hxy : x ≠ y) (hs : findIn K (.ref C) "__eq__" = some (some (.builtin "object.__eq__"))) (hm : mroIn K C (.type "object") = some true) (h : Q (.bool false) s) :
    wpAny (model prog w) A (compareOp .Eq (.ref x) (.ref y)) Q E s := by
  refine cmp_ofEq ?_
  unfold richCompare
  simp only [oneThing_ref]
  refine wpAny_holding (wpAny_bind (wpAny_cRoomFor hu ?_))
  refine wpAny_bind (I.type.here (wpAny_bind (J.type.here ?_)))
  rw [if_neg (by simp)]
  refine wpAny_bind (wpAny_pure ?_)
  simp only [Bool.false_eq_true, if_false]
  refine wpAny_bind (m := tryCompare (.ref x) "__eq__" (.ref y)) ?_
  unfold tryCompare
  refine wpAny_bind (ifBound_slot X I hs F.cmp_object.eq.bind (eq_call_other X I J hxy hm ?_))
  refine wpAny_pure ?_
  simp only [Bool.not_false, if_true]
  refine wpAny_bind (m := tryCompare (.ref y) "__eq__" (.ref x)) ?_
  unfold tryCompare
  refine wpAny_bind (ifBound_slot X J hs F.cmp_object.eq.bind (eq_call_other X J I (Ne.symm hxy) hm ?_))
  refine wpAny_pure ?_
  have hnt : ox.cls ≠ .type "tuple" := by rw [I.cls]; exact fun e => nomatch e
  repeat (first | with_reducible refine wpAny_isSame_ref_other hxy I.at_ J.at_ hnt ?_ | wp_step)
  exact h
end
end Mine
end
section
open PySem PySem.W PyProof.Rows PyProof.V PySem.Calls PySem.Spec
namespace Mine
section
variable {σ : Type} {h₀ : Heap} {L : Addr} {s : Shared} {Led : σ → List (Addr × Obj)} {ps : σ → List (Str × Value)} {Facts : σ → Prop} {stored : List Str} {m₀ m' : Str → Option Value}
/-- two ways through a statement meet in one state -/
def JoinEnd {σ : Type} (h₀ : Heap) (L : Addr) (s : Shared) (Led : σ → List (Addr × Obj)) (ps : σ → List (Str × Value)) (Facts : σ → Prop) (stored : List Str) (m₀ : Str → Option Value) (s' : Shared) : Prop :=
  ∃ (c : σ) (h' : Heap) (tk : Nat) (m' : Str → Option Value), s' = { s with heap := h', toks := tk } ∧ Fr h₀ L h' m' ∧ News h₀ L h' (Led c) ∧ Facts c ∧ (∀ p ∈ ps c, m' p.1 = some p.2) ∧ (∀ z, (∀ p ∈ ps c, z ≠ p.1) → stored.contains z = false → m' z = m₀ z)
def JoinPost {σ : Type} (h₀ : Heap) (L : Addr) (s : Shared) (Led : σ → List (Addr × Obj)) (ps : σ → List (Str × Value)) (Facts : σ → Prop) (stored : List Str) (m₀ : Str → Option Value) (Q : Flow → Shared → Prop) (f : Flow) (s' : Shared) : Prop :=
  match f with
  | .next => JoinEnd h₀ L s Led ps Facts stored m₀ s'
  | f => Q f s'
theorem join_end (c : σ) {h' : Heap} {tk : Nat} {news' : List (Addr × Obj)} (F : Fr h₀ L h' m') (N : News h₀ L h' news') (hn : ∀ p ∈ Led c, p ∈ news') (hf : Facts c) (hk : ∀ p ∈ ps c, m' p.1 = some p.2)
    (hr : ∀ z, (∀ p ∈ ps c, z ≠ p.1) → stored.contains z = false → m' z = m₀ z) : JoinEnd h₀ L s Led ps Facts stored m₀ { s with heap := h', toks := tk } :=
  ⟨c, h', tk, m', rfl, F, fun p hp => N p (hn p hp), hf, hk, hr⟩
theorem join_if {M : Model} {A : Around} {E : Value → Shared → Prop} {t : Sem Flow} {Q : Flow → Shared → Prop} (Led : σ → List (Addr × Obj)) (ps : σ → List (Str × Value)) (Facts : σ → Prop) (stored : List Str) (F : Fr h₀ L s.heap m₀)
    (h1 : wpAny M A t (JoinPost h₀ L s Led ps Facts stored m₀ Q) E s)
    (h2 : ∀ (c : σ) (u : Str → Option Value) h' tk, Facts c → Fr h₀ L h' (kstB (fun z => if stored.contains z then u z else m₀ z) (ps c)) → News h₀ L h' (Led c) → Q .next { s with heap := h', toks := tk }) : wpAny M A t Q E s := by
  refine wpAny_mono h1 (fun f s' p => ?_) fun _ _ e => e
  cases f with
  | next =>
    obtain ⟨c, h', tk, m', rfl, F', N', hf, hk, hr⟩ := p
    exact h2 c m' h' tk hf (ksw_fr hk hr F') N'
  | ret v => exact p
  | brk => exact p
  | cont => exact p
end
section
variable {h₀ : Heap} {L : Addr} {s : Shared} {m : Str → Option Value} {news : List (Addr × Obj)}
/-- an int that two ways reckon -/
def ValPost (h₀ : Heap) (L : Addr) (s : Shared) (m : Str → Option Value) (news : List (Addr × Obj)) (P : Int → Prop) (v : Value) (s' : Shared) : Prop :=
  ∃ (x : Int) (t : Tok) (h' : Heap) (tk : Nat), v = .int x t ∧ s' = { s with heap := h', toks := tk } ∧ Fr h₀ L h' m ∧ News h₀ L h' news ∧ P x
theorem val_end {P : Int → Prop} {x : Int} {t : Tok} {h' : Heap} {tk : Nat} (F : Fr h₀ L h' m) (N : News h₀ L h' news) (hP : P x) : ValPost h₀ L s m news P (.int x t) { s with heap := h', toks := tk } :=
  ⟨x, t, h', tk, rfl, rfl, F, N, hP⟩
theorem join_val {M : Model} {A : Around} {E : Value → Shared → Prop} {t : Sem Value} {Q : Value → Shared → Prop} (P : Int → Prop) (F : Fr h₀ L s.heap m) (N : News h₀ L s.heap news)
    (h1 : wpAny M A t (ValPost h₀ L s m news P) E s) (h2 : ∀ (x : Int) (t : Tok) (h' : Heap) (tk : Nat), P x → Fr h₀ L h' m → News h₀ L h' news → Q (.int x t) { s with heap := h', toks := tk }) : wpAny M A t Q E s := by
  refine wpAny_mono h1 (fun v s' p => ?_) fun _ _ e => e
  obtain ⟨x, t, h', tk, rfl, rfl, F', N', hP⟩ := p
  exact h2 x t h' tk hP F' N'
end
section
variable {prog : Program} {w : World} {A : Around} {E : Value → Shared → Prop} {s : Shared} {h₀ : Heap} {L : Addr} {news : List (Addr × Obj)} {Q : Value → Shared → Prop} {value slice : PySem.Expr} {k : Int} {u : Tok}
/-- a list of three ints, at any place -/
theorem menu3 {R : Addr} {a b c : Int} {ta tb tc : Tok} {n : Nat} (N : News h₀ L s.heap news) (hm : (R, W.listOf #[.int a ta, .int b tb, .int c tc] n) ∈ news) (h0 : 0 ≤ k) (h1 : k < 3) (h : ∀ v t, (v = a ∨ v = b ∨ v = c) → Q (.int v t) s)
    (hs : subscripted slice false (.ref R) (.int k u) = operate [.ref R, .int k u] (getItem (.ref R) (.int k u)) := by with_unfolding_all rfl) :
    wpAny (model prog w) A (subscriptTail value slice (.ref R) (.int k u)) Q E s := by
  have hk : k = 0 ∨ k = 1 ∨ k = 2 := by omega
  rcases hk with rfl | rfl | rfl
  · exact sub_any (rv := [.int a ta, .int b tb, .int c tc]) N hm h0 (by decide) rfl (h _ _ (.inl rfl)) hs
  · exact sub_any (rv := [.int a ta, .int b tb, .int c tc]) N hm h0 (by decide) rfl (h _ _ (.inr (.inl rfl))) hs
  · exact sub_any (rv := [.int a ta, .int b tb, .int c tc]) N hm h0 (by decide) rfl (h _ _ (.inr (.inr rfl))) hs
def SizesIs (Z : Obj) : Prop := ∃ (a b c : Int) (ta tb tc : Tok) (n : Nat), Z = W.listOf #[.int a ta, .int b tb, .int c tc] n ∧ (0 ≤ a ∧ a ≤ 30) ∧ (0 ≤ b ∧ b ≤ 30) ∧ (0 ≤ c ∧ c ≤ 30)
theorem menuZ {R : Addr} {Z : Obj} (N : News h₀ L s.heap news) (hm : (R, Z) ∈ news) (hZ : SizesIs Z) (h0 : 0 ≤ k) (h1 : k < 3) (h : ∀ v t, 0 ≤ v → v ≤ 30 → Q (.int v t) s)
    (hs : subscripted slice false (.ref R) (.int k u) = operate [.ref R, .int k u] (getItem (.ref R) (.int k u)) := by with_unfolding_all rfl) :
    wpAny (model prog w) A (subscriptTail value slice (.ref R) (.int k u)) Q E s := by
  obtain ⟨a, b, c, ta, tb, tc, n, rfl, ha, hb, hc⟩ := hZ
  exact menu3 N hm h0 h1 (fun v t hv => h v t (by omega) (by omega)) hs
end
end Mine
end
section
set_option maxRecDepth 100000
set_option maxHeartbeats 0
open PySem PySem.W PySem.Calls PyProof.Rows
namespace Mine.hd
def kids : Stmt → List Stmt
  | .FunctionDef _ _ b _ _ _ _ _ _ _ => b
  | .ClassDef _ _ _ b _ _ _ _ _ _ _ => b
  | .If _ b o _ => b ++ o
  | .For _ _ b o _ => b ++ o
  | .While _ b o _ => b ++ o
  | .With _ b _ => b
  | .Try b _ o f _ => b ++ o ++ f
  | _ => []
def item : List Stmt → Nat → Stmt
  | [], _ => default
  | s :: _, 0 => s
  | _ :: r, n + 1 => item r n
def stAt (l : List Stmt) : List Nat → Stmt
  | [] => default
  | [i] => item l i
  | i :: r => stAt (kids (item l i)) r
def fnA : Stmt → Arguments
  | .FunctionDef _ a _ _ _ _ _ _ _ _ => a
  | _ => default
def fnB : Stmt → List Stmt
  | .FunctionDef _ _ b _ _ _ _ _ _ _ => b
  | _ => []
def fnS : Stmt → Scope
  | .FunctionDef _ _ _ _ _ _ s _ _ _ => s
  | _ => default
noncomputable def sd (q : List Nat) : Stmt := stAt PySem.Challenge.pw_db5021_01.main.body q
noncomputable abbrev o_a13 (P : Params) : Obj := ⟨.type "code", none, .fields #[.str (.ofString "<module>") (182:Nat), .str (.ofString "<module>") (183:Nat), .str (.ofString "/claim/cut.py") (184:Nat), .int (1:Int) (0:Nat), .int (0:Int) (0:Nat), .int (0:Int) (0:Nat), .int (0:Int) (0:Nat), .int (0:Int) (0:Nat), .ref (11:Nat), .bool .false, .int (181:Int) (0:Nat), .ref (12:Nat), .none, .none, .none, .none, .int (185:Int) (0:Nat), .int (1:Int) (0:Nat), .str (.ofString "/claim/cut.py") (186:Nat)], #[]⟩
noncomputable abbrev o_a14 (P : Params) : Obj := ⟨.type "frame", none, .plain, #[some (.ref (13:Nat)), some (.ref (3:Nat)), some (.ref (3:Nat)), none, some (.str (.ofString "__main__") (164:Nat)), none, some (.ref (0:Nat))]⟩
noncomputable abbrev o_11x3 (P : Params) : Obj := ⟨.type "dict", none, .dict #[⟨PySem.PyData.keyHash P (.ofString "__name__"), .str (.ofString "__name__") (165:Nat), .str (.ofString "enum") (248:Nat)⟩, ⟨PySem.PyData.keyHash P (.ofString "__doc__"), .str (.ofString "__doc__") (166:Nat), .none⟩, ⟨PySem.PyData.keyHash P (.ofString "__package__"), .str (.ofString "__package__") (167:Nat), .none⟩, ⟨PySem.PyData.keyHash P (.ofString "__loader__"), .str (.ofString "__loader__") (168:Nat), .builtin "__main__.__loader__#opaque"⟩, ⟨PySem.PyData.keyHash P (.ofString "__spec__"), .str (.ofString "__spec__") (169:Nat), .none⟩, ⟨PySem.PyData.keyHash P (.ofString "__annotations__"), .str (.ofString "__annotations__") (170:Nat), .ref (6:Nat)⟩, ⟨PySem.PyData.keyHash P (.ofString "__builtins__"), .str (.ofString "__builtins__") (171:Nat), .ref (4:Nat)⟩, ⟨PySem.PyData.keyHash P (.ofString "__file__"), .str (.ofString "__file__") (173:Nat), .str (.ofString "/claim/cut.py") (172:Nat)⟩, ⟨PySem.PyData.keyHash P (.ofString "__cached__"), .str (.ofString "__cached__") (174:Nat), .none⟩, ⟨PySem.PyData.keyHash P (.ofString "_wall"), .str (.ofString "_wall") (193:Nat), .ref (21:Nat)⟩, ⟨PySem.PyData.keyHash P (.ofString "null_distance_results"), .str (.ofString "null_distance_results") (204:Nat), .ref (28:Nat)⟩, ⟨PySem.PyData.keyHash P (.ofString "prefix_suffix_prep"), .str (.ofString "prefix_suffix_prep") (215:Nat), .ref (35:Nat)⟩, ⟨PySem.PyData.keyHash P (.ofString "AbstractDistanceComparer"), .str (.ofString "AbstractDistanceComparer") (247:Nat), .ref (52:Nat)⟩, ⟨PySem.PyData.keyHash P (.ofString "_OWN_NAMES"), .str (.ofString "_OWN_NAMES") (255:Nat), .ref (57:Nat)⟩, ⟨PySem.PyData.keyHash P (.ofString "mappingproxy"), .str (.ofString "mappingproxy") (463:Nat), .ref (238:Nat)⟩, ⟨PySem.PyData.keyHash P (.ofString "_MEMBERS_VIEW"), .str (.ofString "_MEMBERS_VIEW") (464:Nat), .ref (238:Nat)⟩, ⟨PySem.PyData.keyHash P (.ofString "EnumType"), .str (.ofString "EnumType") (724:Nat), .ref (454:Nat)⟩] (17:Nat), #[]⟩
noncomputable abbrev o_11x12 (P : Params) : Obj := ⟨.none, none, .fields #[.int (1:Int) (0:Nat), .int (0:Int) (0:Nat), .ref (20:Nat), .int (5:Int) (0:Nat), .int (0:Int) (0:Nat), .ref (27:Nat), .int (11:Int) (0:Nat), .int (0:Int) (0:Nat), .ref (34:Nat), .int (25:Int) (0:Nat), .int (0:Int) (0:Nat), .ref (41:Nat), .int (31:Int) (0:Nat), .int (0:Int) (0:Nat), .ref (63:Nat), .int (113:Int) (0:Nat), .int (0:Int) (0:Nat), .ref (249:Nat)], #[]⟩
noncomputable abbrev o_11x17 (P : Params) : Obj := ⟨.type "tuple", none, .seq #[.str (.ofString "k") (190:Nat)] (0:Nat), #[]⟩
noncomputable abbrev o_11x19 (P : Params) : Obj := ⟨.none, none, .func ⟨.ofString "_wall", .ofString "_wall", fnA (sd [0]), .stmts (fnB (sd [0])), fnS (sd [0]), (0:Nat), [], .none, .none, .none, .none, none, .none, .none, (0:Nat)⟩, #[]⟩
noncomputable abbrev o_11x20 (P : Params) : Obj := ⟨.type "code", none, .fields #[.str (.ofString "_wall") (187:Nat), .str (.ofString "_wall") (188:Nat), .str (.ofString "/claim/cut.py") (189:Nat), .int (1:Int) (0:Nat), .int (1:Int) (0:Nat), .int (0:Int) (0:Nat), .int (0:Int) (0:Nat), .int (3:Int) (0:Nat), .ref (15:Nat), .bool .true, .int (181:Int) (0:Nat), .ref (16:Nat), .none, .ref (17:Nat), .ref (18:Nat), .ref (19:Nat), .int (191:Int) (0:Nat), .int (1:Int) (0:Nat), .str (.ofString "/claim/cut.py") (192:Nat)], #[]⟩
noncomputable abbrev o_11x21 (P : Params) : Obj := ⟨.type "function", none, .func ⟨.ofString "_wall", .ofString "_wall", fnA (sd [0]), .stmts (fnB (sd [0])), fnS (sd [0]), (3:Nat), [], .none, .none, .none, .str (.ofString "__main__") (164:Nat), none, .ref (20:Nat), .none, (0:Nat)⟩, #[]⟩
noncomputable abbrev o_11x24 (P : Params) : Obj := ⟨.type "tuple", none, .seq #[.str (.ofString "string_1") (199:Nat), .str (.ofString "string_2") (200:Nat), .str (.ofString "max_distance") (201:Nat)] (0:Nat), #[]⟩
noncomputable abbrev o_11x26 (P : Params) : Obj := ⟨.none, none, .func ⟨.ofString "null_distance_results", .ofString "null_distance_results", fnA (sd [2]), .stmts (fnB (sd [2])), fnS (sd [2]), (0:Nat), [], .none, .none, .none, .none, none, .none, .none, (0:Nat)⟩, #[]⟩
noncomputable abbrev o_11x27 (P : Params) : Obj := ⟨.type "code", none, .fields #[.str (.ofString "null_distance_results") (196:Nat), .str (.ofString "null_distance_results") (197:Nat), .str (.ofString "/claim/cut.py") (198:Nat), .int (5:Int) (0:Nat), .int (3:Int) (0:Nat), .int (0:Int) (0:Nat), .int (0:Int) (0:Nat), .int (3:Int) (0:Nat), .ref (22:Nat), .bool .true, .int (181:Int) (0:Nat), .ref (23:Nat), .none, .ref (24:Nat), .ref (25:Nat), .ref (26:Nat), .int (202:Int) (0:Nat), .int (5:Int) (0:Nat), .str (.ofString "/claim/cut.py") (203:Nat)], #[]⟩
noncomputable abbrev o_11x28 (P : Params) : Obj := ⟨.type "function", none, .func ⟨.ofString "null_distance_results", .ofString "null_distance_results", fnA (sd [2]), .stmts (fnB (sd [2])), fnS (sd [2]), (3:Nat), [], .none, .none, .none, .str (.ofString "symspellpy.helpers") (194:Nat), none, .ref (27:Nat), .none, (0:Nat)⟩, #[]⟩
noncomputable abbrev o_11x31 (P : Params) : Obj := ⟨.type "tuple", none, .seq #[.str (.ofString "string_1") (208:Nat), .str (.ofString "string_2") (209:Nat), .str (.ofString "len_1") (210:Nat), .str (.ofString "len_2") (211:Nat), .str (.ofString "start") (212:Nat)] (0:Nat), #[]⟩
noncomputable abbrev o_11x33 (P : Params) : Obj := ⟨.none, none, .func ⟨.ofString "prefix_suffix_prep", .ofString "prefix_suffix_prep", fnA (sd [3]), .stmts (fnB (sd [3])), fnS (sd [3]), (0:Nat), [], .none, .none, .none, .none, none, .none, .none, (0:Nat)⟩, #[]⟩
noncomputable abbrev o_11x34 (P : Params) : Obj := ⟨.type "code", none, .fields #[.str (.ofString "prefix_suffix_prep") (205:Nat), .str (.ofString "prefix_suffix_prep") (206:Nat), .str (.ofString "/claim/cut.py") (207:Nat), .int (11:Int) (0:Nat), .int (2:Int) (0:Nat), .int (0:Int) (0:Nat), .int (0:Int) (0:Nat), .int (3:Int) (0:Nat), .ref (29:Nat), .bool .true, .int (181:Int) (0:Nat), .ref (30:Nat), .none, .ref (31:Nat), .ref (32:Nat), .ref (33:Nat), .int (213:Int) (0:Nat), .int (11:Int) (0:Nat), .str (.ofString "/claim/cut.py") (214:Nat)], #[]⟩
noncomputable abbrev o_11x35 (P : Params) : Obj := ⟨.type "function", none, .func ⟨.ofString "prefix_suffix_prep", .ofString "prefix_suffix_prep", fnA (sd [3]), .stmts (fnB (sd [3])), fnS (sd [3]), (3:Nat), [], .none, .none, .none, .str (.ofString "symspellpy.helpers") (194:Nat), none, .ref (34:Nat), .none, (0:Nat)⟩, #[]⟩
noncomputable abbrev o_11x37 (P : Params) : Obj := ⟨.type "builtin_function_or_method", none, .fields #[.builtin "type.__prepare__", .type "type"], #[]⟩
noncomputable abbrev o_11x38 (P : Params) : Obj := ⟨.type "dict", none, .dict #[⟨PySem.PyData.keyHash P (.ofString "__module__"), .str (.ofString "__module__") (225:Nat), .str (.ofString "symspellpy.abstract_distance_comparer") (216:Nat)⟩, ⟨PySem.PyData.keyHash P (.ofString "__qualname__"), .str (.ofString "__qualname__") (227:Nat), .str (.ofString "AbstractDistanceComparer") (226:Nat)⟩, ⟨PySem.PyData.keyHash P (.ofString "__firstlineno__"), .str (.ofString "__firstlineno__") (229:Nat), .int (25:Int) (228:Nat)⟩, ⟨PySem.PyData.keyHash P (.ofString "distance"), .str (.ofString "distance") (239:Nat), .ref (49:Nat)⟩, ⟨PySem.PyData.keyHash P (.ofString "__static_attributes__"), .str (.ofString "__static_attributes__") (240:Nat), .ref (50:Nat)⟩] (5:Nat), #[]⟩
noncomputable abbrev o_11x40 (P : Params) : Obj := ⟨.none, none, .fields #[.int (27:Int) (0:Nat), .int (4:Int) (0:Nat), .ref (48:Nat)], #[]⟩
noncomputable abbrev o_11x41 (P : Params) : Obj := ⟨.type "code", none, .fields #[.str (.ofString "AbstractDistanceComparer") (220:Nat), .str (.ofString "AbstractDistanceComparer") (221:Nat), .str (.ofString "/claim/cut.py") (222:Nat), .int (25:Int) (0:Nat), .int (0:Int) (0:Nat), .int (0:Int) (0:Nat), .int (0:Int) (0:Nat), .int (0:Int) (0:Nat), .ref (39:Nat), .bool .false, .int (181:Int) (0:Nat), .ref (40:Nat), .none, .none, .none, .none, .int (223:Int) (0:Nat), .int (25:Int) (0:Nat), .str (.ofString "/claim/cut.py") (224:Nat)], #[]⟩
noncomputable abbrev o_11x42 (P : Params) : Obj := ⟨.type "frame", none, .plain, #[some (.ref (41:Nat)), some (.ref (3:Nat)), some (.ref (38:Nat)), none, some (.str (.ofString "symspellpy.abstract_distance_comparer") (216:Nat)), none, some (.ref (0:Nat))]⟩
noncomputable abbrev o_11x45 (P : Params) : Obj := ⟨.type "tuple", none, .seq #[.str (.ofString "self") (233:Nat), .str (.ofString "string_1") (234:Nat), .str (.ofString "string_2") (235:Nat), .str (.ofString "max_distance") (236:Nat)] (0:Nat), #[]⟩
noncomputable abbrev o_11x47 (P : Params) : Obj := ⟨.none, none, .func ⟨.ofString "distance", .ofString "AbstractDistanceComparer.distance", fnA (sd [5, 0]), .stmts (fnB (sd [5, 0])), fnS (sd [5, 0]), (0:Nat), [], .none, .none, .none, .none, none, .none, .none, (0:Nat)⟩, #[]⟩
noncomputable abbrev o_11x48 (P : Params) : Obj := ⟨.type "code", none, .fields #[.str (.ofString "distance") (230:Nat), .str (.ofString "AbstractDistanceComparer.distance") (231:Nat), .str (.ofString "/claim/cut.py") (232:Nat), .int (27:Int) (0:Nat), .int (4:Int) (0:Nat), .int (0:Int) (0:Nat), .int (0:Int) (0:Nat), .int (3:Int) (0:Nat), .ref (43:Nat), .bool .true, .int (181:Int) (0:Nat), .ref (44:Nat), .none, .ref (45:Nat), .ref (46:Nat), .ref (47:Nat), .int (237:Int) (0:Nat), .int (27:Int) (0:Nat), .str (.ofString "/claim/cut.py") (238:Nat)], #[]⟩
noncomputable abbrev o_11x49 (P : Params) : Obj := ⟨.type "function", none, .func ⟨.ofString "distance", .ofString "AbstractDistanceComparer.distance", fnA (sd [5, 0]), .stmts (fnB (sd [5, 0])), fnS (sd [5, 0]), (3:Nat), [], .none, .none, .none, .str (.ofString "symspellpy.abstract_distance_comparer") (216:Nat), none, .ref (48:Nat), .none, (0:Nat)⟩, #[]⟩
noncomputable abbrev o_11x51 (P : Params) : Obj := ⟨.type "dict", none, .dict #[⟨PySem.PyData.keyHash P (.ofString "__module__"), .str (.ofString "__module__") (225:Nat), .str (.ofString "symspellpy.abstract_distance_comparer") (216:Nat)⟩, ⟨PySem.PyData.keyHash P (.ofString "__firstlineno__"), .str (.ofString "__firstlineno__") (229:Nat), .int (25:Int) (228:Nat)⟩, ⟨PySem.PyData.keyHash P (.ofString "distance"), .str (.ofString "distance") (239:Nat), .ref (49:Nat)⟩, ⟨PySem.PyData.keyHash P (.ofString "__static_attributes__"), .str (.ofString "__static_attributes__") (240:Nat), .ref (50:Nat)⟩, ⟨PySem.PyData.keyHash P (.ofString "__dict__"), .str (.ofString "__dict__") (242:Nat), .ref (53:Nat)⟩, ⟨PySem.PyData.keyHash P (.ofString "__weakref__"), .str (.ofString "__weakref__") (244:Nat), .ref (54:Nat)⟩, ⟨PySem.PyData.keyHash P (.ofString "__doc__"), .str (.ofString "__doc__") (245:Nat), .none⟩] (4:Nat), #[]⟩
noncomputable abbrev o_11x52 (P : Params) : Obj := ⟨.type "type", none, .cls ⟨.ofString "AbstractDistanceComparer", [.type "object"], [.ref (52:Nat), .type "object"], (51:Nat), .ofString "AbstractDistanceComparer", .true, [], [], .false, none, .false⟩, #[none, none, some (.str (.ofString "AbstractDistanceComparer") (218:Nat)), some (.str (.ofString "AbstractDistanceComparer") (226:Nat)), some (.builtin "object.__new__"), some (.bool .true)]⟩
noncomputable abbrev o_11x53 (P : Params) : Obj := ⟨.type "getset_descriptor", none, .fields #[.str (.ofString "__dict__") (241:Nat), .ref (52:Nat), .builtin "function.__dict__", .builtin "function.__dict__#set"], #[]⟩
noncomputable abbrev o_11x54 (P : Params) : Obj := ⟨.type "getset_descriptor", none, .fields #[.str (.ofString "__weakref__") (243:Nat), .ref (52:Nat), .builtin "ExceptionGroup.__weakref__", .none], #[]⟩
noncomputable abbrev o_11x55 (P : Params) : Obj := ⟨.type "super", none, .fields #[.ref (52:Nat), .ref (52:Nat), .ref (52:Nat)], #[]⟩
noncomputable abbrev o_11x56 (P : Params) : Obj := ⟨.type "builtin_function_or_method", none, .fields #[.builtin "object.__init_subclass__", .ref (52:Nat)], #[]⟩
noncomputable abbrev o_11x57 (P : Params) : Obj := ⟨.type "tuple", none, .seq #[.str (.ofString "_written_out_") (250:Nat), .str (.ofString "_is_flag_") (251:Nat), .str (.ofString "_given_values_") (252:Nat), .str (.ofString "_held_init_") (253:Nat), .str (.ofString "_making_") (254:Nat)] (0:Nat), #[]⟩
noncomputable abbrev o_11x60 (P : Params) : Obj := ⟨.type "dict", none, .dict #[⟨PySem.PyData.keyHash P (.ofString "__module__"), .str (.ofString "__module__") (263:Nat), .str (.ofString "builtins") (268:Nat)⟩, ⟨PySem.PyData.keyHash P (.ofString "__qualname__"), .str (.ofString "__qualname__") (265:Nat), .str (.ofString "mappingproxy") (264:Nat)⟩, ⟨PySem.PyData.keyHash P (.ofString "__firstlineno__"), .str (.ofString "__firstlineno__") (267:Nat), .int (31:Int) (266:Nat)⟩, ⟨PySem.PyData.keyHash P (.ofString "__slots__"), .str (.ofString "__slots__") (271:Nat), .ref (65:Nat)⟩, ⟨PySem.PyData.keyHash P (.ofString "__new__"), .str (.ofString "__new__") (280:Nat), .ref (72:Nat)⟩, ⟨PySem.PyData.keyHash P (.ofString "__reduce_ex__"), .str (.ofString "__reduce_ex__") (288:Nat), .ref (79:Nat)⟩, ⟨PySem.PyData.keyHash P (.ofString "__getitem__"), .str (.ofString "__getitem__") (296:Nat), .ref (86:Nat)⟩, ⟨PySem.PyData.keyHash P (.ofString "__len__"), .str (.ofString "__len__") (303:Nat), .ref (93:Nat)⟩, ⟨PySem.PyData.keyHash P (.ofString "__iter__"), .str (.ofString "__iter__") (310:Nat), .ref (100:Nat)⟩, ⟨PySem.PyData.keyHash P (.ofString "__reversed__"), .str (.ofString "__reversed__") (317:Nat), .ref (107:Nat)⟩, ⟨PySem.PyData.keyHash P (.ofString "__contains__"), .str (.ofString "__contains__") (325:Nat), .ref (114:Nat)⟩, ⟨PySem.PyData.keyHash P (.ofString "__repr__"), .str (.ofString "__repr__") (332:Nat), .ref (121:Nat)⟩, ⟨PySem.PyData.keyHash P (.ofString "__str__"), .str (.ofString "__str__") (339:Nat), .ref (128:Nat)⟩, ⟨PySem.PyData.keyHash P (.ofString "__eq__"), .str (.ofString "__eq__") (347:Nat), .ref (135:Nat)⟩, ⟨PySem.PyData.keyHash P (.ofString "__ne__"), .str (.ofString "__ne__") (355:Nat), .ref (142:Nat)⟩, ⟨PySem.PyData.keyHash P (.ofString "__lt__"), .str (.ofString "__lt__") (363:Nat), .ref (149:Nat)⟩, ⟨PySem.PyData.keyHash P (.ofString "__le__"), .str (.ofString "__le__") (371:Nat), .ref (156:Nat)⟩, ⟨PySem.PyData.keyHash P (.ofString "__gt__"), .str (.ofString "__gt__") (379:Nat), .ref (163:Nat)⟩, ⟨PySem.PyData.keyHash P (.ofString "__ge__"), .str (.ofString "__ge__") (387:Nat), .ref (170:Nat)⟩, ⟨PySem.PyData.keyHash P (.ofString "__hash__"), .str (.ofString "__hash__") (394:Nat), .ref (177:Nat)⟩, ⟨PySem.PyData.keyHash P (.ofString "__or__"), .str (.ofString "__or__") (402:Nat), .ref (184:Nat)⟩, ⟨PySem.PyData.keyHash P (.ofString "__ror__"), .str (.ofString "__ror__") (410:Nat), .ref (191:Nat)⟩, ⟨PySem.PyData.keyHash P (.ofString "__ior__"), .str (.ofString "__ior__") (418:Nat), .ref (198:Nat)⟩, ⟨PySem.PyData.keyHash P (.ofString "get"), .str (.ofString "get") (427:Nat), .ref (206:Nat)⟩, ⟨PySem.PyData.keyHash P (.ofString "keys"), .str (.ofString "keys") (434:Nat), .ref (213:Nat)⟩, ⟨PySem.PyData.keyHash P (.ofString "values"), .str (.ofString "values") (441:Nat), .ref (220:Nat)⟩, ⟨PySem.PyData.keyHash P (.ofString "items"), .str (.ofString "items") (448:Nat), .ref (227:Nat)⟩, ⟨PySem.PyData.keyHash P (.ofString "copy"), .str (.ofString "copy") (455:Nat), .ref (234:Nat)⟩, ⟨PySem.PyData.keyHash P (.ofString "__static_attributes__"), .str (.ofString "__static_attributes__") (457:Nat), .ref (235:Nat)⟩] (29:Nat), #[]⟩
noncomputable abbrev o_11x62 (P : Params) : Obj := ⟨.none, none, .fields (List.toArray (.int (35:Int) (0:Nat)::.int (4:Int) (0:Nat)::.ref (71:Nat)::.int (42:Int) (0:Nat)::.int (4:Int) (0:Nat)::.ref (78:Nat)::.int (45:Int) (0:Nat)::.int (4:Int) (0:Nat)::.ref (85:Nat)::.int (48:Int) (0:Nat)::.int (4:Int) (0:Nat)::.ref (92:Nat)::.int (51:Int) (0:Nat)::.int (4:Int) (0:Nat)::.ref (99:Nat)::.int (54:Int) (0:Nat)::.int (4:Int) (0:Nat)::.ref (106:Nat)::.int (57:Int) (0:Nat)::.int (4:Int) (0:Nat)::.ref (113:Nat)::.int (60:Int) (0:Nat)::.int (4:Int) (0:Nat)::.ref (120:Nat)::.int (63:Int) (0:Nat)::.int (4:Int) (0:Nat)::.ref (127:Nat)::.int (66:Int) (0:Nat)::.int (4:Int) (0:Nat)::.ref (134:Nat)::.int (69:Int) (0:Nat)::.int (4:Int) (0:Nat)::.ref (141:Nat)::.int (72:Int) (0:Nat)::.int (4:Int) (0:Nat)::.ref (148:Nat)::.int (75:Int) (0:Nat)::.int (4:Int) (0:Nat)::.ref (155:Nat)::.int (78:Int) (0:Nat)::.int (4:Int) (0:Nat)::.ref (162:Nat)::.int (81:Int) (0:Nat)::.int (4:Int) (0:Nat)::.ref (169:Nat)::.int (84:Int) (0:Nat)::.int (4:Int) (0:Nat)::.ref (176:Nat)::.int (87:Int) (0:Nat)::.int (4:Int) (0:Nat)::.ref (183:Nat)::.int (92:Int) (0:Nat)::.int (4:Int) (0:Nat)::.ref (190:Nat)::.int (95:Int) (0:Nat)::.int (4:Int) (0:Nat)::.ref (197:Nat)::.int (98:Int) (0:Nat)::.int (4:Int) (0:Nat)::.ref (205:Nat)::.int (101:Int) (0:Nat)::.int (4:Int) (0:Nat)::.ref (212:Nat)::.int (104:Int) (0:Nat)::.int (4:Int) (0:Nat)::.ref (219:Nat)::.int (107:Int) (0:Nat)::.int (4:Int) (0:Nat)::.ref (226:Nat)::.int (110:Int) (0:Nat)::.int (4:Int) (0:Nat)::.ref (233:Nat)::[])), #[]⟩
noncomputable abbrev o_11x63 (P : Params) : Obj := ⟨.type "code", none, .fields #[.str (.ofString "mappingproxy") (258:Nat), .str (.ofString "mappingproxy") (259:Nat), .str (.ofString "/claim/cut.py") (260:Nat), .int (31:Int) (0:Nat), .int (0:Int) (0:Nat), .int (0:Int) (0:Nat), .int (0:Int) (0:Nat), .int (0:Int) (0:Nat), .ref (61:Nat), .bool .false, .int (181:Int) (0:Nat), .ref (62:Nat), .none, .none, .none, .none, .int (261:Int) (0:Nat), .int (31:Int) (0:Nat), .str (.ofString "/claim/cut.py") (262:Nat)], #[]⟩
noncomputable abbrev o_11x64 (P : Params) : Obj := ⟨.type "frame", none, .plain, #[some (.ref (63:Nat)), some (.ref (3:Nat)), some (.ref (60:Nat)), none, some (.str (.ofString "enum") (248:Nat)), none, some (.ref (0:Nat))]⟩
noncomputable abbrev o_11x65 (P : Params) : Obj := ⟨.type "tuple", none, .seq #[.str (.ofString "_mapping") (270:Nat)] (0:Nat), #[]⟩
noncomputable abbrev o_11x68 (P : Params) : Obj := ⟨.type "tuple", none, .seq #[.str (.ofString "cls") (275:Nat), .str (.ofString "mapping") (276:Nat), .str (.ofString "self") (277:Nat)] (0:Nat), #[]⟩
noncomputable abbrev o_11x70 (P : Params) : Obj := ⟨.none, none, .func ⟨.ofString "__new__", .ofString "mappingproxy.__new__", fnA (sd [8, 2]), .stmts (fnB (sd [8, 2])), fnS (sd [8, 2]), (0:Nat), [], .none, .none, .none, .none, none, .none, .none, (0:Nat)⟩, #[]⟩
noncomputable abbrev o_11x71 (P : Params) : Obj := ⟨.type "code", none, .fields #[.str (.ofString "__new__") (272:Nat), .str (.ofString "mappingproxy.__new__") (273:Nat), .str (.ofString "/claim/cut.py") (274:Nat), .int (35:Int) (0:Nat), .int (2:Int) (0:Nat), .int (0:Int) (0:Nat), .int (0:Int) (0:Nat), .int (3:Int) (0:Nat), .ref (66:Nat), .bool .true, .int (181:Int) (0:Nat), .ref (67:Nat), .none, .ref (68:Nat), .ref (69:Nat), .ref (70:Nat), .int (278:Int) (0:Nat), .int (35:Int) (0:Nat), .str (.ofString "/claim/cut.py") (279:Nat)], #[]⟩
noncomputable abbrev o_11x72 (P : Params) : Obj := ⟨.type "function", none, .func ⟨.ofString "__new__", .ofString "mappingproxy.__new__", fnA (sd [8, 2]), .stmts (fnB (sd [8, 2])), fnS (sd [8, 2]), (3:Nat), [], .none, .none, .none, .str (.ofString "enum") (248:Nat), none, .ref (71:Nat), .none, (0:Nat)⟩, #[]⟩
noncomputable abbrev o_11x75 (P : Params) : Obj := ⟨.type "tuple", none, .seq #[.str (.ofString "self") (284:Nat), .str (.ofString "protocol") (285:Nat)] (0:Nat), #[]⟩
noncomputable abbrev o_11x77 (P : Params) : Obj := ⟨.none, none, .func ⟨.ofString "__reduce_ex__", .ofString "mappingproxy.__reduce_ex__", fnA (sd [8, 3]), .stmts (fnB (sd [8, 3])), fnS (sd [8, 3]), (0:Nat), [], .none, .none, .none, .none, none, .none, .none, (0:Nat)⟩, #[]⟩
noncomputable abbrev o_11x78 (P : Params) : Obj := ⟨.type "code", none, .fields #[.str (.ofString "__reduce_ex__") (281:Nat), .str (.ofString "mappingproxy.__reduce_ex__") (282:Nat), .str (.ofString "/claim/cut.py") (283:Nat), .int (42:Int) (0:Nat), .int (2:Int) (0:Nat), .int (0:Int) (0:Nat), .int (0:Int) (0:Nat), .int (3:Int) (0:Nat), .ref (73:Nat), .bool .true, .int (181:Int) (0:Nat), .ref (74:Nat), .none, .ref (75:Nat), .ref (76:Nat), .ref (77:Nat), .int (286:Int) (0:Nat), .int (42:Int) (0:Nat), .str (.ofString "/claim/cut.py") (287:Nat)], #[]⟩
noncomputable abbrev o_11x79 (P : Params) : Obj := ⟨.type "function", none, .func ⟨.ofString "__reduce_ex__", .ofString "mappingproxy.__reduce_ex__", fnA (sd [8, 3]), .stmts (fnB (sd [8, 3])), fnS (sd [8, 3]), (3:Nat), [], .none, .none, .none, .str (.ofString "enum") (248:Nat), none, .ref (78:Nat), .none, (0:Nat)⟩, #[]⟩
noncomputable abbrev o_11x82 (P : Params) : Obj := ⟨.type "tuple", none, .seq #[.str (.ofString "self") (292:Nat), .str (.ofString "key") (293:Nat)] (0:Nat), #[]⟩
noncomputable abbrev o_11x84 (P : Params) : Obj := ⟨.none, none, .func ⟨.ofString "__getitem__", .ofString "mappingproxy.__getitem__", fnA (sd [8, 4]), .stmts (fnB (sd [8, 4])), fnS (sd [8, 4]), (0:Nat), [], .none, .none, .none, .none, none, .none, .none, (0:Nat)⟩, #[]⟩
noncomputable abbrev o_11x85 (P : Params) : Obj := ⟨.type "code", none, .fields #[.str (.ofString "__getitem__") (289:Nat), .str (.ofString "mappingproxy.__getitem__") (290:Nat), .str (.ofString "/claim/cut.py") (291:Nat), .int (45:Int) (0:Nat), .int (2:Int) (0:Nat), .int (0:Int) (0:Nat), .int (0:Int) (0:Nat), .int (3:Int) (0:Nat), .ref (80:Nat), .bool .true, .int (181:Int) (0:Nat), .ref (81:Nat), .none, .ref (82:Nat), .ref (83:Nat), .ref (84:Nat), .int (294:Int) (0:Nat), .int (45:Int) (0:Nat), .str (.ofString "/claim/cut.py") (295:Nat)], #[]⟩
noncomputable abbrev o_11x86 (P : Params) : Obj := ⟨.type "function", none, .func ⟨.ofString "__getitem__", .ofString "mappingproxy.__getitem__", fnA (sd [8, 4]), .stmts (fnB (sd [8, 4])), fnS (sd [8, 4]), (3:Nat), [], .none, .none, .none, .str (.ofString "enum") (248:Nat), none, .ref (85:Nat), .none, (0:Nat)⟩, #[]⟩
noncomputable abbrev o_11x89 (P : Params) : Obj := ⟨.type "tuple", none, .seq #[.str (.ofString "self") (300:Nat)] (0:Nat), #[]⟩
noncomputable abbrev o_11x91 (P : Params) : Obj := ⟨.none, none, .func ⟨.ofString "__len__", .ofString "mappingproxy.__len__", fnA (sd [8, 5]), .stmts (fnB (sd [8, 5])), fnS (sd [8, 5]), (0:Nat), [], .none, .none, .none, .none, none, .none, .none, (0:Nat)⟩, #[]⟩
noncomputable abbrev o_11x92 (P : Params) : Obj := ⟨.type "code", none, .fields #[.str (.ofString "__len__") (297:Nat), .str (.ofString "mappingproxy.__len__") (298:Nat), .str (.ofString "/claim/cut.py") (299:Nat), .int (48:Int) (0:Nat), .int (1:Int) (0:Nat), .int (0:Int) (0:Nat), .int (0:Int) (0:Nat), .int (3:Int) (0:Nat), .ref (87:Nat), .bool .true, .int (181:Int) (0:Nat), .ref (88:Nat), .none, .ref (89:Nat), .ref (90:Nat), .ref (91:Nat), .int (301:Int) (0:Nat), .int (48:Int) (0:Nat), .str (.ofString "/claim/cut.py") (302:Nat)], #[]⟩
noncomputable abbrev o_11x93 (P : Params) : Obj := ⟨.type "function", none, .func ⟨.ofString "__len__", .ofString "mappingproxy.__len__", fnA (sd [8, 5]), .stmts (fnB (sd [8, 5])), fnS (sd [8, 5]), (3:Nat), [], .none, .none, .none, .str (.ofString "enum") (248:Nat), none, .ref (92:Nat), .none, (0:Nat)⟩, #[]⟩
noncomputable abbrev o_11x96 (P : Params) : Obj := ⟨.type "tuple", none, .seq #[.str (.ofString "self") (307:Nat)] (0:Nat), #[]⟩
noncomputable abbrev o_11x98 (P : Params) : Obj := ⟨.none, none, .func ⟨.ofString "__iter__", .ofString "mappingproxy.__iter__", fnA (sd [8, 6]), .stmts (fnB (sd [8, 6])), fnS (sd [8, 6]), (0:Nat), [], .none, .none, .none, .none, none, .none, .none, (0:Nat)⟩, #[]⟩
noncomputable abbrev o_11x99 (P : Params) : Obj := ⟨.type "code", none, .fields #[.str (.ofString "__iter__") (304:Nat), .str (.ofString "mappingproxy.__iter__") (305:Nat), .str (.ofString "/claim/cut.py") (306:Nat), .int (51:Int) (0:Nat), .int (1:Int) (0:Nat), .int (0:Int) (0:Nat), .int (0:Int) (0:Nat), .int (3:Int) (0:Nat), .ref (94:Nat), .bool .true, .int (181:Int) (0:Nat), .ref (95:Nat), .none, .ref (96:Nat), .ref (97:Nat), .ref (98:Nat), .int (308:Int) (0:Nat), .int (51:Int) (0:Nat), .str (.ofString "/claim/cut.py") (309:Nat)], #[]⟩
noncomputable abbrev o_11x100 (P : Params) : Obj := ⟨.type "function", none, .func ⟨.ofString "__iter__", .ofString "mappingproxy.__iter__", fnA (sd [8, 6]), .stmts (fnB (sd [8, 6])), fnS (sd [8, 6]), (3:Nat), [], .none, .none, .none, .str (.ofString "enum") (248:Nat), none, .ref (99:Nat), .none, (0:Nat)⟩, #[]⟩
noncomputable abbrev o_11x103 (P : Params) : Obj := ⟨.type "tuple", none, .seq #[.str (.ofString "self") (314:Nat)] (0:Nat), #[]⟩
noncomputable abbrev o_11x105 (P : Params) : Obj := ⟨.none, none, .func ⟨.ofString "__reversed__", .ofString "mappingproxy.__reversed__", fnA (sd [8, 7]), .stmts (fnB (sd [8, 7])), fnS (sd [8, 7]), (0:Nat), [], .none, .none, .none, .none, none, .none, .none, (0:Nat)⟩, #[]⟩
noncomputable abbrev o_11x106 (P : Params) : Obj := ⟨.type "code", none, .fields #[.str (.ofString "__reversed__") (311:Nat), .str (.ofString "mappingproxy.__reversed__") (312:Nat), .str (.ofString "/claim/cut.py") (313:Nat), .int (54:Int) (0:Nat), .int (1:Int) (0:Nat), .int (0:Int) (0:Nat), .int (0:Int) (0:Nat), .int (3:Int) (0:Nat), .ref (101:Nat), .bool .true, .int (181:Int) (0:Nat), .ref (102:Nat), .none, .ref (103:Nat), .ref (104:Nat), .ref (105:Nat), .int (315:Int) (0:Nat), .int (54:Int) (0:Nat), .str (.ofString "/claim/cut.py") (316:Nat)], #[]⟩
noncomputable abbrev o_11x107 (P : Params) : Obj := ⟨.type "function", none, .func ⟨.ofString "__reversed__", .ofString "mappingproxy.__reversed__", fnA (sd [8, 7]), .stmts (fnB (sd [8, 7])), fnS (sd [8, 7]), (3:Nat), [], .none, .none, .none, .str (.ofString "enum") (248:Nat), none, .ref (106:Nat), .none, (0:Nat)⟩, #[]⟩
noncomputable abbrev o_11x110 (P : Params) : Obj := ⟨.type "tuple", none, .seq #[.str (.ofString "self") (321:Nat), .str (.ofString "key") (322:Nat)] (0:Nat), #[]⟩
noncomputable abbrev o_11x112 (P : Params) : Obj := ⟨.none, none, .func ⟨.ofString "__contains__", .ofString "mappingproxy.__contains__", fnA (sd [8, 8]), .stmts (fnB (sd [8, 8])), fnS (sd [8, 8]), (0:Nat), [], .none, .none, .none, .none, none, .none, .none, (0:Nat)⟩, #[]⟩
noncomputable abbrev o_11x113 (P : Params) : Obj := ⟨.type "code", none, .fields #[.str (.ofString "__contains__") (318:Nat), .str (.ofString "mappingproxy.__contains__") (319:Nat), .str (.ofString "/claim/cut.py") (320:Nat), .int (57:Int) (0:Nat), .int (2:Int) (0:Nat), .int (0:Int) (0:Nat), .int (0:Int) (0:Nat), .int (3:Int) (0:Nat), .ref (108:Nat), .bool .true, .int (181:Int) (0:Nat), .ref (109:Nat), .none, .ref (110:Nat), .ref (111:Nat), .ref (112:Nat), .int (323:Int) (0:Nat), .int (57:Int) (0:Nat), .str (.ofString "/claim/cut.py") (324:Nat)], #[]⟩
noncomputable abbrev o_11x114 (P : Params) : Obj := ⟨.type "function", none, .func ⟨.ofString "__contains__", .ofString "mappingproxy.__contains__", fnA (sd [8, 8]), .stmts (fnB (sd [8, 8])), fnS (sd [8, 8]), (3:Nat), [], .none, .none, .none, .str (.ofString "enum") (248:Nat), none, .ref (113:Nat), .none, (0:Nat)⟩, #[]⟩
noncomputable abbrev o_11x117 (P : Params) : Obj := ⟨.type "tuple", none, .seq #[.str (.ofString "self") (329:Nat)] (0:Nat), #[]⟩
noncomputable abbrev o_11x119 (P : Params) : Obj := ⟨.none, none, .func ⟨.ofString "__repr__", .ofString "mappingproxy.__repr__", fnA (sd [8, 9]), .stmts (fnB (sd [8, 9])), fnS (sd [8, 9]), (0:Nat), [], .none, .none, .none, .none, none, .none, .none, (0:Nat)⟩, #[]⟩
noncomputable abbrev o_11x120 (P : Params) : Obj := ⟨.type "code", none, .fields #[.str (.ofString "__repr__") (326:Nat), .str (.ofString "mappingproxy.__repr__") (327:Nat), .str (.ofString "/claim/cut.py") (328:Nat), .int (60:Int) (0:Nat), .int (1:Int) (0:Nat), .int (0:Int) (0:Nat), .int (0:Int) (0:Nat), .int (3:Int) (0:Nat), .ref (115:Nat), .bool .true, .int (181:Int) (0:Nat), .ref (116:Nat), .none, .ref (117:Nat), .ref (118:Nat), .ref (119:Nat), .int (330:Int) (0:Nat), .int (60:Int) (0:Nat), .str (.ofString "/claim/cut.py") (331:Nat)], #[]⟩
noncomputable abbrev o_11x121 (P : Params) : Obj := ⟨.type "function", none, .func ⟨.ofString "__repr__", .ofString "mappingproxy.__repr__", fnA (sd [8, 9]), .stmts (fnB (sd [8, 9])), fnS (sd [8, 9]), (3:Nat), [], .none, .none, .none, .str (.ofString "enum") (248:Nat), none, .ref (120:Nat), .none, (0:Nat)⟩, #[]⟩
noncomputable abbrev o_11x124 (P : Params) : Obj := ⟨.type "tuple", none, .seq #[.str (.ofString "self") (336:Nat)] (0:Nat), #[]⟩
noncomputable abbrev o_11x126 (P : Params) : Obj := ⟨.none, none, .func ⟨.ofString "__str__", .ofString "mappingproxy.__str__", fnA (sd [8, 10]), .stmts (fnB (sd [8, 10])), fnS (sd [8, 10]), (0:Nat), [], .none, .none, .none, .none, none, .none, .none, (0:Nat)⟩, #[]⟩
noncomputable abbrev o_11x127 (P : Params) : Obj := ⟨.type "code", none, .fields #[.str (.ofString "__str__") (333:Nat), .str (.ofString "mappingproxy.__str__") (334:Nat), .str (.ofString "/claim/cut.py") (335:Nat), .int (63:Int) (0:Nat), .int (1:Int) (0:Nat), .int (0:Int) (0:Nat), .int (0:Int) (0:Nat), .int (3:Int) (0:Nat), .ref (122:Nat), .bool .true, .int (181:Int) (0:Nat), .ref (123:Nat), .none, .ref (124:Nat), .ref (125:Nat), .ref (126:Nat), .int (337:Int) (0:Nat), .int (63:Int) (0:Nat), .str (.ofString "/claim/cut.py") (338:Nat)], #[]⟩
noncomputable abbrev o_11x128 (P : Params) : Obj := ⟨.type "function", none, .func ⟨.ofString "__str__", .ofString "mappingproxy.__str__", fnA (sd [8, 10]), .stmts (fnB (sd [8, 10])), fnS (sd [8, 10]), (3:Nat), [], .none, .none, .none, .str (.ofString "enum") (248:Nat), none, .ref (127:Nat), .none, (0:Nat)⟩, #[]⟩
noncomputable abbrev o_11x131 (P : Params) : Obj := ⟨.type "tuple", none, .seq #[.str (.ofString "self") (343:Nat), .str (.ofString "other") (344:Nat)] (0:Nat), #[]⟩
noncomputable abbrev o_11x133 (P : Params) : Obj := ⟨.none, none, .func ⟨.ofString "__eq__", .ofString "mappingproxy.__eq__", fnA (sd [8, 11]), .stmts (fnB (sd [8, 11])), fnS (sd [8, 11]), (0:Nat), [], .none, .none, .none, .none, none, .none, .none, (0:Nat)⟩, #[]⟩
noncomputable abbrev o_11x134 (P : Params) : Obj := ⟨.type "code", none, .fields #[.str (.ofString "__eq__") (340:Nat), .str (.ofString "mappingproxy.__eq__") (341:Nat), .str (.ofString "/claim/cut.py") (342:Nat), .int (66:Int) (0:Nat), .int (2:Int) (0:Nat), .int (0:Int) (0:Nat), .int (0:Int) (0:Nat), .int (3:Int) (0:Nat), .ref (129:Nat), .bool .true, .int (181:Int) (0:Nat), .ref (130:Nat), .none, .ref (131:Nat), .ref (132:Nat), .ref (133:Nat), .int (345:Int) (0:Nat), .int (66:Int) (0:Nat), .str (.ofString "/claim/cut.py") (346:Nat)], #[]⟩
noncomputable abbrev o_11x135 (P : Params) : Obj := ⟨.type "function", none, .func ⟨.ofString "__eq__", .ofString "mappingproxy.__eq__", fnA (sd [8, 11]), .stmts (fnB (sd [8, 11])), fnS (sd [8, 11]), (3:Nat), [], .none, .none, .none, .str (.ofString "enum") (248:Nat), none, .ref (134:Nat), .none, (0:Nat)⟩, #[]⟩
noncomputable abbrev o_11x138 (P : Params) : Obj := ⟨.type "tuple", none, .seq #[.str (.ofString "self") (351:Nat), .str (.ofString "other") (352:Nat)] (0:Nat), #[]⟩
noncomputable abbrev o_11x140 (P : Params) : Obj := ⟨.none, none, .func ⟨.ofString "__ne__", .ofString "mappingproxy.__ne__", fnA (sd [8, 12]), .stmts (fnB (sd [8, 12])), fnS (sd [8, 12]), (0:Nat), [], .none, .none, .none, .none, none, .none, .none, (0:Nat)⟩, #[]⟩
noncomputable abbrev o_11x141 (P : Params) : Obj := ⟨.type "code", none, .fields #[.str (.ofString "__ne__") (348:Nat), .str (.ofString "mappingproxy.__ne__") (349:Nat), .str (.ofString "/claim/cut.py") (350:Nat), .int (69:Int) (0:Nat), .int (2:Int) (0:Nat), .int (0:Int) (0:Nat), .int (0:Int) (0:Nat), .int (3:Int) (0:Nat), .ref (136:Nat), .bool .true, .int (181:Int) (0:Nat), .ref (137:Nat), .none, .ref (138:Nat), .ref (139:Nat), .ref (140:Nat), .int (353:Int) (0:Nat), .int (69:Int) (0:Nat), .str (.ofString "/claim/cut.py") (354:Nat)], #[]⟩
noncomputable abbrev o_11x142 (P : Params) : Obj := ⟨.type "function", none, .func ⟨.ofString "__ne__", .ofString "mappingproxy.__ne__", fnA (sd [8, 12]), .stmts (fnB (sd [8, 12])), fnS (sd [8, 12]), (3:Nat), [], .none, .none, .none, .str (.ofString "enum") (248:Nat), none, .ref (141:Nat), .none, (0:Nat)⟩, #[]⟩
noncomputable abbrev o_11x145 (P : Params) : Obj := ⟨.type "tuple", none, .seq #[.str (.ofString "self") (359:Nat), .str (.ofString "other") (360:Nat)] (0:Nat), #[]⟩
noncomputable abbrev o_11x147 (P : Params) : Obj := ⟨.none, none, .func ⟨.ofString "__lt__", .ofString "mappingproxy.__lt__", fnA (sd [8, 13]), .stmts (fnB (sd [8, 13])), fnS (sd [8, 13]), (0:Nat), [], .none, .none, .none, .none, none, .none, .none, (0:Nat)⟩, #[]⟩
noncomputable abbrev o_11x148 (P : Params) : Obj := ⟨.type "code", none, .fields #[.str (.ofString "__lt__") (356:Nat), .str (.ofString "mappingproxy.__lt__") (357:Nat), .str (.ofString "/claim/cut.py") (358:Nat), .int (72:Int) (0:Nat), .int (2:Int) (0:Nat), .int (0:Int) (0:Nat), .int (0:Int) (0:Nat), .int (3:Int) (0:Nat), .ref (143:Nat), .bool .true, .int (181:Int) (0:Nat), .ref (144:Nat), .none, .ref (145:Nat), .ref (146:Nat), .ref (147:Nat), .int (361:Int) (0:Nat), .int (72:Int) (0:Nat), .str (.ofString "/claim/cut.py") (362:Nat)], #[]⟩
noncomputable abbrev o_11x149 (P : Params) : Obj := ⟨.type "function", none, .func ⟨.ofString "__lt__", .ofString "mappingproxy.__lt__", fnA (sd [8, 13]), .stmts (fnB (sd [8, 13])), fnS (sd [8, 13]), (3:Nat), [], .none, .none, .none, .str (.ofString "enum") (248:Nat), none, .ref (148:Nat), .none, (0:Nat)⟩, #[]⟩
noncomputable abbrev o_11x152 (P : Params) : Obj := ⟨.type "tuple", none, .seq #[.str (.ofString "self") (367:Nat), .str (.ofString "other") (368:Nat)] (0:Nat), #[]⟩
noncomputable abbrev o_11x154 (P : Params) : Obj := ⟨.none, none, .func ⟨.ofString "__le__", .ofString "mappingproxy.__le__", fnA (sd [8, 14]), .stmts (fnB (sd [8, 14])), fnS (sd [8, 14]), (0:Nat), [], .none, .none, .none, .none, none, .none, .none, (0:Nat)⟩, #[]⟩
noncomputable abbrev o_11x155 (P : Params) : Obj := ⟨.type "code", none, .fields #[.str (.ofString "__le__") (364:Nat), .str (.ofString "mappingproxy.__le__") (365:Nat), .str (.ofString "/claim/cut.py") (366:Nat), .int (75:Int) (0:Nat), .int (2:Int) (0:Nat), .int (0:Int) (0:Nat), .int (0:Int) (0:Nat), .int (3:Int) (0:Nat), .ref (150:Nat), .bool .true, .int (181:Int) (0:Nat), .ref (151:Nat), .none, .ref (152:Nat), .ref (153:Nat), .ref (154:Nat), .int (369:Int) (0:Nat), .int (75:Int) (0:Nat), .str (.ofString "/claim/cut.py") (370:Nat)], #[]⟩
noncomputable abbrev o_11x156 (P : Params) : Obj := ⟨.type "function", none, .func ⟨.ofString "__le__", .ofString "mappingproxy.__le__", fnA (sd [8, 14]), .stmts (fnB (sd [8, 14])), fnS (sd [8, 14]), (3:Nat), [], .none, .none, .none, .str (.ofString "enum") (248:Nat), none, .ref (155:Nat), .none, (0:Nat)⟩, #[]⟩
noncomputable abbrev o_11x159 (P : Params) : Obj := ⟨.type "tuple", none, .seq #[.str (.ofString "self") (375:Nat), .str (.ofString "other") (376:Nat)] (0:Nat), #[]⟩
noncomputable abbrev o_11x161 (P : Params) : Obj := ⟨.none, none, .func ⟨.ofString "__gt__", .ofString "mappingproxy.__gt__", fnA (sd [8, 15]), .stmts (fnB (sd [8, 15])), fnS (sd [8, 15]), (0:Nat), [], .none, .none, .none, .none, none, .none, .none, (0:Nat)⟩, #[]⟩
noncomputable abbrev o_11x162 (P : Params) : Obj := ⟨.type "code", none, .fields #[.str (.ofString "__gt__") (372:Nat), .str (.ofString "mappingproxy.__gt__") (373:Nat), .str (.ofString "/claim/cut.py") (374:Nat), .int (78:Int) (0:Nat), .int (2:Int) (0:Nat), .int (0:Int) (0:Nat), .int (0:Int) (0:Nat), .int (3:Int) (0:Nat), .ref (157:Nat), .bool .true, .int (181:Int) (0:Nat), .ref (158:Nat), .none, .ref (159:Nat), .ref (160:Nat), .ref (161:Nat), .int (377:Int) (0:Nat), .int (78:Int) (0:Nat), .str (.ofString "/claim/cut.py") (378:Nat)], #[]⟩
noncomputable abbrev o_11x163 (P : Params) : Obj := ⟨.type "function", none, .func ⟨.ofString "__gt__", .ofString "mappingproxy.__gt__", fnA (sd [8, 15]), .stmts (fnB (sd [8, 15])), fnS (sd [8, 15]), (3:Nat), [], .none, .none, .none, .str (.ofString "enum") (248:Nat), none, .ref (162:Nat), .none, (0:Nat)⟩, #[]⟩
noncomputable abbrev o_11x166 (P : Params) : Obj := ⟨.type "tuple", none, .seq #[.str (.ofString "self") (383:Nat), .str (.ofString "other") (384:Nat)] (0:Nat), #[]⟩
noncomputable abbrev o_11x168 (P : Params) : Obj := ⟨.none, none, .func ⟨.ofString "__ge__", .ofString "mappingproxy.__ge__", fnA (sd [8, 16]), .stmts (fnB (sd [8, 16])), fnS (sd [8, 16]), (0:Nat), [], .none, .none, .none, .none, none, .none, .none, (0:Nat)⟩, #[]⟩
noncomputable abbrev o_11x169 (P : Params) : Obj := ⟨.type "code", none, .fields #[.str (.ofString "__ge__") (380:Nat), .str (.ofString "mappingproxy.__ge__") (381:Nat), .str (.ofString "/claim/cut.py") (382:Nat), .int (81:Int) (0:Nat), .int (2:Int) (0:Nat), .int (0:Int) (0:Nat), .int (0:Int) (0:Nat), .int (3:Int) (0:Nat), .ref (164:Nat), .bool .true, .int (181:Int) (0:Nat), .ref (165:Nat), .none, .ref (166:Nat), .ref (167:Nat), .ref (168:Nat), .int (385:Int) (0:Nat), .int (81:Int) (0:Nat), .str (.ofString "/claim/cut.py") (386:Nat)], #[]⟩
noncomputable abbrev o_11x170 (P : Params) : Obj := ⟨.type "function", none, .func ⟨.ofString "__ge__", .ofString "mappingproxy.__ge__", fnA (sd [8, 16]), .stmts (fnB (sd [8, 16])), fnS (sd [8, 16]), (3:Nat), [], .none, .none, .none, .str (.ofString "enum") (248:Nat), none, .ref (169:Nat), .none, (0:Nat)⟩, #[]⟩
noncomputable abbrev o_11x173 (P : Params) : Obj := ⟨.type "tuple", none, .seq #[.str (.ofString "self") (391:Nat)] (0:Nat), #[]⟩
noncomputable abbrev o_11x175 (P : Params) : Obj := ⟨.none, none, .func ⟨.ofString "__hash__", .ofString "mappingproxy.__hash__", fnA (sd [8, 17]), .stmts (fnB (sd [8, 17])), fnS (sd [8, 17]), (0:Nat), [], .none, .none, .none, .none, none, .none, .none, (0:Nat)⟩, #[]⟩
noncomputable abbrev o_11x176 (P : Params) : Obj := ⟨.type "code", none, .fields #[.str (.ofString "__hash__") (388:Nat), .str (.ofString "mappingproxy.__hash__") (389:Nat), .str (.ofString "/claim/cut.py") (390:Nat), .int (84:Int) (0:Nat), .int (1:Int) (0:Nat), .int (0:Int) (0:Nat), .int (0:Int) (0:Nat), .int (3:Int) (0:Nat), .ref (171:Nat), .bool .true, .int (181:Int) (0:Nat), .ref (172:Nat), .none, .ref (173:Nat), .ref (174:Nat), .ref (175:Nat), .int (392:Int) (0:Nat), .int (84:Int) (0:Nat), .str (.ofString "/claim/cut.py") (393:Nat)], #[]⟩
noncomputable abbrev o_11x177 (P : Params) : Obj := ⟨.type "function", none, .func ⟨.ofString "__hash__", .ofString "mappingproxy.__hash__", fnA (sd [8, 17]), .stmts (fnB (sd [8, 17])), fnS (sd [8, 17]), (3:Nat), [], .none, .none, .none, .str (.ofString "enum") (248:Nat), none, .ref (176:Nat), .none, (0:Nat)⟩, #[]⟩
noncomputable abbrev o_11x180 (P : Params) : Obj := ⟨.type "tuple", none, .seq #[.str (.ofString "self") (398:Nat), .str (.ofString "other") (399:Nat)] (0:Nat), #[]⟩
noncomputable abbrev o_11x182 (P : Params) : Obj := ⟨.none, none, .func ⟨.ofString "__or__", .ofString "mappingproxy.__or__", fnA (sd [8, 18]), .stmts (fnB (sd [8, 18])), fnS (sd [8, 18]), (0:Nat), [], .none, .none, .none, .none, none, .none, .none, (0:Nat)⟩, #[]⟩
noncomputable abbrev o_11x183 (P : Params) : Obj := ⟨.type "code", none, .fields #[.str (.ofString "__or__") (395:Nat), .str (.ofString "mappingproxy.__or__") (396:Nat), .str (.ofString "/claim/cut.py") (397:Nat), .int (87:Int) (0:Nat), .int (2:Int) (0:Nat), .int (0:Int) (0:Nat), .int (0:Int) (0:Nat), .int (3:Int) (0:Nat), .ref (178:Nat), .bool .true, .int (181:Int) (0:Nat), .ref (179:Nat), .none, .ref (180:Nat), .ref (181:Nat), .ref (182:Nat), .int (400:Int) (0:Nat), .int (87:Int) (0:Nat), .str (.ofString "/claim/cut.py") (401:Nat)], #[]⟩
noncomputable abbrev o_11x184 (P : Params) : Obj := ⟨.type "function", none, .func ⟨.ofString "__or__", .ofString "mappingproxy.__or__", fnA (sd [8, 18]), .stmts (fnB (sd [8, 18])), fnS (sd [8, 18]), (3:Nat), [], .none, .none, .none, .str (.ofString "enum") (248:Nat), none, .ref (183:Nat), .none, (0:Nat)⟩, #[]⟩
noncomputable abbrev o_11x187 (P : Params) : Obj := ⟨.type "tuple", none, .seq #[.str (.ofString "self") (406:Nat), .str (.ofString "other") (407:Nat)] (0:Nat), #[]⟩
noncomputable abbrev o_11x189 (P : Params) : Obj := ⟨.none, none, .func ⟨.ofString "__ror__", .ofString "mappingproxy.__ror__", fnA (sd [8, 19]), .stmts (fnB (sd [8, 19])), fnS (sd [8, 19]), (0:Nat), [], .none, .none, .none, .none, none, .none, .none, (0:Nat)⟩, #[]⟩
noncomputable abbrev o_11x190 (P : Params) : Obj := ⟨.type "code", none, .fields #[.str (.ofString "__ror__") (403:Nat), .str (.ofString "mappingproxy.__ror__") (404:Nat), .str (.ofString "/claim/cut.py") (405:Nat), .int (92:Int) (0:Nat), .int (2:Int) (0:Nat), .int (0:Int) (0:Nat), .int (0:Int) (0:Nat), .int (3:Int) (0:Nat), .ref (185:Nat), .bool .true, .int (181:Int) (0:Nat), .ref (186:Nat), .none, .ref (187:Nat), .ref (188:Nat), .ref (189:Nat), .int (408:Int) (0:Nat), .int (92:Int) (0:Nat), .str (.ofString "/claim/cut.py") (409:Nat)], #[]⟩
noncomputable abbrev o_11x191 (P : Params) : Obj := ⟨.type "function", none, .func ⟨.ofString "__ror__", .ofString "mappingproxy.__ror__", fnA (sd [8, 19]), .stmts (fnB (sd [8, 19])), fnS (sd [8, 19]), (3:Nat), [], .none, .none, .none, .str (.ofString "enum") (248:Nat), none, .ref (190:Nat), .none, (0:Nat)⟩, #[]⟩
noncomputable abbrev o_11x194 (P : Params) : Obj := ⟨.type "tuple", none, .seq #[.str (.ofString "self") (414:Nat), .str (.ofString "other") (415:Nat)] (0:Nat), #[]⟩
noncomputable abbrev o_11x196 (P : Params) : Obj := ⟨.none, none, .func ⟨.ofString "__ior__", .ofString "mappingproxy.__ior__", fnA (sd [8, 20]), .stmts (fnB (sd [8, 20])), fnS (sd [8, 20]), (0:Nat), [], .none, .none, .none, .none, none, .none, .none, (0:Nat)⟩, #[]⟩
noncomputable abbrev o_11x197 (P : Params) : Obj := ⟨.type "code", none, .fields #[.str (.ofString "__ior__") (411:Nat), .str (.ofString "mappingproxy.__ior__") (412:Nat), .str (.ofString "/claim/cut.py") (413:Nat), .int (95:Int) (0:Nat), .int (2:Int) (0:Nat), .int (0:Int) (0:Nat), .int (0:Int) (0:Nat), .int (3:Int) (0:Nat), .ref (192:Nat), .bool .true, .int (181:Int) (0:Nat), .ref (193:Nat), .none, .ref (194:Nat), .ref (195:Nat), .ref (196:Nat), .int (416:Int) (0:Nat), .int (95:Int) (0:Nat), .str (.ofString "/claim/cut.py") (417:Nat)], #[]⟩
noncomputable abbrev o_11x198 (P : Params) : Obj := ⟨.type "function", none, .func ⟨.ofString "__ior__", .ofString "mappingproxy.__ior__", fnA (sd [8, 20]), .stmts (fnB (sd [8, 20])), fnS (sd [8, 20]), (3:Nat), [], .none, .none, .none, .str (.ofString "enum") (248:Nat), none, .ref (197:Nat), .none, (0:Nat)⟩, #[]⟩
noncomputable abbrev o_11x199 (P : Params) : Obj := ⟨.type "tuple", none, .seq #[.none] (0:Nat), #[]⟩
noncomputable abbrev o_11x202 (P : Params) : Obj := ⟨.type "tuple", none, .seq #[.str (.ofString "self") (422:Nat), .str (.ofString "key") (423:Nat), .str (.ofString "default") (424:Nat)] (0:Nat), #[]⟩
noncomputable abbrev o_11x204 (P : Params) : Obj := ⟨.none, none, .func ⟨.ofString "get", .ofString "mappingproxy.get", fnA (sd [8, 21]), .stmts (fnB (sd [8, 21])), fnS (sd [8, 21]), (0:Nat), [], .none, .none, .none, .none, none, .none, .none, (0:Nat)⟩, #[]⟩
noncomputable abbrev o_11x205 (P : Params) : Obj := ⟨.type "code", none, .fields #[.str (.ofString "get") (419:Nat), .str (.ofString "mappingproxy.get") (420:Nat), .str (.ofString "/claim/cut.py") (421:Nat), .int (98:Int) (0:Nat), .int (3:Int) (0:Nat), .int (3:Int) (0:Nat), .int (0:Int) (0:Nat), .int (3:Int) (0:Nat), .ref (200:Nat), .bool .true, .int (181:Int) (0:Nat), .ref (201:Nat), .none, .ref (202:Nat), .ref (203:Nat), .ref (204:Nat), .int (425:Int) (0:Nat), .int (98:Int) (0:Nat), .str (.ofString "/claim/cut.py") (426:Nat)], #[]⟩
noncomputable abbrev o_11x206 (P : Params) : Obj := ⟨.type "function", none, .func ⟨.ofString "get", .ofString "mappingproxy.get", fnA (sd [8, 21]), .stmts (fnB (sd [8, 21])), fnS (sd [8, 21]), (3:Nat), [], .ref (199:Nat), .none, .none, .str (.ofString "enum") (248:Nat), none, .ref (205:Nat), .none, (0:Nat)⟩, #[]⟩
noncomputable abbrev o_11x209 (P : Params) : Obj := ⟨.type "tuple", none, .seq #[.str (.ofString "self") (431:Nat)] (0:Nat), #[]⟩
noncomputable abbrev o_11x211 (P : Params) : Obj := ⟨.none, none, .func ⟨.ofString "keys", .ofString "mappingproxy.keys", fnA (sd [8, 22]), .stmts (fnB (sd [8, 22])), fnS (sd [8, 22]), (0:Nat), [], .none, .none, .none, .none, none, .none, .none, (0:Nat)⟩, #[]⟩
noncomputable abbrev o_11x212 (P : Params) : Obj := ⟨.type "code", none, .fields #[.str (.ofString "keys") (428:Nat), .str (.ofString "mappingproxy.keys") (429:Nat), .str (.ofString "/claim/cut.py") (430:Nat), .int (101:Int) (0:Nat), .int (1:Int) (0:Nat), .int (0:Int) (0:Nat), .int (0:Int) (0:Nat), .int (3:Int) (0:Nat), .ref (207:Nat), .bool .true, .int (181:Int) (0:Nat), .ref (208:Nat), .none, .ref (209:Nat), .ref (210:Nat), .ref (211:Nat), .int (432:Int) (0:Nat), .int (101:Int) (0:Nat), .str (.ofString "/claim/cut.py") (433:Nat)], #[]⟩
noncomputable abbrev o_11x213 (P : Params) : Obj := ⟨.type "function", none, .func ⟨.ofString "keys", .ofString "mappingproxy.keys", fnA (sd [8, 22]), .stmts (fnB (sd [8, 22])), fnS (sd [8, 22]), (3:Nat), [], .none, .none, .none, .str (.ofString "enum") (248:Nat), none, .ref (212:Nat), .none, (0:Nat)⟩, #[]⟩
noncomputable abbrev o_11x216 (P : Params) : Obj := ⟨.type "tuple", none, .seq #[.str (.ofString "self") (438:Nat)] (0:Nat), #[]⟩
noncomputable abbrev o_11x218 (P : Params) : Obj := ⟨.none, none, .func ⟨.ofString "values", .ofString "mappingproxy.values", fnA (sd [8, 23]), .stmts (fnB (sd [8, 23])), fnS (sd [8, 23]), (0:Nat), [], .none, .none, .none, .none, none, .none, .none, (0:Nat)⟩, #[]⟩
noncomputable abbrev o_11x219 (P : Params) : Obj := ⟨.type "code", none, .fields #[.str (.ofString "values") (435:Nat), .str (.ofString "mappingproxy.values") (436:Nat), .str (.ofString "/claim/cut.py") (437:Nat), .int (104:Int) (0:Nat), .int (1:Int) (0:Nat), .int (0:Int) (0:Nat), .int (0:Int) (0:Nat), .int (3:Int) (0:Nat), .ref (214:Nat), .bool .true, .int (181:Int) (0:Nat), .ref (215:Nat), .none, .ref (216:Nat), .ref (217:Nat), .ref (218:Nat), .int (439:Int) (0:Nat), .int (104:Int) (0:Nat), .str (.ofString "/claim/cut.py") (440:Nat)], #[]⟩
noncomputable abbrev o_11x220 (P : Params) : Obj := ⟨.type "function", none, .func ⟨.ofString "values", .ofString "mappingproxy.values", fnA (sd [8, 23]), .stmts (fnB (sd [8, 23])), fnS (sd [8, 23]), (3:Nat), [], .none, .none, .none, .str (.ofString "enum") (248:Nat), none, .ref (219:Nat), .none, (0:Nat)⟩, #[]⟩
noncomputable abbrev o_11x223 (P : Params) : Obj := ⟨.type "tuple", none, .seq #[.str (.ofString "self") (445:Nat)] (0:Nat), #[]⟩
noncomputable abbrev o_11x225 (P : Params) : Obj := ⟨.none, none, .func ⟨.ofString "items", .ofString "mappingproxy.items", fnA (sd [8, 24]), .stmts (fnB (sd [8, 24])), fnS (sd [8, 24]), (0:Nat), [], .none, .none, .none, .none, none, .none, .none, (0:Nat)⟩, #[]⟩
noncomputable abbrev o_11x226 (P : Params) : Obj := ⟨.type "code", none, .fields #[.str (.ofString "items") (442:Nat), .str (.ofString "mappingproxy.items") (443:Nat), .str (.ofString "/claim/cut.py") (444:Nat), .int (107:Int) (0:Nat), .int (1:Int) (0:Nat), .int (0:Int) (0:Nat), .int (0:Int) (0:Nat), .int (3:Int) (0:Nat), .ref (221:Nat), .bool .true, .int (181:Int) (0:Nat), .ref (222:Nat), .none, .ref (223:Nat), .ref (224:Nat), .ref (225:Nat), .int (446:Int) (0:Nat), .int (107:Int) (0:Nat), .str (.ofString "/claim/cut.py") (447:Nat)], #[]⟩
noncomputable abbrev o_11x227 (P : Params) : Obj := ⟨.type "function", none, .func ⟨.ofString "items", .ofString "mappingproxy.items", fnA (sd [8, 24]), .stmts (fnB (sd [8, 24])), fnS (sd [8, 24]), (3:Nat), [], .none, .none, .none, .str (.ofString "enum") (248:Nat), none, .ref (226:Nat), .none, (0:Nat)⟩, #[]⟩
noncomputable abbrev o_11x230 (P : Params) : Obj := ⟨.type "tuple", none, .seq #[.str (.ofString "self") (452:Nat)] (0:Nat), #[]⟩
noncomputable abbrev o_11x232 (P : Params) : Obj := ⟨.none, none, .func ⟨.ofString "copy", .ofString "mappingproxy.copy", fnA (sd [8, 25]), .stmts (fnB (sd [8, 25])), fnS (sd [8, 25]), (0:Nat), [], .none, .none, .none, .none, none, .none, .none, (0:Nat)⟩, #[]⟩
noncomputable abbrev o_11x233 (P : Params) : Obj := ⟨.type "code", none, .fields #[.str (.ofString "copy") (449:Nat), .str (.ofString "mappingproxy.copy") (450:Nat), .str (.ofString "/claim/cut.py") (451:Nat), .int (110:Int) (0:Nat), .int (1:Int) (0:Nat), .int (0:Int) (0:Nat), .int (0:Int) (0:Nat), .int (3:Int) (0:Nat), .ref (228:Nat), .bool .true, .int (181:Int) (0:Nat), .ref (229:Nat), .none, .ref (230:Nat), .ref (231:Nat), .ref (232:Nat), .int (453:Int) (0:Nat), .int (110:Int) (0:Nat), .str (.ofString "/claim/cut.py") (454:Nat)], #[]⟩
noncomputable abbrev o_11x234 (P : Params) : Obj := ⟨.type "function", none, .func ⟨.ofString "copy", .ofString "mappingproxy.copy", fnA (sd [8, 25]), .stmts (fnB (sd [8, 25])), fnS (sd [8, 25]), (3:Nat), [], .none, .none, .none, .str (.ofString "enum") (248:Nat), none, .ref (233:Nat), .none, (0:Nat)⟩, #[]⟩
noncomputable abbrev o_11x235 (P : Params) : Obj := ⟨.type "tuple", none, .seq #[.str (.ofString "_mapping") (456:Nat)] (0:Nat), #[]⟩
noncomputable abbrev o_11x236 (P : Params) : Obj := ⟨.type "list", none, .seq #[.str (.ofString "_mapping") (270:Nat)] (1:Nat), #[]⟩
noncomputable abbrev o_11x237 (P : Params) : Obj := ⟨.type "dict", none, .dict #[⟨PySem.PyData.keyHash P (.ofString "__module__"), .str (.ofString "__module__") (263:Nat), .str (.ofString "builtins") (268:Nat)⟩, ⟨PySem.PyData.keyHash P (.ofString "__firstlineno__"), .str (.ofString "__firstlineno__") (267:Nat), .int (31:Int) (266:Nat)⟩, ⟨PySem.PyData.keyHash P (.ofString "__slots__"), .str (.ofString "__slots__") (271:Nat), .ref (65:Nat)⟩, ⟨PySem.PyData.keyHash P (.ofString "__new__"), .str (.ofString "__new__") (280:Nat), .ref (239:Nat)⟩, ⟨PySem.PyData.keyHash P (.ofString "__reduce_ex__"), .str (.ofString "__reduce_ex__") (288:Nat), .ref (79:Nat)⟩, ⟨PySem.PyData.keyHash P (.ofString "__getitem__"), .str (.ofString "__getitem__") (296:Nat), .ref (86:Nat)⟩, ⟨PySem.PyData.keyHash P (.ofString "__len__"), .str (.ofString "__len__") (303:Nat), .ref (93:Nat)⟩, ⟨PySem.PyData.keyHash P (.ofString "__iter__"), .str (.ofString "__iter__") (310:Nat), .ref (100:Nat)⟩, ⟨PySem.PyData.keyHash P (.ofString "__reversed__"), .str (.ofString "__reversed__") (317:Nat), .ref (107:Nat)⟩, ⟨PySem.PyData.keyHash P (.ofString "__contains__"), .str (.ofString "__contains__") (325:Nat), .ref (114:Nat)⟩, ⟨PySem.PyData.keyHash P (.ofString "__repr__"), .str (.ofString "__repr__") (332:Nat), .ref (121:Nat)⟩, ⟨PySem.PyData.keyHash P (.ofString "__str__"), .str (.ofString "__str__") (339:Nat), .ref (128:Nat)⟩, ⟨PySem.PyData.keyHash P (.ofString "__eq__"), .str (.ofString "__eq__") (347:Nat), .ref (135:Nat)⟩, ⟨PySem.PyData.keyHash P (.ofString "__ne__"), .str (.ofString "__ne__") (355:Nat), .ref (142:Nat)⟩, ⟨PySem.PyData.keyHash P (.ofString "__lt__"), .str (.ofString "__lt__") (363:Nat), .ref (149:Nat)⟩, ⟨PySem.PyData.keyHash P (.ofString "__le__"), .str (.ofString "__le__") (371:Nat), .ref (156:Nat)⟩, ⟨PySem.PyData.keyHash P (.ofString "__gt__"), .str (.ofString "__gt__") (379:Nat), .ref (163:Nat)⟩, ⟨PySem.PyData.keyHash P (.ofString "__ge__"), .str (.ofString "__ge__") (387:Nat), .ref (170:Nat)⟩, ⟨PySem.PyData.keyHash P (.ofString "__hash__"), .str (.ofString "__hash__") (394:Nat), .ref (177:Nat)⟩, ⟨PySem.PyData.keyHash P (.ofString "__or__"), .str (.ofString "__or__") (402:Nat), .ref (184:Nat)⟩, ⟨PySem.PyData.keyHash P (.ofString "__ror__"), .str (.ofString "__ror__") (410:Nat), .ref (191:Nat)⟩, ⟨PySem.PyData.keyHash P (.ofString "__ior__"), .str (.ofString "__ior__") (418:Nat), .ref (198:Nat)⟩, ⟨PySem.PyData.keyHash P (.ofString "get"), .str (.ofString "get") (427:Nat), .ref (206:Nat)⟩, ⟨PySem.PyData.keyHash P (.ofString "keys"), .str (.ofString "keys") (434:Nat), .ref (213:Nat)⟩, ⟨PySem.PyData.keyHash P (.ofString "values"), .str (.ofString "values") (441:Nat), .ref (220:Nat)⟩, ⟨PySem.PyData.keyHash P (.ofString "items"), .str (.ofString "items") (448:Nat), .ref (227:Nat)⟩, ⟨PySem.PyData.keyHash P (.ofString "copy"), .str (.ofString "copy") (455:Nat), .ref (234:Nat)⟩, ⟨PySem.PyData.keyHash P (.ofString "__static_attributes__"), .str (.ofString "__static_attributes__") (457:Nat), .ref (235:Nat)⟩, ⟨PySem.PyData.keyHash P (.ofString "_mapping"), .str (.ofString "_mapping") (460:Nat), .ref (240:Nat)⟩, ⟨PySem.PyData.keyHash P (.ofString "__doc__"), .str (.ofString "__doc__") (461:Nat), .none⟩] (3:Nat), #[]⟩
noncomputable abbrev o_11x238 (P : Params) : Obj := ⟨.type "type", none, .cls ⟨.ofString "mappingproxy", [.type "object"], [.ref (238:Nat), .type "object"], (237:Nat), .ofString "mappingproxy", .false, [.ofString "_mapping"], [], .false, none, .false⟩, #[none, none, some (.str (.ofString "mappingproxy") (256:Nat)), some (.str (.ofString "mappingproxy") (264:Nat)), some .none, some (.bool .false)]⟩
noncomputable abbrev o_11x239 (P : Params) : Obj := ⟨.type "staticmethod", none, .fields #[.ref (72:Nat)], #[]⟩
noncomputable abbrev o_11x240 (P : Params) : Obj := ⟨.type "member_descriptor", none, .fields #[.str (.ofString "_mapping") (459:Nat), .ref (238:Nat), .builtin "proto.slot", .builtin "proto.slot#set", .int (0:Int) (0:Nat)], #[]⟩
noncomputable abbrev o_11x241 (P : Params) : Obj := ⟨.type "super", none, .fields #[.ref (238:Nat), .ref (238:Nat), .ref (238:Nat)], #[]⟩
noncomputable abbrev o_11x242 (P : Params) : Obj := ⟨.type "builtin_function_or_method", none, .fields #[.builtin "object.__init_subclass__", .ref (238:Nat)], #[]⟩
noncomputable abbrev o_11x243 (P : Params) : Obj := ⟨.type "tuple", none, .seq #[.type "type"] (0:Nat), #[]⟩
noncomputable abbrev o_11x245 (P : Params) : Obj := ⟨.type "dict", none, .dict #[⟨PySem.PyData.keyHash P (.ofString "__module__"), .str (.ofString "__module__") (472:Nat), .str (.ofString "enum") (477:Nat)⟩, ⟨PySem.PyData.keyHash P (.ofString "__qualname__"), .str (.ofString "__qualname__") (474:Nat), .str (.ofString "EnumType") (473:Nat)⟩, ⟨PySem.PyData.keyHash P (.ofString "__firstlineno__"), .str (.ofString "__firstlineno__") (476:Nat), .int (113:Int) (475:Nat)⟩, ⟨PySem.PyData.keyHash P (.ofString "_written_out_"), .str (.ofString "_written_out_") (480:Nat), .int (0:Int) (479:Nat)⟩, ⟨PySem.PyData.keyHash P (.ofString "__new__"), .str (.ofString "__new__") (493:Nat), .ref (258:Nat)⟩, ⟨PySem.PyData.keyHash P (.ofString "_planted_"), .str (.ofString "_planted_") (502:Nat), .ref (265:Nat)⟩, ⟨PySem.PyData.keyHash P (.ofString "_planted_at_"), .str (.ofString "_planted_at_") (509:Nat), .ref (272:Nat)⟩, ⟨PySem.PyData.keyHash P (.ofString "_held_value_"), .str (.ofString "_held_value_") (519:Nat), .ref (279:Nat)⟩, ⟨PySem.PyData.keyHash P (.ofString "_canonical_"), .str (.ofString "_canonical_") (529:Nat), .ref (286:Nat)⟩, ⟨PySem.PyData.keyHash P (.ofString "_book_value_"), .str (.ofString "_book_value_") (539:Nat), .ref (293:Nat)⟩, ⟨PySem.PyData.keyHash P (.ofString "_mixed_"), .str (.ofString "_mixed_") (547:Nat), .ref (300:Nat)⟩, ⟨PySem.PyData.keyHash P (.ofString "_held_def_"), .str (.ofString "_held_def_") (556:Nat), .ref (307:Nat)⟩, ⟨PySem.PyData.keyHash P (.ofString "_closed_"), .str (.ofString "_closed_") (563:Nat), .ref (314:Nat)⟩, ⟨PySem.PyData.keyHash P (.ofString "_held_auto_"), .str (.ofString "_held_auto_") (572:Nat), .ref (321:Nat)⟩, ⟨PySem.PyData.keyHash P (.ofString "_unique_"), .str (.ofString "_unique_") (579:Nat), .ref (328:Nat)⟩, ⟨PySem.PyData.keyHash P (.ofString "_close_"), .str (.ofString "_close_") (586:Nat), .ref (335:Nat)⟩, ⟨PySem.PyData.keyHash P (.ofString "_expect_"), .str (.ofString "_expect_") (594:Nat), .ref (342:Nat)⟩, ⟨PySem.PyData.keyHash P (.ofString "_value_of_"), .str (.ofString "_value_of_") (603:Nat), .ref (349:Nat)⟩, ⟨PySem.PyData.keyHash P (.ofString "_args_of_"), .str (.ofString "_args_of_") (611:Nat), .ref (356:Nat)⟩, ⟨PySem.PyData.keyHash P (.ofString "__bool__"), .str (.ofString "__bool__") (618:Nat), .ref (363:Nat)⟩, ⟨PySem.PyData.keyHash P (.ofString "__call__"), .str (.ofString "__call__") (627:Nat), .ref (370:Nat)⟩, ⟨PySem.PyData.keyHash P (.ofString "__contains__"), .str (.ofString "__contains__") (636:Nat), .ref (377:Nat)⟩, ⟨PySem.PyData.keyHash P (.ofString "__getitem__"), .str (.ofString "__getitem__") (644:Nat), .ref (384:Nat)⟩, ⟨PySem.PyData.keyHash P (.ofString "__iter__"), .str (.ofString "__iter__") (652:Nat), .ref (391:Nat)⟩, ⟨PySem.PyData.keyHash P (.ofString "__len__"), .str (.ofString "__len__") (659:Nat), .ref (398:Nat)⟩, ⟨PySem.PyData.keyHash P (.ofString "__members__"), .str (.ofString "__members__") (667:Nat), .ref (406:Nat)⟩, ⟨PySem.PyData.keyHash P (.ofString "__repr__"), .str (.ofString "__repr__") (674:Nat), .ref (413:Nat)⟩, ⟨PySem.PyData.keyHash P (.ofString "__reversed__"), .str (.ofString "__reversed__") (682:Nat), .ref (420:Nat)⟩, ⟨PySem.PyData.keyHash P (.ofString "__setattr__"), .str (.ofString "__setattr__") (692:Nat), .ref (428:Nat)⟩, ⟨PySem.PyData.keyHash P (.ofString "__delattr__"), .str (.ofString "__delattr__") (701:Nat), .ref (436:Nat)⟩, ⟨PySem.PyData.keyHash P (.ofString "_store_"), .str (.ofString "_store_") (711:Nat), .ref (444:Nat)⟩, ⟨PySem.PyData.keyHash P (.ofString "__dir__"), .str (.ofString "__dir__") (718:Nat), .ref (451:Nat)⟩, ⟨PySem.PyData.keyHash P (.ofString "__static_attributes__"), .str (.ofString "__static_attributes__") (719:Nat), .ref (452:Nat)⟩, ⟨PySem.PyData.keyHash P (.ofString "__classcell__"), .str (.ofString "__classcell__") (720:Nat), .ref (246:Nat)⟩] (34:Nat), #[]⟩
noncomputable abbrev o_11x246 (P : Params) : Obj := ⟨.type "cell", none, .cell (some (.ref (454:Nat))), #[]⟩
noncomputable abbrev o_11x248 (P : Params) : Obj := ⟨.none, none, .fields (List.toArray (.int (117:Int) (0:Nat)::.int (4:Int) (0:Nat)::.ref (257:Nat)::.int (126:Int) (0:Nat)::.int (4:Int) (0:Nat)::.ref (264:Nat)::.int (138:Int) (0:Nat)::.int (4:Int) (0:Nat)::.ref (271:Nat)::.int (141:Int) (0:Nat)::.int (4:Int) (0:Nat)::.ref (278:Nat)::.int (144:Int) (0:Nat)::.int (4:Int) (0:Nat)::.ref (285:Nat)::.int (147:Int) (0:Nat)::.int (4:Int) (0:Nat)::.ref (292:Nat)::.int (150:Int) (0:Nat)::.int (4:Int) (0:Nat)::.ref (299:Nat)::.int (153:Int) (0:Nat)::.int (4:Int) (0:Nat)::.ref (306:Nat)::.int (156:Int) (0:Nat)::.int (4:Int) (0:Nat)::.ref (313:Nat)::.int (159:Int) (0:Nat)::.int (4:Int) (0:Nat)::.ref (320:Nat)::.int (162:Int) (0:Nat)::.int (4:Int) (0:Nat)::.ref (327:Nat)::.int (165:Int) (0:Nat)::.int (4:Int) (0:Nat)::.ref (334:Nat)::.int (168:Int) (0:Nat)::.int (4:Int) (0:Nat)::.ref (341:Nat)::.int (171:Int) (0:Nat)::.int (4:Int) (0:Nat)::.ref (348:Nat)::.int (174:Int) (0:Nat)::.int (4:Int) (0:Nat)::.ref (355:Nat)::.int (177:Int) (0:Nat)::.int (4:Int) (0:Nat)::.ref (362:Nat)::.int (180:Int) (0:Nat)::.int (4:Int) (0:Nat)::.ref (369:Nat)::.int (193:Int) (0:Nat)::.int (4:Int) (0:Nat)::.ref (376:Nat)::.int (204:Int) (0:Nat)::.int (4:Int) (0:Nat)::.ref (383:Nat)::.int (207:Int) (0:Nat)::.int (4:Int) (0:Nat)::.ref (390:Nat)::.int (210:Int) (0:Nat)::.int (4:Int) (0:Nat)::.ref (397:Nat)::.int (214:Int) (0:Nat)::.int (4:Int) (0:Nat)::.ref (404:Nat)::.int (217:Int) (0:Nat)::.int (4:Int) (0:Nat)::.ref (412:Nat)::.int (223:Int) (0:Nat)::.int (4:Int) (0:Nat)::.ref (419:Nat)::.int (226:Int) (0:Nat)::.int (4:Int) (0:Nat)::.ref (427:Nat)::.int (233:Int) (0:Nat)::.int (4:Int) (0:Nat)::.ref (435:Nat)::.int (238:Int) (0:Nat)::.int (4:Int) (0:Nat)::.ref (443:Nat)::.int (241:Int) (0:Nat)::.int (4:Int) (0:Nat)::.ref (450:Nat)::[])), #[]⟩
noncomputable abbrev o_11x249 (P : Params) : Obj := ⟨.type "code", none, .fields #[.str (.ofString "EnumType") (467:Nat), .str (.ofString "EnumType") (468:Nat), .str (.ofString "/claim/cut.py") (469:Nat), .int (113:Int) (0:Nat), .int (0:Int) (0:Nat), .int (0:Int) (0:Nat), .int (0:Int) (0:Nat), .int (0:Int) (0:Nat), .ref (247:Nat), .bool .false, .int (181:Int) (0:Nat), .ref (248:Nat), .none, .none, .none, .none, .int (470:Int) (0:Nat), .int (113:Int) (0:Nat), .str (.ofString "/claim/cut.py") (471:Nat)], #[]⟩
noncomputable abbrev o_11x250 (P : Params) : Obj := ⟨.type "frame", none, .plain, #[some (.ref (249:Nat)), some (.ref (3:Nat)), some (.ref (245:Nat)), none, some (.str (.ofString "enum") (248:Nat)), none, some (.ref (0:Nat))]⟩
noncomputable abbrev o_11x251 (P : Params) : Obj := ⟨.type "tuple", none, .seq #[.ref (246:Nat)] (0:Nat), #[]⟩
noncomputable abbrev o_11x252 (P : Params) : Obj := ⟨.type "tuple", none, .seq #[.str (.ofString "__class__") (484:Nat)] (0:Nat), #[]⟩
noncomputable abbrev o_11x254 (P : Params) : Obj := ⟨.type "tuple", none, .seq #[.str (.ofString "metacls") (485:Nat), .str (.ofString "cls") (486:Nat), .str (.ofString "bases") (487:Nat), .str (.ofString "classdict") (488:Nat), .str (.ofString "kwds") (489:Nat), .str (.ofString "made") (490:Nat)] (0:Nat), #[]⟩
noncomputable abbrev o_11x256 (P : Params) : Obj := ⟨.none, none, .func ⟨.ofString "__new__", .ofString "EnumType.__new__", fnA (sd [10, 2]), .stmts (fnB (sd [10, 2])), fnS (sd [10, 2]), (0:Nat), [], .none, .none, .none, .none, none, .none, .none, (0:Nat)⟩, #[]⟩
noncomputable abbrev o_11x257 (P : Params) : Obj := ⟨.type "code", none, .fields #[.str (.ofString "__new__") (481:Nat), .str (.ofString "EnumType.__new__") (482:Nat), .str (.ofString "/claim/cut.py") (483:Nat), .int (117:Int) (0:Nat), .int (4:Int) (0:Nat), .int (0:Int) (0:Nat), .int (0:Int) (0:Nat), .int (11:Int) (0:Nat), .ref (252:Nat), .bool .true, .int (181:Int) (0:Nat), .ref (253:Nat), .none, .ref (254:Nat), .ref (255:Nat), .ref (256:Nat), .int (491:Int) (0:Nat), .int (117:Int) (0:Nat), .str (.ofString "/claim/cut.py") (492:Nat)], #[]⟩
noncomputable abbrev o_11x258 (P : Params) : Obj := ⟨.type "function", none, .func ⟨.ofString "__new__", .ofString "EnumType.__new__", fnA (sd [10, 2]), .stmts (fnB (sd [10, 2])), fnS (sd [10, 2]), (3:Nat), [(.ofString "__class__", (246:Nat))], .none, .none, .none, .str (.ofString "enum") (248:Nat), none, .ref (257:Nat), .ref (251:Nat), (0:Nat)⟩, #[]⟩
noncomputable abbrev o_11x261 (P : Params) : Obj := ⟨.type "tuple", none, .seq #[.str (.ofString "cls") (497:Nat), .str (.ofString "own_init") (498:Nat), .str (.ofString "asks_new") (499:Nat)] (0:Nat), #[]⟩
noncomputable abbrev o_11x263 (P : Params) : Obj := ⟨.none, none, .func ⟨.ofString "_planted_", .ofString "EnumType._planted_", fnA (sd [10, 3]), .stmts (fnB (sd [10, 3])), fnS (sd [10, 3]), (0:Nat), [], .none, .none, .none, .none, none, .none, .none, (0:Nat)⟩, #[]⟩
noncomputable abbrev o_11x264 (P : Params) : Obj := ⟨.type "code", none, .fields #[.str (.ofString "_planted_") (494:Nat), .str (.ofString "EnumType._planted_") (495:Nat), .str (.ofString "/claim/cut.py") (496:Nat), .int (126:Int) (0:Nat), .int (3:Int) (0:Nat), .int (0:Int) (0:Nat), .int (0:Int) (0:Nat), .int (3:Int) (0:Nat), .ref (259:Nat), .bool .true, .int (181:Int) (0:Nat), .ref (260:Nat), .none, .ref (261:Nat), .ref (262:Nat), .ref (263:Nat), .int (500:Int) (0:Nat), .int (126:Int) (0:Nat), .str (.ofString "/claim/cut.py") (501:Nat)], #[]⟩
noncomputable abbrev o_11x265 (P : Params) : Obj := ⟨.type "function", none, .func ⟨.ofString "_planted_", .ofString "EnumType._planted_", fnA (sd [10, 3]), .stmts (fnB (sd [10, 3])), fnS (sd [10, 3]), (3:Nat), [], .none, .none, .none, .str (.ofString "enum") (248:Nat), none, .ref (264:Nat), .none, (0:Nat)⟩, #[]⟩
noncomputable abbrev o_11x268 (P : Params) : Obj := ⟨.type "tuple", none, .seq #[.str (.ofString "cls") (506:Nat)] (0:Nat), #[]⟩
noncomputable abbrev o_11x270 (P : Params) : Obj := ⟨.none, none, .func ⟨.ofString "_planted_at_", .ofString "EnumType._planted_at_", fnA (sd [10, 4]), .stmts (fnB (sd [10, 4])), fnS (sd [10, 4]), (0:Nat), [], .none, .none, .none, .none, none, .none, .none, (0:Nat)⟩, #[]⟩
noncomputable abbrev o_11x271 (P : Params) : Obj := ⟨.type "code", none, .fields #[.str (.ofString "_planted_at_") (503:Nat), .str (.ofString "EnumType._planted_at_") (504:Nat), .str (.ofString "/claim/cut.py") (505:Nat), .int (138:Int) (0:Nat), .int (1:Int) (0:Nat), .int (0:Int) (0:Nat), .int (0:Int) (0:Nat), .int (3:Int) (0:Nat), .ref (266:Nat), .bool .true, .int (181:Int) (0:Nat), .ref (267:Nat), .none, .ref (268:Nat), .ref (269:Nat), .ref (270:Nat), .int (507:Int) (0:Nat), .int (138:Int) (0:Nat), .str (.ofString "/claim/cut.py") (508:Nat)], #[]⟩
noncomputable abbrev o_11x272 (P : Params) : Obj := ⟨.type "function", none, .func ⟨.ofString "_planted_at_", .ofString "EnumType._planted_at_", fnA (sd [10, 4]), .stmts (fnB (sd [10, 4])), fnS (sd [10, 4]), (3:Nat), [], .none, .none, .none, .str (.ofString "enum") (248:Nat), none, .ref (271:Nat), .none, (0:Nat)⟩, #[]⟩
noncomputable abbrev o_11x275 (P : Params) : Obj := ⟨.type "tuple", none, .seq #[.str (.ofString "cls") (513:Nat), .str (.ofString "value") (514:Nat), .str (.ofString "name") (515:Nat), .str (.ofString "data") (516:Nat)] (0:Nat), #[]⟩
noncomputable abbrev o_11x277 (P : Params) : Obj := ⟨.none, none, .func ⟨.ofString "_held_value_", .ofString "EnumType._held_value_", fnA (sd [10, 5]), .stmts (fnB (sd [10, 5])), fnS (sd [10, 5]), (0:Nat), [], .none, .none, .none, .none, none, .none, .none, (0:Nat)⟩, #[]⟩
noncomputable abbrev o_11x278 (P : Params) : Obj := ⟨.type "code", none, .fields #[.str (.ofString "_held_value_") (510:Nat), .str (.ofString "EnumType._held_value_") (511:Nat), .str (.ofString "/claim/cut.py") (512:Nat), .int (141:Int) (0:Nat), .int (4:Int) (0:Nat), .int (0:Int) (0:Nat), .int (0:Int) (0:Nat), .int (3:Int) (0:Nat), .ref (273:Nat), .bool .true, .int (181:Int) (0:Nat), .ref (274:Nat), .none, .ref (275:Nat), .ref (276:Nat), .ref (277:Nat), .int (517:Int) (0:Nat), .int (141:Int) (0:Nat), .str (.ofString "/claim/cut.py") (518:Nat)], #[]⟩
noncomputable abbrev o_11x279 (P : Params) : Obj := ⟨.type "function", none, .func ⟨.ofString "_held_value_", .ofString "EnumType._held_value_", fnA (sd [10, 5]), .stmts (fnB (sd [10, 5])), fnS (sd [10, 5]), (3:Nat), [], .none, .none, .none, .str (.ofString "enum") (248:Nat), none, .ref (278:Nat), .none, (0:Nat)⟩, #[]⟩
noncomputable abbrev o_11x282 (P : Params) : Obj := ⟨.type "tuple", none, .seq #[.str (.ofString "cls") (523:Nat), .str (.ofString "value") (524:Nat), .str (.ofString "member") (525:Nat), .str (.ofString "name") (526:Nat)] (0:Nat), #[]⟩
noncomputable abbrev o_11x284 (P : Params) : Obj := ⟨.none, none, .func ⟨.ofString "_canonical_", .ofString "EnumType._canonical_", fnA (sd [10, 6]), .stmts (fnB (sd [10, 6])), fnS (sd [10, 6]), (0:Nat), [], .none, .none, .none, .none, none, .none, .none, (0:Nat)⟩, #[]⟩
noncomputable abbrev o_11x285 (P : Params) : Obj := ⟨.type "code", none, .fields #[.str (.ofString "_canonical_") (520:Nat), .str (.ofString "EnumType._canonical_") (521:Nat), .str (.ofString "/claim/cut.py") (522:Nat), .int (144:Int) (0:Nat), .int (4:Int) (0:Nat), .int (0:Int) (0:Nat), .int (0:Int) (0:Nat), .int (3:Int) (0:Nat), .ref (280:Nat), .bool .true, .int (181:Int) (0:Nat), .ref (281:Nat), .none, .ref (282:Nat), .ref (283:Nat), .ref (284:Nat), .int (527:Int) (0:Nat), .int (144:Int) (0:Nat), .str (.ofString "/claim/cut.py") (528:Nat)], #[]⟩
noncomputable abbrev o_11x286 (P : Params) : Obj := ⟨.type "function", none, .func ⟨.ofString "_canonical_", .ofString "EnumType._canonical_", fnA (sd [10, 6]), .stmts (fnB (sd [10, 6])), fnS (sd [10, 6]), (3:Nat), [], .none, .none, .none, .str (.ofString "enum") (248:Nat), none, .ref (285:Nat), .none, (0:Nat)⟩, #[]⟩
noncomputable abbrev o_11x289 (P : Params) : Obj := ⟨.type "tuple", none, .seq #[.str (.ofString "cls") (533:Nat), .str (.ofString "value") (534:Nat), .str (.ofString "member") (535:Nat), .str (.ofString "name") (536:Nat)] (0:Nat), #[]⟩
noncomputable abbrev o_11x291 (P : Params) : Obj := ⟨.none, none, .func ⟨.ofString "_book_value_", .ofString "EnumType._book_value_", fnA (sd [10, 7]), .stmts (fnB (sd [10, 7])), fnS (sd [10, 7]), (0:Nat), [], .none, .none, .none, .none, none, .none, .none, (0:Nat)⟩, #[]⟩
noncomputable abbrev o_11x292 (P : Params) : Obj := ⟨.type "code", none, .fields #[.str (.ofString "_book_value_") (530:Nat), .str (.ofString "EnumType._book_value_") (531:Nat), .str (.ofString "/claim/cut.py") (532:Nat), .int (147:Int) (0:Nat), .int (4:Int) (0:Nat), .int (0:Int) (0:Nat), .int (0:Int) (0:Nat), .int (3:Int) (0:Nat), .ref (287:Nat), .bool .true, .int (181:Int) (0:Nat), .ref (288:Nat), .none, .ref (289:Nat), .ref (290:Nat), .ref (291:Nat), .int (537:Int) (0:Nat), .int (147:Int) (0:Nat), .str (.ofString "/claim/cut.py") (538:Nat)], #[]⟩
noncomputable abbrev o_11x293 (P : Params) : Obj := ⟨.type "function", none, .func ⟨.ofString "_book_value_", .ofString "EnumType._book_value_", fnA (sd [10, 7]), .stmts (fnB (sd [10, 7])), fnS (sd [10, 7]), (3:Nat), [], .none, .none, .none, .str (.ofString "enum") (248:Nat), none, .ref (292:Nat), .none, (0:Nat)⟩, #[]⟩
noncomputable abbrev o_11x296 (P : Params) : Obj := ⟨.type "tuple", none, .seq #[.str (.ofString "cls") (543:Nat), .str (.ofString "mixins") (544:Nat)] (0:Nat), #[]⟩
noncomputable abbrev o_11x298 (P : Params) : Obj := ⟨.none, none, .func ⟨.ofString "_mixed_", .ofString "EnumType._mixed_", fnA (sd [10, 8]), .stmts (fnB (sd [10, 8])), fnS (sd [10, 8]), (0:Nat), [], .none, .none, .none, .none, none, .none, .none, (0:Nat)⟩, #[]⟩
noncomputable abbrev o_11x299 (P : Params) : Obj := ⟨.type "code", none, .fields #[.str (.ofString "_mixed_") (540:Nat), .str (.ofString "EnumType._mixed_") (541:Nat), .str (.ofString "/claim/cut.py") (542:Nat), .int (150:Int) (0:Nat), .int (2:Int) (0:Nat), .int (0:Int) (0:Nat), .int (0:Int) (0:Nat), .int (3:Int) (0:Nat), .ref (294:Nat), .bool .true, .int (181:Int) (0:Nat), .ref (295:Nat), .none, .ref (296:Nat), .ref (297:Nat), .ref (298:Nat), .int (545:Int) (0:Nat), .int (150:Int) (0:Nat), .str (.ofString "/claim/cut.py") (546:Nat)], #[]⟩
noncomputable abbrev o_11x300 (P : Params) : Obj := ⟨.type "function", none, .func ⟨.ofString "_mixed_", .ofString "EnumType._mixed_", fnA (sd [10, 8]), .stmts (fnB (sd [10, 8])), fnS (sd [10, 8]), (3:Nat), [], .none, .none, .none, .str (.ofString "enum") (248:Nat), none, .ref (299:Nat), .none, (0:Nat)⟩, #[]⟩
noncomputable abbrev o_11x303 (P : Params) : Obj := ⟨.type "tuple", none, .seq #[.str (.ofString "cls") (551:Nat), .str (.ofString "value") (552:Nat), .str (.ofString "maker") (553:Nat)] (0:Nat), #[]⟩
noncomputable abbrev o_11x305 (P : Params) : Obj := ⟨.none, none, .func ⟨.ofString "_held_def_", .ofString "EnumType._held_def_", fnA (sd [10, 9]), .stmts (fnB (sd [10, 9])), fnS (sd [10, 9]), (0:Nat), [], .none, .none, .none, .none, none, .none, .none, (0:Nat)⟩, #[]⟩
noncomputable abbrev o_11x306 (P : Params) : Obj := ⟨.type "code", none, .fields #[.str (.ofString "_held_def_") (548:Nat), .str (.ofString "EnumType._held_def_") (549:Nat), .str (.ofString "/claim/cut.py") (550:Nat), .int (153:Int) (0:Nat), .int (3:Int) (0:Nat), .int (0:Int) (0:Nat), .int (0:Int) (0:Nat), .int (3:Int) (0:Nat), .ref (301:Nat), .bool .true, .int (181:Int) (0:Nat), .ref (302:Nat), .none, .ref (303:Nat), .ref (304:Nat), .ref (305:Nat), .int (554:Int) (0:Nat), .int (153:Int) (0:Nat), .str (.ofString "/claim/cut.py") (555:Nat)], #[]⟩
noncomputable abbrev o_11x307 (P : Params) : Obj := ⟨.type "function", none, .func ⟨.ofString "_held_def_", .ofString "EnumType._held_def_", fnA (sd [10, 9]), .stmts (fnB (sd [10, 9])), fnS (sd [10, 9]), (3:Nat), [], .none, .none, .none, .str (.ofString "enum") (248:Nat), none, .ref (306:Nat), .none, (0:Nat)⟩, #[]⟩
noncomputable abbrev o_11x310 (P : Params) : Obj := ⟨.type "tuple", none, .seq #[.str (.ofString "cls") (560:Nat)] (0:Nat), #[]⟩
noncomputable abbrev o_11x312 (P : Params) : Obj := ⟨.none, none, .func ⟨.ofString "_closed_", .ofString "EnumType._closed_", fnA (sd [10, 10]), .stmts (fnB (sd [10, 10])), fnS (sd [10, 10]), (0:Nat), [], .none, .none, .none, .none, none, .none, .none, (0:Nat)⟩, #[]⟩
noncomputable abbrev o_11x313 (P : Params) : Obj := ⟨.type "code", none, .fields #[.str (.ofString "_closed_") (557:Nat), .str (.ofString "EnumType._closed_") (558:Nat), .str (.ofString "/claim/cut.py") (559:Nat), .int (156:Int) (0:Nat), .int (1:Int) (0:Nat), .int (0:Int) (0:Nat), .int (0:Int) (0:Nat), .int (3:Int) (0:Nat), .ref (308:Nat), .bool .true, .int (181:Int) (0:Nat), .ref (309:Nat), .none, .ref (310:Nat), .ref (311:Nat), .ref (312:Nat), .int (561:Int) (0:Nat), .int (156:Int) (0:Nat), .str (.ofString "/claim/cut.py") (562:Nat)], #[]⟩
noncomputable abbrev o_11x314 (P : Params) : Obj := ⟨.type "function", none, .func ⟨.ofString "_closed_", .ofString "EnumType._closed_", fnA (sd [10, 10]), .stmts (fnB (sd [10, 10])), fnS (sd [10, 10]), (3:Nat), [], .none, .none, .none, .str (.ofString "enum") (248:Nat), none, .ref (313:Nat), .none, (0:Nat)⟩, #[]⟩
noncomputable abbrev o_11x317 (P : Params) : Obj := ⟨.type "tuple", none, .seq #[.str (.ofString "cls") (567:Nat), .str (.ofString "value") (568:Nat), .str (.ofString "data") (569:Nat)] (0:Nat), #[]⟩
noncomputable abbrev o_11x319 (P : Params) : Obj := ⟨.none, none, .func ⟨.ofString "_held_auto_", .ofString "EnumType._held_auto_", fnA (sd [10, 11]), .stmts (fnB (sd [10, 11])), fnS (sd [10, 11]), (0:Nat), [], .none, .none, .none, .none, none, .none, .none, (0:Nat)⟩, #[]⟩
noncomputable abbrev o_11x320 (P : Params) : Obj := ⟨.type "code", none, .fields #[.str (.ofString "_held_auto_") (564:Nat), .str (.ofString "EnumType._held_auto_") (565:Nat), .str (.ofString "/claim/cut.py") (566:Nat), .int (159:Int) (0:Nat), .int (3:Int) (0:Nat), .int (0:Int) (0:Nat), .int (0:Int) (0:Nat), .int (3:Int) (0:Nat), .ref (315:Nat), .bool .true, .int (181:Int) (0:Nat), .ref (316:Nat), .none, .ref (317:Nat), .ref (318:Nat), .ref (319:Nat), .int (570:Int) (0:Nat), .int (159:Int) (0:Nat), .str (.ofString "/claim/cut.py") (571:Nat)], #[]⟩
noncomputable abbrev o_11x321 (P : Params) : Obj := ⟨.type "function", none, .func ⟨.ofString "_held_auto_", .ofString "EnumType._held_auto_", fnA (sd [10, 11]), .stmts (fnB (sd [10, 11])), fnS (sd [10, 11]), (3:Nat), [], .none, .none, .none, .str (.ofString "enum") (248:Nat), none, .ref (320:Nat), .none, (0:Nat)⟩, #[]⟩
noncomputable abbrev o_11x324 (P : Params) : Obj := ⟨.type "tuple", none, .seq #[.str (.ofString "cls") (576:Nat)] (0:Nat), #[]⟩
noncomputable abbrev o_11x326 (P : Params) : Obj := ⟨.none, none, .func ⟨.ofString "_unique_", .ofString "EnumType._unique_", fnA (sd [10, 12]), .stmts (fnB (sd [10, 12])), fnS (sd [10, 12]), (0:Nat), [], .none, .none, .none, .none, none, .none, .none, (0:Nat)⟩, #[]⟩
noncomputable abbrev o_11x327 (P : Params) : Obj := ⟨.type "code", none, .fields #[.str (.ofString "_unique_") (573:Nat), .str (.ofString "EnumType._unique_") (574:Nat), .str (.ofString "/claim/cut.py") (575:Nat), .int (162:Int) (0:Nat), .int (1:Int) (0:Nat), .int (0:Int) (0:Nat), .int (0:Int) (0:Nat), .int (3:Int) (0:Nat), .ref (322:Nat), .bool .true, .int (181:Int) (0:Nat), .ref (323:Nat), .none, .ref (324:Nat), .ref (325:Nat), .ref (326:Nat), .int (577:Int) (0:Nat), .int (162:Int) (0:Nat), .str (.ofString "/claim/cut.py") (578:Nat)], #[]⟩
noncomputable abbrev o_11x328 (P : Params) : Obj := ⟨.type "function", none, .func ⟨.ofString "_unique_", .ofString "EnumType._unique_", fnA (sd [10, 12]), .stmts (fnB (sd [10, 12])), fnS (sd [10, 12]), (3:Nat), [], .none, .none, .none, .str (.ofString "enum") (248:Nat), none, .ref (327:Nat), .none, (0:Nat)⟩, #[]⟩
noncomputable abbrev o_11x331 (P : Params) : Obj := ⟨.type "tuple", none, .seq #[.str (.ofString "cls") (583:Nat)] (0:Nat), #[]⟩
noncomputable abbrev o_11x333 (P : Params) : Obj := ⟨.none, none, .func ⟨.ofString "_close_", .ofString "EnumType._close_", fnA (sd [10, 13]), .stmts (fnB (sd [10, 13])), fnS (sd [10, 13]), (0:Nat), [], .none, .none, .none, .none, none, .none, .none, (0:Nat)⟩, #[]⟩
noncomputable abbrev o_11x334 (P : Params) : Obj := ⟨.type "code", none, .fields #[.str (.ofString "_close_") (580:Nat), .str (.ofString "EnumType._close_") (581:Nat), .str (.ofString "/claim/cut.py") (582:Nat), .int (165:Int) (0:Nat), .int (1:Int) (0:Nat), .int (0:Int) (0:Nat), .int (0:Int) (0:Nat), .int (3:Int) (0:Nat), .ref (329:Nat), .bool .true, .int (181:Int) (0:Nat), .ref (330:Nat), .none, .ref (331:Nat), .ref (332:Nat), .ref (333:Nat), .int (584:Int) (0:Nat), .int (165:Int) (0:Nat), .str (.ofString "/claim/cut.py") (585:Nat)], #[]⟩
noncomputable abbrev o_11x335 (P : Params) : Obj := ⟨.type "function", none, .func ⟨.ofString "_close_", .ofString "EnumType._close_", fnA (sd [10, 13]), .stmts (fnB (sd [10, 13])), fnS (sd [10, 13]), (3:Nat), [], .none, .none, .none, .str (.ofString "enum") (248:Nat), none, .ref (334:Nat), .none, (0:Nat)⟩, #[]⟩
noncomputable abbrev o_11x338 (P : Params) : Obj := ⟨.type "tuple", none, .seq #[.str (.ofString "cls") (590:Nat), .str (.ofString "names") (591:Nat)] (0:Nat), #[]⟩
noncomputable abbrev o_11x340 (P : Params) : Obj := ⟨.none, none, .func ⟨.ofString "_expect_", .ofString "EnumType._expect_", fnA (sd [10, 14]), .stmts (fnB (sd [10, 14])), fnS (sd [10, 14]), (0:Nat), [], .none, .none, .none, .none, none, .none, .none, (0:Nat)⟩, #[]⟩
noncomputable abbrev o_11x341 (P : Params) : Obj := ⟨.type "code", none, .fields #[.str (.ofString "_expect_") (587:Nat), .str (.ofString "EnumType._expect_") (588:Nat), .str (.ofString "/claim/cut.py") (589:Nat), .int (168:Int) (0:Nat), .int (2:Int) (0:Nat), .int (0:Int) (0:Nat), .int (0:Int) (0:Nat), .int (3:Int) (0:Nat), .ref (336:Nat), .bool .true, .int (181:Int) (0:Nat), .ref (337:Nat), .none, .ref (338:Nat), .ref (339:Nat), .ref (340:Nat), .int (592:Int) (0:Nat), .int (168:Int) (0:Nat), .str (.ofString "/claim/cut.py") (593:Nat)], #[]⟩
noncomputable abbrev o_11x342 (P : Params) : Obj := ⟨.type "function", none, .func ⟨.ofString "_expect_", .ofString "EnumType._expect_", fnA (sd [10, 14]), .stmts (fnB (sd [10, 14])), fnS (sd [10, 14]), (3:Nat), [], .none, .none, .none, .str (.ofString "enum") (248:Nat), none, .ref (341:Nat), .none, (0:Nat)⟩, #[]⟩
noncomputable abbrev o_11x345 (P : Params) : Obj := ⟨.type "tuple", none, .seq #[.str (.ofString "cls") (598:Nat), .str (.ofString "data") (599:Nat), .str (.ofString "args") (600:Nat)] (0:Nat), #[]⟩
noncomputable abbrev o_11x347 (P : Params) : Obj := ⟨.none, none, .func ⟨.ofString "_value_of_", .ofString "EnumType._value_of_", fnA (sd [10, 15]), .stmts (fnB (sd [10, 15])), fnS (sd [10, 15]), (0:Nat), [], .none, .none, .none, .none, none, .none, .none, (0:Nat)⟩, #[]⟩
noncomputable abbrev o_11x348 (P : Params) : Obj := ⟨.type "code", none, .fields #[.str (.ofString "_value_of_") (595:Nat), .str (.ofString "EnumType._value_of_") (596:Nat), .str (.ofString "/claim/cut.py") (597:Nat), .int (171:Int) (0:Nat), .int (3:Int) (0:Nat), .int (0:Int) (0:Nat), .int (0:Int) (0:Nat), .int (3:Int) (0:Nat), .ref (343:Nat), .bool .true, .int (181:Int) (0:Nat), .ref (344:Nat), .none, .ref (345:Nat), .ref (346:Nat), .ref (347:Nat), .int (601:Int) (0:Nat), .int (171:Int) (0:Nat), .str (.ofString "/claim/cut.py") (602:Nat)], #[]⟩
noncomputable abbrev o_11x349 (P : Params) : Obj := ⟨.type "function", none, .func ⟨.ofString "_value_of_", .ofString "EnumType._value_of_", fnA (sd [10, 15]), .stmts (fnB (sd [10, 15])), fnS (sd [10, 15]), (3:Nat), [], .none, .none, .none, .str (.ofString "enum") (248:Nat), none, .ref (348:Nat), .none, (0:Nat)⟩, #[]⟩
noncomputable abbrev o_11x352 (P : Params) : Obj := ⟨.type "tuple", none, .seq #[.str (.ofString "cls") (607:Nat), .str (.ofString "value") (608:Nat)] (0:Nat), #[]⟩
noncomputable abbrev o_11x354 (P : Params) : Obj := ⟨.none, none, .func ⟨.ofString "_args_of_", .ofString "EnumType._args_of_", fnA (sd [10, 16]), .stmts (fnB (sd [10, 16])), fnS (sd [10, 16]), (0:Nat), [], .none, .none, .none, .none, none, .none, .none, (0:Nat)⟩, #[]⟩
noncomputable abbrev o_11x355 (P : Params) : Obj := ⟨.type "code", none, .fields #[.str (.ofString "_args_of_") (604:Nat), .str (.ofString "EnumType._args_of_") (605:Nat), .str (.ofString "/claim/cut.py") (606:Nat), .int (174:Int) (0:Nat), .int (2:Int) (0:Nat), .int (0:Int) (0:Nat), .int (0:Int) (0:Nat), .int (3:Int) (0:Nat), .ref (350:Nat), .bool .true, .int (181:Int) (0:Nat), .ref (351:Nat), .none, .ref (352:Nat), .ref (353:Nat), .ref (354:Nat), .int (609:Int) (0:Nat), .int (174:Int) (0:Nat), .str (.ofString "/claim/cut.py") (610:Nat)], #[]⟩
noncomputable abbrev o_11x356 (P : Params) : Obj := ⟨.type "function", none, .func ⟨.ofString "_args_of_", .ofString "EnumType._args_of_", fnA (sd [10, 16]), .stmts (fnB (sd [10, 16])), fnS (sd [10, 16]), (3:Nat), [], .none, .none, .none, .str (.ofString "enum") (248:Nat), none, .ref (355:Nat), .none, (0:Nat)⟩, #[]⟩
noncomputable abbrev o_11x359 (P : Params) : Obj := ⟨.type "tuple", none, .seq #[.str (.ofString "cls") (615:Nat)] (0:Nat), #[]⟩
noncomputable abbrev o_11x361 (P : Params) : Obj := ⟨.none, none, .func ⟨.ofString "__bool__", .ofString "EnumType.__bool__", fnA (sd [10, 17]), .stmts (fnB (sd [10, 17])), fnS (sd [10, 17]), (0:Nat), [], .none, .none, .none, .none, none, .none, .none, (0:Nat)⟩, #[]⟩
noncomputable abbrev o_11x362 (P : Params) : Obj := ⟨.type "code", none, .fields #[.str (.ofString "__bool__") (612:Nat), .str (.ofString "EnumType.__bool__") (613:Nat), .str (.ofString "/claim/cut.py") (614:Nat), .int (177:Int) (0:Nat), .int (1:Int) (0:Nat), .int (0:Int) (0:Nat), .int (0:Int) (0:Nat), .int (3:Int) (0:Nat), .ref (357:Nat), .bool .true, .int (181:Int) (0:Nat), .ref (358:Nat), .none, .ref (359:Nat), .ref (360:Nat), .ref (361:Nat), .int (616:Int) (0:Nat), .int (177:Int) (0:Nat), .str (.ofString "/claim/cut.py") (617:Nat)], #[]⟩
noncomputable abbrev o_11x363 (P : Params) : Obj := ⟨.type "function", none, .func ⟨.ofString "__bool__", .ofString "EnumType.__bool__", fnA (sd [10, 17]), .stmts (fnB (sd [10, 17])), fnS (sd [10, 17]), (3:Nat), [], .none, .none, .none, .str (.ofString "enum") (248:Nat), none, .ref (362:Nat), .none, (0:Nat)⟩, #[]⟩
noncomputable abbrev o_11x366 (P : Params) : Obj := ⟨.type "tuple", none, .seq #[.str (.ofString "cls") (622:Nat), .str (.ofString "values") (623:Nat), .str (.ofString "kwds") (624:Nat)] (0:Nat), #[]⟩
noncomputable abbrev o_11x368 (P : Params) : Obj := ⟨.none, none, .func ⟨.ofString "__call__", .ofString "EnumType.__call__", fnA (sd [10, 18]), .stmts (fnB (sd [10, 18])), fnS (sd [10, 18]), (0:Nat), [], .none, .none, .none, .none, none, .none, .none, (0:Nat)⟩, #[]⟩
noncomputable abbrev o_11x369 (P : Params) : Obj := ⟨.type "code", none, .fields #[.str (.ofString "__call__") (619:Nat), .str (.ofString "EnumType.__call__") (620:Nat), .str (.ofString "/claim/cut.py") (621:Nat), .int (180:Int) (0:Nat), .int (1:Int) (0:Nat), .int (0:Int) (0:Nat), .int (0:Int) (0:Nat), .int (15:Int) (0:Nat), .ref (364:Nat), .bool .true, .int (181:Int) (0:Nat), .ref (365:Nat), .none, .ref (366:Nat), .ref (367:Nat), .ref (368:Nat), .int (625:Int) (0:Nat), .int (180:Int) (0:Nat), .str (.ofString "/claim/cut.py") (626:Nat)], #[]⟩
noncomputable abbrev o_11x370 (P : Params) : Obj := ⟨.type "function", none, .func ⟨.ofString "__call__", .ofString "EnumType.__call__", fnA (sd [10, 18]), .stmts (fnB (sd [10, 18])), fnS (sd [10, 18]), (3:Nat), [], .none, .none, .none, .str (.ofString "enum") (248:Nat), none, .ref (369:Nat), .none, (0:Nat)⟩, #[]⟩
noncomputable abbrev o_11x373 (P : Params) : Obj := ⟨.type "tuple", none, .seq #[.str (.ofString "cls") (631:Nat), .str (.ofString "value") (632:Nat), .str (.ofString "result") (633:Nat)] (0:Nat), #[]⟩
noncomputable abbrev o_11x375 (P : Params) : Obj := ⟨.none, none, .func ⟨.ofString "__contains__", .ofString "EnumType.__contains__", fnA (sd [10, 19]), .stmts (fnB (sd [10, 19])), fnS (sd [10, 19]), (0:Nat), [], .none, .none, .none, .none, none, .none, .none, (0:Nat)⟩, #[]⟩
noncomputable abbrev o_11x376 (P : Params) : Obj := ⟨.type "code", none, .fields #[.str (.ofString "__contains__") (628:Nat), .str (.ofString "EnumType.__contains__") (629:Nat), .str (.ofString "/claim/cut.py") (630:Nat), .int (193:Int) (0:Nat), .int (2:Int) (0:Nat), .int (0:Int) (0:Nat), .int (0:Int) (0:Nat), .int (3:Int) (0:Nat), .ref (371:Nat), .bool .true, .int (181:Int) (0:Nat), .ref (372:Nat), .none, .ref (373:Nat), .ref (374:Nat), .ref (375:Nat), .int (634:Int) (0:Nat), .int (193:Int) (0:Nat), .str (.ofString "/claim/cut.py") (635:Nat)], #[]⟩
noncomputable abbrev o_11x377 (P : Params) : Obj := ⟨.type "function", none, .func ⟨.ofString "__contains__", .ofString "EnumType.__contains__", fnA (sd [10, 19]), .stmts (fnB (sd [10, 19])), fnS (sd [10, 19]), (3:Nat), [], .none, .none, .none, .str (.ofString "enum") (248:Nat), none, .ref (376:Nat), .none, (0:Nat)⟩, #[]⟩
noncomputable abbrev o_11x380 (P : Params) : Obj := ⟨.type "tuple", none, .seq #[.str (.ofString "cls") (640:Nat), .str (.ofString "name") (641:Nat)] (0:Nat), #[]⟩
noncomputable abbrev o_11x382 (P : Params) : Obj := ⟨.none, none, .func ⟨.ofString "__getitem__", .ofString "EnumType.__getitem__", fnA (sd [10, 20]), .stmts (fnB (sd [10, 20])), fnS (sd [10, 20]), (0:Nat), [], .none, .none, .none, .none, none, .none, .none, (0:Nat)⟩, #[]⟩
noncomputable abbrev o_11x383 (P : Params) : Obj := ⟨.type "code", none, .fields #[.str (.ofString "__getitem__") (637:Nat), .str (.ofString "EnumType.__getitem__") (638:Nat), .str (.ofString "/claim/cut.py") (639:Nat), .int (204:Int) (0:Nat), .int (2:Int) (0:Nat), .int (0:Int) (0:Nat), .int (0:Int) (0:Nat), .int (3:Int) (0:Nat), .ref (378:Nat), .bool .true, .int (181:Int) (0:Nat), .ref (379:Nat), .none, .ref (380:Nat), .ref (381:Nat), .ref (382:Nat), .int (642:Int) (0:Nat), .int (204:Int) (0:Nat), .str (.ofString "/claim/cut.py") (643:Nat)], #[]⟩
noncomputable abbrev o_11x384 (P : Params) : Obj := ⟨.type "function", none, .func ⟨.ofString "__getitem__", .ofString "EnumType.__getitem__", fnA (sd [10, 20]), .stmts (fnB (sd [10, 20])), fnS (sd [10, 20]), (3:Nat), [], .none, .none, .none, .str (.ofString "enum") (248:Nat), none, .ref (383:Nat), .none, (0:Nat)⟩, #[]⟩
noncomputable abbrev o_11x387 (P : Params) : Obj := ⟨.type "tuple", none, .seq #[.str (.ofString "cls") (648:Nat)] (0:Nat), #[]⟩
noncomputable abbrev o_11x388 (P : Params) : Obj := ⟨.type "tuple", none, .seq #[.str (.ofString "cls") (649:Nat)] (0:Nat), #[]⟩
noncomputable abbrev o_11x389 (P : Params) : Obj := ⟨.none, none, .func ⟨.ofString "__iter__", .ofString "EnumType.__iter__", fnA (sd [10, 21]), .stmts (fnB (sd [10, 21])), fnS (sd [10, 21]), (0:Nat), [], .none, .none, .none, .none, none, .none, .none, (0:Nat)⟩, #[]⟩
noncomputable abbrev o_11x390 (P : Params) : Obj := ⟨.type "code", none, .fields #[.str (.ofString "__iter__") (645:Nat), .str (.ofString "EnumType.__iter__") (646:Nat), .str (.ofString "/claim/cut.py") (647:Nat), .int (207:Int) (0:Nat), .int (1:Int) (0:Nat), .int (0:Int) (0:Nat), .int (0:Int) (0:Nat), .int (3:Int) (0:Nat), .ref (385:Nat), .bool .true, .int (181:Int) (0:Nat), .ref (386:Nat), .none, .ref (387:Nat), .ref (388:Nat), .ref (389:Nat), .int (650:Int) (0:Nat), .int (207:Int) (0:Nat), .str (.ofString "/claim/cut.py") (651:Nat)], #[]⟩
noncomputable abbrev o_11x391 (P : Params) : Obj := ⟨.type "function", none, .func ⟨.ofString "__iter__", .ofString "EnumType.__iter__", fnA (sd [10, 21]), .stmts (fnB (sd [10, 21])), fnS (sd [10, 21]), (3:Nat), [], .none, .none, .none, .str (.ofString "enum") (248:Nat), none, .ref (390:Nat), .none, (0:Nat)⟩, #[]⟩
noncomputable abbrev o_11x394 (P : Params) : Obj := ⟨.type "tuple", none, .seq #[.str (.ofString "cls") (656:Nat)] (0:Nat), #[]⟩
noncomputable abbrev o_11x396 (P : Params) : Obj := ⟨.none, none, .func ⟨.ofString "__len__", .ofString "EnumType.__len__", fnA (sd [10, 22]), .stmts (fnB (sd [10, 22])), fnS (sd [10, 22]), (0:Nat), [], .none, .none, .none, .none, none, .none, .none, (0:Nat)⟩, #[]⟩
noncomputable abbrev o_11x397 (P : Params) : Obj := ⟨.type "code", none, .fields #[.str (.ofString "__len__") (653:Nat), .str (.ofString "EnumType.__len__") (654:Nat), .str (.ofString "/claim/cut.py") (655:Nat), .int (210:Int) (0:Nat), .int (1:Int) (0:Nat), .int (0:Int) (0:Nat), .int (0:Int) (0:Nat), .int (3:Int) (0:Nat), .ref (392:Nat), .bool .true, .int (181:Int) (0:Nat), .ref (393:Nat), .none, .ref (394:Nat), .ref (395:Nat), .ref (396:Nat), .int (657:Int) (0:Nat), .int (210:Int) (0:Nat), .str (.ofString "/claim/cut.py") (658:Nat)], #[]⟩
noncomputable abbrev o_11x398 (P : Params) : Obj := ⟨.type "function", none, .func ⟨.ofString "__len__", .ofString "EnumType.__len__", fnA (sd [10, 22]), .stmts (fnB (sd [10, 22])), fnS (sd [10, 22]), (3:Nat), [], .none, .none, .none, .str (.ofString "enum") (248:Nat), none, .ref (397:Nat), .none, (0:Nat)⟩, #[]⟩
noncomputable abbrev o_11x401 (P : Params) : Obj := ⟨.type "tuple", none, .seq #[.str (.ofString "cls") (663:Nat)] (0:Nat), #[]⟩
noncomputable abbrev o_11x403 (P : Params) : Obj := ⟨.none, none, .func ⟨.ofString "__members__", .ofString "EnumType.__members__", fnA (sd [10, 23]), .stmts (fnB (sd [10, 23])), fnS (sd [10, 23]), (0:Nat), [], .none, .none, .none, .none, none, .none, .none, (0:Nat)⟩, #[]⟩
noncomputable abbrev o_11x404 (P : Params) : Obj := ⟨.type "code", none, .fields #[.str (.ofString "__members__") (660:Nat), .str (.ofString "EnumType.__members__") (661:Nat), .str (.ofString "/claim/cut.py") (662:Nat), .int (213:Int) (0:Nat), .int (1:Int) (0:Nat), .int (0:Int) (0:Nat), .int (0:Int) (0:Nat), .int (3:Int) (0:Nat), .ref (399:Nat), .bool .true, .int (181:Int) (0:Nat), .ref (400:Nat), .none, .ref (401:Nat), .ref (402:Nat), .ref (403:Nat), .int (664:Int) (0:Nat), .int (213:Int) (0:Nat), .str (.ofString "/claim/cut.py") (665:Nat)], #[]⟩
noncomputable abbrev o_11x405 (P : Params) : Obj := ⟨.type "function", none, .func ⟨.ofString "__members__", .ofString "EnumType.__members__", fnA (sd [10, 23]), .stmts (fnB (sd [10, 23])), fnS (sd [10, 23]), (3:Nat), [], .none, .none, .none, .str (.ofString "enum") (248:Nat), none, .ref (404:Nat), .none, (0:Nat)⟩, #[]⟩
noncomputable abbrev o_11x406 (P : Params) : Obj := ⟨.type "property", none, .fields #[.ref (405:Nat), .none, .none, .none, .str (.ofString "__members__") (667:Nat), .bool .false], #[]⟩
noncomputable abbrev o_11x409 (P : Params) : Obj := ⟨.type "tuple", none, .seq #[.str (.ofString "cls") (671:Nat)] (0:Nat), #[]⟩
noncomputable abbrev o_11x411 (P : Params) : Obj := ⟨.none, none, .func ⟨.ofString "__repr__", .ofString "EnumType.__repr__", fnA (sd [10, 24]), .stmts (fnB (sd [10, 24])), fnS (sd [10, 24]), (0:Nat), [], .none, .none, .none, .none, none, .none, .none, (0:Nat)⟩, #[]⟩
noncomputable abbrev o_11x412 (P : Params) : Obj := ⟨.type "code", none, .fields #[.str (.ofString "__repr__") (668:Nat), .str (.ofString "EnumType.__repr__") (669:Nat), .str (.ofString "/claim/cut.py") (670:Nat), .int (217:Int) (0:Nat), .int (1:Int) (0:Nat), .int (0:Int) (0:Nat), .int (0:Int) (0:Nat), .int (3:Int) (0:Nat), .ref (407:Nat), .bool .true, .int (181:Int) (0:Nat), .ref (408:Nat), .none, .ref (409:Nat), .ref (410:Nat), .ref (411:Nat), .int (672:Int) (0:Nat), .int (217:Int) (0:Nat), .str (.ofString "/claim/cut.py") (673:Nat)], #[]⟩
noncomputable abbrev o_11x413 (P : Params) : Obj := ⟨.type "function", none, .func ⟨.ofString "__repr__", .ofString "EnumType.__repr__", fnA (sd [10, 24]), .stmts (fnB (sd [10, 24])), fnS (sd [10, 24]), (3:Nat), [], .none, .none, .none, .str (.ofString "enum") (248:Nat), none, .ref (412:Nat), .none, (0:Nat)⟩, #[]⟩
noncomputable abbrev o_11x416 (P : Params) : Obj := ⟨.type "tuple", none, .seq #[.str (.ofString "cls") (678:Nat)] (0:Nat), #[]⟩
noncomputable abbrev o_11x417 (P : Params) : Obj := ⟨.type "tuple", none, .seq #[.str (.ofString "cls") (679:Nat)] (0:Nat), #[]⟩
noncomputable abbrev o_11x418 (P : Params) : Obj := ⟨.none, none, .func ⟨.ofString "__reversed__", .ofString "EnumType.__reversed__", fnA (sd [10, 25]), .stmts (fnB (sd [10, 25])), fnS (sd [10, 25]), (0:Nat), [], .none, .none, .none, .none, none, .none, .none, (0:Nat)⟩, #[]⟩
noncomputable abbrev o_11x419 (P : Params) : Obj := ⟨.type "code", none, .fields #[.str (.ofString "__reversed__") (675:Nat), .str (.ofString "EnumType.__reversed__") (676:Nat), .str (.ofString "/claim/cut.py") (677:Nat), .int (223:Int) (0:Nat), .int (1:Int) (0:Nat), .int (0:Int) (0:Nat), .int (0:Int) (0:Nat), .int (3:Int) (0:Nat), .ref (414:Nat), .bool .true, .int (181:Int) (0:Nat), .ref (415:Nat), .none, .ref (416:Nat), .ref (417:Nat), .ref (418:Nat), .int (680:Int) (0:Nat), .int (223:Int) (0:Nat), .str (.ofString "/claim/cut.py") (681:Nat)], #[]⟩
noncomputable abbrev o_11x420 (P : Params) : Obj := ⟨.type "function", none, .func ⟨.ofString "__reversed__", .ofString "EnumType.__reversed__", fnA (sd [10, 25]), .stmts (fnB (sd [10, 25])), fnS (sd [10, 25]), (3:Nat), [], .none, .none, .none, .str (.ofString "enum") (248:Nat), none, .ref (419:Nat), .none, (0:Nat)⟩, #[]⟩
noncomputable abbrev o_11x422 (P : Params) : Obj := ⟨.type "tuple", none, .seq #[.str (.ofString "__class__") (686:Nat)] (0:Nat), #[]⟩
noncomputable abbrev o_11x424 (P : Params) : Obj := ⟨.type "tuple", none, .seq #[.str (.ofString "cls") (687:Nat), .str (.ofString "name") (688:Nat), .str (.ofString "value") (689:Nat)] (0:Nat), #[]⟩
noncomputable abbrev o_11x426 (P : Params) : Obj := ⟨.none, none, .func ⟨.ofString "__setattr__", .ofString "EnumType.__setattr__", fnA (sd [10, 26]), .stmts (fnB (sd [10, 26])), fnS (sd [10, 26]), (0:Nat), [], .none, .none, .none, .none, none, .none, .none, (0:Nat)⟩, #[]⟩
noncomputable abbrev o_11x427 (P : Params) : Obj := ⟨.type "code", none, .fields #[.str (.ofString "__setattr__") (683:Nat), .str (.ofString "EnumType.__setattr__") (684:Nat), .str (.ofString "/claim/cut.py") (685:Nat), .int (226:Int) (0:Nat), .int (3:Int) (0:Nat), .int (0:Int) (0:Nat), .int (0:Int) (0:Nat), .int (3:Int) (0:Nat), .ref (422:Nat), .bool .true, .int (181:Int) (0:Nat), .ref (423:Nat), .none, .ref (424:Nat), .ref (425:Nat), .ref (426:Nat), .int (690:Int) (0:Nat), .int (226:Int) (0:Nat), .str (.ofString "/claim/cut.py") (691:Nat)], #[]⟩
noncomputable abbrev o_11x428 (P : Params) : Obj := ⟨.type "function", none, .func ⟨.ofString "__setattr__", .ofString "EnumType.__setattr__", fnA (sd [10, 26]), .stmts (fnB (sd [10, 26])), fnS (sd [10, 26]), (3:Nat), [(.ofString "__class__", (246:Nat))], .none, .none, .none, .str (.ofString "enum") (248:Nat), none, .ref (427:Nat), .ref (421:Nat), (0:Nat)⟩, #[]⟩
noncomputable abbrev o_11x430 (P : Params) : Obj := ⟨.type "tuple", none, .seq #[.str (.ofString "__class__") (696:Nat)] (0:Nat), #[]⟩
noncomputable abbrev o_11x432 (P : Params) : Obj := ⟨.type "tuple", none, .seq #[.str (.ofString "cls") (697:Nat), .str (.ofString "attr") (698:Nat)] (0:Nat), #[]⟩
noncomputable abbrev o_11x434 (P : Params) : Obj := ⟨.none, none, .func ⟨.ofString "__delattr__", .ofString "EnumType.__delattr__", fnA (sd [10, 27]), .stmts (fnB (sd [10, 27])), fnS (sd [10, 27]), (0:Nat), [], .none, .none, .none, .none, none, .none, .none, (0:Nat)⟩, #[]⟩
noncomputable abbrev o_11x435 (P : Params) : Obj := ⟨.type "code", none, .fields #[.str (.ofString "__delattr__") (693:Nat), .str (.ofString "EnumType.__delattr__") (694:Nat), .str (.ofString "/claim/cut.py") (695:Nat), .int (233:Int) (0:Nat), .int (2:Int) (0:Nat), .int (0:Int) (0:Nat), .int (0:Int) (0:Nat), .int (3:Int) (0:Nat), .ref (430:Nat), .bool .true, .int (181:Int) (0:Nat), .ref (431:Nat), .none, .ref (432:Nat), .ref (433:Nat), .ref (434:Nat), .int (699:Int) (0:Nat), .int (233:Int) (0:Nat), .str (.ofString "/claim/cut.py") (700:Nat)], #[]⟩
noncomputable abbrev o_11x436 (P : Params) : Obj := ⟨.type "function", none, .func ⟨.ofString "__delattr__", .ofString "EnumType.__delattr__", fnA (sd [10, 27]), .stmts (fnB (sd [10, 27])), fnS (sd [10, 27]), (3:Nat), [(.ofString "__class__", (246:Nat))], .none, .none, .none, .str (.ofString "enum") (248:Nat), none, .ref (435:Nat), .ref (429:Nat), (0:Nat)⟩, #[]⟩
noncomputable abbrev o_11x438 (P : Params) : Obj := ⟨.type "tuple", none, .seq #[.str (.ofString "__class__") (705:Nat)] (0:Nat), #[]⟩
noncomputable abbrev o_11x440 (P : Params) : Obj := ⟨.type "tuple", none, .seq #[.str (.ofString "cls") (706:Nat), .str (.ofString "name") (707:Nat), .str (.ofString "value") (708:Nat)] (0:Nat), #[]⟩
noncomputable abbrev o_11x442 (P : Params) : Obj := ⟨.none, none, .func ⟨.ofString "_store_", .ofString "EnumType._store_", fnA (sd [10, 28]), .stmts (fnB (sd [10, 28])), fnS (sd [10, 28]), (0:Nat), [], .none, .none, .none, .none, none, .none, .none, (0:Nat)⟩, #[]⟩
noncomputable abbrev o_11x443 (P : Params) : Obj := ⟨.type "code", none, .fields #[.str (.ofString "_store_") (702:Nat), .str (.ofString "EnumType._store_") (703:Nat), .str (.ofString "/claim/cut.py") (704:Nat), .int (238:Int) (0:Nat), .int (3:Int) (0:Nat), .int (0:Int) (0:Nat), .int (0:Int) (0:Nat), .int (3:Int) (0:Nat), .ref (438:Nat), .bool .true, .int (181:Int) (0:Nat), .ref (439:Nat), .none, .ref (440:Nat), .ref (441:Nat), .ref (442:Nat), .int (709:Int) (0:Nat), .int (238:Int) (0:Nat), .str (.ofString "/claim/cut.py") (710:Nat)], #[]⟩
noncomputable abbrev o_11x444 (P : Params) : Obj := ⟨.type "function", none, .func ⟨.ofString "_store_", .ofString "EnumType._store_", fnA (sd [10, 28]), .stmts (fnB (sd [10, 28])), fnS (sd [10, 28]), (3:Nat), [(.ofString "__class__", (246:Nat))], .none, .none, .none, .str (.ofString "enum") (248:Nat), none, .ref (443:Nat), .ref (437:Nat), (0:Nat)⟩, #[]⟩
noncomputable abbrev o_11x447 (P : Params) : Obj := ⟨.type "tuple", none, .seq #[.str (.ofString "cls") (715:Nat)] (0:Nat), #[]⟩
noncomputable abbrev o_11x449 (P : Params) : Obj := ⟨.none, none, .func ⟨.ofString "__dir__", .ofString "EnumType.__dir__", fnA (sd [10, 29]), .stmts (fnB (sd [10, 29])), fnS (sd [10, 29]), (0:Nat), [], .none, .none, .none, .none, none, .none, .none, (0:Nat)⟩, #[]⟩
noncomputable abbrev o_11x450 (P : Params) : Obj := ⟨.type "code", none, .fields #[.str (.ofString "__dir__") (712:Nat), .str (.ofString "EnumType.__dir__") (713:Nat), .str (.ofString "/claim/cut.py") (714:Nat), .int (241:Int) (0:Nat), .int (1:Int) (0:Nat), .int (0:Int) (0:Nat), .int (0:Int) (0:Nat), .int (3:Int) (0:Nat), .ref (445:Nat), .bool .true, .int (181:Int) (0:Nat), .ref (446:Nat), .none, .ref (447:Nat), .ref (448:Nat), .ref (449:Nat), .int (716:Int) (0:Nat), .int (241:Int) (0:Nat), .str (.ofString "/claim/cut.py") (717:Nat)], #[]⟩
noncomputable abbrev o_11x451 (P : Params) : Obj := ⟨.type "function", none, .func ⟨.ofString "__dir__", .ofString "EnumType.__dir__", fnA (sd [10, 29]), .stmts (fnB (sd [10, 29])), fnS (sd [10, 29]), (3:Nat), [], .none, .none, .none, .str (.ofString "enum") (248:Nat), none, .ref (450:Nat), .none, (0:Nat)⟩, #[]⟩
noncomputable abbrev o_11x453 (P : Params) : Obj := ⟨.type "dict", none, .dict #[⟨PySem.PyData.keyHash P (.ofString "__module__"), .str (.ofString "__module__") (472:Nat), .str (.ofString "enum") (477:Nat)⟩, ⟨PySem.PyData.keyHash P (.ofString "__firstlineno__"), .str (.ofString "__firstlineno__") (476:Nat), .int (113:Int) (475:Nat)⟩, ⟨PySem.PyData.keyHash P (.ofString "_written_out_"), .str (.ofString "_written_out_") (480:Nat), .int (0:Int) (479:Nat)⟩, ⟨PySem.PyData.keyHash P (.ofString "__new__"), .str (.ofString "__new__") (493:Nat), .ref (455:Nat)⟩, ⟨PySem.PyData.keyHash P (.ofString "_planted_"), .str (.ofString "_planted_") (502:Nat), .ref (265:Nat)⟩, ⟨PySem.PyData.keyHash P (.ofString "_planted_at_"), .str (.ofString "_planted_at_") (509:Nat), .ref (272:Nat)⟩, ⟨PySem.PyData.keyHash P (.ofString "_held_value_"), .str (.ofString "_held_value_") (519:Nat), .ref (279:Nat)⟩, ⟨PySem.PyData.keyHash P (.ofString "_canonical_"), .str (.ofString "_canonical_") (529:Nat), .ref (286:Nat)⟩, ⟨PySem.PyData.keyHash P (.ofString "_book_value_"), .str (.ofString "_book_value_") (539:Nat), .ref (293:Nat)⟩, ⟨PySem.PyData.keyHash P (.ofString "_mixed_"), .str (.ofString "_mixed_") (547:Nat), .ref (300:Nat)⟩, ⟨PySem.PyData.keyHash P (.ofString "_held_def_"), .str (.ofString "_held_def_") (556:Nat), .ref (307:Nat)⟩, ⟨PySem.PyData.keyHash P (.ofString "_closed_"), .str (.ofString "_closed_") (563:Nat), .ref (314:Nat)⟩, ⟨PySem.PyData.keyHash P (.ofString "_held_auto_"), .str (.ofString "_held_auto_") (572:Nat), .ref (321:Nat)⟩, ⟨PySem.PyData.keyHash P (.ofString "_unique_"), .str (.ofString "_unique_") (579:Nat), .ref (328:Nat)⟩, ⟨PySem.PyData.keyHash P (.ofString "_close_"), .str (.ofString "_close_") (586:Nat), .ref (335:Nat)⟩, ⟨PySem.PyData.keyHash P (.ofString "_expect_"), .str (.ofString "_expect_") (594:Nat), .ref (342:Nat)⟩, ⟨PySem.PyData.keyHash P (.ofString "_value_of_"), .str (.ofString "_value_of_") (603:Nat), .ref (349:Nat)⟩, ⟨PySem.PyData.keyHash P (.ofString "_args_of_"), .str (.ofString "_args_of_") (611:Nat), .ref (356:Nat)⟩, ⟨PySem.PyData.keyHash P (.ofString "__bool__"), .str (.ofString "__bool__") (618:Nat), .ref (363:Nat)⟩, ⟨PySem.PyData.keyHash P (.ofString "__call__"), .str (.ofString "__call__") (627:Nat), .ref (370:Nat)⟩, ⟨PySem.PyData.keyHash P (.ofString "__contains__"), .str (.ofString "__contains__") (636:Nat), .ref (377:Nat)⟩, ⟨PySem.PyData.keyHash P (.ofString "__getitem__"), .str (.ofString "__getitem__") (644:Nat), .ref (384:Nat)⟩, ⟨PySem.PyData.keyHash P (.ofString "__iter__"), .str (.ofString "__iter__") (652:Nat), .ref (391:Nat)⟩, ⟨PySem.PyData.keyHash P (.ofString "__len__"), .str (.ofString "__len__") (659:Nat), .ref (398:Nat)⟩, ⟨PySem.PyData.keyHash P (.ofString "__members__"), .str (.ofString "__members__") (667:Nat), .ref (406:Nat)⟩, ⟨PySem.PyData.keyHash P (.ofString "__repr__"), .str (.ofString "__repr__") (674:Nat), .ref (413:Nat)⟩, ⟨PySem.PyData.keyHash P (.ofString "__reversed__"), .str (.ofString "__reversed__") (682:Nat), .ref (420:Nat)⟩, ⟨PySem.PyData.keyHash P (.ofString "__setattr__"), .str (.ofString "__setattr__") (692:Nat), .ref (428:Nat)⟩, ⟨PySem.PyData.keyHash P (.ofString "__delattr__"), .str (.ofString "__delattr__") (701:Nat), .ref (436:Nat)⟩, ⟨PySem.PyData.keyHash P (.ofString "_store_"), .str (.ofString "_store_") (711:Nat), .ref (444:Nat)⟩, ⟨PySem.PyData.keyHash P (.ofString "__dir__"), .str (.ofString "__dir__") (718:Nat), .ref (451:Nat)⟩, ⟨PySem.PyData.keyHash P (.ofString "__static_attributes__"), .str (.ofString "__static_attributes__") (719:Nat), .ref (452:Nat)⟩, ⟨PySem.PyData.keyHash P (.ofString "__doc__"), .str (.ofString "__doc__") (722:Nat), .none⟩] (3:Nat), #[]⟩
noncomputable abbrev o_11x454 (P : Params) : Obj := ⟨.type "type", none, .cls ⟨.ofString "EnumType", [.type "type"], [.ref (454:Nat), .type "type", .type "object"], (453:Nat), .ofString "EnumType", .true, [], [], .false, none, .false⟩, #[some (.ref (243:Nat)), none, some (.str (.ofString "EnumType") (465:Nat)), some (.str (.ofString "EnumType") (473:Nat)), some .none, some (.bool .true)]⟩
noncomputable abbrev o_11x455 (P : Params) : Obj := ⟨.type "staticmethod", none, .fields #[.ref (258:Nat)], #[]⟩
noncomputable abbrev o_11x456 (P : Params) : Obj := ⟨.type "super", none, .fields #[.ref (454:Nat), .ref (454:Nat), .ref (454:Nat)], #[]⟩
noncomputable abbrev o_11x457 (P : Params) : Obj := ⟨.type "builtin_function_or_method", none, .fields #[.builtin "object.__init_subclass__", .ref (454:Nat)], #[]⟩
noncomputable abbrev o_16x3 (P : Params) : Obj := ⟨.type "dict", none, .dict #[⟨PySem.PyData.keyHash P (.ofString "__name__"), .str (.ofString "__name__") (165:Nat), .str (.ofString "symspellpy.editdistance") (967:Nat)⟩, ⟨PySem.PyData.keyHash P (.ofString "__doc__"), .str (.ofString "__doc__") (166:Nat), .none⟩, ⟨PySem.PyData.keyHash P (.ofString "__package__"), .str (.ofString "__package__") (167:Nat), .none⟩, ⟨PySem.PyData.keyHash P (.ofString "__loader__"), .str (.ofString "__loader__") (168:Nat), .builtin "__main__.__loader__#opaque"⟩, ⟨PySem.PyData.keyHash P (.ofString "__spec__"), .str (.ofString "__spec__") (169:Nat), .none⟩, ⟨PySem.PyData.keyHash P (.ofString "__annotations__"), .str (.ofString "__annotations__") (170:Nat), .ref (6:Nat)⟩, ⟨PySem.PyData.keyHash P (.ofString "__builtins__"), .str (.ofString "__builtins__") (171:Nat), .ref (4:Nat)⟩, ⟨PySem.PyData.keyHash P (.ofString "__file__"), .str (.ofString "__file__") (173:Nat), .str (.ofString "/claim/cut.py") (172:Nat)⟩, ⟨PySem.PyData.keyHash P (.ofString "__cached__"), .str (.ofString "__cached__") (174:Nat), .none⟩, ⟨PySem.PyData.keyHash P (.ofString "_wall"), .str (.ofString "_wall") (193:Nat), .ref (21:Nat)⟩, ⟨PySem.PyData.keyHash P (.ofString "null_distance_results"), .str (.ofString "null_distance_results") (204:Nat), .ref (28:Nat)⟩, ⟨PySem.PyData.keyHash P (.ofString "prefix_suffix_prep"), .str (.ofString "prefix_suffix_prep") (215:Nat), .ref (35:Nat)⟩, ⟨PySem.PyData.keyHash P (.ofString "AbstractDistanceComparer"), .str (.ofString "AbstractDistanceComparer") (247:Nat), .ref (52:Nat)⟩, ⟨PySem.PyData.keyHash P (.ofString "_OWN_NAMES"), .str (.ofString "_OWN_NAMES") (255:Nat), .ref (57:Nat)⟩, ⟨PySem.PyData.keyHash P (.ofString "mappingproxy"), .str (.ofString "mappingproxy") (463:Nat), .ref (238:Nat)⟩, ⟨PySem.PyData.keyHash P (.ofString "_MEMBERS_VIEW"), .str (.ofString "_MEMBERS_VIEW") (464:Nat), .ref (238:Nat)⟩, ⟨PySem.PyData.keyHash P (.ofString "EnumType"), .str (.ofString "EnumType") (724:Nat), .ref (454:Nat)⟩, ⟨PySem.PyData.keyHash P (.ofString "_EnumField"), .str (.ofString "_EnumField") (779:Nat), .ref (496:Nat)⟩, ⟨PySem.PyData.keyHash P (.ofString "Enum"), .str (.ofString "Enum") (966:Nat), .ref (620:Nat)⟩, ⟨PySem.PyData.keyHash P (.ofString "DistanceAlgorithm"), .str (.ofString "DistanceAlgorithm") (1014:Nat), .ref (643:Nat)⟩, ⟨PySem.PyData.keyHash P (.ofString "_lay_DistanceAlgorithm"), .str (.ofString "_lay_DistanceAlgorithm") (1030:Nat), .ref (656:Nat)⟩] (21:Nat), #[]⟩
noncomputable abbrev o_16x12 (P : Params) : Obj := ⟨.none, none, .fields #[.int (1:Int) (0:Nat), .int (0:Int) (0:Nat), .ref (20:Nat), .int (5:Int) (0:Nat), .int (0:Int) (0:Nat), .ref (27:Nat), .int (11:Int) (0:Nat), .int (0:Int) (0:Nat), .ref (34:Nat), .int (25:Int) (0:Nat), .int (0:Int) (0:Nat), .ref (41:Nat), .int (31:Int) (0:Nat), .int (0:Int) (0:Nat), .ref (63:Nat), .int (113:Int) (0:Nat), .int (0:Int) (0:Nat), .ref (249:Nat), .int (243:Int) (0:Nat), .int (0:Int) (0:Nat), .ref (463:Nat), .int (260:Int) (0:Nat), .int (0:Int) (0:Nat), .ref (506:Nat), .int (354:Int) (0:Nat), .int (0:Int) (0:Nat), .ref (635:Nat), .int (358:Int) (0:Nat), .int (0:Int) (0:Nat), .ref (655:Nat)], #[]⟩
noncomputable abbrev o_16x460 (P : Params) : Obj := ⟨.type "dict", none, .dict #[⟨PySem.PyData.keyHash P (.ofString "__module__"), .str (.ofString "__module__") (732:Nat), .str (.ofString "enum") (248:Nat)⟩, ⟨PySem.PyData.keyHash P (.ofString "__qualname__"), .str (.ofString "__qualname__") (734:Nat), .str (.ofString "_EnumField") (733:Nat)⟩, ⟨PySem.PyData.keyHash P (.ofString "__firstlineno__"), .str (.ofString "__firstlineno__") (736:Nat), .int (243:Int) (735:Nat)⟩, ⟨PySem.PyData.keyHash P (.ofString "__init__"), .str (.ofString "__init__") (744:Nat), .ref (471:Nat)⟩, ⟨PySem.PyData.keyHash P (.ofString "__get__"), .str (.ofString "__get__") (753:Nat), .ref (479:Nat)⟩, ⟨PySem.PyData.keyHash P (.ofString "__set__"), .str (.ofString "__set__") (762:Nat), .ref (486:Nat)⟩, ⟨PySem.PyData.keyHash P (.ofString "__delete__"), .str (.ofString "__delete__") (770:Nat), .ref (493:Nat)⟩, ⟨PySem.PyData.keyHash P (.ofString "__static_attributes__"), .str (.ofString "__static_attributes__") (772:Nat), .ref (494:Nat)⟩] (8:Nat), #[]⟩
noncomputable abbrev o_16x462 (P : Params) : Obj := ⟨.none, none, .fields #[.int (245:Int) (0:Nat), .int (4:Int) (0:Nat), .ref (470:Nat), .int (248:Int) (0:Nat), .int (4:Int) (0:Nat), .ref (478:Nat), .int (255:Int) (0:Nat), .int (4:Int) (0:Nat), .ref (485:Nat), .int (258:Int) (0:Nat), .int (4:Int) (0:Nat), .ref (492:Nat)], #[]⟩
noncomputable abbrev o_16x463 (P : Params) : Obj := ⟨.type "code", none, .fields #[.str (.ofString "_EnumField") (727:Nat), .str (.ofString "_EnumField") (728:Nat), .str (.ofString "/claim/cut.py") (729:Nat), .int (243:Int) (0:Nat), .int (0:Int) (0:Nat), .int (0:Int) (0:Nat), .int (0:Int) (0:Nat), .int (0:Int) (0:Nat), .ref (461:Nat), .bool .false, .int (181:Int) (0:Nat), .ref (462:Nat), .none, .none, .none, .none, .int (730:Int) (0:Nat), .int (243:Int) (0:Nat), .str (.ofString "/claim/cut.py") (731:Nat)], #[]⟩
noncomputable abbrev o_16x464 (P : Params) : Obj := ⟨.type "frame", none, .plain, #[some (.ref (463:Nat)), some (.ref (3:Nat)), some (.ref (460:Nat)), none, some (.str (.ofString "enum") (248:Nat)), none, some (.ref (0:Nat))]⟩
noncomputable abbrev o_16x467 (P : Params) : Obj := ⟨.type "tuple", none, .seq #[.str (.ofString "self") (740:Nat), .str (.ofString "name") (741:Nat)] (0:Nat), #[]⟩
noncomputable abbrev o_16x469 (P : Params) : Obj := ⟨.none, none, .func ⟨.ofString "__init__", .ofString "_EnumField.__init__", fnA (sd [11, 0]), .stmts (fnB (sd [11, 0])), fnS (sd [11, 0]), (0:Nat), [], .none, .none, .none, .none, none, .none, .none, (0:Nat)⟩, #[]⟩
noncomputable abbrev o_16x470 (P : Params) : Obj := ⟨.type "code", none, .fields #[.str (.ofString "__init__") (737:Nat), .str (.ofString "_EnumField.__init__") (738:Nat), .str (.ofString "/claim/cut.py") (739:Nat), .int (245:Int) (0:Nat), .int (2:Int) (0:Nat), .int (0:Int) (0:Nat), .int (0:Int) (0:Nat), .int (3:Int) (0:Nat), .ref (465:Nat), .bool .true, .int (181:Int) (0:Nat), .ref (466:Nat), .none, .ref (467:Nat), .ref (468:Nat), .ref (469:Nat), .int (742:Int) (0:Nat), .int (245:Int) (0:Nat), .str (.ofString "/claim/cut.py") (743:Nat)], #[]⟩
noncomputable abbrev o_16x471 (P : Params) : Obj := ⟨.type "function", none, .func ⟨.ofString "__init__", .ofString "_EnumField.__init__", fnA (sd [11, 0]), .stmts (fnB (sd [11, 0])), fnS (sd [11, 0]), (3:Nat), [], .none, .none, .none, .str (.ofString "enum") (248:Nat), none, .ref (470:Nat), .none, (0:Nat)⟩, #[]⟩
noncomputable abbrev o_16x475 (P : Params) : Obj := ⟨.type "tuple", none, .seq #[.str (.ofString "self") (748:Nat), .str (.ofString "instance") (749:Nat), .str (.ofString "ownerclass") (750:Nat)] (0:Nat), #[]⟩
noncomputable abbrev o_16x477 (P : Params) : Obj := ⟨.none, none, .func ⟨.ofString "__get__", .ofString "_EnumField.__get__", fnA (sd [11, 1]), .stmts (fnB (sd [11, 1])), fnS (sd [11, 1]), (0:Nat), [], .none, .none, .none, .none, none, .none, .none, (0:Nat)⟩, #[]⟩
noncomputable abbrev o_16x478 (P : Params) : Obj := ⟨.type "code", none, .fields #[.str (.ofString "__get__") (745:Nat), .str (.ofString "_EnumField.__get__") (746:Nat), .str (.ofString "/claim/cut.py") (747:Nat), .int (248:Int) (0:Nat), .int (3:Int) (0:Nat), .int (0:Int) (0:Nat), .int (0:Int) (0:Nat), .int (3:Int) (0:Nat), .ref (473:Nat), .bool .true, .int (181:Int) (0:Nat), .ref (474:Nat), .none, .ref (475:Nat), .ref (476:Nat), .ref (477:Nat), .int (751:Int) (0:Nat), .int (248:Int) (0:Nat), .str (.ofString "/claim/cut.py") (752:Nat)], #[]⟩
noncomputable abbrev o_16x479 (P : Params) : Obj := ⟨.type "function", none, .func ⟨.ofString "__get__", .ofString "_EnumField.__get__", fnA (sd [11, 1]), .stmts (fnB (sd [11, 1])), fnS (sd [11, 1]), (3:Nat), [], .ref (472:Nat), .none, .none, .str (.ofString "enum") (248:Nat), none, .ref (478:Nat), .none, (0:Nat)⟩, #[]⟩
noncomputable abbrev o_16x482 (P : Params) : Obj := ⟨.type "tuple", none, .seq #[.str (.ofString "self") (757:Nat), .str (.ofString "instance") (758:Nat), .str (.ofString "value") (759:Nat)] (0:Nat), #[]⟩
noncomputable abbrev o_16x484 (P : Params) : Obj := ⟨.none, none, .func ⟨.ofString "__set__", .ofString "_EnumField.__set__", fnA (sd [11, 2]), .stmts (fnB (sd [11, 2])), fnS (sd [11, 2]), (0:Nat), [], .none, .none, .none, .none, none, .none, .none, (0:Nat)⟩, #[]⟩
noncomputable abbrev o_16x485 (P : Params) : Obj := ⟨.type "code", none, .fields #[.str (.ofString "__set__") (754:Nat), .str (.ofString "_EnumField.__set__") (755:Nat), .str (.ofString "/claim/cut.py") (756:Nat), .int (255:Int) (0:Nat), .int (3:Int) (0:Nat), .int (0:Int) (0:Nat), .int (0:Int) (0:Nat), .int (3:Int) (0:Nat), .ref (480:Nat), .bool .true, .int (181:Int) (0:Nat), .ref (481:Nat), .none, .ref (482:Nat), .ref (483:Nat), .ref (484:Nat), .int (760:Int) (0:Nat), .int (255:Int) (0:Nat), .str (.ofString "/claim/cut.py") (761:Nat)], #[]⟩
noncomputable abbrev o_16x486 (P : Params) : Obj := ⟨.type "function", none, .func ⟨.ofString "__set__", .ofString "_EnumField.__set__", fnA (sd [11, 2]), .stmts (fnB (sd [11, 2])), fnS (sd [11, 2]), (3:Nat), [], .none, .none, .none, .str (.ofString "enum") (248:Nat), none, .ref (485:Nat), .none, (0:Nat)⟩, #[]⟩
noncomputable abbrev o_16x489 (P : Params) : Obj := ⟨.type "tuple", none, .seq #[.str (.ofString "self") (766:Nat), .str (.ofString "instance") (767:Nat)] (0:Nat), #[]⟩
noncomputable abbrev o_16x491 (P : Params) : Obj := ⟨.none, none, .func ⟨.ofString "__delete__", .ofString "_EnumField.__delete__", fnA (sd [11, 3]), .stmts (fnB (sd [11, 3])), fnS (sd [11, 3]), (0:Nat), [], .none, .none, .none, .none, none, .none, .none, (0:Nat)⟩, #[]⟩
noncomputable abbrev o_16x492 (P : Params) : Obj := ⟨.type "code", none, .fields #[.str (.ofString "__delete__") (763:Nat), .str (.ofString "_EnumField.__delete__") (764:Nat), .str (.ofString "/claim/cut.py") (765:Nat), .int (258:Int) (0:Nat), .int (2:Int) (0:Nat), .int (0:Int) (0:Nat), .int (0:Int) (0:Nat), .int (3:Int) (0:Nat), .ref (487:Nat), .bool .true, .int (181:Int) (0:Nat), .ref (488:Nat), .none, .ref (489:Nat), .ref (490:Nat), .ref (491:Nat), .int (768:Int) (0:Nat), .int (258:Int) (0:Nat), .str (.ofString "/claim/cut.py") (769:Nat)], #[]⟩
noncomputable abbrev o_16x493 (P : Params) : Obj := ⟨.type "function", none, .func ⟨.ofString "__delete__", .ofString "_EnumField.__delete__", fnA (sd [11, 3]), .stmts (fnB (sd [11, 3])), fnS (sd [11, 3]), (3:Nat), [], .none, .none, .none, .str (.ofString "enum") (248:Nat), none, .ref (492:Nat), .none, (0:Nat)⟩, #[]⟩
noncomputable abbrev o_16x494 (P : Params) : Obj := ⟨.type "tuple", none, .seq #[.str (.ofString "name") (771:Nat)] (0:Nat), #[]⟩
noncomputable abbrev o_16x495 (P : Params) : Obj := ⟨.type "dict", none, .dict #[⟨PySem.PyData.keyHash P (.ofString "__module__"), .str (.ofString "__module__") (732:Nat), .str (.ofString "enum") (248:Nat)⟩, ⟨PySem.PyData.keyHash P (.ofString "__firstlineno__"), .str (.ofString "__firstlineno__") (736:Nat), .int (243:Int) (735:Nat)⟩, ⟨PySem.PyData.keyHash P (.ofString "__init__"), .str (.ofString "__init__") (744:Nat), .ref (471:Nat)⟩, ⟨PySem.PyData.keyHash P (.ofString "__get__"), .str (.ofString "__get__") (753:Nat), .ref (479:Nat)⟩, ⟨PySem.PyData.keyHash P (.ofString "__set__"), .str (.ofString "__set__") (762:Nat), .ref (486:Nat)⟩, ⟨PySem.PyData.keyHash P (.ofString "__delete__"), .str (.ofString "__delete__") (770:Nat), .ref (493:Nat)⟩, ⟨PySem.PyData.keyHash P (.ofString "__static_attributes__"), .str (.ofString "__static_attributes__") (772:Nat), .ref (494:Nat)⟩, ⟨PySem.PyData.keyHash P (.ofString "__dict__"), .str (.ofString "__dict__") (774:Nat), .ref (497:Nat)⟩, ⟨PySem.PyData.keyHash P (.ofString "__weakref__"), .str (.ofString "__weakref__") (776:Nat), .ref (498:Nat)⟩, ⟨PySem.PyData.keyHash P (.ofString "__doc__"), .str (.ofString "__doc__") (777:Nat), .none⟩] (4:Nat), #[]⟩
noncomputable abbrev o_16x496 (P : Params) : Obj := ⟨.type "type", none, .cls ⟨.ofString "_EnumField", [.type "object"], [.ref (496:Nat), .type "object"], (495:Nat), .ofString "_EnumField", .true, [], [], .false, none, .false⟩, #[none, none, some (.str (.ofString "_EnumField") (725:Nat)), some (.str (.ofString "_EnumField") (733:Nat)), some (.builtin "object.__new__"), some (.bool .true)]⟩
noncomputable abbrev o_16x497 (P : Params) : Obj := ⟨.type "getset_descriptor", none, .fields #[.str (.ofString "__dict__") (773:Nat), .ref (496:Nat), .builtin "function.__dict__", .builtin "function.__dict__#set"], #[]⟩
noncomputable abbrev o_16x498 (P : Params) : Obj := ⟨.type "getset_descriptor", none, .fields #[.str (.ofString "__weakref__") (775:Nat), .ref (496:Nat), .builtin "ExceptionGroup.__weakref__", .none], #[]⟩
noncomputable abbrev o_16x499 (P : Params) : Obj := ⟨.type "super", none, .fields #[.ref (496:Nat), .ref (496:Nat), .ref (496:Nat)], #[]⟩
noncomputable abbrev o_16x500 (P : Params) : Obj := ⟨.type "builtin_function_or_method", none, .fields #[.builtin "object.__init_subclass__", .ref (496:Nat)], #[]⟩
noncomputable abbrev o_16x502 (P : Params) : Obj := ⟨.type "builtin_function_or_method", none, .fields #[.builtin "type.__prepare__", .ref (454:Nat)], #[]⟩
noncomputable abbrev o_16x503 (P : Params) : Obj := ⟨.type "dict", none, .dict #[⟨PySem.PyData.keyHash P (.ofString "__module__"), .str (.ofString "__module__") (787:Nat), .str (.ofString "enum") (792:Nat)⟩, ⟨PySem.PyData.keyHash P (.ofString "__qualname__"), .str (.ofString "__qualname__") (789:Nat), .str (.ofString "Enum") (788:Nat)⟩, ⟨PySem.PyData.keyHash P (.ofString "__firstlineno__"), .str (.ofString "__firstlineno__") (791:Nat), .int (260:Int) (790:Nat)⟩, ⟨PySem.PyData.keyHash P (.ofString "_written_out_"), .str (.ofString "_written_out_") (795:Nat), .int (4:Int) (794:Nat)⟩, ⟨PySem.PyData.keyHash P (.ofString "_member_names_"), .str (.ofString "_member_names_") (796:Nat), .ref (508:Nat)⟩, ⟨PySem.PyData.keyHash P (.ofString "_member_map_"), .str (.ofString "_member_map_") (797:Nat), .ref (509:Nat)⟩, ⟨PySem.PyData.keyHash P (.ofString "_value2member_map_"), .str (.ofString "_value2member_map_") (798:Nat), .ref (510:Nat)⟩, ⟨PySem.PyData.keyHash P (.ofString "_hashable_values_"), .str (.ofString "_hashable_values_") (799:Nat), .ref (511:Nat)⟩, ⟨PySem.PyData.keyHash P (.ofString "_unhashable_values_"), .str (.ofString "_unhashable_values_") (800:Nat), .ref (512:Nat)⟩, ⟨PySem.PyData.keyHash P (.ofString "_unhashable_values_map_"), .str (.ofString "_unhashable_values_map_") (801:Nat), .ref (513:Nat)⟩, ⟨PySem.PyData.keyHash P (.ofString "_members_"), .str (.ofString "_members_") (802:Nat), .ref (514:Nat)⟩, ⟨PySem.PyData.keyHash P (.ofString "_value_repr_"), .str (.ofString "_value_repr_") (803:Nat), .none⟩, ⟨PySem.PyData.keyHash P (.ofString "_is_flag_"), .str (.ofString "_is_flag_") (804:Nat), .bool .false⟩, ⟨PySem.PyData.keyHash P (.ofString "_making_"), .str (.ofString "_making_") (805:Nat), .bool .false⟩, ⟨PySem.PyData.keyHash P (.ofString "__new__"), .str (.ofString "__new__") (820:Nat), .ref (521:Nat)⟩, ⟨PySem.PyData.keyHash P (.ofString "_missing_"), .str (.ofString "_missing_") (840:Nat), .ref (530:Nat)⟩, ⟨PySem.PyData.keyHash P (.ofString "__init__"), .str (.ofString "__init__") (849:Nat), .ref (538:Nat)⟩, ⟨PySem.PyData.keyHash P (.ofString "__repr__"), .str (.ofString "__repr__") (857:Nat), .ref (545:Nat)⟩, ⟨PySem.PyData.keyHash P (.ofString "__str__"), .str (.ofString "__str__") (864:Nat), .ref (552:Nat)⟩, ⟨PySem.PyData.keyHash P (.ofString "__format__"), .str (.ofString "__format__") (872:Nat), .ref (559:Nat)⟩, ⟨PySem.PyData.keyHash P (.ofString "__hash__"), .str (.ofString "__hash__") (879:Nat), .ref (566:Nat)⟩, ⟨PySem.PyData.keyHash P (.ofString "__reduce_ex__"), .str (.ofString "__reduce_ex__") (887:Nat), .ref (573:Nat)⟩, ⟨PySem.PyData.keyHash P (.ofString "__deepcopy__"), .str (.ofString "__deepcopy__") (895:Nat), .ref (580:Nat)⟩, ⟨PySem.PyData.keyHash P (.ofString "__copy__"), .str (.ofString "__copy__") (902:Nat), .ref (587:Nat)⟩, ⟨PySem.PyData.keyHash P (.ofString "__dir__"), .str (.ofString "__dir__") (909:Nat), .ref (594:Nat)⟩, ⟨PySem.PyData.keyHash P (.ofString "_add_alias_"), .str (.ofString "_add_alias_") (917:Nat), .ref (601:Nat)⟩, ⟨PySem.PyData.keyHash P (.ofString "_add_value_alias_"), .str (.ofString "_add_value_alias_") (925:Nat), .ref (608:Nat)⟩, ⟨PySem.PyData.keyHash P (.ofString "name"), .str (.ofString "name") (931:Nat), .ref (610:Nat)⟩, ⟨PySem.PyData.keyHash P (.ofString "value"), .str (.ofString "value") (937:Nat), .ref (613:Nat)⟩, ⟨PySem.PyData.keyHash P (.ofString "__static_attributes__"), .str (.ofString "__static_attributes__") (938:Nat), .ref (615:Nat)⟩] (30:Nat), #[]⟩
noncomputable abbrev o_16x505 (P : Params) : Obj := ⟨.none, none, .fields #[.int (274:Int) (0:Nat), .int (4:Int) (0:Nat), .ref (520:Nat), .int (315:Int) (0:Nat), .int (4:Int) (0:Nat), .ref (527:Nat), .int (318:Int) (0:Nat), .int (4:Int) (0:Nat), .ref (537:Nat), .int (321:Int) (0:Nat), .int (4:Int) (0:Nat), .ref (544:Nat), .int (325:Int) (0:Nat), .int (4:Int) (0:Nat), .ref (551:Nat), .int (328:Int) (0:Nat), .int (4:Int) (0:Nat), .ref (558:Nat), .int (331:Int) (0:Nat), .int (4:Int) (0:Nat), .ref (565:Nat), .int (334:Int) (0:Nat), .int (4:Int) (0:Nat), .ref (572:Nat), .int (337:Int) (0:Nat), .int (4:Int) (0:Nat), .ref (579:Nat), .int (340:Int) (0:Nat), .int (4:Int) (0:Nat), .ref (586:Nat), .int (343:Int) (0:Nat), .int (4:Int) (0:Nat), .ref (593:Nat), .int (346:Int) (0:Nat), .int (4:Int) (0:Nat), .ref (600:Nat), .int (349:Int) (0:Nat), .int (4:Int) (0:Nat), .ref (607:Nat)], #[]⟩
noncomputable abbrev o_16x506 (P : Params) : Obj := ⟨.type "code", none, .fields #[.str (.ofString "Enum") (782:Nat), .str (.ofString "Enum") (783:Nat), .str (.ofString "/claim/cut.py") (784:Nat), .int (260:Int) (0:Nat), .int (0:Int) (0:Nat), .int (0:Int) (0:Nat), .int (0:Int) (0:Nat), .int (0:Int) (0:Nat), .ref (504:Nat), .bool .false, .int (181:Int) (0:Nat), .ref (505:Nat), .none, .none, .none, .none, .int (785:Int) (0:Nat), .int (260:Int) (0:Nat), .str (.ofString "/claim/cut.py") (786:Nat)], #[]⟩
noncomputable abbrev o_16x507 (P : Params) : Obj := ⟨.type "frame", none, .plain, #[some (.ref (506:Nat)), some (.ref (3:Nat)), some (.ref (503:Nat)), none, some (.str (.ofString "enum") (248:Nat)), none, some (.ref (0:Nat))]⟩
noncomputable abbrev o_16x508 (P : Params) : Obj := ⟨.type "list", none, .seq #[] (0:Nat), #[]⟩
noncomputable abbrev o_16x517 (P : Params) : Obj := ⟨.type "tuple", none, .seq #[.str (.ofString "cls") (809:Nat), .str (.ofString "value") (810:Nat), .str (.ofString "name") (811:Nat), .str (.ofString "unhashable_values") (812:Nat), .str (.ofString "member") (813:Nat), .str (.ofString "exc") (814:Nat), .str (.ofString "result") (815:Nat), .str (.ofString "e") (816:Nat), .str (.ofString "ve_exc") (817:Nat)] (0:Nat), #[]⟩
noncomputable abbrev o_16x519 (P : Params) : Obj := ⟨.none, none, .func ⟨.ofString "__new__", .ofString "Enum.__new__", fnA (sd [12, 12]), .stmts (fnB (sd [12, 12])), fnS (sd [12, 12]), (0:Nat), [], .none, .none, .none, .none, none, .none, .none, (0:Nat)⟩, #[]⟩
noncomputable abbrev o_16x520 (P : Params) : Obj := ⟨.type "code", none, .fields #[.str (.ofString "__new__") (806:Nat), .str (.ofString "Enum.__new__") (807:Nat), .str (.ofString "/claim/cut.py") (808:Nat), .int (274:Int) (0:Nat), .int (2:Int) (0:Nat), .int (0:Int) (0:Nat), .int (0:Int) (0:Nat), .int (3:Int) (0:Nat), .ref (515:Nat), .bool .true, .int (181:Int) (0:Nat), .ref (516:Nat), .none, .ref (517:Nat), .ref (518:Nat), .ref (519:Nat), .int (818:Int) (0:Nat), .int (274:Int) (0:Nat), .str (.ofString "/claim/cut.py") (819:Nat)], #[]⟩
noncomputable abbrev o_16x521 (P : Params) : Obj := ⟨.type "function", none, .func ⟨.ofString "__new__", .ofString "Enum.__new__", fnA (sd [12, 12]), .stmts (fnB (sd [12, 12])), fnS (sd [12, 12]), (3:Nat), [], .none, .none, .none, .str (.ofString "enum") (248:Nat), none, .ref (520:Nat), .none, (0:Nat)⟩, #[]⟩
noncomputable abbrev o_16x524 (P : Params) : Obj := ⟨.type "tuple", none, .seq #[.str (.ofString "cls") (824:Nat), .str (.ofString "value") (825:Nat)] (0:Nat), #[]⟩
noncomputable abbrev o_16x526 (P : Params) : Obj := ⟨.none, none, .func ⟨.ofString "_missing_", .ofString "Enum._missing_", fnA (sd [12, 13]), .stmts (fnB (sd [12, 13])), fnS (sd [12, 13]), (0:Nat), [], .none, .none, .none, .none, none, .none, .none, (0:Nat)⟩, #[]⟩
noncomputable abbrev o_16x527 (P : Params) : Obj := ⟨.type "code", none, .fields #[.str (.ofString "_missing_") (821:Nat), .str (.ofString "Enum._missing_") (822:Nat), .str (.ofString "/claim/cut.py") (823:Nat), .int (314:Int) (0:Nat), .int (2:Int) (0:Nat), .int (0:Int) (0:Nat), .int (0:Int) (0:Nat), .int (3:Int) (0:Nat), .ref (522:Nat), .bool .true, .int (181:Int) (0:Nat), .ref (523:Nat), .none, .ref (524:Nat), .ref (525:Nat), .ref (526:Nat), .int (826:Int) (0:Nat), .int (314:Int) (0:Nat), .str (.ofString "/claim/cut.py") (827:Nat)], #[]⟩
noncomputable abbrev o_16x528 (P : Params) : Obj := ⟨.type "function", none, .func ⟨.ofString "_missing_", .ofString "Enum._missing_", fnA (sd [12, 13]), .stmts (fnB (sd [12, 13])), fnS (sd [12, 13]), (3:Nat), [], .none, .none, .none, .str (.ofString "enum") (248:Nat), some (531:Nat), .ref (527:Nat), .none, (0:Nat)⟩, #[]⟩
noncomputable abbrev o_16x529 (P : Params) : Obj := ⟨.type "dict", none, .dict #[⟨PySem.PyData.keyHash P (.ofString "__module__"), .str (.ofString "__module__") (829:Nat), .str (.ofString "enum") (248:Nat)⟩, ⟨PySem.PyData.keyHash P (.ofString "__name__"), .str (.ofString "__name__") (832:Nat), .str (.ofString "_missing_") (831:Nat)⟩, ⟨PySem.PyData.keyHash P (.ofString "__qualname__"), .str (.ofString "__qualname__") (835:Nat), .str (.ofString "Enum._missing_") (834:Nat)⟩, ⟨PySem.PyData.keyHash P (.ofString "__doc__"), .str (.ofString "__doc__") (837:Nat), .none⟩, ⟨PySem.PyData.keyHash P (.ofString "__annotations__"), .str (.ofString "__annotations__") (839:Nat), .ref (531:Nat)⟩] (5:Nat), #[]⟩
noncomputable abbrev o_16x530 (P : Params) : Obj := ⟨.type "classmethod", some (529:Nat), .fields #[.ref (528:Nat), .bool .false], #[]⟩
noncomputable abbrev o_16x534 (P : Params) : Obj := ⟨.type "tuple", none, .seq #[.str (.ofString "self") (844:Nat), .str (.ofString "args") (845:Nat), .str (.ofString "kwds") (846:Nat)] (0:Nat), #[]⟩
noncomputable abbrev o_16x536 (P : Params) : Obj := ⟨.none, none, .func ⟨.ofString "__init__", .ofString "Enum.__init__", fnA (sd [12, 14]), .stmts (fnB (sd [12, 14])), fnS (sd [12, 14]), (0:Nat), [], .none, .none, .none, .none, none, .none, .none, (0:Nat)⟩, #[]⟩
noncomputable abbrev o_16x537 (P : Params) : Obj := ⟨.type "code", none, .fields #[.str (.ofString "__init__") (841:Nat), .str (.ofString "Enum.__init__") (842:Nat), .str (.ofString "/claim/cut.py") (843:Nat), .int (318:Int) (0:Nat), .int (1:Int) (0:Nat), .int (0:Int) (0:Nat), .int (0:Int) (0:Nat), .int (15:Int) (0:Nat), .ref (532:Nat), .bool .true, .int (181:Int) (0:Nat), .ref (533:Nat), .none, .ref (534:Nat), .ref (535:Nat), .ref (536:Nat), .int (847:Int) (0:Nat), .int (318:Int) (0:Nat), .str (.ofString "/claim/cut.py") (848:Nat)], #[]⟩
noncomputable abbrev o_16x538 (P : Params) : Obj := ⟨.type "function", none, .func ⟨.ofString "__init__", .ofString "Enum.__init__", fnA (sd [12, 14]), .stmts (fnB (sd [12, 14])), fnS (sd [12, 14]), (3:Nat), [], .none, .none, .none, .str (.ofString "enum") (248:Nat), none, .ref (537:Nat), .none, (0:Nat)⟩, #[]⟩
noncomputable abbrev o_16x541 (P : Params) : Obj := ⟨.type "tuple", none, .seq #[.str (.ofString "self") (853:Nat), .str (.ofString "v_repr") (854:Nat)] (0:Nat), #[]⟩
noncomputable abbrev o_16x543 (P : Params) : Obj := ⟨.none, none, .func ⟨.ofString "__repr__", .ofString "Enum.__repr__", fnA (sd [12, 15]), .stmts (fnB (sd [12, 15])), fnS (sd [12, 15]), (0:Nat), [], .none, .none, .none, .none, none, .none, .none, (0:Nat)⟩, #[]⟩
noncomputable abbrev o_16x544 (P : Params) : Obj := ⟨.type "code", none, .fields #[.str (.ofString "__repr__") (850:Nat), .str (.ofString "Enum.__repr__") (851:Nat), .str (.ofString "/claim/cut.py") (852:Nat), .int (321:Int) (0:Nat), .int (1:Int) (0:Nat), .int (0:Int) (0:Nat), .int (0:Int) (0:Nat), .int (3:Int) (0:Nat), .ref (539:Nat), .bool .true, .int (181:Int) (0:Nat), .ref (540:Nat), .none, .ref (541:Nat), .ref (542:Nat), .ref (543:Nat), .int (855:Int) (0:Nat), .int (321:Int) (0:Nat), .str (.ofString "/claim/cut.py") (856:Nat)], #[]⟩
noncomputable abbrev o_16x545 (P : Params) : Obj := ⟨.type "function", none, .func ⟨.ofString "__repr__", .ofString "Enum.__repr__", fnA (sd [12, 15]), .stmts (fnB (sd [12, 15])), fnS (sd [12, 15]), (3:Nat), [], .none, .none, .none, .str (.ofString "enum") (248:Nat), none, .ref (544:Nat), .none, (0:Nat)⟩, #[]⟩
noncomputable abbrev o_16x548 (P : Params) : Obj := ⟨.type "tuple", none, .seq #[.str (.ofString "self") (861:Nat)] (0:Nat), #[]⟩
noncomputable abbrev o_16x550 (P : Params) : Obj := ⟨.none, none, .func ⟨.ofString "__str__", .ofString "Enum.__str__", fnA (sd [12, 16]), .stmts (fnB (sd [12, 16])), fnS (sd [12, 16]), (0:Nat), [], .none, .none, .none, .none, none, .none, .none, (0:Nat)⟩, #[]⟩
noncomputable abbrev o_16x551 (P : Params) : Obj := ⟨.type "code", none, .fields #[.str (.ofString "__str__") (858:Nat), .str (.ofString "Enum.__str__") (859:Nat), .str (.ofString "/claim/cut.py") (860:Nat), .int (325:Int) (0:Nat), .int (1:Int) (0:Nat), .int (0:Int) (0:Nat), .int (0:Int) (0:Nat), .int (3:Int) (0:Nat), .ref (546:Nat), .bool .true, .int (181:Int) (0:Nat), .ref (547:Nat), .none, .ref (548:Nat), .ref (549:Nat), .ref (550:Nat), .int (862:Int) (0:Nat), .int (325:Int) (0:Nat), .str (.ofString "/claim/cut.py") (863:Nat)], #[]⟩
noncomputable abbrev o_16x552 (P : Params) : Obj := ⟨.type "function", none, .func ⟨.ofString "__str__", .ofString "Enum.__str__", fnA (sd [12, 16]), .stmts (fnB (sd [12, 16])), fnS (sd [12, 16]), (3:Nat), [], .none, .none, .none, .str (.ofString "enum") (248:Nat), none, .ref (551:Nat), .none, (0:Nat)⟩, #[]⟩
noncomputable abbrev o_16x555 (P : Params) : Obj := ⟨.type "tuple", none, .seq #[.str (.ofString "self") (868:Nat), .str (.ofString "format_spec") (869:Nat)] (0:Nat), #[]⟩
noncomputable abbrev o_16x557 (P : Params) : Obj := ⟨.none, none, .func ⟨.ofString "__format__", .ofString "Enum.__format__", fnA (sd [12, 17]), .stmts (fnB (sd [12, 17])), fnS (sd [12, 17]), (0:Nat), [], .none, .none, .none, .none, none, .none, .none, (0:Nat)⟩, #[]⟩
noncomputable abbrev o_16x558 (P : Params) : Obj := ⟨.type "code", none, .fields #[.str (.ofString "__format__") (865:Nat), .str (.ofString "Enum.__format__") (866:Nat), .str (.ofString "/claim/cut.py") (867:Nat), .int (328:Int) (0:Nat), .int (2:Int) (0:Nat), .int (0:Int) (0:Nat), .int (0:Int) (0:Nat), .int (3:Int) (0:Nat), .ref (553:Nat), .bool .true, .int (181:Int) (0:Nat), .ref (554:Nat), .none, .ref (555:Nat), .ref (556:Nat), .ref (557:Nat), .int (870:Int) (0:Nat), .int (328:Int) (0:Nat), .str (.ofString "/claim/cut.py") (871:Nat)], #[]⟩
noncomputable abbrev o_16x559 (P : Params) : Obj := ⟨.type "function", none, .func ⟨.ofString "__format__", .ofString "Enum.__format__", fnA (sd [12, 17]), .stmts (fnB (sd [12, 17])), fnS (sd [12, 17]), (3:Nat), [], .none, .none, .none, .str (.ofString "enum") (248:Nat), none, .ref (558:Nat), .none, (0:Nat)⟩, #[]⟩
noncomputable abbrev o_16x562 (P : Params) : Obj := ⟨.type "tuple", none, .seq #[.str (.ofString "self") (876:Nat)] (0:Nat), #[]⟩
noncomputable abbrev o_16x564 (P : Params) : Obj := ⟨.none, none, .func ⟨.ofString "__hash__", .ofString "Enum.__hash__", fnA (sd [12, 18]), .stmts (fnB (sd [12, 18])), fnS (sd [12, 18]), (0:Nat), [], .none, .none, .none, .none, none, .none, .none, (0:Nat)⟩, #[]⟩
noncomputable abbrev o_16x565 (P : Params) : Obj := ⟨.type "code", none, .fields #[.str (.ofString "__hash__") (873:Nat), .str (.ofString "Enum.__hash__") (874:Nat), .str (.ofString "/claim/cut.py") (875:Nat), .int (331:Int) (0:Nat), .int (1:Int) (0:Nat), .int (0:Int) (0:Nat), .int (0:Int) (0:Nat), .int (3:Int) (0:Nat), .ref (560:Nat), .bool .true, .int (181:Int) (0:Nat), .ref (561:Nat), .none, .ref (562:Nat), .ref (563:Nat), .ref (564:Nat), .int (877:Int) (0:Nat), .int (331:Int) (0:Nat), .str (.ofString "/claim/cut.py") (878:Nat)], #[]⟩
noncomputable abbrev o_16x566 (P : Params) : Obj := ⟨.type "function", none, .func ⟨.ofString "__hash__", .ofString "Enum.__hash__", fnA (sd [12, 18]), .stmts (fnB (sd [12, 18])), fnS (sd [12, 18]), (3:Nat), [], .none, .none, .none, .str (.ofString "enum") (248:Nat), none, .ref (565:Nat), .none, (0:Nat)⟩, #[]⟩
noncomputable abbrev o_16x569 (P : Params) : Obj := ⟨.type "tuple", none, .seq #[.str (.ofString "self") (883:Nat), .str (.ofString "proto") (884:Nat)] (0:Nat), #[]⟩
noncomputable abbrev o_16x571 (P : Params) : Obj := ⟨.none, none, .func ⟨.ofString "__reduce_ex__", .ofString "Enum.__reduce_ex__", fnA (sd [12, 19]), .stmts (fnB (sd [12, 19])), fnS (sd [12, 19]), (0:Nat), [], .none, .none, .none, .none, none, .none, .none, (0:Nat)⟩, #[]⟩
noncomputable abbrev o_16x572 (P : Params) : Obj := ⟨.type "code", none, .fields #[.str (.ofString "__reduce_ex__") (880:Nat), .str (.ofString "Enum.__reduce_ex__") (881:Nat), .str (.ofString "/claim/cut.py") (882:Nat), .int (334:Int) (0:Nat), .int (2:Int) (0:Nat), .int (0:Int) (0:Nat), .int (0:Int) (0:Nat), .int (3:Int) (0:Nat), .ref (567:Nat), .bool .true, .int (181:Int) (0:Nat), .ref (568:Nat), .none, .ref (569:Nat), .ref (570:Nat), .ref (571:Nat), .int (885:Int) (0:Nat), .int (334:Int) (0:Nat), .str (.ofString "/claim/cut.py") (886:Nat)], #[]⟩
noncomputable abbrev o_16x573 (P : Params) : Obj := ⟨.type "function", none, .func ⟨.ofString "__reduce_ex__", .ofString "Enum.__reduce_ex__", fnA (sd [12, 19]), .stmts (fnB (sd [12, 19])), fnS (sd [12, 19]), (3:Nat), [], .none, .none, .none, .str (.ofString "enum") (248:Nat), none, .ref (572:Nat), .none, (0:Nat)⟩, #[]⟩
noncomputable abbrev o_16x576 (P : Params) : Obj := ⟨.type "tuple", none, .seq #[.str (.ofString "self") (891:Nat), .str (.ofString "memo") (892:Nat)] (0:Nat), #[]⟩
noncomputable abbrev o_16x578 (P : Params) : Obj := ⟨.none, none, .func ⟨.ofString "__deepcopy__", .ofString "Enum.__deepcopy__", fnA (sd [12, 20]), .stmts (fnB (sd [12, 20])), fnS (sd [12, 20]), (0:Nat), [], .none, .none, .none, .none, none, .none, .none, (0:Nat)⟩, #[]⟩
noncomputable abbrev o_16x579 (P : Params) : Obj := ⟨.type "code", none, .fields #[.str (.ofString "__deepcopy__") (888:Nat), .str (.ofString "Enum.__deepcopy__") (889:Nat), .str (.ofString "/claim/cut.py") (890:Nat), .int (337:Int) (0:Nat), .int (2:Int) (0:Nat), .int (0:Int) (0:Nat), .int (0:Int) (0:Nat), .int (3:Int) (0:Nat), .ref (574:Nat), .bool .true, .int (181:Int) (0:Nat), .ref (575:Nat), .none, .ref (576:Nat), .ref (577:Nat), .ref (578:Nat), .int (893:Int) (0:Nat), .int (337:Int) (0:Nat), .str (.ofString "/claim/cut.py") (894:Nat)], #[]⟩
noncomputable abbrev o_16x580 (P : Params) : Obj := ⟨.type "function", none, .func ⟨.ofString "__deepcopy__", .ofString "Enum.__deepcopy__", fnA (sd [12, 20]), .stmts (fnB (sd [12, 20])), fnS (sd [12, 20]), (3:Nat), [], .none, .none, .none, .str (.ofString "enum") (248:Nat), none, .ref (579:Nat), .none, (0:Nat)⟩, #[]⟩
noncomputable abbrev o_16x583 (P : Params) : Obj := ⟨.type "tuple", none, .seq #[.str (.ofString "self") (899:Nat)] (0:Nat), #[]⟩
noncomputable abbrev o_16x585 (P : Params) : Obj := ⟨.none, none, .func ⟨.ofString "__copy__", .ofString "Enum.__copy__", fnA (sd [12, 21]), .stmts (fnB (sd [12, 21])), fnS (sd [12, 21]), (0:Nat), [], .none, .none, .none, .none, none, .none, .none, (0:Nat)⟩, #[]⟩
noncomputable abbrev o_16x586 (P : Params) : Obj := ⟨.type "code", none, .fields #[.str (.ofString "__copy__") (896:Nat), .str (.ofString "Enum.__copy__") (897:Nat), .str (.ofString "/claim/cut.py") (898:Nat), .int (340:Int) (0:Nat), .int (1:Int) (0:Nat), .int (0:Int) (0:Nat), .int (0:Int) (0:Nat), .int (3:Int) (0:Nat), .ref (581:Nat), .bool .true, .int (181:Int) (0:Nat), .ref (582:Nat), .none, .ref (583:Nat), .ref (584:Nat), .ref (585:Nat), .int (900:Int) (0:Nat), .int (340:Int) (0:Nat), .str (.ofString "/claim/cut.py") (901:Nat)], #[]⟩
noncomputable abbrev o_16x587 (P : Params) : Obj := ⟨.type "function", none, .func ⟨.ofString "__copy__", .ofString "Enum.__copy__", fnA (sd [12, 21]), .stmts (fnB (sd [12, 21])), fnS (sd [12, 21]), (3:Nat), [], .none, .none, .none, .str (.ofString "enum") (248:Nat), none, .ref (586:Nat), .none, (0:Nat)⟩, #[]⟩
noncomputable abbrev o_16x590 (P : Params) : Obj := ⟨.type "tuple", none, .seq #[.str (.ofString "self") (906:Nat)] (0:Nat), #[]⟩
noncomputable abbrev o_16x592 (P : Params) : Obj := ⟨.none, none, .func ⟨.ofString "__dir__", .ofString "Enum.__dir__", fnA (sd [12, 22]), .stmts (fnB (sd [12, 22])), fnS (sd [12, 22]), (0:Nat), [], .none, .none, .none, .none, none, .none, .none, (0:Nat)⟩, #[]⟩
noncomputable abbrev o_16x593 (P : Params) : Obj := ⟨.type "code", none, .fields #[.str (.ofString "__dir__") (903:Nat), .str (.ofString "Enum.__dir__") (904:Nat), .str (.ofString "/claim/cut.py") (905:Nat), .int (343:Int) (0:Nat), .int (1:Int) (0:Nat), .int (0:Int) (0:Nat), .int (0:Int) (0:Nat), .int (3:Int) (0:Nat), .ref (588:Nat), .bool .true, .int (181:Int) (0:Nat), .ref (589:Nat), .none, .ref (590:Nat), .ref (591:Nat), .ref (592:Nat), .int (907:Int) (0:Nat), .int (343:Int) (0:Nat), .str (.ofString "/claim/cut.py") (908:Nat)], #[]⟩
noncomputable abbrev o_16x594 (P : Params) : Obj := ⟨.type "function", none, .func ⟨.ofString "__dir__", .ofString "Enum.__dir__", fnA (sd [12, 22]), .stmts (fnB (sd [12, 22])), fnS (sd [12, 22]), (3:Nat), [], .none, .none, .none, .str (.ofString "enum") (248:Nat), none, .ref (593:Nat), .none, (0:Nat)⟩, #[]⟩
noncomputable abbrev o_16x597 (P : Params) : Obj := ⟨.type "tuple", none, .seq #[.str (.ofString "self") (913:Nat), .str (.ofString "name") (914:Nat)] (0:Nat), #[]⟩
noncomputable abbrev o_16x599 (P : Params) : Obj := ⟨.none, none, .func ⟨.ofString "_add_alias_", .ofString "Enum._add_alias_", fnA (sd [12, 23]), .stmts (fnB (sd [12, 23])), fnS (sd [12, 23]), (0:Nat), [], .none, .none, .none, .none, none, .none, .none, (0:Nat)⟩, #[]⟩
noncomputable abbrev o_16x600 (P : Params) : Obj := ⟨.type "code", none, .fields #[.str (.ofString "_add_alias_") (910:Nat), .str (.ofString "Enum._add_alias_") (911:Nat), .str (.ofString "/claim/cut.py") (912:Nat), .int (346:Int) (0:Nat), .int (2:Int) (0:Nat), .int (0:Int) (0:Nat), .int (0:Int) (0:Nat), .int (3:Int) (0:Nat), .ref (595:Nat), .bool .true, .int (181:Int) (0:Nat), .ref (596:Nat), .none, .ref (597:Nat), .ref (598:Nat), .ref (599:Nat), .int (915:Int) (0:Nat), .int (346:Int) (0:Nat), .str (.ofString "/claim/cut.py") (916:Nat)], #[]⟩
noncomputable abbrev o_16x601 (P : Params) : Obj := ⟨.type "function", none, .func ⟨.ofString "_add_alias_", .ofString "Enum._add_alias_", fnA (sd [12, 23]), .stmts (fnB (sd [12, 23])), fnS (sd [12, 23]), (3:Nat), [], .none, .none, .none, .str (.ofString "enum") (248:Nat), none, .ref (600:Nat), .none, (0:Nat)⟩, #[]⟩
noncomputable abbrev o_16x604 (P : Params) : Obj := ⟨.type "tuple", none, .seq #[.str (.ofString "self") (921:Nat), .str (.ofString "value") (922:Nat)] (0:Nat), #[]⟩
noncomputable abbrev o_16x606 (P : Params) : Obj := ⟨.none, none, .func ⟨.ofString "_add_value_alias_", .ofString "Enum._add_value_alias_", fnA (sd [12, 24]), .stmts (fnB (sd [12, 24])), fnS (sd [12, 24]), (0:Nat), [], .none, .none, .none, .none, none, .none, .none, (0:Nat)⟩, #[]⟩
noncomputable abbrev o_16x607 (P : Params) : Obj := ⟨.type "code", none, .fields #[.str (.ofString "_add_value_alias_") (918:Nat), .str (.ofString "Enum._add_value_alias_") (919:Nat), .str (.ofString "/claim/cut.py") (920:Nat), .int (349:Int) (0:Nat), .int (2:Int) (0:Nat), .int (0:Int) (0:Nat), .int (0:Int) (0:Nat), .int (3:Int) (0:Nat), .ref (602:Nat), .bool .true, .int (181:Int) (0:Nat), .ref (603:Nat), .none, .ref (604:Nat), .ref (605:Nat), .ref (606:Nat), .int (923:Int) (0:Nat), .int (349:Int) (0:Nat), .str (.ofString "/claim/cut.py") (924:Nat)], #[]⟩
noncomputable abbrev o_16x608 (P : Params) : Obj := ⟨.type "function", none, .func ⟨.ofString "_add_value_alias_", .ofString "Enum._add_value_alias_", fnA (sd [12, 24]), .stmts (fnB (sd [12, 24])), fnS (sd [12, 24]), (3:Nat), [], .none, .none, .none, .str (.ofString "enum") (248:Nat), none, .ref (607:Nat), .none, (0:Nat)⟩, #[]⟩
noncomputable abbrev o_16x609 (P : Params) : Obj := ⟨.type "dict", none, .dict #[⟨PySem.PyData.keyHash P (.ofString "name"), .str (.ofString "name") (930:Nat), .str (.ofString "name") (926:Nat)⟩] (1:Nat), #[]⟩
noncomputable abbrev o_16x610 (P : Params) : Obj := ⟨.ref (496:Nat), some (609:Nat), .plain, #[]⟩
noncomputable abbrev o_16x611 (P : Params) : Obj := ⟨.type "frame", none, .dict #[⟨PySem.PyData.keyHash P (.ofString "self"), .str (.ofString "self") (927:Nat), .ref (610:Nat)⟩, ⟨PySem.PyData.keyHash P (.ofString "name"), .str (.ofString "name") (928:Nat), .str (.ofString "name") (926:Nat)⟩] (2:Nat), #[]⟩
noncomputable abbrev o_16x612 (P : Params) : Obj := ⟨.type "dict", none, .dict #[⟨PySem.PyData.keyHash P (.ofString "name"), .str (.ofString "name") (936:Nat), .str (.ofString "value") (932:Nat)⟩] (1:Nat), #[]⟩
noncomputable abbrev o_16x613 (P : Params) : Obj := ⟨.ref (496:Nat), some (612:Nat), .plain, #[]⟩
noncomputable abbrev o_16x614 (P : Params) : Obj := ⟨.type "frame", none, .dict #[⟨PySem.PyData.keyHash P (.ofString "self"), .str (.ofString "self") (933:Nat), .ref (613:Nat)⟩, ⟨PySem.PyData.keyHash P (.ofString "name"), .str (.ofString "name") (934:Nat), .str (.ofString "value") (932:Nat)⟩] (2:Nat), #[]⟩
noncomputable abbrev o_16x617 (P : Params) : Obj := ⟨.type "frame", none, .dict #[⟨PySem.PyData.keyHash P (.ofString "metacls"), .str (.ofString "metacls") (940:Nat), .ref (454:Nat)⟩, ⟨PySem.PyData.keyHash P (.ofString "cls"), .str (.ofString "cls") (941:Nat), .str (.ofString "Enum") (780:Nat)⟩, ⟨PySem.PyData.keyHash P (.ofString "bases"), .str (.ofString "bases") (942:Nat), .ref (501:Nat)⟩, ⟨PySem.PyData.keyHash P (.ofString "classdict"), .str (.ofString "classdict") (943:Nat), .ref (503:Nat)⟩, ⟨PySem.PyData.keyHash P (.ofString "kwds"), .str (.ofString "kwds") (944:Nat), .ref (616:Nat)⟩, ⟨PySem.PyData.keyHash P (.ofString "made"), .str (.ofString "made") (955:Nat), .ref (620:Nat)⟩] (6:Nat), #[]⟩
noncomputable abbrev o_16x619 (P : Params) : Obj := ⟨.type "dict", none, .dict #[⟨PySem.PyData.keyHash P (.ofString "__module__"), .str (.ofString "__module__") (787:Nat), .str (.ofString "enum") (792:Nat)⟩, ⟨PySem.PyData.keyHash P (.ofString "__firstlineno__"), .str (.ofString "__firstlineno__") (791:Nat), .int (260:Int) (790:Nat)⟩, ⟨PySem.PyData.keyHash P (.ofString "_written_out_"), .str (.ofString "_written_out_") (795:Nat), .int (0:Int) (960:Nat)⟩, ⟨PySem.PyData.keyHash P (.ofString "_member_names_"), .str (.ofString "_member_names_") (796:Nat), .ref (508:Nat)⟩, ⟨PySem.PyData.keyHash P (.ofString "_member_map_"), .str (.ofString "_member_map_") (797:Nat), .ref (509:Nat)⟩, ⟨PySem.PyData.keyHash P (.ofString "_value2member_map_"), .str (.ofString "_value2member_map_") (798:Nat), .ref (510:Nat)⟩, ⟨PySem.PyData.keyHash P (.ofString "_hashable_values_"), .str (.ofString "_hashable_values_") (799:Nat), .ref (511:Nat)⟩, ⟨PySem.PyData.keyHash P (.ofString "_unhashable_values_"), .str (.ofString "_unhashable_values_") (800:Nat), .ref (512:Nat)⟩, ⟨PySem.PyData.keyHash P (.ofString "_unhashable_values_map_"), .str (.ofString "_unhashable_values_map_") (801:Nat), .ref (513:Nat)⟩, ⟨PySem.PyData.keyHash P (.ofString "_members_"), .str (.ofString "_members_") (802:Nat), .ref (514:Nat)⟩, ⟨PySem.PyData.keyHash P (.ofString "_value_repr_"), .str (.ofString "_value_repr_") (803:Nat), .none⟩, ⟨PySem.PyData.keyHash P (.ofString "_is_flag_"), .str (.ofString "_is_flag_") (804:Nat), .bool .false⟩, ⟨PySem.PyData.keyHash P (.ofString "_making_"), .str (.ofString "_making_") (805:Nat), .bool .false⟩, ⟨PySem.PyData.keyHash P (.ofString "__new__"), .str (.ofString "__new__") (820:Nat), .ref (621:Nat)⟩, ⟨PySem.PyData.keyHash P (.ofString "_missing_"), .str (.ofString "_missing_") (840:Nat), .ref (530:Nat)⟩, ⟨PySem.PyData.keyHash P (.ofString "__init__"), .str (.ofString "__init__") (849:Nat), .ref (538:Nat)⟩, ⟨PySem.PyData.keyHash P (.ofString "__repr__"), .str (.ofString "__repr__") (857:Nat), .ref (545:Nat)⟩, ⟨PySem.PyData.keyHash P (.ofString "__str__"), .str (.ofString "__str__") (864:Nat), .ref (552:Nat)⟩, ⟨PySem.PyData.keyHash P (.ofString "__format__"), .str (.ofString "__format__") (872:Nat), .ref (559:Nat)⟩, ⟨PySem.PyData.keyHash P (.ofString "__hash__"), .str (.ofString "__hash__") (879:Nat), .ref (566:Nat)⟩, ⟨PySem.PyData.keyHash P (.ofString "__reduce_ex__"), .str (.ofString "__reduce_ex__") (887:Nat), .ref (573:Nat)⟩, ⟨PySem.PyData.keyHash P (.ofString "__deepcopy__"), .str (.ofString "__deepcopy__") (895:Nat), .ref (580:Nat)⟩, ⟨PySem.PyData.keyHash P (.ofString "__copy__"), .str (.ofString "__copy__") (902:Nat), .ref (587:Nat)⟩, ⟨PySem.PyData.keyHash P (.ofString "__dir__"), .str (.ofString "__dir__") (909:Nat), .ref (594:Nat)⟩, ⟨PySem.PyData.keyHash P (.ofString "_add_alias_"), .str (.ofString "_add_alias_") (917:Nat), .ref (601:Nat)⟩, ⟨PySem.PyData.keyHash P (.ofString "_add_value_alias_"), .str (.ofString "_add_value_alias_") (925:Nat), .ref (608:Nat)⟩, ⟨PySem.PyData.keyHash P (.ofString "name"), .str (.ofString "name") (931:Nat), .ref (610:Nat)⟩, ⟨PySem.PyData.keyHash P (.ofString "value"), .str (.ofString "value") (937:Nat), .ref (613:Nat)⟩, ⟨PySem.PyData.keyHash P (.ofString "__static_attributes__"), .str (.ofString "__static_attributes__") (938:Nat), .ref (615:Nat)⟩, ⟨PySem.PyData.keyHash P (.ofString "__dict__"), .str (.ofString "__dict__") (950:Nat), .ref (622:Nat)⟩, ⟨PySem.PyData.keyHash P (.ofString "__weakref__"), .str (.ofString "__weakref__") (952:Nat), .ref (623:Nat)⟩, ⟨PySem.PyData.keyHash P (.ofString "__doc__"), .str (.ofString "__doc__") (953:Nat), .none⟩] (4:Nat), #[]⟩
noncomputable abbrev o_16x620 (P : Params) : Obj := ⟨.ref (454:Nat), none, .cls ⟨.ofString "Enum", [.type "object"], [.ref (620:Nat), .type "object"], (619:Nat), .ofString "Enum", .true, [], [.ref (643:Nat)], .false, none, .false⟩, #[none, none, some (.str (.ofString "Enum") (780:Nat)), some (.str (.ofString "Enum") (788:Nat)), some .none, some (.bool .true)]⟩
noncomputable abbrev o_16x621 (P : Params) : Obj := ⟨.type "staticmethod", none, .fields #[.ref (521:Nat)], #[]⟩
noncomputable abbrev o_16x622 (P : Params) : Obj := ⟨.type "getset_descriptor", none, .fields #[.str (.ofString "__dict__") (949:Nat), .ref (620:Nat), .builtin "function.__dict__", .builtin "function.__dict__#set"], #[]⟩
noncomputable abbrev o_16x623 (P : Params) : Obj := ⟨.type "getset_descriptor", none, .fields #[.str (.ofString "__weakref__") (951:Nat), .ref (620:Nat), .builtin "ExceptionGroup.__weakref__", .none], #[]⟩
noncomputable abbrev o_16x624 (P : Params) : Obj := ⟨.type "super", none, .fields #[.ref (620:Nat), .ref (620:Nat), .ref (620:Nat)], #[]⟩
noncomputable abbrev o_16x625 (P : Params) : Obj := ⟨.type "builtin_function_or_method", none, .fields #[.builtin "object.__init_subclass__", .ref (620:Nat)], #[]⟩
noncomputable abbrev o_16x626 (P : Params) : Obj := ⟨.type "method", none, .fields #[.ref (444:Nat), .ref (620:Nat)], #[]⟩
noncomputable abbrev o_16x627 (P : Params) : Obj := ⟨.type "frame", none, .dict #[⟨PySem.PyData.keyHash P (.ofString "cls"), .str (.ofString "cls") (961:Nat), .ref (620:Nat)⟩, ⟨PySem.PyData.keyHash P (.ofString "name"), .str (.ofString "name") (962:Nat), .str (.ofString "_written_out_") (959:Nat)⟩, ⟨PySem.PyData.keyHash P (.ofString "value"), .str (.ofString "value") (963:Nat), .int (0:Int) (960:Nat)⟩] (3:Nat), #[]⟩
noncomputable abbrev o_16x628 (P : Params) : Obj := ⟨.type "super", none, .fields #[.ref (454:Nat), .ref (620:Nat), .ref (454:Nat)], #[]⟩
noncomputable abbrev o_16x629 (P : Params) : Obj := ⟨.type "method-wrapper", none, .fields #[.builtin "type.__setattr__", .ref (620:Nat)], #[]⟩
noncomputable abbrev o_16x630 (P : Params) : Obj := ⟨.type "tuple", none, .seq #[.ref (620:Nat)] (0:Nat), #[]⟩
noncomputable abbrev o_16x632 (P : Params) : Obj := ⟨.type "dict", none, .dict #[⟨PySem.PyData.keyHash P (.ofString "__module__"), .str (.ofString "__module__") (976:Nat), .str (.ofString "symspellpy.editdistance") (967:Nat)⟩, ⟨PySem.PyData.keyHash P (.ofString "__qualname__"), .str (.ofString "__qualname__") (978:Nat), .str (.ofString "DistanceAlgorithm") (977:Nat)⟩, ⟨PySem.PyData.keyHash P (.ofString "__firstlineno__"), .str (.ofString "__firstlineno__") (980:Nat), .int (354:Int) (979:Nat)⟩, ⟨PySem.PyData.keyHash P (.ofString "_written_out_"), .str (.ofString "_written_out_") (982:Nat), .int (4:Int) (981:Nat)⟩, ⟨PySem.PyData.keyHash P (.ofString "_member_names_"), .str (.ofString "_member_names_") (988:Nat), .ref (637:Nat)⟩, ⟨PySem.PyData.keyHash P (.ofString "_value_repr_"), .str (.ofString "_value_repr_") (990:Nat), .none⟩, ⟨PySem.PyData.keyHash P (.ofString "__static_attributes__"), .str (.ofString "__static_attributes__") (991:Nat), .ref (638:Nat)⟩] (7:Nat), #[]⟩
noncomputable abbrev o_16x635 (P : Params) : Obj := ⟨.type "code", none, .fields #[.str (.ofString "DistanceAlgorithm") (971:Nat), .str (.ofString "DistanceAlgorithm") (972:Nat), .str (.ofString "/claim/cut.py") (973:Nat), .int (354:Int) (0:Nat), .int (0:Int) (0:Nat), .int (0:Int) (0:Nat), .int (0:Int) (0:Nat), .int (0:Int) (0:Nat), .ref (633:Nat), .bool .false, .int (181:Int) (0:Nat), .ref (634:Nat), .none, .none, .none, .none, .int (974:Int) (0:Nat), .int (354:Int) (0:Nat), .str (.ofString "/claim/cut.py") (975:Nat)], #[]⟩
noncomputable abbrev o_16x636 (P : Params) : Obj := ⟨.type "frame", none, .plain, #[some (.ref (635:Nat)), some (.ref (3:Nat)), some (.ref (632:Nat)), none, some (.str (.ofString "symspellpy.editdistance") (967:Nat)), none, some (.ref (0:Nat))]⟩
noncomputable abbrev o_16x637 (P : Params) : Obj := ⟨.type "list", none, .seq #[.str (.ofString "LEVENSHTEIN") (983:Nat), .str (.ofString "DAMERAU_OSA") (984:Nat), .str (.ofString "LEVENSHTEIN_FAST") (985:Nat), .str (.ofString "DAMERAU_OSA_FAST") (986:Nat), .str (.ofString "USER_PROVIDED") (987:Nat)] (0:Nat), #[]⟩
noncomputable abbrev o_16x640 (P : Params) : Obj := ⟨.type "frame", none, .dict #[⟨PySem.PyData.keyHash P (.ofString "metacls"), .str (.ofString "metacls") (993:Nat), .ref (454:Nat)⟩, ⟨PySem.PyData.keyHash P (.ofString "cls"), .str (.ofString "cls") (994:Nat), .str (.ofString "DistanceAlgorithm") (969:Nat)⟩, ⟨PySem.PyData.keyHash P (.ofString "bases"), .str (.ofString "bases") (995:Nat), .ref (630:Nat)⟩, ⟨PySem.PyData.keyHash P (.ofString "classdict"), .str (.ofString "classdict") (996:Nat), .ref (632:Nat)⟩, ⟨PySem.PyData.keyHash P (.ofString "kwds"), .str (.ofString "kwds") (997:Nat), .ref (639:Nat)⟩, ⟨PySem.PyData.keyHash P (.ofString "made"), .str (.ofString "made") (1003:Nat), .ref (643:Nat)⟩] (6:Nat), #[]⟩
noncomputable abbrev o_16x642 (P : Params) : Obj := ⟨.type "dict", none, .dict #[⟨PySem.PyData.keyHash P (.ofString "__module__"), .str (.ofString "__module__") (976:Nat), .str (.ofString "symspellpy.editdistance") (967:Nat)⟩, ⟨PySem.PyData.keyHash P (.ofString "__firstlineno__"), .str (.ofString "__firstlineno__") (980:Nat), .int (354:Int) (979:Nat)⟩, ⟨PySem.PyData.keyHash P (.ofString "_written_out_"), .str (.ofString "_written_out_") (982:Nat), .int (0:Int) (1008:Nat)⟩, ⟨PySem.PyData.keyHash P (.ofString "_member_names_"), .str (.ofString "_member_names_") (988:Nat), .ref (637:Nat)⟩, ⟨PySem.PyData.keyHash P (.ofString "_value_repr_"), .str (.ofString "_value_repr_") (990:Nat), .none⟩, ⟨PySem.PyData.keyHash P (.ofString "__static_attributes__"), .str (.ofString "__static_attributes__") (991:Nat), .ref (638:Nat)⟩, ⟨PySem.PyData.keyHash P (.ofString "__doc__"), .str (.ofString "__doc__") (1001:Nat), .none⟩] (2:Nat), #[]⟩
noncomputable abbrev o_16x643 (P : Params) : Obj := ⟨.ref (454:Nat), none, .cls ⟨.ofString "DistanceAlgorithm", [.ref (620:Nat)], [.ref (643:Nat), .ref (620:Nat), .type "object"], (642:Nat), .ofString "DistanceAlgorithm", .true, [], [], .false, none, .false⟩, #[some (.ref (630:Nat)), none, some (.str (.ofString "DistanceAlgorithm") (969:Nat)), some (.str (.ofString "DistanceAlgorithm") (977:Nat)), some .none, some (.bool .true)]⟩
noncomputable abbrev o_16x644 (P : Params) : Obj := ⟨.type "super", none, .fields #[.ref (643:Nat), .ref (643:Nat), .ref (643:Nat)], #[]⟩
noncomputable abbrev o_16x645 (P : Params) : Obj := ⟨.type "builtin_function_or_method", none, .fields #[.builtin "object.__init_subclass__", .ref (643:Nat)], #[]⟩
noncomputable abbrev o_16x646 (P : Params) : Obj := ⟨.type "method", none, .fields #[.ref (444:Nat), .ref (643:Nat)], #[]⟩
noncomputable abbrev o_16x647 (P : Params) : Obj := ⟨.type "frame", none, .dict #[⟨PySem.PyData.keyHash P (.ofString "cls"), .str (.ofString "cls") (1009:Nat), .ref (643:Nat)⟩, ⟨PySem.PyData.keyHash P (.ofString "name"), .str (.ofString "name") (1010:Nat), .str (.ofString "_written_out_") (1007:Nat)⟩, ⟨PySem.PyData.keyHash P (.ofString "value"), .str (.ofString "value") (1011:Nat), .int (0:Int) (1008:Nat)⟩] (3:Nat), #[]⟩
noncomputable abbrev o_16x648 (P : Params) : Obj := ⟨.type "super", none, .fields #[.ref (454:Nat), .ref (643:Nat), .ref (454:Nat)], #[]⟩
noncomputable abbrev o_16x649 (P : Params) : Obj := ⟨.type "method-wrapper", none, .fields #[.builtin "type.__setattr__", .ref (643:Nat)], #[]⟩
noncomputable abbrev o_16x652 (P : Params) : Obj := ⟨.type "tuple", none, .seq #[.str (.ofString "_v0") (1018:Nat), .str (.ofString "_m0") (1019:Nat), .str (.ofString "_v1") (1020:Nat), .str (.ofString "_m1") (1021:Nat), .str (.ofString "_v2") (1022:Nat), .str (.ofString "_m2") (1023:Nat), .str (.ofString "_v3") (1024:Nat), .str (.ofString "_m3") (1025:Nat), .str (.ofString "_v4") (1026:Nat), .str (.ofString "_m4") (1027:Nat)] (0:Nat), #[]⟩
noncomputable abbrev o_16x654 (P : Params) : Obj := ⟨.none, none, .func ⟨.ofString "_lay_DistanceAlgorithm", .ofString "_lay_DistanceAlgorithm", fnA (sd [15]), .stmts (fnB (sd [15])), fnS (sd [15]), (0:Nat), [], .none, .none, .none, .none, none, .none, .none, (0:Nat)⟩, #[]⟩
noncomputable abbrev o_16x655 (P : Params) : Obj := ⟨.type "code", none, .fields #[.str (.ofString "_lay_DistanceAlgorithm") (1015:Nat), .str (.ofString "_lay_DistanceAlgorithm") (1016:Nat), .str (.ofString "/claim/cut.py") (1017:Nat), .int (358:Int) (0:Nat), .int (0:Int) (0:Nat), .int (0:Int) (0:Nat), .int (0:Int) (0:Nat), .int (3:Int) (0:Nat), .ref (650:Nat), .bool .true, .int (181:Int) (0:Nat), .ref (651:Nat), .none, .ref (652:Nat), .ref (653:Nat), .ref (654:Nat), .int (1028:Int) (0:Nat), .int (358:Int) (0:Nat), .str (.ofString "/claim/cut.py") (1029:Nat)], #[]⟩
noncomputable abbrev o_16x656 (P : Params) : Obj := ⟨.type "function", none, .func ⟨.ofString "_lay_DistanceAlgorithm", .ofString "_lay_DistanceAlgorithm", fnA (sd [15]), .stmts (fnB (sd [15])), fnS (sd [15]), (3:Nat), [], .none, .none, .none, .str (.ofString "symspellpy.editdistance") (967:Nat), none, .ref (655:Nat), .none, (0:Nat)⟩, #[]⟩
noncomputable abbrev o_17x642 (P : Params) : Obj := ⟨.type "dict", none, .dict #[⟨PySem.PyData.keyHash P (.ofString "__module__"), .str (.ofString "__module__") (976:Nat), .str (.ofString "symspellpy.editdistance") (967:Nat)⟩, ⟨PySem.PyData.keyHash P (.ofString "__firstlineno__"), .str (.ofString "__firstlineno__") (980:Nat), .int (354:Int) (979:Nat)⟩, ⟨PySem.PyData.keyHash P (.ofString "_written_out_"), .str (.ofString "_written_out_") (982:Nat), .int (0:Int) (1008:Nat)⟩, ⟨PySem.PyData.keyHash P (.ofString "_member_names_"), .str (.ofString "_member_names_") (988:Nat), .ref (637:Nat)⟩, ⟨PySem.PyData.keyHash P (.ofString "_value_repr_"), .str (.ofString "_value_repr_") (990:Nat), .none⟩, ⟨PySem.PyData.keyHash P (.ofString "__static_attributes__"), .str (.ofString "__static_attributes__") (991:Nat), .ref (638:Nat)⟩, ⟨PySem.PyData.keyHash P (.ofString "__doc__"), .str (.ofString "__doc__") (1001:Nat), .none⟩, ⟨PySem.PyData.keyHash P (.ofString "__new__"), .str (.ofString "__new__") (1051:Nat), .ref (521:Nat)⟩, ⟨PySem.PyData.keyHash P (.ofString "LEVENSHTEIN"), .str (.ofString "LEVENSHTEIN") (1129:Nat), .ref (668:Nat)⟩, ⟨PySem.PyData.keyHash P (.ofString "DAMERAU_OSA"), .str (.ofString "DAMERAU_OSA") (1137:Nat), .ref (670:Nat)⟩, ⟨PySem.PyData.keyHash P (.ofString "LEVENSHTEIN_FAST"), .str (.ofString "LEVENSHTEIN_FAST") (1145:Nat), .ref (672:Nat)⟩, ⟨PySem.PyData.keyHash P (.ofString "DAMERAU_OSA_FAST"), .str (.ofString "DAMERAU_OSA_FAST") (1153:Nat), .ref (674:Nat)⟩, ⟨PySem.PyData.keyHash P (.ofString "USER_PROVIDED"), .str (.ofString "USER_PROVIDED") (1161:Nat), .ref (676:Nat)⟩, ⟨PySem.PyData.keyHash P (.ofString "_member_map_"), .str (.ofString "_member_map_") (1179:Nat), .ref (692:Nat)⟩, ⟨PySem.PyData.keyHash P (.ofString "_value2member_map_"), .str (.ofString "_value2member_map_") (1192:Nat), .ref (696:Nat)⟩, ⟨PySem.PyData.keyHash P (.ofString "_hashable_values_"), .str (.ofString "_hashable_values_") (1200:Nat), .ref (700:Nat)⟩] (11:Nat), #[]⟩
noncomputable abbrev o_17x657 (P : Params) : Obj := ⟨.type "frame", none, .dict #[⟨PySem.PyData.keyHash P (.ofString "_v0"), .str (.ofString "_v0") (1053:Nat), .int (0:Int) (1052:Nat)⟩, ⟨PySem.PyData.keyHash P (.ofString "_m0"), .str (.ofString "_m0") (1055:Nat), .ref (668:Nat)⟩, ⟨PySem.PyData.keyHash P (.ofString "_v1"), .str (.ofString "_v1") (1067:Nat), .int (1:Int) (1066:Nat)⟩, ⟨PySem.PyData.keyHash P (.ofString "_m1"), .str (.ofString "_m1") (1069:Nat), .ref (670:Nat)⟩, ⟨PySem.PyData.keyHash P (.ofString "_v2"), .str (.ofString "_v2") (1081:Nat), .int (2:Int) (1080:Nat)⟩, ⟨PySem.PyData.keyHash P (.ofString "_m2"), .str (.ofString "_m2") (1083:Nat), .ref (672:Nat)⟩, ⟨PySem.PyData.keyHash P (.ofString "_v3"), .str (.ofString "_v3") (1095:Nat), .int (3:Int) (1094:Nat)⟩, ⟨PySem.PyData.keyHash P (.ofString "_m3"), .str (.ofString "_m3") (1097:Nat), .ref (674:Nat)⟩, ⟨PySem.PyData.keyHash P (.ofString "_v4"), .str (.ofString "_v4") (1109:Nat), .int (4:Int) (1108:Nat)⟩, ⟨PySem.PyData.keyHash P (.ofString "_m4"), .str (.ofString "_m4") (1111:Nat), .ref (676:Nat)⟩] (10:Nat), #[]⟩
noncomputable abbrev o_17x658 (P : Params) : Obj := ⟨.type "method", none, .fields #[.ref (265:Nat), .ref (643:Nat)], #[]⟩
noncomputable abbrev o_17x659 (P : Params) : Obj := ⟨.type "frame", none, .dict #[⟨PySem.PyData.keyHash P (.ofString "cls"), .str (.ofString "cls") (1032:Nat), .ref (643:Nat)⟩, ⟨PySem.PyData.keyHash P (.ofString "own_init"), .str (.ofString "own_init") (1033:Nat), .bool .false⟩, ⟨PySem.PyData.keyHash P (.ofString "asks_new"), .str (.ofString "asks_new") (1034:Nat), .bool .true⟩] (3:Nat), #[]⟩
noncomputable abbrev o_17x661 (P : Params) : Obj := ⟨.type "builtin_function_or_method", none, .fields #[.builtin "object.__init_subclass__", .type "object"], #[]⟩
noncomputable abbrev o_17x662 (P : Params) : Obj := ⟨.type "tuple", none, .seq #[.str (.ofString "type object 'DistanceAlgorithm' has no attribute '_value_'") (1042:Nat)] (0:Nat), #[]⟩
noncomputable abbrev o_17x663 (P : Params) : Obj := ⟨.type "AttributeError", none, .fields #[.ref (662:Nat), .none, .none, .none, .bool .false, .none, .int (0:Int) (0:Nat), .int (0:Int) (0:Nat)], #[]⟩
noncomputable abbrev o_17x664 (P : Params) : Obj := ⟨.type "frame", none, .dict #[⟨PySem.PyData.keyHash P (.ofString "cls"), .str (.ofString "cls") (1045:Nat), .ref (643:Nat)⟩, ⟨PySem.PyData.keyHash P (.ofString "name"), .str (.ofString "name") (1046:Nat), .str (.ofString "__new__") (1044:Nat)⟩, ⟨PySem.PyData.keyHash P (.ofString "value"), .str (.ofString "value") (1047:Nat), .ref (521:Nat)⟩] (3:Nat), #[]⟩
noncomputable abbrev o_17x667 (P : Params) : Obj := ⟨.type "dict", none, .dict #[⟨PySem.PyData.keyHash P (.ofString "_value_"), .str (.ofString "_value_") (1057:Nat), .int (0:Int) (1052:Nat)⟩, ⟨PySem.PyData.keyHash P (.ofString "_name_"), .str (.ofString "_name_") (1060:Nat), .str (.ofString "LEVENSHTEIN") (1058:Nat)⟩, ⟨PySem.PyData.keyHash P (.ofString "__objclass__"), .str (.ofString "__objclass__") (1062:Nat), .ref (643:Nat)⟩, ⟨PySem.PyData.keyHash P (.ofString "_sort_order_"), .str (.ofString "_sort_order_") (1065:Nat), .int (0:Int) (1063:Nat)⟩] (4:Nat), #[]⟩
noncomputable abbrev o_17x668 (P : Params) : Obj := ⟨.ref (643:Nat), some (667:Nat), .plain, #[]⟩
noncomputable abbrev o_17x669 (P : Params) : Obj := ⟨.type "dict", none, .dict #[⟨PySem.PyData.keyHash P (.ofString "_value_"), .str (.ofString "_value_") (1071:Nat), .int (1:Int) (1066:Nat)⟩, ⟨PySem.PyData.keyHash P (.ofString "_name_"), .str (.ofString "_name_") (1074:Nat), .str (.ofString "DAMERAU_OSA") (1072:Nat)⟩, ⟨PySem.PyData.keyHash P (.ofString "__objclass__"), .str (.ofString "__objclass__") (1076:Nat), .ref (643:Nat)⟩, ⟨PySem.PyData.keyHash P (.ofString "_sort_order_"), .str (.ofString "_sort_order_") (1079:Nat), .int (1:Int) (1077:Nat)⟩] (4:Nat), #[]⟩
noncomputable abbrev o_17x670 (P : Params) : Obj := ⟨.ref (643:Nat), some (669:Nat), .plain, #[]⟩
noncomputable abbrev o_17x671 (P : Params) : Obj := ⟨.type "dict", none, .dict #[⟨PySem.PyData.keyHash P (.ofString "_value_"), .str (.ofString "_value_") (1085:Nat), .int (2:Int) (1080:Nat)⟩, ⟨PySem.PyData.keyHash P (.ofString "_name_"), .str (.ofString "_name_") (1088:Nat), .str (.ofString "LEVENSHTEIN_FAST") (1086:Nat)⟩, ⟨PySem.PyData.keyHash P (.ofString "__objclass__"), .str (.ofString "__objclass__") (1090:Nat), .ref (643:Nat)⟩, ⟨PySem.PyData.keyHash P (.ofString "_sort_order_"), .str (.ofString "_sort_order_") (1093:Nat), .int (2:Int) (1091:Nat)⟩] (4:Nat), #[]⟩
noncomputable abbrev o_17x672 (P : Params) : Obj := ⟨.ref (643:Nat), some (671:Nat), .plain, #[]⟩
noncomputable abbrev o_17x673 (P : Params) : Obj := ⟨.type "dict", none, .dict #[⟨PySem.PyData.keyHash P (.ofString "_value_"), .str (.ofString "_value_") (1099:Nat), .int (3:Int) (1094:Nat)⟩, ⟨PySem.PyData.keyHash P (.ofString "_name_"), .str (.ofString "_name_") (1102:Nat), .str (.ofString "DAMERAU_OSA_FAST") (1100:Nat)⟩, ⟨PySem.PyData.keyHash P (.ofString "__objclass__"), .str (.ofString "__objclass__") (1104:Nat), .ref (643:Nat)⟩, ⟨PySem.PyData.keyHash P (.ofString "_sort_order_"), .str (.ofString "_sort_order_") (1107:Nat), .int (3:Int) (1105:Nat)⟩] (4:Nat), #[]⟩
noncomputable abbrev o_17x674 (P : Params) : Obj := ⟨.ref (643:Nat), some (673:Nat), .plain, #[]⟩
noncomputable abbrev o_17x675 (P : Params) : Obj := ⟨.type "dict", none, .dict #[⟨PySem.PyData.keyHash P (.ofString "_value_"), .str (.ofString "_value_") (1113:Nat), .int (4:Int) (1108:Nat)⟩, ⟨PySem.PyData.keyHash P (.ofString "_name_"), .str (.ofString "_name_") (1116:Nat), .str (.ofString "USER_PROVIDED") (1114:Nat)⟩, ⟨PySem.PyData.keyHash P (.ofString "__objclass__"), .str (.ofString "__objclass__") (1118:Nat), .ref (643:Nat)⟩, ⟨PySem.PyData.keyHash P (.ofString "_sort_order_"), .str (.ofString "_sort_order_") (1121:Nat), .int (4:Int) (1119:Nat)⟩] (4:Nat), #[]⟩
noncomputable abbrev o_17x676 (P : Params) : Obj := ⟨.ref (643:Nat), some (675:Nat), .plain, #[]⟩
noncomputable abbrev o_17x677 (P : Params) : Obj := ⟨.type "frame", none, .dict #[⟨PySem.PyData.keyHash P (.ofString "cls"), .str (.ofString "cls") (1123:Nat), .ref (643:Nat)⟩, ⟨PySem.PyData.keyHash P (.ofString "name"), .str (.ofString "name") (1124:Nat), .str (.ofString "LEVENSHTEIN") (1122:Nat)⟩, ⟨PySem.PyData.keyHash P (.ofString "value"), .str (.ofString "value") (1125:Nat), .ref (668:Nat)⟩] (3:Nat), #[]⟩
noncomputable abbrev o_17x680 (P : Params) : Obj := ⟨.type "frame", none, .dict #[⟨PySem.PyData.keyHash P (.ofString "cls"), .str (.ofString "cls") (1131:Nat), .ref (643:Nat)⟩, ⟨PySem.PyData.keyHash P (.ofString "name"), .str (.ofString "name") (1132:Nat), .str (.ofString "DAMERAU_OSA") (1130:Nat)⟩, ⟨PySem.PyData.keyHash P (.ofString "value"), .str (.ofString "value") (1133:Nat), .ref (670:Nat)⟩] (3:Nat), #[]⟩
noncomputable abbrev o_17x683 (P : Params) : Obj := ⟨.type "frame", none, .dict #[⟨PySem.PyData.keyHash P (.ofString "cls"), .str (.ofString "cls") (1139:Nat), .ref (643:Nat)⟩, ⟨PySem.PyData.keyHash P (.ofString "name"), .str (.ofString "name") (1140:Nat), .str (.ofString "LEVENSHTEIN_FAST") (1138:Nat)⟩, ⟨PySem.PyData.keyHash P (.ofString "value"), .str (.ofString "value") (1141:Nat), .ref (672:Nat)⟩] (3:Nat), #[]⟩
noncomputable abbrev o_17x686 (P : Params) : Obj := ⟨.type "frame", none, .dict #[⟨PySem.PyData.keyHash P (.ofString "cls"), .str (.ofString "cls") (1147:Nat), .ref (643:Nat)⟩, ⟨PySem.PyData.keyHash P (.ofString "name"), .str (.ofString "name") (1148:Nat), .str (.ofString "DAMERAU_OSA_FAST") (1146:Nat)⟩, ⟨PySem.PyData.keyHash P (.ofString "value"), .str (.ofString "value") (1149:Nat), .ref (674:Nat)⟩] (3:Nat), #[]⟩
noncomputable abbrev o_17x689 (P : Params) : Obj := ⟨.type "frame", none, .dict #[⟨PySem.PyData.keyHash P (.ofString "cls"), .str (.ofString "cls") (1155:Nat), .ref (643:Nat)⟩, ⟨PySem.PyData.keyHash P (.ofString "name"), .str (.ofString "name") (1156:Nat), .str (.ofString "USER_PROVIDED") (1154:Nat)⟩, ⟨PySem.PyData.keyHash P (.ofString "value"), .str (.ofString "value") (1157:Nat), .ref (676:Nat)⟩] (3:Nat), #[]⟩
noncomputable abbrev o_17x692 (P : Params) : Obj := ⟨.type "dict", none, .dict #[⟨PySem.PyData.keyHash P (.ofString "LEVENSHTEIN"), .str (.ofString "LEVENSHTEIN") (1162:Nat), .ref (668:Nat)⟩, ⟨PySem.PyData.keyHash P (.ofString "DAMERAU_OSA"), .str (.ofString "DAMERAU_OSA") (1163:Nat), .ref (670:Nat)⟩, ⟨PySem.PyData.keyHash P (.ofString "LEVENSHTEIN_FAST"), .str (.ofString "LEVENSHTEIN_FAST") (1164:Nat), .ref (672:Nat)⟩, ⟨PySem.PyData.keyHash P (.ofString "DAMERAU_OSA_FAST"), .str (.ofString "DAMERAU_OSA_FAST") (1165:Nat), .ref (674:Nat)⟩, ⟨PySem.PyData.keyHash P (.ofString "USER_PROVIDED"), .str (.ofString "USER_PROVIDED") (1166:Nat), .ref (676:Nat)⟩] (5:Nat), #[]⟩
noncomputable abbrev o_17x693 (P : Params) : Obj := ⟨.type "frame", none, .dict #[⟨PySem.PyData.keyHash P (.ofString "cls"), .str (.ofString "cls") (1173:Nat), .ref (643:Nat)⟩, ⟨PySem.PyData.keyHash P (.ofString "name"), .str (.ofString "name") (1174:Nat), .str (.ofString "_member_map_") (1172:Nat)⟩, ⟨PySem.PyData.keyHash P (.ofString "value"), .str (.ofString "value") (1175:Nat), .ref (692:Nat)⟩] (3:Nat), #[]⟩
noncomputable abbrev o_17x696 (P : Params) : Obj := ⟨.type "dict", none, .dict #[⟨(0:Int), .int (0:Int) (1052:Nat), .ref (668:Nat)⟩, ⟨(1:Int), .int (1:Int) (1066:Nat), .ref (670:Nat)⟩, ⟨(2:Int), .int (2:Int) (1080:Nat), .ref (672:Nat)⟩, ⟨(3:Int), .int (3:Int) (1094:Nat), .ref (674:Nat)⟩, ⟨(4:Int), .int (4:Int) (1108:Nat), .ref (676:Nat)⟩] (5:Nat), #[]⟩
noncomputable abbrev o_17x697 (P : Params) : Obj := ⟨.type "frame", none, .dict #[⟨PySem.PyData.keyHash P (.ofString "cls"), .str (.ofString "cls") (1186:Nat), .ref (643:Nat)⟩, ⟨PySem.PyData.keyHash P (.ofString "name"), .str (.ofString "name") (1187:Nat), .str (.ofString "_value2member_map_") (1185:Nat)⟩, ⟨PySem.PyData.keyHash P (.ofString "value"), .str (.ofString "value") (1188:Nat), .ref (696:Nat)⟩] (3:Nat), #[]⟩
noncomputable abbrev o_17x700 (P : Params) : Obj := ⟨.type "list", none, .seq #[.int (0:Int) (1052:Nat), .int (1:Int) (1066:Nat), .int (2:Int) (1080:Nat), .int (3:Int) (1094:Nat), .int (4:Int) (1108:Nat)] (0:Nat), #[]⟩
noncomputable abbrev o_17x701 (P : Params) : Obj := ⟨.type "frame", none, .dict #[⟨PySem.PyData.keyHash P (.ofString "cls"), .str (.ofString "cls") (1194:Nat), .ref (643:Nat)⟩, ⟨PySem.PyData.keyHash P (.ofString "name"), .str (.ofString "name") (1195:Nat), .str (.ofString "_hashable_values_") (1193:Nat)⟩, ⟨PySem.PyData.keyHash P (.ofString "value"), .str (.ofString "value") (1196:Nat), .ref (700:Nat)⟩] (3:Nat), #[]⟩
noncomputable abbrev o_27x3 (P : Params) : Obj := ⟨.type "dict", none, .dict #[⟨PySem.PyData.keyHash P (.ofString "__name__"), .str (.ofString "__name__") (165:Nat), .str (.ofString "law_db5021_01") (1375:Nat)⟩, ⟨PySem.PyData.keyHash P (.ofString "__doc__"), .str (.ofString "__doc__") (166:Nat), .none⟩, ⟨PySem.PyData.keyHash P (.ofString "__package__"), .str (.ofString "__package__") (167:Nat), .none⟩, ⟨PySem.PyData.keyHash P (.ofString "__loader__"), .str (.ofString "__loader__") (168:Nat), .builtin "__main__.__loader__#opaque"⟩, ⟨PySem.PyData.keyHash P (.ofString "__spec__"), .str (.ofString "__spec__") (169:Nat), .none⟩, ⟨PySem.PyData.keyHash P (.ofString "__annotations__"), .str (.ofString "__annotations__") (170:Nat), .ref (6:Nat)⟩, ⟨PySem.PyData.keyHash P (.ofString "__builtins__"), .str (.ofString "__builtins__") (171:Nat), .ref (4:Nat)⟩, ⟨PySem.PyData.keyHash P (.ofString "__file__"), .str (.ofString "__file__") (173:Nat), .str (.ofString "/claim/cut.py") (172:Nat)⟩, ⟨PySem.PyData.keyHash P (.ofString "__cached__"), .str (.ofString "__cached__") (174:Nat), .none⟩, ⟨PySem.PyData.keyHash P (.ofString "_wall"), .str (.ofString "_wall") (193:Nat), .ref (21:Nat)⟩, ⟨PySem.PyData.keyHash P (.ofString "null_distance_results"), .str (.ofString "null_distance_results") (204:Nat), .ref (28:Nat)⟩, ⟨PySem.PyData.keyHash P (.ofString "prefix_suffix_prep"), .str (.ofString "prefix_suffix_prep") (215:Nat), .ref (35:Nat)⟩, ⟨PySem.PyData.keyHash P (.ofString "AbstractDistanceComparer"), .str (.ofString "AbstractDistanceComparer") (247:Nat), .ref (52:Nat)⟩, ⟨PySem.PyData.keyHash P (.ofString "_OWN_NAMES"), .str (.ofString "_OWN_NAMES") (255:Nat), .ref (57:Nat)⟩, ⟨PySem.PyData.keyHash P (.ofString "mappingproxy"), .str (.ofString "mappingproxy") (463:Nat), .ref (238:Nat)⟩, ⟨PySem.PyData.keyHash P (.ofString "_MEMBERS_VIEW"), .str (.ofString "_MEMBERS_VIEW") (464:Nat), .ref (238:Nat)⟩, ⟨PySem.PyData.keyHash P (.ofString "EnumType"), .str (.ofString "EnumType") (724:Nat), .ref (454:Nat)⟩, ⟨PySem.PyData.keyHash P (.ofString "_EnumField"), .str (.ofString "_EnumField") (779:Nat), .ref (496:Nat)⟩, ⟨PySem.PyData.keyHash P (.ofString "Enum"), .str (.ofString "Enum") (966:Nat), .ref (620:Nat)⟩, ⟨PySem.PyData.keyHash P (.ofString "DistanceAlgorithm"), .str (.ofString "DistanceAlgorithm") (1014:Nat), .ref (643:Nat)⟩, ⟨PySem.PyData.keyHash P (.ofString "_lay_DistanceAlgorithm"), .str (.ofString "_lay_DistanceAlgorithm") (1030:Nat), .ref (656:Nat)⟩, ⟨PySem.PyData.keyHash P (.ofString "EditDistance"), .str (.ofString "EditDistance") (1241:Nat), .ref (728:Nat)⟩, ⟨PySem.PyData.keyHash P (.ofString "Levenshtein"), .str (.ofString "Levenshtein") (1307:Nat), .ref (770:Nat)⟩, ⟨PySem.PyData.keyHash P (.ofString "DamerauOsa"), .str (.ofString "DamerauOsa") (1374:Nat), .ref (810:Nat)⟩, ⟨PySem.PyData.keyHash P (.ofString "_law_SIGNS"), .str (.ofString "_law_SIGNS") (1378:Nat), .str (.ofString "abc ") (1377:Nat)⟩, ⟨PySem.PyData.keyHash P (.ofString "_law_at"), .str (.ofString "_law_at") (1386:Nat), .ref (819:Nat)⟩, ⟨PySem.PyData.keyHash P (.ofString "_law_text"), .str (.ofString "_law_text") (1398:Nat), .ref (826:Nat)⟩, ⟨PySem.PyData.keyHash P (.ofString "_law_turned"), .str (.ofString "_law_turned") (1413:Nat), .ref (833:Nat)⟩, ⟨PySem.PyData.keyHash P (.ofString "_law_table"), .str (.ofString "_law_table") (1419:Nat), .ref (838:Nat)⟩, ⟨PySem.PyData.keyHash P (.ofString "law"), .str (.ofString "law") (1440:Nat), .ref (845:Nat)⟩] (30:Nat), #[]⟩
noncomputable abbrev o_27x12 (P : Params) : Obj := ⟨.none, none, .fields #[.int (1:Int) (0:Nat), .int (0:Int) (0:Nat), .ref (20:Nat), .int (5:Int) (0:Nat), .int (0:Int) (0:Nat), .ref (27:Nat), .int (11:Int) (0:Nat), .int (0:Int) (0:Nat), .ref (34:Nat), .int (25:Int) (0:Nat), .int (0:Int) (0:Nat), .ref (41:Nat), .int (31:Int) (0:Nat), .int (0:Int) (0:Nat), .ref (63:Nat), .int (113:Int) (0:Nat), .int (0:Int) (0:Nat), .ref (249:Nat), .int (243:Int) (0:Nat), .int (0:Int) (0:Nat), .ref (463:Nat), .int (260:Int) (0:Nat), .int (0:Int) (0:Nat), .ref (506:Nat), .int (354:Int) (0:Nat), .int (0:Int) (0:Nat), .ref (635:Nat), .int (358:Int) (0:Nat), .int (0:Int) (0:Nat), .ref (655:Nat), .int (399:Int) (0:Nat), .int (0:Int) (0:Nat), .ref (709:Nat), .int (416:Int) (0:Nat), .int (0:Int) (0:Nat), .ref (738:Nat), .int (485:Int) (0:Nat), .int (0:Int) (0:Nat), .ref (778:Nat), .int (578:Int) (0:Nat), .int (0:Int) (0:Nat), .ref (818:Nat), .int (580:Int) (0:Nat), .int (0:Int) (0:Nat), .ref (825:Nat), .int (586:Int) (0:Nat), .int (0:Int) (0:Nat), .ref (832:Nat), .int (602:Int) (0:Nat), .int (0:Int) (0:Nat), .ref (837:Nat), .int (613:Int) (0:Nat), .int (0:Int) (0:Nat), .ref (844:Nat)], #[]⟩
noncomputable abbrev o_27x52 (P : Params) : Obj := ⟨.type "type", none, .cls ⟨.ofString "AbstractDistanceComparer", [.type "object"], [.ref (52:Nat), .type "object"], (51:Nat), .ofString "AbstractDistanceComparer", .true, [], [.ref (770:Nat), .ref (810:Nat)], .false, none, .false⟩, #[none, none, some (.str (.ofString "AbstractDistanceComparer") (218:Nat)), some (.str (.ofString "AbstractDistanceComparer") (226:Nat)), some (.builtin "object.__new__"), some (.bool .true)]⟩
noncomputable abbrev o_27x706 (P : Params) : Obj := ⟨.type "dict", none, .dict #[⟨PySem.PyData.keyHash P (.ofString "__module__"), .str (.ofString "__module__") (1208:Nat), .str (.ofString "symspellpy.editdistance") (967:Nat)⟩, ⟨PySem.PyData.keyHash P (.ofString "__qualname__"), .str (.ofString "__qualname__") (1210:Nat), .str (.ofString "EditDistance") (1209:Nat)⟩, ⟨PySem.PyData.keyHash P (.ofString "__firstlineno__"), .str (.ofString "__firstlineno__") (1212:Nat), .int (399:Int) (1211:Nat)⟩, ⟨PySem.PyData.keyHash P (.ofString "__init__"), .str (.ofString "__init__") (1221:Nat), .ref (718:Nat)⟩, ⟨PySem.PyData.keyHash P (.ofString "compare"), .str (.ofString "compare") (1231:Nat), .ref (725:Nat)⟩, ⟨PySem.PyData.keyHash P (.ofString "__static_attributes__"), .str (.ofString "__static_attributes__") (1234:Nat), .ref (726:Nat)⟩] (6:Nat), #[]⟩
noncomputable abbrev o_27x708 (P : Params) : Obj := ⟨.none, none, .fields #[.int (401:Int) (0:Nat), .int (4:Int) (0:Nat), .ref (717:Nat), .int (414:Int) (0:Nat), .int (4:Int) (0:Nat), .ref (724:Nat)], #[]⟩
noncomputable abbrev o_27x709 (P : Params) : Obj := ⟨.type "code", none, .fields #[.str (.ofString "EditDistance") (1203:Nat), .str (.ofString "EditDistance") (1204:Nat), .str (.ofString "/claim/cut.py") (1205:Nat), .int (399:Int) (0:Nat), .int (0:Int) (0:Nat), .int (0:Int) (0:Nat), .int (0:Int) (0:Nat), .int (0:Int) (0:Nat), .ref (707:Nat), .bool .false, .int (181:Int) (0:Nat), .ref (708:Nat), .none, .none, .none, .none, .int (1206:Int) (0:Nat), .int (399:Int) (0:Nat), .str (.ofString "/claim/cut.py") (1207:Nat)], #[]⟩
noncomputable abbrev o_27x710 (P : Params) : Obj := ⟨.type "frame", none, .plain, #[some (.ref (709:Nat)), some (.ref (3:Nat)), some (.ref (706:Nat)), none, some (.str (.ofString "symspellpy.editdistance") (967:Nat)), none, some (.ref (0:Nat))]⟩
noncomputable abbrev o_27x714 (P : Params) : Obj := ⟨.type "tuple", none, .seq #[.str (.ofString "self") (1216:Nat), .str (.ofString "algorithm") (1217:Nat), .str (.ofString "comparer") (1218:Nat)] (0:Nat), #[]⟩
noncomputable abbrev o_27x716 (P : Params) : Obj := ⟨.none, none, .func ⟨.ofString "__init__", .ofString "EditDistance.__init__", fnA (sd [17, 0]), .stmts (fnB (sd [17, 0])), fnS (sd [17, 0]), (0:Nat), [], .none, .none, .none, .none, none, .none, .none, (0:Nat)⟩, #[]⟩
noncomputable abbrev o_27x717 (P : Params) : Obj := ⟨.type "code", none, .fields #[.str (.ofString "__init__") (1213:Nat), .str (.ofString "EditDistance.__init__") (1214:Nat), .str (.ofString "/claim/cut.py") (1215:Nat), .int (401:Int) (0:Nat), .int (3:Int) (0:Nat), .int (0:Int) (0:Nat), .int (0:Int) (0:Nat), .int (3:Int) (0:Nat), .ref (712:Nat), .bool .true, .int (181:Int) (0:Nat), .ref (713:Nat), .none, .ref (714:Nat), .ref (715:Nat), .ref (716:Nat), .int (1219:Int) (0:Nat), .int (401:Int) (0:Nat), .str (.ofString "/claim/cut.py") (1220:Nat)], #[]⟩
noncomputable abbrev o_27x718 (P : Params) : Obj := ⟨.type "function", none, .func ⟨.ofString "__init__", .ofString "EditDistance.__init__", fnA (sd [17, 0]), .stmts (fnB (sd [17, 0])), fnS (sd [17, 0]), (3:Nat), [], .ref (711:Nat), .none, .none, .str (.ofString "symspellpy.editdistance") (967:Nat), none, .ref (717:Nat), .none, (0:Nat)⟩, #[]⟩
noncomputable abbrev o_27x721 (P : Params) : Obj := ⟨.type "tuple", none, .seq #[.str (.ofString "self") (1225:Nat), .str (.ofString "string_1") (1226:Nat), .str (.ofString "string_2") (1227:Nat), .str (.ofString "max_distance") (1228:Nat)] (0:Nat), #[]⟩
noncomputable abbrev o_27x723 (P : Params) : Obj := ⟨.none, none, .func ⟨.ofString "compare", .ofString "EditDistance.compare", fnA (sd [17, 1]), .stmts (fnB (sd [17, 1])), fnS (sd [17, 1]), (0:Nat), [], .none, .none, .none, .none, none, .none, .none, (0:Nat)⟩, #[]⟩
noncomputable abbrev o_27x724 (P : Params) : Obj := ⟨.type "code", none, .fields #[.str (.ofString "compare") (1222:Nat), .str (.ofString "EditDistance.compare") (1223:Nat), .str (.ofString "/claim/cut.py") (1224:Nat), .int (414:Int) (0:Nat), .int (4:Int) (0:Nat), .int (0:Int) (0:Nat), .int (0:Int) (0:Nat), .int (3:Int) (0:Nat), .ref (719:Nat), .bool .true, .int (181:Int) (0:Nat), .ref (720:Nat), .none, .ref (721:Nat), .ref (722:Nat), .ref (723:Nat), .int (1229:Int) (0:Nat), .int (414:Int) (0:Nat), .str (.ofString "/claim/cut.py") (1230:Nat)], #[]⟩
noncomputable abbrev o_27x725 (P : Params) : Obj := ⟨.type "function", none, .func ⟨.ofString "compare", .ofString "EditDistance.compare", fnA (sd [17, 1]), .stmts (fnB (sd [17, 1])), fnS (sd [17, 1]), (3:Nat), [], .none, .none, .none, .str (.ofString "symspellpy.editdistance") (967:Nat), none, .ref (724:Nat), .none, (0:Nat)⟩, #[]⟩
noncomputable abbrev o_27x726 (P : Params) : Obj := ⟨.type "tuple", none, .seq #[.str (.ofString "_algorithm") (1232:Nat), .str (.ofString "_distance_comparer") (1233:Nat)] (0:Nat), #[]⟩
noncomputable abbrev o_27x727 (P : Params) : Obj := ⟨.type "dict", none, .dict #[⟨PySem.PyData.keyHash P (.ofString "__module__"), .str (.ofString "__module__") (1208:Nat), .str (.ofString "symspellpy.editdistance") (967:Nat)⟩, ⟨PySem.PyData.keyHash P (.ofString "__firstlineno__"), .str (.ofString "__firstlineno__") (1212:Nat), .int (399:Int) (1211:Nat)⟩, ⟨PySem.PyData.keyHash P (.ofString "__init__"), .str (.ofString "__init__") (1221:Nat), .ref (718:Nat)⟩, ⟨PySem.PyData.keyHash P (.ofString "compare"), .str (.ofString "compare") (1231:Nat), .ref (725:Nat)⟩, ⟨PySem.PyData.keyHash P (.ofString "__static_attributes__"), .str (.ofString "__static_attributes__") (1234:Nat), .ref (726:Nat)⟩, ⟨PySem.PyData.keyHash P (.ofString "__dict__"), .str (.ofString "__dict__") (1236:Nat), .ref (729:Nat)⟩, ⟨PySem.PyData.keyHash P (.ofString "__weakref__"), .str (.ofString "__weakref__") (1238:Nat), .ref (730:Nat)⟩, ⟨PySem.PyData.keyHash P (.ofString "__doc__"), .str (.ofString "__doc__") (1239:Nat), .none⟩] (4:Nat), #[]⟩
noncomputable abbrev o_27x728 (P : Params) : Obj := ⟨.type "type", none, .cls ⟨.ofString "EditDistance", [.type "object"], [.ref (728:Nat), .type "object"], (727:Nat), .ofString "EditDistance", .true, [], [], .false, none, .false⟩, #[none, none, some (.str (.ofString "EditDistance") (1201:Nat)), some (.str (.ofString "EditDistance") (1209:Nat)), some (.builtin "object.__new__"), some (.bool .true)]⟩
noncomputable abbrev o_27x729 (P : Params) : Obj := ⟨.type "getset_descriptor", none, .fields #[.str (.ofString "__dict__") (1235:Nat), .ref (728:Nat), .builtin "function.__dict__", .builtin "function.__dict__#set"], #[]⟩
noncomputable abbrev o_27x730 (P : Params) : Obj := ⟨.type "getset_descriptor", none, .fields #[.str (.ofString "__weakref__") (1237:Nat), .ref (728:Nat), .builtin "ExceptionGroup.__weakref__", .none], #[]⟩
noncomputable abbrev o_27x731 (P : Params) : Obj := ⟨.type "super", none, .fields #[.ref (728:Nat), .ref (728:Nat), .ref (728:Nat)], #[]⟩
noncomputable abbrev o_27x732 (P : Params) : Obj := ⟨.type "builtin_function_or_method", none, .fields #[.builtin "object.__init_subclass__", .ref (728:Nat)], #[]⟩
noncomputable abbrev o_27x733 (P : Params) : Obj := ⟨.type "tuple", none, .seq #[.ref (52:Nat)] (0:Nat), #[]⟩
noncomputable abbrev o_27x735 (P : Params) : Obj := ⟨.type "dict", none, .dict #[⟨PySem.PyData.keyHash P (.ofString "__module__"), .str (.ofString "__module__") (1249:Nat), .str (.ofString "symspellpy.editdistance") (967:Nat)⟩, ⟨PySem.PyData.keyHash P (.ofString "__qualname__"), .str (.ofString "__qualname__") (1251:Nat), .str (.ofString "Levenshtein") (1250:Nat)⟩, ⟨PySem.PyData.keyHash P (.ofString "__firstlineno__"), .str (.ofString "__firstlineno__") (1253:Nat), .int (416:Int) (1252:Nat)⟩, ⟨PySem.PyData.keyHash P (.ofString "__init__"), .str (.ofString "__init__") (1260:Nat), .ref (746:Nat)⟩, ⟨PySem.PyData.keyHash P (.ofString "distance"), .str (.ofString "distance") (1266:Nat), .ref (751:Nat)⟩, ⟨PySem.PyData.keyHash P (.ofString "_distance"), .str (.ofString "_distance") (1284:Nat), .ref (758:Nat)⟩, ⟨PySem.PyData.keyHash P (.ofString "_distance_max"), .str (.ofString "_distance_max") (1302:Nat), .ref (766:Nat)⟩, ⟨PySem.PyData.keyHash P (.ofString "__static_attributes__"), .str (.ofString "__static_attributes__") (1304:Nat), .ref (768:Nat)⟩] (8:Nat), #[]⟩
noncomputable abbrev o_27x737 (P : Params) : Obj := ⟨.none, none, .fields #[.int (418:Int) (0:Nat), .int (4:Int) (0:Nat), .ref (745:Nat), .int (421:Int) (0:Nat), .int (4:Int) (0:Nat), .ref (750:Nat), .int (441:Int) (0:Nat), .int (4:Int) (0:Nat), .ref (755:Nat), .int (460:Int) (0:Nat), .int (4:Int) (0:Nat), .ref (763:Nat)], #[]⟩
noncomputable abbrev o_27x738 (P : Params) : Obj := ⟨.type "code", none, .fields #[.str (.ofString "Levenshtein") (1244:Nat), .str (.ofString "Levenshtein") (1245:Nat), .str (.ofString "/claim/cut.py") (1246:Nat), .int (416:Int) (0:Nat), .int (0:Int) (0:Nat), .int (0:Int) (0:Nat), .int (0:Int) (0:Nat), .int (0:Int) (0:Nat), .ref (736:Nat), .bool .false, .int (181:Int) (0:Nat), .ref (737:Nat), .none, .none, .none, .none, .int (1247:Int) (0:Nat), .int (416:Int) (0:Nat), .str (.ofString "/claim/cut.py") (1248:Nat)], #[]⟩
noncomputable abbrev o_27x739 (P : Params) : Obj := ⟨.type "frame", none, .plain, #[some (.ref (738:Nat)), some (.ref (3:Nat)), some (.ref (735:Nat)), none, some (.str (.ofString "symspellpy.editdistance") (967:Nat)), none, some (.ref (0:Nat))]⟩
noncomputable abbrev o_27x742 (P : Params) : Obj := ⟨.type "tuple", none, .seq #[.str (.ofString "self") (1257:Nat)] (0:Nat), #[]⟩
noncomputable abbrev o_27x744 (P : Params) : Obj := ⟨.none, none, .func ⟨.ofString "__init__", .ofString "Levenshtein.__init__", fnA (sd [18, 0]), .stmts (fnB (sd [18, 0])), fnS (sd [18, 0]), (0:Nat), [], .none, .none, .none, .none, none, .none, .none, (0:Nat)⟩, #[]⟩
noncomputable abbrev o_27x745 (P : Params) : Obj := ⟨.type "code", none, .fields #[.str (.ofString "__init__") (1254:Nat), .str (.ofString "Levenshtein.__init__") (1255:Nat), .str (.ofString "/claim/cut.py") (1256:Nat), .int (418:Int) (0:Nat), .int (1:Int) (0:Nat), .int (0:Int) (0:Nat), .int (0:Int) (0:Nat), .int (3:Int) (0:Nat), .ref (740:Nat), .bool .true, .int (181:Int) (0:Nat), .ref (741:Nat), .none, .ref (742:Nat), .ref (743:Nat), .ref (744:Nat), .int (1258:Int) (0:Nat), .int (418:Int) (0:Nat), .str (.ofString "/claim/cut.py") (1259:Nat)], #[]⟩
noncomputable abbrev o_27x746 (P : Params) : Obj := ⟨.type "function", none, .func ⟨.ofString "__init__", .ofString "Levenshtein.__init__", fnA (sd [18, 0]), .stmts (fnB (sd [18, 0])), fnS (sd [18, 0]), (3:Nat), [], .none, .none, .none, .str (.ofString "symspellpy.editdistance") (967:Nat), none, .ref (745:Nat), .none, (0:Nat)⟩, #[]⟩
noncomputable abbrev o_27x749 (P : Params) : Obj := ⟨.none, none, .func ⟨.ofString "distance", .ofString "Levenshtein.distance", fnA (sd [18, 1]), .stmts (fnB (sd [18, 1])), fnS (sd [18, 1]), (0:Nat), [], .none, .none, .none, .none, none, .none, .none, (0:Nat)⟩, #[]⟩
noncomputable abbrev o_27x750 (P : Params) : Obj := ⟨.type "code", none, .fields #[.str (.ofString "distance") (1261:Nat), .str (.ofString "Levenshtein.distance") (1262:Nat), .str (.ofString "/claim/cut.py") (1263:Nat), .int (421:Int) (0:Nat), .int (4:Int) (0:Nat), .int (0:Int) (0:Nat), .int (0:Int) (0:Nat), .int (3:Int) (0:Nat), .ref (747:Nat), .bool .true, .int (181:Int) (0:Nat), .ref (748:Nat), .none, .none, .none, .ref (749:Nat), .int (1264:Int) (0:Nat), .int (421:Int) (0:Nat), .str (.ofString "/claim/cut.py") (1265:Nat)], #[]⟩
noncomputable abbrev o_27x751 (P : Params) : Obj := ⟨.type "function", none, .func ⟨.ofString "distance", .ofString "Levenshtein.distance", fnA (sd [18, 1]), .stmts (fnB (sd [18, 1])), fnS (sd [18, 1]), (3:Nat), [], .none, .none, .none, .str (.ofString "symspellpy.editdistance") (967:Nat), none, .ref (750:Nat), .none, (0:Nat)⟩, #[]⟩
noncomputable abbrev o_27x754 (P : Params) : Obj := ⟨.none, none, .func ⟨.ofString "_distance", .ofString "Levenshtein._distance", fnA (sd [18, 2]), .stmts (fnB (sd [18, 2])), fnS (sd [18, 2]), (0:Nat), [], .none, .none, .none, .none, none, .none, .none, (0:Nat)⟩, #[]⟩
noncomputable abbrev o_27x755 (P : Params) : Obj := ⟨.type "code", none, .fields #[.str (.ofString "_distance") (1267:Nat), .str (.ofString "Levenshtein._distance") (1268:Nat), .str (.ofString "/claim/cut.py") (1269:Nat), .int (440:Int) (0:Nat), .int (6:Int) (0:Nat), .int (0:Int) (0:Nat), .int (0:Int) (0:Nat), .int (3:Int) (0:Nat), .ref (752:Nat), .bool .true, .int (181:Int) (0:Nat), .ref (753:Nat), .none, .none, .none, .ref (754:Nat), .int (1270:Int) (0:Nat), .int (440:Int) (0:Nat), .str (.ofString "/claim/cut.py") (1271:Nat)], #[]⟩
noncomputable abbrev o_27x756 (P : Params) : Obj := ⟨.type "function", none, .func ⟨.ofString "_distance", .ofString "Levenshtein._distance", fnA (sd [18, 2]), .stmts (fnB (sd [18, 2])), fnS (sd [18, 2]), (3:Nat), [], .none, .none, .none, .str (.ofString "symspellpy.editdistance") (967:Nat), some (759:Nat), .ref (755:Nat), .none, (0:Nat)⟩, #[]⟩
noncomputable abbrev o_27x757 (P : Params) : Obj := ⟨.type "dict", none, .dict #[⟨PySem.PyData.keyHash P (.ofString "__module__"), .str (.ofString "__module__") (1273:Nat), .str (.ofString "symspellpy.editdistance") (967:Nat)⟩, ⟨PySem.PyData.keyHash P (.ofString "__name__"), .str (.ofString "__name__") (1276:Nat), .str (.ofString "_distance") (1275:Nat)⟩, ⟨PySem.PyData.keyHash P (.ofString "__qualname__"), .str (.ofString "__qualname__") (1279:Nat), .str (.ofString "Levenshtein._distance") (1278:Nat)⟩, ⟨PySem.PyData.keyHash P (.ofString "__doc__"), .str (.ofString "__doc__") (1281:Nat), .none⟩, ⟨PySem.PyData.keyHash P (.ofString "__annotations__"), .str (.ofString "__annotations__") (1283:Nat), .ref (759:Nat)⟩] (5:Nat), #[]⟩
noncomputable abbrev o_27x758 (P : Params) : Obj := ⟨.type "staticmethod", some (757:Nat), .fields #[.ref (756:Nat), .bool .false], #[]⟩
noncomputable abbrev o_27x762 (P : Params) : Obj := ⟨.none, none, .func ⟨.ofString "_distance_max", .ofString "Levenshtein._distance_max", fnA (sd [18, 3]), .stmts (fnB (sd [18, 3])), fnS (sd [18, 3]), (0:Nat), [], .none, .none, .none, .none, none, .none, .none, (0:Nat)⟩, #[]⟩
noncomputable abbrev o_27x763 (P : Params) : Obj := ⟨.type "code", none, .fields #[.str (.ofString "_distance_max") (1285:Nat), .str (.ofString "Levenshtein._distance_max") (1286:Nat), .str (.ofString "/claim/cut.py") (1287:Nat), .int (459:Int) (0:Nat), .int (7:Int) (0:Nat), .int (0:Int) (0:Nat), .int (0:Int) (0:Nat), .int (3:Int) (0:Nat), .ref (760:Nat), .bool .true, .int (181:Int) (0:Nat), .ref (761:Nat), .none, .none, .none, .ref (762:Nat), .int (1288:Int) (0:Nat), .int (459:Int) (0:Nat), .str (.ofString "/claim/cut.py") (1289:Nat)], #[]⟩
noncomputable abbrev o_27x764 (P : Params) : Obj := ⟨.type "function", none, .func ⟨.ofString "_distance_max", .ofString "Levenshtein._distance_max", fnA (sd [18, 3]), .stmts (fnB (sd [18, 3])), fnS (sd [18, 3]), (3:Nat), [], .none, .none, .none, .str (.ofString "symspellpy.editdistance") (967:Nat), some (767:Nat), .ref (763:Nat), .none, (0:Nat)⟩, #[]⟩
noncomputable abbrev o_27x765 (P : Params) : Obj := ⟨.type "dict", none, .dict #[⟨PySem.PyData.keyHash P (.ofString "__module__"), .str (.ofString "__module__") (1291:Nat), .str (.ofString "symspellpy.editdistance") (967:Nat)⟩, ⟨PySem.PyData.keyHash P (.ofString "__name__"), .str (.ofString "__name__") (1294:Nat), .str (.ofString "_distance_max") (1293:Nat)⟩, ⟨PySem.PyData.keyHash P (.ofString "__qualname__"), .str (.ofString "__qualname__") (1297:Nat), .str (.ofString "Levenshtein._distance_max") (1296:Nat)⟩, ⟨PySem.PyData.keyHash P (.ofString "__doc__"), .str (.ofString "__doc__") (1299:Nat), .none⟩, ⟨PySem.PyData.keyHash P (.ofString "__annotations__"), .str (.ofString "__annotations__") (1301:Nat), .ref (767:Nat)⟩] (5:Nat), #[]⟩
noncomputable abbrev o_27x766 (P : Params) : Obj := ⟨.type "staticmethod", some (765:Nat), .fields #[.ref (764:Nat), .bool .false], #[]⟩
noncomputable abbrev o_27x768 (P : Params) : Obj := ⟨.type "tuple", none, .seq #[.str (.ofString "_base_char_1_costs") (1303:Nat)] (0:Nat), #[]⟩
noncomputable abbrev o_27x769 (P : Params) : Obj := ⟨.type "dict", none, .dict #[⟨PySem.PyData.keyHash P (.ofString "__module__"), .str (.ofString "__module__") (1249:Nat), .str (.ofString "symspellpy.editdistance") (967:Nat)⟩, ⟨PySem.PyData.keyHash P (.ofString "__firstlineno__"), .str (.ofString "__firstlineno__") (1253:Nat), .int (416:Int) (1252:Nat)⟩, ⟨PySem.PyData.keyHash P (.ofString "__init__"), .str (.ofString "__init__") (1260:Nat), .ref (746:Nat)⟩, ⟨PySem.PyData.keyHash P (.ofString "distance"), .str (.ofString "distance") (1266:Nat), .ref (751:Nat)⟩, ⟨PySem.PyData.keyHash P (.ofString "_distance"), .str (.ofString "_distance") (1284:Nat), .ref (758:Nat)⟩, ⟨PySem.PyData.keyHash P (.ofString "_distance_max"), .str (.ofString "_distance_max") (1302:Nat), .ref (766:Nat)⟩, ⟨PySem.PyData.keyHash P (.ofString "__static_attributes__"), .str (.ofString "__static_attributes__") (1304:Nat), .ref (768:Nat)⟩, ⟨PySem.PyData.keyHash P (.ofString "__doc__"), .str (.ofString "__doc__") (1305:Nat), .none⟩] (2:Nat), #[]⟩
noncomputable abbrev o_27x770 (P : Params) : Obj := ⟨.type "type", none, .cls ⟨.ofString "Levenshtein", [.ref (52:Nat)], [.ref (770:Nat), .ref (52:Nat), .type "object"], (769:Nat), .ofString "Levenshtein", .true, [], [], .false, none, .false⟩, #[some (.ref (733:Nat)), none, some (.str (.ofString "Levenshtein") (1242:Nat)), some (.str (.ofString "Levenshtein") (1250:Nat)), some (.builtin "object.__new__"), some (.bool .true)]⟩
noncomputable abbrev o_27x771 (P : Params) : Obj := ⟨.type "super", none, .fields #[.ref (770:Nat), .ref (770:Nat), .ref (770:Nat)], #[]⟩
noncomputable abbrev o_27x772 (P : Params) : Obj := ⟨.type "builtin_function_or_method", none, .fields #[.builtin "object.__init_subclass__", .ref (770:Nat)], #[]⟩
noncomputable abbrev o_27x775 (P : Params) : Obj := ⟨.type "dict", none, .dict #[⟨PySem.PyData.keyHash P (.ofString "__module__"), .str (.ofString "__module__") (1315:Nat), .str (.ofString "symspellpy.editdistance") (967:Nat)⟩, ⟨PySem.PyData.keyHash P (.ofString "__qualname__"), .str (.ofString "__qualname__") (1317:Nat), .str (.ofString "DamerauOsa") (1316:Nat)⟩, ⟨PySem.PyData.keyHash P (.ofString "__firstlineno__"), .str (.ofString "__firstlineno__") (1319:Nat), .int (485:Int) (1318:Nat)⟩, ⟨PySem.PyData.keyHash P (.ofString "__init__"), .str (.ofString "__init__") (1326:Nat), .ref (786:Nat)⟩, ⟨PySem.PyData.keyHash P (.ofString "distance"), .str (.ofString "distance") (1332:Nat), .ref (791:Nat)⟩, ⟨PySem.PyData.keyHash P (.ofString "_distance"), .str (.ofString "_distance") (1350:Nat), .ref (798:Nat)⟩, ⟨PySem.PyData.keyHash P (.ofString "_distance_max"), .str (.ofString "_distance_max") (1368:Nat), .ref (806:Nat)⟩, ⟨PySem.PyData.keyHash P (.ofString "__static_attributes__"), .str (.ofString "__static_attributes__") (1371:Nat), .ref (808:Nat)⟩] (8:Nat), #[]⟩
noncomputable abbrev o_27x777 (P : Params) : Obj := ⟨.none, none, .fields #[.int (487:Int) (0:Nat), .int (4:Int) (0:Nat), .ref (785:Nat), .int (491:Int) (0:Nat), .int (4:Int) (0:Nat), .ref (790:Nat), .int (512:Int) (0:Nat), .int (4:Int) (0:Nat), .ref (795:Nat), .int (541:Int) (0:Nat), .int (4:Int) (0:Nat), .ref (803:Nat)], #[]⟩
noncomputable abbrev o_27x778 (P : Params) : Obj := ⟨.type "code", none, .fields #[.str (.ofString "DamerauOsa") (1310:Nat), .str (.ofString "DamerauOsa") (1311:Nat), .str (.ofString "/claim/cut.py") (1312:Nat), .int (485:Int) (0:Nat), .int (0:Int) (0:Nat), .int (0:Int) (0:Nat), .int (0:Int) (0:Nat), .int (0:Int) (0:Nat), .ref (776:Nat), .bool .false, .int (181:Int) (0:Nat), .ref (777:Nat), .none, .none, .none, .none, .int (1313:Int) (0:Nat), .int (485:Int) (0:Nat), .str (.ofString "/claim/cut.py") (1314:Nat)], #[]⟩
noncomputable abbrev o_27x779 (P : Params) : Obj := ⟨.type "frame", none, .plain, #[some (.ref (778:Nat)), some (.ref (3:Nat)), some (.ref (775:Nat)), none, some (.str (.ofString "symspellpy.editdistance") (967:Nat)), none, some (.ref (0:Nat))]⟩
noncomputable abbrev o_27x782 (P : Params) : Obj := ⟨.type "tuple", none, .seq #[.str (.ofString "self") (1323:Nat)] (0:Nat), #[]⟩
noncomputable abbrev o_27x784 (P : Params) : Obj := ⟨.none, none, .func ⟨.ofString "__init__", .ofString "DamerauOsa.__init__", fnA (sd [19, 0]), .stmts (fnB (sd [19, 0])), fnS (sd [19, 0]), (0:Nat), [], .none, .none, .none, .none, none, .none, .none, (0:Nat)⟩, #[]⟩
noncomputable abbrev o_27x785 (P : Params) : Obj := ⟨.type "code", none, .fields #[.str (.ofString "__init__") (1320:Nat), .str (.ofString "DamerauOsa.__init__") (1321:Nat), .str (.ofString "/claim/cut.py") (1322:Nat), .int (487:Int) (0:Nat), .int (1:Int) (0:Nat), .int (0:Int) (0:Nat), .int (0:Int) (0:Nat), .int (3:Int) (0:Nat), .ref (780:Nat), .bool .true, .int (181:Int) (0:Nat), .ref (781:Nat), .none, .ref (782:Nat), .ref (783:Nat), .ref (784:Nat), .int (1324:Int) (0:Nat), .int (487:Int) (0:Nat), .str (.ofString "/claim/cut.py") (1325:Nat)], #[]⟩
noncomputable abbrev o_27x786 (P : Params) : Obj := ⟨.type "function", none, .func ⟨.ofString "__init__", .ofString "DamerauOsa.__init__", fnA (sd [19, 0]), .stmts (fnB (sd [19, 0])), fnS (sd [19, 0]), (3:Nat), [], .none, .none, .none, .str (.ofString "symspellpy.editdistance") (967:Nat), none, .ref (785:Nat), .none, (0:Nat)⟩, #[]⟩
noncomputable abbrev o_27x789 (P : Params) : Obj := ⟨.none, none, .func ⟨.ofString "distance", .ofString "DamerauOsa.distance", fnA (sd [19, 1]), .stmts (fnB (sd [19, 1])), fnS (sd [19, 1]), (0:Nat), [], .none, .none, .none, .none, none, .none, .none, (0:Nat)⟩, #[]⟩
noncomputable abbrev o_27x790 (P : Params) : Obj := ⟨.type "code", none, .fields #[.str (.ofString "distance") (1327:Nat), .str (.ofString "DamerauOsa.distance") (1328:Nat), .str (.ofString "/claim/cut.py") (1329:Nat), .int (491:Int) (0:Nat), .int (4:Int) (0:Nat), .int (0:Int) (0:Nat), .int (0:Int) (0:Nat), .int (3:Int) (0:Nat), .ref (787:Nat), .bool .true, .int (181:Int) (0:Nat), .ref (788:Nat), .none, .none, .none, .ref (789:Nat), .int (1330:Int) (0:Nat), .int (491:Int) (0:Nat), .str (.ofString "/claim/cut.py") (1331:Nat)], #[]⟩
noncomputable abbrev o_27x791 (P : Params) : Obj := ⟨.type "function", none, .func ⟨.ofString "distance", .ofString "DamerauOsa.distance", fnA (sd [19, 1]), .stmts (fnB (sd [19, 1])), fnS (sd [19, 1]), (3:Nat), [], .none, .none, .none, .str (.ofString "symspellpy.editdistance") (967:Nat), none, .ref (790:Nat), .none, (0:Nat)⟩, #[]⟩
noncomputable abbrev o_27x794 (P : Params) : Obj := ⟨.none, none, .func ⟨.ofString "_distance", .ofString "DamerauOsa._distance", fnA (sd [19, 2]), .stmts (fnB (sd [19, 2])), fnS (sd [19, 2]), (0:Nat), [], .none, .none, .none, .none, none, .none, .none, (0:Nat)⟩, #[]⟩
noncomputable abbrev o_27x795 (P : Params) : Obj := ⟨.type "code", none, .fields #[.str (.ofString "_distance") (1333:Nat), .str (.ofString "DamerauOsa._distance") (1334:Nat), .str (.ofString "/claim/cut.py") (1335:Nat), .int (511:Int) (0:Nat), .int (7:Int) (0:Nat), .int (0:Int) (0:Nat), .int (0:Int) (0:Nat), .int (3:Int) (0:Nat), .ref (792:Nat), .bool .true, .int (181:Int) (0:Nat), .ref (793:Nat), .none, .none, .none, .ref (794:Nat), .int (1336:Int) (0:Nat), .int (511:Int) (0:Nat), .str (.ofString "/claim/cut.py") (1337:Nat)], #[]⟩
noncomputable abbrev o_27x796 (P : Params) : Obj := ⟨.type "function", none, .func ⟨.ofString "_distance", .ofString "DamerauOsa._distance", fnA (sd [19, 2]), .stmts (fnB (sd [19, 2])), fnS (sd [19, 2]), (3:Nat), [], .none, .none, .none, .str (.ofString "symspellpy.editdistance") (967:Nat), some (799:Nat), .ref (795:Nat), .none, (0:Nat)⟩, #[]⟩
noncomputable abbrev o_27x797 (P : Params) : Obj := ⟨.type "dict", none, .dict #[⟨PySem.PyData.keyHash P (.ofString "__module__"), .str (.ofString "__module__") (1339:Nat), .str (.ofString "symspellpy.editdistance") (967:Nat)⟩, ⟨PySem.PyData.keyHash P (.ofString "__name__"), .str (.ofString "__name__") (1342:Nat), .str (.ofString "_distance") (1341:Nat)⟩, ⟨PySem.PyData.keyHash P (.ofString "__qualname__"), .str (.ofString "__qualname__") (1345:Nat), .str (.ofString "DamerauOsa._distance") (1344:Nat)⟩, ⟨PySem.PyData.keyHash P (.ofString "__doc__"), .str (.ofString "__doc__") (1347:Nat), .none⟩, ⟨PySem.PyData.keyHash P (.ofString "__annotations__"), .str (.ofString "__annotations__") (1349:Nat), .ref (799:Nat)⟩] (5:Nat), #[]⟩
noncomputable abbrev o_27x798 (P : Params) : Obj := ⟨.type "staticmethod", some (797:Nat), .fields #[.ref (796:Nat), .bool .false], #[]⟩
noncomputable abbrev o_27x802 (P : Params) : Obj := ⟨.none, none, .func ⟨.ofString "_distance_max", .ofString "DamerauOsa._distance_max", fnA (sd [19, 3]), .stmts (fnB (sd [19, 3])), fnS (sd [19, 3]), (0:Nat), [], .none, .none, .none, .none, none, .none, .none, (0:Nat)⟩, #[]⟩
noncomputable abbrev o_27x803 (P : Params) : Obj := ⟨.type "code", none, .fields #[.str (.ofString "_distance_max") (1351:Nat), .str (.ofString "DamerauOsa._distance_max") (1352:Nat), .str (.ofString "/claim/cut.py") (1353:Nat), .int (540:Int) (0:Nat), .int (8:Int) (0:Nat), .int (0:Int) (0:Nat), .int (0:Int) (0:Nat), .int (3:Int) (0:Nat), .ref (800:Nat), .bool .true, .int (181:Int) (0:Nat), .ref (801:Nat), .none, .none, .none, .ref (802:Nat), .int (1354:Int) (0:Nat), .int (540:Int) (0:Nat), .str (.ofString "/claim/cut.py") (1355:Nat)], #[]⟩
noncomputable abbrev o_27x804 (P : Params) : Obj := ⟨.type "function", none, .func ⟨.ofString "_distance_max", .ofString "DamerauOsa._distance_max", fnA (sd [19, 3]), .stmts (fnB (sd [19, 3])), fnS (sd [19, 3]), (3:Nat), [], .none, .none, .none, .str (.ofString "symspellpy.editdistance") (967:Nat), some (807:Nat), .ref (803:Nat), .none, (0:Nat)⟩, #[]⟩
noncomputable abbrev o_27x805 (P : Params) : Obj := ⟨.type "dict", none, .dict #[⟨PySem.PyData.keyHash P (.ofString "__module__"), .str (.ofString "__module__") (1357:Nat), .str (.ofString "symspellpy.editdistance") (967:Nat)⟩, ⟨PySem.PyData.keyHash P (.ofString "__name__"), .str (.ofString "__name__") (1360:Nat), .str (.ofString "_distance_max") (1359:Nat)⟩, ⟨PySem.PyData.keyHash P (.ofString "__qualname__"), .str (.ofString "__qualname__") (1363:Nat), .str (.ofString "DamerauOsa._distance_max") (1362:Nat)⟩, ⟨PySem.PyData.keyHash P (.ofString "__doc__"), .str (.ofString "__doc__") (1365:Nat), .none⟩, ⟨PySem.PyData.keyHash P (.ofString "__annotations__"), .str (.ofString "__annotations__") (1367:Nat), .ref (807:Nat)⟩] (5:Nat), #[]⟩
noncomputable abbrev o_27x806 (P : Params) : Obj := ⟨.type "staticmethod", some (805:Nat), .fields #[.ref (804:Nat), .bool .false], #[]⟩
noncomputable abbrev o_27x808 (P : Params) : Obj := ⟨.type "tuple", none, .seq #[.str (.ofString "_base_char_1_costs") (1369:Nat), .str (.ofString "_base_prev_char_1_costs") (1370:Nat)] (0:Nat), #[]⟩
noncomputable abbrev o_27x809 (P : Params) : Obj := ⟨.type "dict", none, .dict #[⟨PySem.PyData.keyHash P (.ofString "__module__"), .str (.ofString "__module__") (1315:Nat), .str (.ofString "symspellpy.editdistance") (967:Nat)⟩, ⟨PySem.PyData.keyHash P (.ofString "__firstlineno__"), .str (.ofString "__firstlineno__") (1319:Nat), .int (485:Int) (1318:Nat)⟩, ⟨PySem.PyData.keyHash P (.ofString "__init__"), .str (.ofString "__init__") (1326:Nat), .ref (786:Nat)⟩, ⟨PySem.PyData.keyHash P (.ofString "distance"), .str (.ofString "distance") (1332:Nat), .ref (791:Nat)⟩, ⟨PySem.PyData.keyHash P (.ofString "_distance"), .str (.ofString "_distance") (1350:Nat), .ref (798:Nat)⟩, ⟨PySem.PyData.keyHash P (.ofString "_distance_max"), .str (.ofString "_distance_max") (1368:Nat), .ref (806:Nat)⟩, ⟨PySem.PyData.keyHash P (.ofString "__static_attributes__"), .str (.ofString "__static_attributes__") (1371:Nat), .ref (808:Nat)⟩, ⟨PySem.PyData.keyHash P (.ofString "__doc__"), .str (.ofString "__doc__") (1372:Nat), .none⟩] (2:Nat), #[]⟩
noncomputable abbrev o_27x810 (P : Params) : Obj := ⟨.type "type", none, .cls ⟨.ofString "DamerauOsa", [.ref (52:Nat)], [.ref (810:Nat), .ref (52:Nat), .type "object"], (809:Nat), .ofString "DamerauOsa", .true, [], [], .false, none, .false⟩, #[some (.ref (773:Nat)), none, some (.str (.ofString "DamerauOsa") (1308:Nat)), some (.str (.ofString "DamerauOsa") (1316:Nat)), some (.builtin "object.__new__"), some (.bool .true)]⟩
noncomputable abbrev o_27x811 (P : Params) : Obj := ⟨.type "super", none, .fields #[.ref (810:Nat), .ref (810:Nat), .ref (810:Nat)], #[]⟩
noncomputable abbrev o_27x812 (P : Params) : Obj := ⟨.type "builtin_function_or_method", none, .fields #[.builtin "object.__init_subclass__", .ref (810:Nat)], #[]⟩
noncomputable abbrev o_27x815 (P : Params) : Obj := ⟨.type "tuple", none, .seq #[.str (.ofString "script") (1382:Nat), .str (.ofString "at") (1383:Nat)] (0:Nat), #[]⟩
noncomputable abbrev o_27x817 (P : Params) : Obj := ⟨.none, none, .func ⟨.ofString "_law_at", .ofString "_law_at", fnA (sd [22]), .stmts (fnB (sd [22])), fnS (sd [22]), (0:Nat), [], .none, .none, .none, .none, none, .none, .none, (0:Nat)⟩, #[]⟩
noncomputable abbrev o_27x818 (P : Params) : Obj := ⟨.type "code", none, .fields #[.str (.ofString "_law_at") (1379:Nat), .str (.ofString "_law_at") (1380:Nat), .str (.ofString "/claim/cut.py") (1381:Nat), .int (578:Int) (0:Nat), .int (2:Int) (0:Nat), .int (0:Int) (0:Nat), .int (0:Int) (0:Nat), .int (3:Int) (0:Nat), .ref (813:Nat), .bool .true, .int (181:Int) (0:Nat), .ref (814:Nat), .none, .ref (815:Nat), .ref (816:Nat), .ref (817:Nat), .int (1384:Int) (0:Nat), .int (578:Int) (0:Nat), .str (.ofString "/claim/cut.py") (1385:Nat)], #[]⟩
noncomputable abbrev o_27x819 (P : Params) : Obj := ⟨.type "function", none, .func ⟨.ofString "_law_at", .ofString "_law_at", fnA (sd [22]), .stmts (fnB (sd [22])), fnS (sd [22]), (3:Nat), [], .none, .none, .none, .str (.ofString "law_db5021_01") (1375:Nat), none, .ref (818:Nat), .none, (0:Nat)⟩, #[]⟩
noncomputable abbrev o_27x822 (P : Params) : Obj := ⟨.type "tuple", none, .seq #[.str (.ofString "script") (1390:Nat), .str (.ofString "at") (1391:Nat), .str (.ofString "size") (1392:Nat), .str (.ofString "signs") (1393:Nat), .str (.ofString "walk") (1394:Nat), .str (.ofString "place") (1395:Nat)] (0:Nat), #[]⟩
noncomputable abbrev o_27x824 (P : Params) : Obj := ⟨.none, none, .func ⟨.ofString "_law_text", .ofString "_law_text", fnA (sd [23]), .stmts (fnB (sd [23])), fnS (sd [23]), (0:Nat), [], .none, .none, .none, .none, none, .none, .none, (0:Nat)⟩, #[]⟩
noncomputable abbrev o_27x825 (P : Params) : Obj := ⟨.type "code", none, .fields #[.str (.ofString "_law_text") (1387:Nat), .str (.ofString "_law_text") (1388:Nat), .str (.ofString "/claim/cut.py") (1389:Nat), .int (580:Int) (0:Nat), .int (3:Int) (0:Nat), .int (0:Int) (0:Nat), .int (0:Int) (0:Nat), .int (3:Int) (0:Nat), .ref (820:Nat), .bool .true, .int (181:Int) (0:Nat), .ref (821:Nat), .none, .ref (822:Nat), .ref (823:Nat), .ref (824:Nat), .int (1396:Int) (0:Nat), .int (580:Int) (0:Nat), .str (.ofString "/claim/cut.py") (1397:Nat)], #[]⟩
noncomputable abbrev o_27x826 (P : Params) : Obj := ⟨.type "function", none, .func ⟨.ofString "_law_text", .ofString "_law_text", fnA (sd [23]), .stmts (fnB (sd [23])), fnS (sd [23]), (3:Nat), [], .none, .none, .none, .str (.ofString "law_db5021_01") (1375:Nat), none, .ref (825:Nat), .none, (0:Nat)⟩, #[]⟩
noncomputable abbrev o_27x829 (P : Params) : Obj := ⟨.type "tuple", none, .seq #[.str (.ofString "text") (1402:Nat), .str (.ofString "script") (1403:Nat), .str (.ofString "at") (1404:Nat), .str (.ofString "many") (1405:Nat), .str (.ofString "step") (1406:Nat), .str (.ofString "way") (1407:Nat), .str (.ofString "place") (1408:Nat), .str (.ofString "k") (1409:Nat), .str (.ofString "sign") (1410:Nat)] (0:Nat), #[]⟩
noncomputable abbrev o_27x831 (P : Params) : Obj := ⟨.none, none, .func ⟨.ofString "_law_turned", .ofString "_law_turned", fnA (sd [24]), .stmts (fnB (sd [24])), fnS (sd [24]), (0:Nat), [], .none, .none, .none, .none, none, .none, .none, (0:Nat)⟩, #[]⟩
noncomputable abbrev o_27x832 (P : Params) : Obj := ⟨.type "code", none, .fields #[.str (.ofString "_law_turned") (1399:Nat), .str (.ofString "_law_turned") (1400:Nat), .str (.ofString "/claim/cut.py") (1401:Nat), .int (586:Int) (0:Nat), .int (4:Int) (0:Nat), .int (0:Int) (0:Nat), .int (0:Int) (0:Nat), .int (3:Int) (0:Nat), .ref (827:Nat), .bool .true, .int (181:Int) (0:Nat), .ref (828:Nat), .none, .ref (829:Nat), .ref (830:Nat), .ref (831:Nat), .int (1411:Int) (0:Nat), .int (586:Int) (0:Nat), .str (.ofString "/claim/cut.py") (1412:Nat)], #[]⟩
noncomputable abbrev o_27x833 (P : Params) : Obj := ⟨.type "function", none, .func ⟨.ofString "_law_turned", .ofString "_law_turned", fnA (sd [24]), .stmts (fnB (sd [24])), fnS (sd [24]), (3:Nat), [], .none, .none, .none, .str (.ofString "law_db5021_01") (1375:Nat), none, .ref (832:Nat), .none, (0:Nat)⟩, #[]⟩
noncomputable abbrev o_27x836 (P : Params) : Obj := ⟨.none, none, .func ⟨.ofString "_law_table", .ofString "_law_table", fnA (sd [25]), .stmts (fnB (sd [25])), fnS (sd [25]), (0:Nat), [], .none, .none, .none, .none, none, .none, .none, (0:Nat)⟩, #[]⟩
noncomputable abbrev o_27x837 (P : Params) : Obj := ⟨.type "code", none, .fields #[.str (.ofString "_law_table") (1414:Nat), .str (.ofString "_law_table") (1415:Nat), .str (.ofString "/claim/cut.py") (1416:Nat), .int (602:Int) (0:Nat), .int (3:Int) (0:Nat), .int (0:Int) (0:Nat), .int (0:Int) (0:Nat), .int (3:Int) (0:Nat), .ref (834:Nat), .bool .true, .int (181:Int) (0:Nat), .ref (835:Nat), .none, .none, .none, .ref (836:Nat), .int (1417:Int) (0:Nat), .int (602:Int) (0:Nat), .str (.ofString "/claim/cut.py") (1418:Nat)], #[]⟩
noncomputable abbrev o_27x838 (P : Params) : Obj := ⟨.type "function", none, .func ⟨.ofString "_law_table", .ofString "_law_table", fnA (sd [25]), .stmts (fnB (sd [25])), fnS (sd [25]), (3:Nat), [], .none, .none, .none, .str (.ofString "law_db5021_01") (1375:Nat), none, .ref (837:Nat), .none, (0:Nat)⟩, #[]⟩
noncomputable abbrev o_27x841 (P : Params) : Obj := ⟨.type "tuple", none, .seq #[.str (.ofString "script") (1423:Nat), .str (.ofString "swapped") (1424:Nat), .str (.ofString "kept") (1425:Nat), .str (.ofString "sizes") (1426:Nat), .str (.ofString "turn") (1427:Nat), .str (.ofString "told") (1428:Nat), .str (.ofString "due") (1429:Nat), .str (.ofString "step") (1430:Nat), .str (.ofString "at") (1431:Nat), .str (.ofString "size") (1432:Nat), .str (.ofString "one") (1433:Nat), .str (.ofString "two") (1434:Nat), .str (.ofString "far") (1435:Nat), .str (.ofString "bound") (1436:Nat), .str (.ofString "raw") (1437:Nat)] (0:Nat), #[]⟩
noncomputable abbrev o_27x843 (P : Params) : Obj := ⟨.none, none, .func ⟨.ofString "law", .ofString "law", fnA (sd [26]), .stmts (fnB (sd [26])), fnS (sd [26]), (0:Nat), [], .none, .none, .none, .none, none, .none, .none, (0:Nat)⟩, #[]⟩
noncomputable abbrev o_27x844 (P : Params) : Obj := ⟨.type "code", none, .fields #[.str (.ofString "law") (1420:Nat), .str (.ofString "law") (1421:Nat), .str (.ofString "/claim/cut.py") (1422:Nat), .int (613:Int) (0:Nat), .int (1:Int) (0:Nat), .int (0:Int) (0:Nat), .int (0:Int) (0:Nat), .int (3:Int) (0:Nat), .ref (839:Nat), .bool .true, .int (181:Int) (0:Nat), .ref (840:Nat), .none, .ref (841:Nat), .ref (842:Nat), .ref (843:Nat), .int (1438:Int) (0:Nat), .int (613:Int) (0:Nat), .str (.ofString "/claim/cut.py") (1439:Nat)], #[]⟩
noncomputable abbrev o_27x845 (P : Params) : Obj := ⟨.type "function", none, .func ⟨.ofString "law", .ofString "law", fnA (sd [26]), .stmts (fnB (sd [26])), fnS (sd [26]), (3:Nat), [], .none, .none, .none, .str (.ofString "law_db5021_01") (1375:Nat), none, .ref (844:Nat), .none, (0:Nat)⟩, #[]⟩
noncomputable abbrev tree_0 (P : Params) : BT := (.node (boot_o_0 P) (.node (boot_o_1 P) (.node (boot_o_3 P) (.node (boot_o_7 P) .nil .nil) (.node (boot_o_7 P) .nil .nil)) (.node (boot_o_5 P) (.node (boot_o_9 P) .nil .nil) (.node (o_a13 P) .nil .nil))) (.node (boot_o_2 P) (.node (boot_o_4 P) (.node (boot_o_8 P) .nil .nil) (.node (boot_o_8 P) .nil .nil)) (.node (boot_o_6 P) (.node (boot_o_10 P) .nil .nil) (.node (o_a14 P) .nil .nil))))
noncomputable abbrev tree_11_31 (P : Params) : BT := (.node (o_11x31 P) (.node (o_11x63 P) (.node (o_11x127 P) (.node (boot_o_7 P) .nil .nil) (.node (o_11x383 P) .nil .nil)) (.node (o_11x191 P) (.node (o_11x319 P) .nil .nil) (.node (o_11x447 P) .nil .nil))) (.node (boot_o_8 P) (.node (o_11x159 P) (.node (boot_o_7 P) .nil .nil) (.node (boot_o_8 P) .nil .nil)) (.node (o_11x223 P) (.node (boot_o_8 P) .nil .nil) .nil)))
noncomputable abbrev tree_11_32 (P : Params) : BT := (.node (boot_o_7 P) (.node (o_11x64 P) (.node (o_11x128 P) (.node (o_11x256 P) .nil .nil) (.node (o_11x384 P) .nil .nil)) (.node (boot_o_7 P) (.node (o_11x320 P) .nil .nil) (.node (boot_o_7 P) .nil .nil))) (.node (o_11x96 P) (.node (boot_o_7 P) (.node (boot_o_8 P) .nil .nil) (.node (o_11x416 P) .nil .nil)) (.node (boot_o_7 P) (.node (o_11x352 P) .nil .nil) .nil)))
noncomputable abbrev tree_11_33 (P : Params) : BT := (.node (o_11x33 P) (.node (o_11x65 P) (.node (boot_o_7 P) (.node (o_11x257 P) .nil .nil) (.node (boot_o_7 P) .nil .nil)) (.node (boot_o_8 P) (.node (o_11x321 P) .nil .nil) (.node (o_11x449 P) .nil .nil))) (.node (boot_o_7 P) (.node (o_11x161 P) (.node (o_11x289 P) .nil .nil) (.node (o_11x417 P) .nil .nil)) (.node (o_11x225 P) (.node (boot_o_7 P) .nil .nil) .nil)))
noncomputable abbrev tree_11_34 (P : Params) : BT := (.node (o_11x34 P) (.node (boot_o_7 P) (.node (boot_o_8 P) (.node (o_11x258 P) .nil .nil) (.node (boot_o_8 P) .nil .nil)) (.node (o_11x194 P) (.node (boot_o_7 P) .nil .nil) (.node (o_11x450 P) .nil .nil))) (.node (o_11x98 P) (.node (o_11x162 P) (.node (boot_o_7 P) .nil .nil) (.node (o_11x418 P) .nil .nil)) (.node (o_11x226 P) (.node (o_11x354 P) .nil .nil) .nil)))
noncomputable abbrev tree_11_35 (P : Params) : BT := (.node (o_11x35 P) (.node (boot_o_8 P) (.node (o_11x131 P) (.node (boot_o_7 P) .nil .nil) (.node (o_11x387 P) .nil .nil)) (.node (boot_o_7 P) (.node (boot_o_8 P) .nil .nil) (.node (o_11x451 P) .nil .nil))) (.node (o_11x99 P) (.node (o_11x163 P) (.node (o_11x291 P) .nil .nil) (.node (o_11x419 P) .nil .nil)) (.node (o_11x227 P) (.node (o_11x355 P) .nil .nil) .nil)))
noncomputable abbrev tree_11_36 (P : Params) : BT := (.node (boot_o_7 P) (.node (o_11x68 P) (.node (boot_o_7 P) (.node (boot_o_8 P) .nil .nil) (.node (o_11x388 P) .nil .nil)) (.node (o_11x196 P) (.node (o_11x324 P) .nil .nil) (.node (boot_o_7 P) .nil .nil))) (.node (o_11x100 P) (.node (boot_o_7 P) (.node (o_11x292 P) .nil .nil) (.node (o_11x420 P) .nil .nil)) (.node (boot_o_7 P) (.node (o_11x356 P) .nil .nil) .nil)))
noncomputable abbrev tree_11_37 (P : Params) : BT := (.node (o_11x37 P) (.node (boot_o_7 P) (.node (o_11x133 P) (.node (o_11x261 P) .nil .nil) (.node (o_11x389 P) .nil .nil)) (.node (o_11x197 P) (.node (boot_o_7 P) .nil .nil) (.node (o_11x453 P) .nil .nil))) (.node (boot_o_7 P) (.node (boot_o_8 P) (.node (o_11x293 P) .nil .nil) (.node (o_11x251 P) .nil .nil)) (.node (boot_o_8 P) (.node (boot_o_7 P) .nil .nil) .nil)))
noncomputable abbrev tree_11_38 (P : Params) : BT := (.node (o_11x38 P) (.node (o_11x70 P) (.node (o_11x134 P) (.node (boot_o_7 P) .nil .nil) (.node (o_11x390 P) .nil .nil)) (.node (o_11x198 P) (.node (o_11x326 P) .nil .nil) (.node (o_11x454 P) .nil .nil))) (.node (boot_o_8 P) (.node (o_11x166 P) (.node (boot_o_7 P) .nil .nil) (.node (o_11x422 P) .nil .nil)) (.node (o_11x230 P) (.node (boot_o_8 P) .nil .nil) .nil)))
noncomputable abbrev tree_11_39 (P : Params) : BT := (.node (boot_o_7 P) (.node (o_11x71 P) (.node (o_11x135 P) (.node (o_11x263 P) .nil .nil) (.node (o_11x391 P) .nil .nil)) (.node (o_11x199 P) (.node (o_11x327 P) .nil .nil) (.node (o_11x455 P) .nil .nil))) (.node (o_11x103 P) (.node (boot_o_7 P) (.node (boot_o_8 P) .nil .nil) (.node (boot_o_8 P) .nil .nil)) (.node (boot_o_7 P) (.node (o_11x359 P) .nil .nil) .nil)))
noncomputable abbrev tree_11_40 (P : Params) : BT := (.node (o_11x40 P) (.node (o_11x72 P) (.node (boot_o_7 P) (.node (o_11x264 P) .nil .nil) (.node (boot_o_7 P) .nil .nil)) (.node (boot_o_7 P) (.node (o_11x328 P) .nil .nil) (.node (o_11x456 P) .nil .nil))) (.node (boot_o_7 P) (.node (o_11x168 P) (.node (o_11x296 P) .nil .nil) (.node (o_11x424 P) .nil .nil)) (.node (o_11x232 P) (.node (boot_o_7 P) .nil .nil) .nil)))
noncomputable abbrev tree_11_41 (P : Params) : BT := (.node (o_11x41 P) (.node (boot_o_7 P) (.node (boot_o_8 P) (.node (o_11x265 P) .nil .nil) (.node (boot_o_8 P) .nil .nil)) (.node (boot_o_8 P) (.node (boot_o_7 P) .nil .nil) (.node (o_11x457 P) .nil .nil))) (.node (o_11x105 P) (.node (o_11x169 P) (.node (boot_o_7 P) .nil .nil) (.node (boot_o_7 P) .nil .nil)) (.node (o_11x233 P) (.node (o_11x361 P) .nil .nil) .nil)))
noncomputable abbrev tree_11_42 (P : Params) : BT := (.node (o_11x42 P) (.node (boot_o_8 P) (.node (o_11x138 P) (.node (boot_o_7 P) .nil .nil) (.node (o_11x394 P) .nil .nil)) (.node (o_11x202 P) (.node (boot_o_8 P) .nil .nil) .nil)) (.node (o_11x106 P) (.node (o_11x170 P) (.node (o_11x298 P) .nil .nil) (.node (o_11x426 P) .nil .nil)) (.node (o_11x234 P) (.node (o_11x362 P) .nil .nil) .nil)))
noncomputable abbrev tree_11_43 (P : Params) : BT := (.node (boot_o_7 P) (.node (o_11x75 P) (.node (boot_o_7 P) (.node (boot_o_8 P) .nil .nil) (.node (boot_o_7 P) .nil .nil)) (.node (boot_o_7 P) (.node (o_11x331 P) .nil .nil) .nil)) (.node (o_11x107 P) (.node (boot_o_7 P) (.node (o_11x299 P) .nil .nil) (.node (o_11x427 P) .nil .nil)) (.node (o_11x235 P) (.node (o_11x363 P) .nil .nil) .nil)))
noncomputable abbrev tree_11_44 (P : Params) : BT := (.node (boot_o_8 P) (.node (boot_o_7 P) (.node (o_11x140 P) (.node (o_11x268 P) .nil .nil) (.node (o_11x396 P) .nil .nil)) (.node (o_11x204 P) (.node (boot_o_7 P) .nil .nil) .nil)) (.node (boot_o_7 P) (.node (boot_o_8 P) (.node (o_11x300 P) .nil .nil) (.node (o_11x428 P) .nil .nil)) (.node (o_11x236 P) (.node (boot_o_7 P) .nil .nil) .nil)))
noncomputable abbrev tree_11_45 (P : Params) : BT := (.node (o_11x45 P) (.node (o_11x77 P) (.node (o_11x141 P) (.node (boot_o_7 P) .nil .nil) (.node (o_11x397 P) .nil .nil)) (.node (o_11x205 P) (.node (o_11x333 P) .nil .nil) .nil)) (.node (boot_o_8 P) (.node (o_11x173 P) (.node (boot_o_7 P) .nil .nil) (.node (o_11x251 P) .nil .nil)) (.node (o_11x237 P) (.node (boot_o_8 P) .nil .nil) .nil)))
noncomputable abbrev tree_11_46 (P : Params) : BT := (.node (boot_o_7 P) (.node (o_11x78 P) (.node (o_11x142 P) (.node (o_11x270 P) .nil .nil) (.node (o_11x398 P) .nil .nil)) (.node (o_11x206 P) (.node (o_11x334 P) .nil .nil) .nil)) (.node (o_11x110 P) (.node (boot_o_7 P) (.node (boot_o_8 P) .nil .nil) (.node (o_11x430 P) .nil .nil)) (.node (o_11x238 P) (.node (o_11x366 P) .nil .nil) .nil)))
noncomputable abbrev tree_11_47 (P : Params) : BT := (.node (o_11x47 P) (.node (o_11x79 P) (.node (boot_o_7 P) (.node (o_11x271 P) .nil .nil) (.node (boot_o_7 P) .nil .nil)) (.node (boot_o_7 P) (.node (o_11x335 P) .nil .nil) .nil)) (.node (boot_o_7 P) (.node (o_11x175 P) (.node (o_11x303 P) .nil .nil) (.node (boot_o_8 P) .nil .nil)) (.node (o_11x239 P) (.node (boot_o_7 P) .nil .nil) .nil)))
noncomputable abbrev tree_11_48 (P : Params) : BT := (.node (o_11x48 P) (.node (boot_o_7 P) (.node (boot_o_8 P) (.node (o_11x272 P) .nil .nil) (.node (boot_o_8 P) .nil .nil)) (.node (boot_o_8 P) (.node (boot_o_7 P) .nil .nil) .nil)) (.node (o_11x112 P) (.node (o_11x176 P) (.node (boot_o_7 P) .nil .nil) (.node (o_11x432 P) .nil .nil)) (.node (o_11x240 P) (.node (o_11x368 P) .nil .nil) .nil)))
noncomputable abbrev tree_11_49 (P : Params) : BT := (.node (o_11x49 P) (.node (boot_o_8 P) (.node (o_11x145 P) (.node (boot_o_7 P) .nil .nil) (.node (o_11x401 P) .nil .nil)) (.node (o_11x209 P) (.node (boot_o_8 P) .nil .nil) .nil)) (.node (o_11x113 P) (.node (o_11x177 P) (.node (o_11x305 P) .nil .nil) (.node (boot_o_7 P) .nil .nil)) (.node (o_11x241 P) (.node (o_11x369 P) .nil .nil) .nil)))
noncomputable abbrev tree_11_50 (P : Params) : BT := (.node (boot_o_7 P) (.node (o_11x82 P) (.node (boot_o_7 P) (.node (boot_o_8 P) .nil .nil) (.node (boot_o_7 P) .nil .nil)) (.node (boot_o_7 P) (.node (o_11x338 P) .nil .nil) .nil)) (.node (o_11x114 P) (.node (boot_o_7 P) (.node (o_11x306 P) .nil .nil) (.node (o_11x434 P) .nil .nil)) (.node (o_11x242 P) (.node (o_11x370 P) .nil .nil) .nil)))
noncomputable abbrev tree_11_51 (P : Params) : BT := (.node (o_11x51 P) (.node (boot_o_7 P) (.node (o_11x147 P) (.node (o_11x275 P) .nil .nil) (.node (o_11x403 P) .nil .nil)) (.node (o_11x211 P) (.node (boot_o_7 P) .nil .nil) .nil)) (.node (boot_o_7 P) (.node (boot_o_8 P) (.node (o_11x307 P) .nil .nil) (.node (o_11x435 P) .nil .nil)) (.node (o_11x243 P) (.node (boot_o_7 P) .nil .nil) .nil)))
noncomputable abbrev tree_11_52 (P : Params) : BT := (.node (o_11x52 P) (.node (o_11x84 P) (.node (o_11x148 P) (.node (boot_o_7 P) .nil .nil) (.node (o_11x404 P) .nil .nil)) (.node (o_11x212 P) (.node (o_11x340 P) .nil .nil) .nil)) (.node (boot_o_8 P) (.node (o_11x180 P) (.node (boot_o_7 P) .nil .nil) (.node (o_11x436 P) .nil .nil)) (.node (o_11x37 P) (.node (boot_o_8 P) .nil .nil) .nil)))
noncomputable abbrev tree_11_53 (P : Params) : BT := (.node (o_11x53 P) (.node (o_11x85 P) (.node (o_11x149 P) (.node (o_11x277 P) .nil .nil) (.node (o_11x405 P) .nil .nil)) (.node (o_11x213 P) (.node (o_11x341 P) .nil .nil) .nil)) (.node (o_11x117 P) (.node (boot_o_7 P) (.node (boot_o_8 P) .nil .nil) (.node (o_11x251 P) .nil .nil)) (.node (o_11x245 P) (.node (o_11x373 P) .nil .nil) .nil)))
noncomputable abbrev tree_11_54 (P : Params) : BT := (.node (o_11x54 P) (.node (o_11x86 P) (.node (boot_o_7 P) (.node (o_11x278 P) .nil .nil) (.node (o_11x406 P) .nil .nil)) (.node (boot_o_7 P) (.node (o_11x342 P) .nil .nil) .nil)) (.node (boot_o_7 P) (.node (o_11x182 P) (.node (o_11x310 P) .nil .nil) (.node (o_11x438 P) .nil .nil)) (.node (o_11x246 P) (.node (boot_o_7 P) .nil .nil) .nil)))
noncomputable abbrev tree_11_55 (P : Params) : BT := (.node (o_11x55 P) (.node (boot_o_7 P) (.node (boot_o_8 P) (.node (o_11x279 P) .nil .nil) (.node (boot_o_7 P) .nil .nil)) (.node (boot_o_8 P) (.node (boot_o_7 P) .nil .nil) .nil)) (.node (o_11x119 P) (.node (o_11x183 P) (.node (boot_o_7 P) .nil .nil) (.node (boot_o_8 P) .nil .nil)) (.node (boot_o_7 P) (.node (o_11x375 P) .nil .nil) .nil)))
noncomputable abbrev tree_11_56 (P : Params) : BT := (.node (o_11x56 P) (.node (boot_o_8 P) (.node (o_11x152 P) (.node (boot_o_7 P) .nil .nil) (.node (boot_o_8 P) .nil .nil)) (.node (o_11x216 P) (.node (boot_o_8 P) .nil .nil) .nil)) (.node (o_11x120 P) (.node (o_11x184 P) (.node (o_11x312 P) .nil .nil) (.node (o_11x440 P) .nil .nil)) (.node (o_11x248 P) (.node (o_11x376 P) .nil .nil) .nil)))
noncomputable abbrev tree_11_57 (P : Params) : BT := (.node (o_11x57 P) (.node (o_11x89 P) (.node (boot_o_7 P) (.node (boot_o_8 P) .nil .nil) (.node (o_11x409 P) .nil .nil)) (.node (boot_o_7 P) (.node (o_11x345 P) .nil .nil) .nil)) (.node (o_11x121 P) (.node (boot_o_7 P) (.node (o_11x313 P) .nil .nil) (.node (boot_o_7 P) .nil .nil)) (.node (o_11x249 P) (.node (o_11x377 P) .nil .nil) .nil)))
noncomputable abbrev tree_11_58 (P : Params) : BT := (.node (boot_o_7 P) (.node (boot_o_7 P) (.node (o_11x154 P) (.node (o_11x282 P) .nil .nil) (.node (boot_o_7 P) .nil .nil)) (.node (o_11x218 P) (.node (boot_o_7 P) .nil .nil) .nil)) (.node (boot_o_7 P) (.node (boot_o_8 P) (.node (o_11x314 P) .nil .nil) (.node (o_11x442 P) .nil .nil)) (.node (o_11x250 P) (.node (boot_o_7 P) .nil .nil) .nil)))
noncomputable abbrev tree_11_59 (P : Params) : BT := (.node (o_11x37 P) (.node (o_11x91 P) (.node (o_11x155 P) (.node (boot_o_7 P) .nil .nil) (.node (o_11x411 P) .nil .nil)) (.node (o_11x219 P) (.node (o_11x347 P) .nil .nil) .nil)) (.node (boot_o_8 P) (.node (o_11x187 P) (.node (boot_o_7 P) .nil .nil) (.node (o_11x443 P) .nil .nil)) (.node (o_11x251 P) (.node (boot_o_8 P) .nil .nil) .nil)))
noncomputable abbrev tree_11_60 (P : Params) : BT := (.node (o_11x60 P) (.node (o_11x92 P) (.node (o_11x156 P) (.node (o_11x284 P) .nil .nil) (.node (o_11x412 P) .nil .nil)) (.node (o_11x220 P) (.node (o_11x348 P) .nil .nil) .nil)) (.node (o_11x124 P) (.node (boot_o_7 P) (.node (boot_o_8 P) .nil .nil) (.node (o_11x444 P) .nil .nil)) (.node (o_11x252 P) (.node (o_11x380 P) .nil .nil) .nil)))
noncomputable abbrev tree_11_61 (P : Params) : BT := (.node (boot_o_7 P) (.node (o_11x93 P) (.node (boot_o_7 P) (.node (o_11x285 P) .nil .nil) (.node (o_11x413 P) .nil .nil)) (.node (boot_o_7 P) (.node (o_11x349 P) .nil .nil) .nil)) (.node (boot_o_7 P) (.node (o_11x189 P) (.node (o_11x317 P) .nil .nil) (.node (boot_o_7 P) .nil .nil)) (.node (boot_o_8 P) (.node (boot_o_7 P) .nil .nil) .nil)))
noncomputable abbrev tree_11_62 (P : Params) : BT := (.node (o_11x62 P) (.node (boot_o_7 P) (.node (boot_o_8 P) (.node (o_11x286 P) .nil .nil) (.node (boot_o_7 P) .nil .nil)) (.node (boot_o_8 P) (.node (boot_o_7 P) .nil .nil) .nil)) (.node (o_11x126 P) (.node (o_11x190 P) (.node (boot_o_7 P) .nil .nil) (.node (boot_o_8 P) .nil .nil)) (.node (o_11x254 P) (.node (o_11x382 P) .nil .nil) .nil)))
noncomputable abbrev tree_11 (P : Params) : BT := (.node (boot_o_0 P) (.node (boot_o_1 P) (.node (o_11x3 P) (.node (boot_o_7 P) (.node (boot_o_7 P) (tree_11_31 P) (tree_11_47 P)) (.node (boot_o_8 P) (tree_11_39 P) (tree_11_55 P))) (.node (boot_o_7 P) (.node (o_11x19 P) (tree_11_35 P) (tree_11_51 P)) (.node (o_11x27 P) (tree_11_43 P) (tree_11_59 P)))) (.node (boot_o_5 P) (.node (boot_o_9 P) (.node (o_11x17 P) (tree_11_33 P) (tree_11_49 P)) (.node (boot_o_7 P) (tree_11_41 P) (tree_11_57 P))) (.node (o_a13 P) (.node (o_11x21 P) (tree_11_37 P) (tree_11_53 P)) (.node (boot_o_7 P) (tree_11_45 P) (tree_11_61 P))))) (.node (boot_o_2 P) (.node (boot_o_4 P) (.node (boot_o_8 P) (.node (boot_o_8 P) (tree_11_32 P) (tree_11_48 P)) (.node (o_11x24 P) (tree_11_40 P) (tree_11_56 P))) (.node (o_11x12 P) (.node (o_11x20 P) (tree_11_36 P) (tree_11_52 P)) (.node (o_11x28 P) (tree_11_44 P) (tree_11_60 P)))) (.node (boot_o_6 P) (.node (boot_o_10 P) (.node (boot_o_7 P) (tree_11_34 P) (tree_11_50 P)) (.node (o_11x26 P) (tree_11_42 P) (tree_11_58 P))) (.node (o_a14 P) (.node (boot_o_7 P) (tree_11_38 P) (tree_11_54 P)) (.node (boot_o_8 P) (tree_11_46 P) (tree_11_62 P))))))
noncomputable abbrev tree_16_31 (P : Params) : BT := (.node (o_11x31 P) (.node (o_11x63 P) (.node (o_11x127 P) (.node (boot_o_7 P) (.node (o_16x508 P) .nil .nil) .nil) (.node (o_11x383 P) (.node (boot_o_6 P) .nil .nil) .nil)) (.node (o_11x191 P) (.node (o_11x319 P) (.node (boot_o_8 P) .nil .nil) .nil) (.node (o_11x447 P) .nil .nil))) (.node (boot_o_8 P) (.node (o_11x159 P) (.node (boot_o_7 P) (.node (o_16x543 P) .nil .nil) .nil) (.node (boot_o_8 P) .nil .nil)) (.node (o_11x223 P) (.node (boot_o_8 P) (.node (o_16x607 P) .nil .nil) .nil) (.node (o_16x479 P) .nil .nil))))
noncomputable abbrev tree_16_32 (P : Params) : BT := (.node (boot_o_7 P) (.node (o_11x64 P) (.node (o_11x128 P) (.node (o_11x256 P) (.node (o_16x508 P) .nil .nil) .nil) (.node (o_11x384 P) (.node (o_16x640 P) .nil .nil) .nil)) (.node (boot_o_7 P) (.node (o_11x320 P) (.node (o_16x576 P) .nil .nil) .nil) (.node (boot_o_7 P) .nil .nil))) (.node (o_11x96 P) (.node (boot_o_7 P) (.node (boot_o_8 P) (.node (o_16x544 P) .nil .nil) .nil) (.node (o_11x416 P) .nil .nil)) (.node (boot_o_7 P) (.node (o_11x352 P) (.node (o_16x608 P) .nil .nil) .nil) (.node (boot_o_7 P) .nil .nil))))
noncomputable abbrev tree_16_33 (P : Params) : BT := (.node (o_11x33 P) (.node (o_11x65 P) (.node (boot_o_7 P) (.node (o_11x257 P) (.node (boot_o_6 P) .nil .nil) .nil) (.node (boot_o_7 P) (.node (o_11x456 P) .nil .nil) .nil)) (.node (boot_o_8 P) (.node (o_11x321 P) (.node (boot_o_7 P) .nil .nil) .nil) (.node (o_11x449 P) .nil .nil))) (.node (boot_o_7 P) (.node (o_11x161 P) (.node (o_11x289 P) (.node (o_16x545 P) .nil .nil) .nil) (.node (o_11x417 P) .nil .nil)) (.node (o_11x225 P) (.node (boot_o_7 P) (.node (o_16x609 P) .nil .nil) .nil) (.node (boot_o_8 P) .nil .nil))))
noncomputable abbrev tree_16_34 (P : Params) : BT := (.node (o_11x34 P) (.node (boot_o_7 P) (.node (boot_o_8 P) (.node (o_11x258 P) (.node (boot_o_7 P) .nil .nil) .nil) (.node (boot_o_8 P) (.node (o_16x642 P) .nil .nil) .nil)) (.node (o_11x194 P) (.node (boot_o_7 P) (.node (o_16x578 P) .nil .nil) .nil) (.node (o_11x450 P) .nil .nil))) (.node (o_11x98 P) (.node (o_11x162 P) (.node (boot_o_7 P) (.node (boot_o_7 P) .nil .nil) .nil) (.node (o_11x418 P) .nil .nil)) (.node (o_11x226 P) (.node (o_11x354 P) (.node (o_16x610 P) .nil .nil) .nil) (.node (o_16x482 P) .nil .nil))))
noncomputable abbrev tree_16_35 (P : Params) : BT := (.node (o_11x35 P) (.node (boot_o_8 P) (.node (o_11x131 P) (.node (boot_o_7 P) (.node (boot_o_7 P) .nil .nil) .nil) (.node (o_11x387 P) (.node (o_16x643 P) .nil .nil) .nil)) (.node (boot_o_7 P) (.node (boot_o_8 P) (.node (o_16x579 P) .nil .nil) .nil) (.node (o_11x451 P) .nil .nil))) (.node (o_11x99 P) (.node (o_11x163 P) (.node (o_11x291 P) (.node (boot_o_8 P) .nil .nil) .nil) (.node (o_11x419 P) .nil .nil)) (.node (o_11x227 P) (.node (o_11x355 P) (.node (o_16x611 P) .nil .nil) .nil) (.node (boot_o_7 P) .nil .nil))))
noncomputable abbrev tree_16_36 (P : Params) : BT := (.node (boot_o_7 P) (.node (o_11x68 P) (.node (boot_o_7 P) (.node (boot_o_8 P) (.node (boot_o_8 P) .nil .nil) .nil) (.node (o_11x388 P) (.node (o_16x644 P) .nil .nil) .nil)) (.node (o_11x196 P) (.node (o_11x324 P) (.node (o_16x580 P) .nil .nil) .nil) (.node (boot_o_7 P) .nil .nil))) (.node (o_11x100 P) (.node (boot_o_7 P) (.node (o_11x292 P) (.node (o_16x548 P) .nil .nil) .nil) (.node (o_11x420 P) .nil .nil)) (.node (boot_o_7 P) (.node (o_11x356 P) (.node (o_16x612 P) .nil .nil) .nil) (.node (o_16x484 P) .nil .nil))))
noncomputable abbrev tree_16_37 (P : Params) : BT := (.node (o_11x37 P) (.node (boot_o_7 P) (.node (o_11x133 P) (.node (o_11x261 P) (.node (o_16x517 P) .nil .nil) .nil) (.node (o_11x389 P) (.node (o_16x645 P) .nil .nil) .nil)) (.node (o_11x197 P) (.node (boot_o_7 P) (.node (boot_o_7 P) .nil .nil) .nil) (.node (o_11x453 P) .nil .nil))) (.node (boot_o_7 P) (.node (boot_o_8 P) (.node (o_11x293 P) (.node (boot_o_7 P) .nil .nil) .nil) (.node (o_11x251 P) .nil .nil)) (.node (boot_o_8 P) (.node (boot_o_7 P) (.node (o_16x613 P) .nil .nil) .nil) (.node (o_16x485 P) .nil .nil))))
noncomputable abbrev tree_16_38 (P : Params) : BT := (.node (o_11x38 P) (.node (o_11x70 P) (.node (o_11x134 P) (.node (boot_o_7 P) (.node (boot_o_7 P) .nil .nil) .nil) (.node (o_11x390 P) (.node (o_16x646 P) .nil .nil) .nil)) (.node (o_11x198 P) (.node (o_11x326 P) (.node (boot_o_8 P) .nil .nil) .nil) (.node (o_11x454 P) .nil .nil))) (.node (boot_o_8 P) (.node (o_11x166 P) (.node (boot_o_7 P) (.node (o_16x550 P) .nil .nil) .nil) (.node (o_11x422 P) .nil .nil)) (.node (o_11x230 P) (.node (boot_o_8 P) (.node (o_16x614 P) .nil .nil) .nil) (.node (o_16x486 P) .nil .nil))))
noncomputable abbrev tree_16_39 (P : Params) : BT := (.node (boot_o_7 P) (.node (o_11x71 P) (.node (o_11x135 P) (.node (o_11x263 P) (.node (o_16x519 P) .nil .nil) .nil) (.node (o_11x391 P) (.node (o_16x647 P) .nil .nil) .nil)) (.node (o_11x199 P) (.node (o_11x327 P) (.node (o_16x583 P) .nil .nil) .nil) (.node (o_11x455 P) .nil .nil))) (.node (o_11x103 P) (.node (boot_o_7 P) (.node (boot_o_8 P) (.node (o_16x551 P) .nil .nil) .nil) (.node (boot_o_8 P) .nil .nil)) (.node (boot_o_7 P) (.node (o_11x359 P) (.node (boot_o_7 P) .nil .nil) .nil) (.node (boot_o_7 P) .nil .nil))))
noncomputable abbrev tree_16_40 (P : Params) : BT := (.node (o_11x40 P) (.node (o_11x72 P) (.node (boot_o_7 P) (.node (o_11x264 P) (.node (o_16x520 P) .nil .nil) .nil) (.node (boot_o_7 P) (.node (o_16x648 P) .nil .nil) .nil)) (.node (boot_o_7 P) (.node (o_11x328 P) (.node (boot_o_7 P) .nil .nil) .nil) (.node (o_11x456 P) .nil .nil))) (.node (boot_o_7 P) (.node (o_11x168 P) (.node (o_11x296 P) (.node (o_16x552 P) .nil .nil) .nil) (.node (o_11x424 P) .nil .nil)) (.node (o_11x232 P) (.node (boot_o_7 P) (.node (boot_o_6 P) .nil .nil) .nil) (.node (boot_o_8 P) .nil .nil))))
noncomputable abbrev tree_16_41 (P : Params) : BT := (.node (o_11x41 P) (.node (boot_o_7 P) (.node (boot_o_8 P) (.node (o_11x265 P) (.node (o_16x521 P) .nil .nil) .nil) (.node (boot_o_8 P) (.node (o_16x649 P) .nil .nil) .nil)) (.node (boot_o_8 P) (.node (boot_o_7 P) (.node (o_16x585 P) .nil .nil) .nil) (.node (o_11x457 P) .nil .nil))) (.node (o_11x105 P) (.node (o_11x169 P) (.node (boot_o_7 P) (.node (boot_o_7 P) .nil .nil) .nil) (.node (boot_o_7 P) .nil .nil)) (.node (o_11x233 P) (.node (o_11x361 P) (.node (o_16x617 P) .nil .nil) .nil) (.node (o_16x489 P) .nil .nil))))
noncomputable abbrev tree_16_42 (P : Params) : BT := (.node (o_11x42 P) (.node (boot_o_8 P) (.node (o_11x138 P) (.node (boot_o_7 P) (.node (boot_o_7 P) .nil .nil) .nil) (.node (o_11x394 P) (.node (boot_o_7 P) .nil .nil) .nil)) (.node (o_11x202 P) (.node (boot_o_8 P) (.node (o_16x586 P) .nil .nil) .nil) (.node (boot_o_7 P) .nil .nil))) (.node (o_11x106 P) (.node (o_11x170 P) (.node (o_11x298 P) (.node (boot_o_8 P) .nil .nil) .nil) (.node (o_11x426 P) .nil .nil)) (.node (o_11x234 P) (.node (o_11x362 P) (.node (o_11x456 P) .nil .nil) .nil) (.node (boot_o_7 P) .nil .nil))))
noncomputable abbrev tree_16_43 (P : Params) : BT := (.node (boot_o_7 P) (.node (o_11x75 P) (.node (boot_o_7 P) (.node (boot_o_8 P) (.node (boot_o_8 P) .nil .nil) .nil) (.node (boot_o_7 P) (.node (boot_o_8 P) .nil .nil) .nil)) (.node (boot_o_7 P) (.node (o_11x331 P) (.node (o_16x587 P) .nil .nil) .nil) (.node (o_11x37 P) .nil .nil))) (.node (o_11x107 P) (.node (boot_o_7 P) (.node (o_11x299 P) (.node (o_16x555 P) .nil .nil) .nil) (.node (o_11x427 P) .nil .nil)) (.node (o_11x235 P) (.node (o_11x363 P) (.node (o_16x619 P) .nil .nil) .nil) (.node (o_16x491 P) .nil .nil))))
noncomputable abbrev tree_16_44 (P : Params) : BT := (.node (boot_o_8 P) (.node (boot_o_7 P) (.node (o_11x140 P) (.node (o_11x268 P) (.node (o_16x524 P) .nil .nil) .nil) (.node (o_11x396 P) (.node (o_16x652 P) .nil .nil) .nil)) (.node (o_11x204 P) (.node (boot_o_7 P) (.node (boot_o_7 P) .nil .nil) .nil) (.node (o_16x460 P) .nil .nil))) (.node (boot_o_7 P) (.node (boot_o_8 P) (.node (o_11x300 P) (.node (boot_o_7 P) .nil .nil) .nil) (.node (o_11x428 P) .nil .nil)) (.node (o_11x236 P) (.node (boot_o_7 P) (.node (o_16x620 P) .nil .nil) .nil) (.node (o_16x492 P) .nil .nil))))
noncomputable abbrev tree_16_45 (P : Params) : BT := (.node (o_11x45 P) (.node (o_11x77 P) (.node (o_11x141 P) (.node (boot_o_7 P) (.node (boot_o_7 P) .nil .nil) .nil) (.node (o_11x397 P) (.node (boot_o_7 P) .nil .nil) .nil)) (.node (o_11x205 P) (.node (o_11x333 P) (.node (boot_o_8 P) .nil .nil) .nil) (.node (boot_o_7 P) .nil .nil))) (.node (boot_o_8 P) (.node (o_11x173 P) (.node (boot_o_7 P) (.node (o_16x557 P) .nil .nil) .nil) (.node (o_11x251 P) .nil .nil)) (.node (o_11x237 P) (.node (boot_o_8 P) (.node (o_16x621 P) .nil .nil) .nil) (.node (o_16x493 P) .nil .nil))))
noncomputable abbrev tree_16_46 (P : Params) : BT := (.node (boot_o_7 P) (.node (o_11x78 P) (.node (o_11x142 P) (.node (o_11x270 P) (.node (o_16x526 P) .nil .nil) .nil) (.node (o_11x398 P) (.node (o_16x654 P) .nil .nil) .nil)) (.node (o_11x206 P) (.node (o_11x334 P) (.node (o_16x590 P) .nil .nil) .nil) (.node (o_16x462 P) .nil .nil))) (.node (o_11x110 P) (.node (boot_o_7 P) (.node (boot_o_8 P) (.node (o_16x558 P) .nil .nil) .nil) (.node (o_11x430 P) .nil .nil)) (.node (o_11x238 P) (.node (o_11x366 P) (.node (o_16x622 P) .nil .nil) .nil) (.node (o_16x494 P) .nil .nil))))
noncomputable abbrev tree_16_47 (P : Params) : BT := (.node (o_11x47 P) (.node (o_11x79 P) (.node (boot_o_7 P) (.node (o_11x271 P) (.node (o_16x527 P) .nil .nil) .nil) (.node (boot_o_7 P) (.node (o_16x655 P) .nil .nil) .nil)) (.node (boot_o_7 P) (.node (o_11x335 P) (.node (boot_o_7 P) .nil .nil) .nil) (.node (o_16x463 P) .nil .nil))) (.node (boot_o_7 P) (.node (o_11x175 P) (.node (o_11x303 P) (.node (o_16x559 P) .nil .nil) .nil) (.node (boot_o_8 P) .nil .nil)) (.node (o_11x239 P) (.node (boot_o_7 P) (.node (o_16x623 P) .nil .nil) .nil) (.node (o_16x495 P) .nil .nil))))
noncomputable abbrev tree_16_48 (P : Params) : BT := (.node (o_11x48 P) (.node (boot_o_7 P) (.node (boot_o_8 P) (.node (o_11x272 P) (.node (o_16x528 P) .nil .nil) .nil) (.node (boot_o_8 P) (.node (o_16x656 P) .nil .nil) .nil)) (.node (boot_o_8 P) (.node (boot_o_7 P) (.node (o_16x592 P) .nil .nil) .nil) (.node (o_16x464 P) .nil .nil))) (.node (o_11x112 P) (.node (o_11x176 P) (.node (boot_o_7 P) (.node (boot_o_7 P) .nil .nil) .nil) (.node (o_11x432 P) .nil .nil)) (.node (o_11x240 P) (.node (o_11x368 P) (.node (o_16x624 P) .nil .nil) .nil) (.node (o_16x496 P) .nil .nil))))
noncomputable abbrev tree_16_49 (P : Params) : BT := (.node (o_11x49 P) (.node (boot_o_8 P) (.node (o_11x145 P) (.node (boot_o_7 P) (.node (o_16x529 P) .nil .nil) .nil) (.node (o_11x401 P) .nil .nil)) (.node (o_11x209 P) (.node (boot_o_8 P) (.node (o_16x593 P) .nil .nil) .nil) (.node (boot_o_7 P) .nil .nil))) (.node (o_11x113 P) (.node (o_11x177 P) (.node (o_11x305 P) (.node (boot_o_8 P) .nil .nil) .nil) (.node (boot_o_7 P) .nil .nil)) (.node (o_11x241 P) (.node (o_11x369 P) (.node (o_16x625 P) .nil .nil) .nil) (.node (o_16x497 P) .nil .nil))))
noncomputable abbrev tree_16_50 (P : Params) : BT := (.node (boot_o_7 P) (.node (o_11x82 P) (.node (boot_o_7 P) (.node (boot_o_8 P) (.node (o_16x530 P) .nil .nil) .nil) (.node (boot_o_7 P) .nil .nil)) (.node (boot_o_7 P) (.node (o_11x338 P) (.node (o_16x594 P) .nil .nil) .nil) (.node (boot_o_8 P) .nil .nil))) (.node (o_11x114 P) (.node (boot_o_7 P) (.node (o_11x306 P) (.node (o_16x562 P) .nil .nil) .nil) (.node (o_11x434 P) .nil .nil)) (.node (o_11x242 P) (.node (o_11x370 P) (.node (o_16x626 P) .nil .nil) .nil) (.node (o_16x498 P) .nil .nil))))
noncomputable abbrev tree_16_51 (P : Params) : BT := (.node (o_11x51 P) (.node (boot_o_7 P) (.node (o_11x147 P) (.node (o_11x275 P) (.node (boot_o_6 P) .nil .nil) .nil) (.node (o_11x403 P) .nil .nil)) (.node (o_11x211 P) (.node (boot_o_7 P) (.node (boot_o_7 P) .nil .nil) .nil) (.node (o_16x467 P) .nil .nil))) (.node (boot_o_7 P) (.node (boot_o_8 P) (.node (o_11x307 P) (.node (boot_o_7 P) .nil .nil) .nil) (.node (o_11x435 P) .nil .nil)) (.node (o_11x243 P) (.node (boot_o_7 P) (.node (o_16x627 P) .nil .nil) .nil) (.node (o_16x499 P) .nil .nil))))
noncomputable abbrev tree_16_52 (P : Params) : BT := (.node (o_11x52 P) (.node (o_11x84 P) (.node (o_11x148 P) (.node (boot_o_7 P) (.node (boot_o_7 P) .nil .nil) .nil) (.node (o_11x404 P) .nil .nil)) (.node (o_11x212 P) (.node (o_11x340 P) (.node (boot_o_8 P) .nil .nil) .nil) (.node (boot_o_7 P) .nil .nil))) (.node (boot_o_8 P) (.node (o_11x180 P) (.node (boot_o_7 P) (.node (o_16x564 P) .nil .nil) .nil) (.node (o_11x436 P) .nil .nil)) (.node (o_11x37 P) (.node (boot_o_8 P) (.node (o_16x628 P) .nil .nil) .nil) (.node (o_16x500 P) .nil .nil))))
noncomputable abbrev tree_16_53 (P : Params) : BT := (.node (o_11x53 P) (.node (o_11x85 P) (.node (o_11x149 P) (.node (o_11x277 P) (.node (boot_o_8 P) .nil .nil) .nil) (.node (o_11x405 P) .nil .nil)) (.node (o_11x213 P) (.node (o_11x341 P) (.node (o_16x597 P) .nil .nil) .nil) (.node (o_16x469 P) .nil .nil))) (.node (o_11x117 P) (.node (boot_o_7 P) (.node (boot_o_8 P) (.node (o_16x565 P) .nil .nil) .nil) (.node (o_11x251 P) .nil .nil)) (.node (o_11x245 P) (.node (o_11x373 P) (.node (o_16x629 P) .nil .nil) .nil) (.node (boot_o_7 P) .nil .nil))))
noncomputable abbrev tree_16_54 (P : Params) : BT := (.node (o_11x54 P) (.node (o_11x86 P) (.node (boot_o_7 P) (.node (o_11x278 P) (.node (o_16x534 P) .nil .nil) .nil) (.node (o_11x406 P) .nil .nil)) (.node (boot_o_7 P) (.node (o_11x342 P) (.node (boot_o_7 P) .nil .nil) .nil) (.node (o_16x470 P) .nil .nil))) (.node (boot_o_7 P) (.node (o_11x182 P) (.node (o_11x310 P) (.node (o_16x566 P) .nil .nil) .nil) (.node (o_11x438 P) .nil .nil)) (.node (o_11x246 P) (.node (boot_o_7 P) (.node (o_16x630 P) .nil .nil) .nil) (.node (o_16x502 P) .nil .nil))))
noncomputable abbrev tree_16_55 (P : Params) : BT := (.node (o_11x55 P) (.node (boot_o_7 P) (.node (boot_o_8 P) (.node (o_11x279 P) (.node (boot_o_7 P) .nil .nil) .nil) (.node (boot_o_7 P) .nil .nil)) (.node (boot_o_8 P) (.node (boot_o_7 P) (.node (o_16x599 P) .nil .nil) .nil) (.node (o_16x471 P) .nil .nil))) (.node (o_11x119 P) (.node (o_11x183 P) (.node (boot_o_7 P) (.node (boot_o_7 P) .nil .nil) .nil) (.node (boot_o_8 P) .nil .nil)) (.node (boot_o_7 P) (.node (o_11x375 P) (.node (o_16x502 P) .nil .nil) .nil) (.node (o_16x503 P) .nil .nil))))
noncomputable abbrev tree_16_56 (P : Params) : BT := (.node (o_11x56 P) (.node (boot_o_8 P) (.node (o_11x152 P) (.node (boot_o_7 P) (.node (o_16x536 P) .nil .nil) .nil) (.node (boot_o_8 P) .nil .nil)) (.node (o_11x216 P) (.node (boot_o_8 P) (.node (o_16x600 P) .nil .nil) .nil) (.node (o_11x199 P) .nil .nil))) (.node (o_11x120 P) (.node (o_11x184 P) (.node (o_11x312 P) (.node (boot_o_8 P) .nil .nil) .nil) (.node (o_11x440 P) .nil .nil)) (.node (o_11x248 P) (.node (o_11x376 P) (.node (o_16x632 P) .nil .nil) .nil) (.node (boot_o_7 P) .nil .nil))))
noncomputable abbrev tree_16_57 (P : Params) : BT := (.node (o_11x57 P) (.node (o_11x89 P) (.node (boot_o_7 P) (.node (boot_o_8 P) (.node (o_16x537 P) .nil .nil) .nil) (.node (o_11x409 P) .nil .nil)) (.node (boot_o_7 P) (.node (o_11x345 P) (.node (o_16x601 P) .nil .nil) .nil) (.node (boot_o_7 P) .nil .nil))) (.node (o_11x121 P) (.node (boot_o_7 P) (.node (o_11x313 P) (.node (o_16x569 P) .nil .nil) .nil) (.node (boot_o_7 P) .nil .nil)) (.node (o_11x249 P) (.node (o_11x377 P) (.node (boot_o_7 P) .nil .nil) .nil) (.node (o_16x505 P) .nil .nil))))
noncomputable abbrev tree_16_58 (P : Params) : BT := (.node (boot_o_7 P) (.node (boot_o_7 P) (.node (o_11x154 P) (.node (o_11x282 P) (.node (o_16x538 P) .nil .nil) .nil) (.node (boot_o_7 P) .nil .nil)) (.node (o_11x218 P) (.node (boot_o_7 P) (.node (boot_o_7 P) .nil .nil) .nil) (.node (boot_o_8 P) .nil .nil))) (.node (boot_o_7 P) (.node (boot_o_8 P) (.node (o_11x314 P) (.node (boot_o_7 P) .nil .nil) .nil) (.node (o_11x442 P) .nil .nil)) (.node (o_11x250 P) (.node (boot_o_7 P) (.node (boot_o_8 P) .nil .nil) .nil) (.node (o_16x506 P) .nil .nil))))
noncomputable abbrev tree_16_59 (P : Params) : BT := (.node (o_11x37 P) (.node (o_11x91 P) (.node (o_11x155 P) (.node (boot_o_7 P) (.node (boot_o_7 P) .nil .nil) .nil) (.node (o_11x411 P) .nil .nil)) (.node (o_11x219 P) (.node (o_11x347 P) (.node (boot_o_8 P) .nil .nil) .nil) (.node (o_16x475 P) .nil .nil))) (.node (boot_o_8 P) (.node (o_11x187 P) (.node (boot_o_7 P) (.node (o_16x571 P) .nil .nil) .nil) (.node (o_11x443 P) .nil .nil)) (.node (o_11x251 P) (.node (boot_o_8 P) (.node (o_16x635 P) .nil .nil) .nil) (.node (o_16x507 P) .nil .nil))))
noncomputable abbrev tree_16_60 (P : Params) : BT := (.node (o_11x60 P) (.node (o_11x92 P) (.node (o_11x156 P) (.node (o_11x284 P) (.node (boot_o_8 P) .nil .nil) .nil) (.node (o_11x412 P) .nil .nil)) (.node (o_11x220 P) (.node (o_11x348 P) (.node (o_16x604 P) .nil .nil) .nil) (.node (boot_o_7 P) .nil .nil))) (.node (o_11x124 P) (.node (boot_o_7 P) (.node (boot_o_8 P) (.node (o_16x572 P) .nil .nil) .nil) (.node (o_11x444 P) .nil .nil)) (.node (o_11x252 P) (.node (o_11x380 P) (.node (o_16x636 P) .nil .nil) .nil) (.node (o_16x508 P) .nil .nil))))
noncomputable abbrev tree_16_61 (P : Params) : BT := (.node (boot_o_7 P) (.node (o_11x93 P) (.node (boot_o_7 P) (.node (o_11x285 P) (.node (o_16x541 P) .nil .nil) .nil) (.node (o_11x413 P) .nil .nil)) (.node (boot_o_7 P) (.node (o_11x349 P) (.node (boot_o_7 P) .nil .nil) .nil) (.node (o_16x477 P) .nil .nil))) (.node (boot_o_7 P) (.node (o_11x189 P) (.node (o_11x317 P) (.node (o_16x573 P) .nil .nil) .nil) (.node (boot_o_7 P) .nil .nil)) (.node (boot_o_8 P) (.node (boot_o_7 P) (.node (o_16x637 P) .nil .nil) .nil) (.node (boot_o_6 P) .nil .nil))))
noncomputable abbrev tree_16_62 (P : Params) : BT := (.node (o_11x62 P) (.node (boot_o_7 P) (.node (boot_o_8 P) (.node (o_11x286 P) (.node (boot_o_7 P) .nil .nil) .nil) (.node (boot_o_7 P) .nil .nil)) (.node (boot_o_8 P) (.node (boot_o_7 P) (.node (o_16x606 P) .nil .nil) .nil) (.node (o_16x478 P) .nil .nil))) (.node (o_11x126 P) (.node (o_11x190 P) (.node (boot_o_7 P) (.node (boot_o_7 P) .nil .nil) .nil) (.node (boot_o_8 P) .nil .nil)) (.node (o_11x254 P) (.node (o_11x382 P) (.node (boot_o_7 P) .nil .nil) .nil) (.node (boot_o_6 P) .nil .nil))))
noncomputable abbrev tree_16 (P : Params) : BT := (.node (boot_o_0 P) (.node (boot_o_1 P) (.node (o_16x3 P) (.node (boot_o_7 P) (.node (boot_o_7 P) (tree_16_31 P) (tree_16_47 P)) (.node (boot_o_8 P) (tree_16_39 P) (tree_16_55 P))) (.node (boot_o_7 P) (.node (o_11x19 P) (tree_16_35 P) (tree_16_51 P)) (.node (o_11x27 P) (tree_16_43 P) (tree_16_59 P)))) (.node (boot_o_5 P) (.node (boot_o_9 P) (.node (o_11x17 P) (tree_16_33 P) (tree_16_49 P)) (.node (boot_o_7 P) (tree_16_41 P) (tree_16_57 P))) (.node (o_a13 P) (.node (o_11x21 P) (tree_16_37 P) (tree_16_53 P)) (.node (boot_o_7 P) (tree_16_45 P) (tree_16_61 P))))) (.node (boot_o_2 P) (.node (boot_o_4 P) (.node (boot_o_8 P) (.node (boot_o_8 P) (tree_16_32 P) (tree_16_48 P)) (.node (o_11x24 P) (tree_16_40 P) (tree_16_56 P))) (.node (o_16x12 P) (.node (o_11x20 P) (tree_16_36 P) (tree_16_52 P)) (.node (o_11x28 P) (tree_16_44 P) (tree_16_60 P)))) (.node (boot_o_6 P) (.node (boot_o_10 P) (.node (boot_o_7 P) (tree_16_34 P) (tree_16_50 P)) (.node (o_11x26 P) (tree_16_42 P) (tree_16_58 P))) (.node (o_a14 P) (.node (boot_o_7 P) (tree_16_38 P) (tree_16_54 P)) (.node (boot_o_8 P) (tree_16_46 P) (tree_16_62 P))))))
noncomputable abbrev tree_17_31 (P : Params) : BT := (.node (o_11x31 P) (.node (o_11x63 P) (.node (o_11x127 P) (.node (boot_o_7 P) (.node (o_16x508 P) .nil .nil) .nil) (.node (o_11x383 P) (.node (boot_o_6 P) .nil .nil) .nil)) (.node (o_11x191 P) (.node (o_11x319 P) (.node (boot_o_8 P) .nil .nil) .nil) (.node (o_11x447 P) (.node (o_16x649 P) .nil .nil) .nil))) (.node (boot_o_8 P) (.node (o_11x159 P) (.node (boot_o_7 P) (.node (o_16x543 P) .nil .nil) .nil) (.node (boot_o_8 P) (.node (o_17x671 P) .nil .nil) .nil)) (.node (o_11x223 P) (.node (boot_o_8 P) (.node (o_16x607 P) .nil .nil) .nil) (.node (o_16x479 P) .nil .nil))))
noncomputable abbrev tree_17_32 (P : Params) : BT := (.node (boot_o_7 P) (.node (o_11x64 P) (.node (o_11x128 P) (.node (o_11x256 P) (.node (o_16x508 P) .nil .nil) .nil) (.node (o_11x384 P) (.node (o_16x640 P) .nil .nil) .nil)) (.node (boot_o_7 P) (.node (o_11x320 P) (.node (o_16x576 P) .nil .nil) .nil) (.node (boot_o_7 P) .nil .nil))) (.node (o_11x96 P) (.node (boot_o_7 P) (.node (boot_o_8 P) (.node (o_16x544 P) .nil .nil) .nil) (.node (o_11x416 P) (.node (o_17x672 P) .nil .nil) .nil)) (.node (boot_o_7 P) (.node (o_11x352 P) (.node (o_16x608 P) .nil .nil) .nil) (.node (boot_o_7 P) .nil .nil))))
noncomputable abbrev tree_17_33 (P : Params) : BT := (.node (o_11x33 P) (.node (o_11x65 P) (.node (boot_o_7 P) (.node (o_11x257 P) (.node (boot_o_6 P) .nil .nil) .nil) (.node (boot_o_7 P) (.node (o_11x456 P) .nil .nil) .nil)) (.node (boot_o_8 P) (.node (o_11x321 P) (.node (boot_o_7 P) .nil .nil) .nil) (.node (o_11x449 P) .nil .nil))) (.node (boot_o_7 P) (.node (o_11x161 P) (.node (o_11x289 P) (.node (o_16x545 P) .nil .nil) .nil) (.node (o_11x417 P) (.node (o_17x673 P) .nil .nil) .nil)) (.node (o_11x225 P) (.node (boot_o_7 P) (.node (o_16x609 P) .nil .nil) .nil) (.node (boot_o_8 P) .nil .nil))))
noncomputable abbrev tree_17_34 (P : Params) : BT := (.node (o_11x34 P) (.node (boot_o_7 P) (.node (boot_o_8 P) (.node (o_11x258 P) (.node (boot_o_7 P) .nil .nil) .nil) (.node (boot_o_8 P) (.node (o_17x642 P) .nil .nil) .nil)) (.node (o_11x194 P) (.node (boot_o_7 P) (.node (o_16x578 P) .nil .nil) .nil) (.node (o_11x450 P) .nil .nil))) (.node (o_11x98 P) (.node (o_11x162 P) (.node (boot_o_7 P) (.node (boot_o_7 P) .nil .nil) .nil) (.node (o_11x418 P) (.node (o_17x674 P) .nil .nil) .nil)) (.node (o_11x226 P) (.node (o_11x354 P) (.node (o_16x610 P) .nil .nil) .nil) (.node (o_16x482 P) .nil .nil))))
noncomputable abbrev tree_17_35 (P : Params) : BT := (.node (o_11x35 P) (.node (boot_o_8 P) (.node (o_11x131 P) (.node (boot_o_7 P) (.node (boot_o_7 P) .nil .nil) .nil) (.node (o_11x387 P) (.node (o_16x643 P) .nil .nil) .nil)) (.node (boot_o_7 P) (.node (boot_o_8 P) (.node (o_16x579 P) .nil .nil) .nil) (.node (o_11x451 P) .nil .nil))) (.node (o_11x99 P) (.node (o_11x163 P) (.node (o_11x291 P) (.node (boot_o_8 P) .nil .nil) .nil) (.node (o_11x419 P) (.node (o_17x675 P) .nil .nil) .nil)) (.node (o_11x227 P) (.node (o_11x355 P) (.node (o_16x611 P) .nil .nil) .nil) (.node (boot_o_7 P) .nil .nil))))
noncomputable abbrev tree_17_36 (P : Params) : BT := (.node (boot_o_7 P) (.node (o_11x68 P) (.node (boot_o_7 P) (.node (boot_o_8 P) (.node (boot_o_8 P) .nil .nil) .nil) (.node (o_11x388 P) (.node (o_16x644 P) .nil .nil) .nil)) (.node (o_11x196 P) (.node (o_11x324 P) (.node (o_16x580 P) .nil .nil) .nil) (.node (boot_o_7 P) .nil .nil))) (.node (o_11x100 P) (.node (boot_o_7 P) (.node (o_11x292 P) (.node (o_16x548 P) .nil .nil) .nil) (.node (o_11x420 P) (.node (o_17x676 P) .nil .nil) .nil)) (.node (boot_o_7 P) (.node (o_11x356 P) (.node (o_16x612 P) .nil .nil) .nil) (.node (o_16x484 P) .nil .nil))))
noncomputable abbrev tree_17_37 (P : Params) : BT := (.node (o_11x37 P) (.node (boot_o_7 P) (.node (o_11x133 P) (.node (o_11x261 P) (.node (o_16x517 P) .nil .nil) .nil) (.node (o_11x389 P) (.node (o_16x645 P) .nil .nil) .nil)) (.node (o_11x197 P) (.node (boot_o_7 P) (.node (boot_o_7 P) .nil .nil) .nil) (.node (o_11x453 P) .nil .nil))) (.node (boot_o_7 P) (.node (boot_o_8 P) (.node (o_11x293 P) (.node (boot_o_7 P) .nil .nil) .nil) (.node (o_11x251 P) (.node (o_17x677 P) .nil .nil) .nil)) (.node (boot_o_8 P) (.node (boot_o_7 P) (.node (o_16x613 P) .nil .nil) .nil) (.node (o_16x485 P) .nil .nil))))
noncomputable abbrev tree_17_38 (P : Params) : BT := (.node (o_11x38 P) (.node (o_11x70 P) (.node (o_11x134 P) (.node (boot_o_7 P) (.node (boot_o_7 P) .nil .nil) .nil) (.node (o_11x390 P) (.node (o_16x646 P) .nil .nil) .nil)) (.node (o_11x198 P) (.node (o_11x326 P) (.node (boot_o_8 P) .nil .nil) .nil) (.node (o_11x454 P) .nil .nil))) (.node (boot_o_8 P) (.node (o_11x166 P) (.node (boot_o_7 P) (.node (o_16x550 P) .nil .nil) .nil) (.node (o_11x422 P) (.node (o_16x648 P) .nil .nil) .nil)) (.node (o_11x230 P) (.node (boot_o_8 P) (.node (o_16x614 P) .nil .nil) .nil) (.node (o_16x486 P) .nil .nil))))
noncomputable abbrev tree_17_39 (P : Params) : BT := (.node (boot_o_7 P) (.node (o_11x71 P) (.node (o_11x135 P) (.node (o_11x263 P) (.node (o_16x519 P) .nil .nil) .nil) (.node (o_11x391 P) (.node (o_16x647 P) .nil .nil) .nil)) (.node (o_11x199 P) (.node (o_11x327 P) (.node (o_16x583 P) .nil .nil) .nil) (.node (o_11x455 P) .nil .nil))) (.node (o_11x103 P) (.node (boot_o_7 P) (.node (boot_o_8 P) (.node (o_16x551 P) .nil .nil) .nil) (.node (boot_o_8 P) (.node (o_16x649 P) .nil .nil) .nil)) (.node (boot_o_7 P) (.node (o_11x359 P) (.node (boot_o_7 P) .nil .nil) .nil) (.node (boot_o_7 P) .nil .nil))))
noncomputable abbrev tree_17_40 (P : Params) : BT := (.node (o_11x40 P) (.node (o_11x72 P) (.node (boot_o_7 P) (.node (o_11x264 P) (.node (o_16x520 P) .nil .nil) .nil) (.node (boot_o_7 P) (.node (o_16x648 P) .nil .nil) .nil)) (.node (boot_o_7 P) (.node (o_11x328 P) (.node (boot_o_7 P) .nil .nil) .nil) (.node (o_11x456 P) .nil .nil))) (.node (boot_o_7 P) (.node (o_11x168 P) (.node (o_11x296 P) (.node (o_16x552 P) .nil .nil) .nil) (.node (o_11x424 P) (.node (o_17x680 P) .nil .nil) .nil)) (.node (o_11x232 P) (.node (boot_o_7 P) (.node (boot_o_6 P) .nil .nil) .nil) (.node (boot_o_8 P) .nil .nil))))
noncomputable abbrev tree_17_41 (P : Params) : BT := (.node (o_11x41 P) (.node (boot_o_7 P) (.node (boot_o_8 P) (.node (o_11x265 P) (.node (o_16x521 P) .nil .nil) .nil) (.node (boot_o_8 P) (.node (o_16x649 P) .nil .nil) .nil)) (.node (boot_o_8 P) (.node (boot_o_7 P) (.node (o_16x585 P) .nil .nil) .nil) (.node (o_11x457 P) .nil .nil))) (.node (o_11x105 P) (.node (o_11x169 P) (.node (boot_o_7 P) (.node (boot_o_7 P) .nil .nil) .nil) (.node (boot_o_7 P) (.node (o_16x648 P) .nil .nil) .nil)) (.node (o_11x233 P) (.node (o_11x361 P) (.node (o_16x617 P) .nil .nil) .nil) (.node (o_16x489 P) .nil .nil))))
noncomputable abbrev tree_17_42 (P : Params) : BT := (.node (o_11x42 P) (.node (boot_o_8 P) (.node (o_11x138 P) (.node (boot_o_7 P) (.node (boot_o_7 P) .nil .nil) .nil) (.node (o_11x394 P) (.node (boot_o_7 P) .nil .nil) .nil)) (.node (o_11x202 P) (.node (boot_o_8 P) (.node (o_16x586 P) .nil .nil) .nil) (.node (boot_o_7 P) .nil .nil))) (.node (o_11x106 P) (.node (o_11x170 P) (.node (o_11x298 P) (.node (boot_o_8 P) .nil .nil) .nil) (.node (o_11x426 P) (.node (o_16x649 P) .nil .nil) .nil)) (.node (o_11x234 P) (.node (o_11x362 P) (.node (o_11x456 P) .nil .nil) .nil) (.node (boot_o_7 P) .nil .nil))))
noncomputable abbrev tree_17_43 (P : Params) : BT := (.node (boot_o_7 P) (.node (o_11x75 P) (.node (boot_o_7 P) (.node (boot_o_8 P) (.node (boot_o_8 P) .nil .nil) .nil) (.node (boot_o_7 P) (.node (boot_o_8 P) .nil .nil) .nil)) (.node (boot_o_7 P) (.node (o_11x331 P) (.node (o_16x587 P) .nil .nil) .nil) (.node (o_11x37 P) .nil .nil))) (.node (o_11x107 P) (.node (boot_o_7 P) (.node (o_11x299 P) (.node (o_16x555 P) .nil .nil) .nil) (.node (o_11x427 P) (.node (o_17x683 P) .nil .nil) .nil)) (.node (o_11x235 P) (.node (o_11x363 P) (.node (o_16x619 P) .nil .nil) .nil) (.node (o_16x491 P) .nil .nil))))
noncomputable abbrev tree_17_44 (P : Params) : BT := (.node (boot_o_8 P) (.node (boot_o_7 P) (.node (o_11x140 P) (.node (o_11x268 P) (.node (o_16x524 P) .nil .nil) .nil) (.node (o_11x396 P) (.node (o_16x652 P) .nil .nil) .nil)) (.node (o_11x204 P) (.node (boot_o_7 P) (.node (boot_o_7 P) .nil .nil) .nil) (.node (o_16x460 P) .nil .nil))) (.node (boot_o_7 P) (.node (boot_o_8 P) (.node (o_11x300 P) (.node (boot_o_7 P) .nil .nil) .nil) (.node (o_11x428 P) (.node (o_16x648 P) .nil .nil) .nil)) (.node (o_11x236 P) (.node (boot_o_7 P) (.node (o_16x620 P) .nil .nil) .nil) (.node (o_16x492 P) .nil .nil))))
noncomputable abbrev tree_17_45 (P : Params) : BT := (.node (o_11x45 P) (.node (o_11x77 P) (.node (o_11x141 P) (.node (boot_o_7 P) (.node (boot_o_7 P) .nil .nil) .nil) (.node (o_11x397 P) (.node (boot_o_7 P) .nil .nil) .nil)) (.node (o_11x205 P) (.node (o_11x333 P) (.node (boot_o_8 P) .nil .nil) .nil) (.node (boot_o_7 P) .nil .nil))) (.node (boot_o_8 P) (.node (o_11x173 P) (.node (boot_o_7 P) (.node (o_16x557 P) .nil .nil) .nil) (.node (o_11x251 P) (.node (o_16x649 P) .nil .nil) .nil)) (.node (o_11x237 P) (.node (boot_o_8 P) (.node (o_16x621 P) .nil .nil) .nil) (.node (o_16x493 P) .nil .nil))))
noncomputable abbrev tree_17_46 (P : Params) : BT := (.node (boot_o_7 P) (.node (o_11x78 P) (.node (o_11x142 P) (.node (o_11x270 P) (.node (o_16x526 P) .nil .nil) .nil) (.node (o_11x398 P) (.node (o_16x654 P) .nil .nil) .nil)) (.node (o_11x206 P) (.node (o_11x334 P) (.node (o_16x590 P) .nil .nil) .nil) (.node (o_16x462 P) .nil .nil))) (.node (o_11x110 P) (.node (boot_o_7 P) (.node (boot_o_8 P) (.node (o_16x558 P) .nil .nil) .nil) (.node (o_11x430 P) (.node (o_17x686 P) .nil .nil) .nil)) (.node (o_11x238 P) (.node (o_11x366 P) (.node (o_16x622 P) .nil .nil) .nil) (.node (o_16x494 P) .nil .nil))))
noncomputable abbrev tree_17_47 (P : Params) : BT := (.node (o_11x47 P) (.node (o_11x79 P) (.node (boot_o_7 P) (.node (o_11x271 P) (.node (o_16x527 P) .nil .nil) .nil) (.node (boot_o_7 P) (.node (o_16x655 P) .nil .nil) .nil)) (.node (boot_o_7 P) (.node (o_11x335 P) (.node (boot_o_7 P) .nil .nil) .nil) (.node (o_16x463 P) .nil .nil))) (.node (boot_o_7 P) (.node (o_11x175 P) (.node (o_11x303 P) (.node (o_16x559 P) .nil .nil) .nil) (.node (boot_o_8 P) (.node (o_16x648 P) .nil .nil) .nil)) (.node (o_11x239 P) (.node (boot_o_7 P) (.node (o_16x623 P) .nil .nil) .nil) (.node (o_16x495 P) .nil .nil))))
noncomputable abbrev tree_17_48 (P : Params) : BT := (.node (o_11x48 P) (.node (boot_o_7 P) (.node (boot_o_8 P) (.node (o_11x272 P) (.node (o_16x528 P) .nil .nil) .nil) (.node (boot_o_8 P) (.node (o_16x656 P) .nil .nil) .nil)) (.node (boot_o_8 P) (.node (boot_o_7 P) (.node (o_16x592 P) .nil .nil) .nil) (.node (o_16x464 P) .nil .nil))) (.node (o_11x112 P) (.node (o_11x176 P) (.node (boot_o_7 P) (.node (boot_o_7 P) .nil .nil) .nil) (.node (o_11x432 P) (.node (o_16x649 P) .nil .nil) .nil)) (.node (o_11x240 P) (.node (o_11x368 P) (.node (o_16x624 P) .nil .nil) .nil) (.node (o_16x496 P) .nil .nil))))
noncomputable abbrev tree_17_49 (P : Params) : BT := (.node (o_11x49 P) (.node (boot_o_8 P) (.node (o_11x145 P) (.node (boot_o_7 P) (.node (o_16x529 P) .nil .nil) .nil) (.node (o_11x401 P) (.node (o_17x657 P) .nil .nil) .nil)) (.node (o_11x209 P) (.node (boot_o_8 P) (.node (o_16x593 P) .nil .nil) .nil) (.node (boot_o_7 P) .nil .nil))) (.node (o_11x113 P) (.node (o_11x177 P) (.node (o_11x305 P) (.node (boot_o_8 P) .nil .nil) .nil) (.node (boot_o_7 P) (.node (o_17x689 P) .nil .nil) .nil)) (.node (o_11x241 P) (.node (o_11x369 P) (.node (o_16x625 P) .nil .nil) .nil) (.node (o_16x497 P) .nil .nil))))
noncomputable abbrev tree_17_50 (P : Params) : BT := (.node (boot_o_7 P) (.node (o_11x82 P) (.node (boot_o_7 P) (.node (boot_o_8 P) (.node (o_16x530 P) .nil .nil) .nil) (.node (boot_o_7 P) (.node (o_17x658 P) .nil .nil) .nil)) (.node (boot_o_7 P) (.node (o_11x338 P) (.node (o_16x594 P) .nil .nil) .nil) (.node (boot_o_8 P) .nil .nil))) (.node (o_11x114 P) (.node (boot_o_7 P) (.node (o_11x306 P) (.node (o_16x562 P) .nil .nil) .nil) (.node (o_11x434 P) (.node (o_16x648 P) .nil .nil) .nil)) (.node (o_11x242 P) (.node (o_11x370 P) (.node (o_16x626 P) .nil .nil) .nil) (.node (o_16x498 P) .nil .nil))))
noncomputable abbrev tree_17_51 (P : Params) : BT := (.node (o_11x51 P) (.node (boot_o_7 P) (.node (o_11x147 P) (.node (o_11x275 P) (.node (boot_o_6 P) .nil .nil) .nil) (.node (o_11x403 P) (.node (o_17x659 P) .nil .nil) .nil)) (.node (o_11x211 P) (.node (boot_o_7 P) (.node (boot_o_7 P) .nil .nil) .nil) (.node (o_16x467 P) .nil .nil))) (.node (boot_o_7 P) (.node (boot_o_8 P) (.node (o_11x307 P) (.node (boot_o_7 P) .nil .nil) .nil) (.node (o_11x435 P) (.node (o_16x649 P) .nil .nil) .nil)) (.node (o_11x243 P) (.node (boot_o_7 P) (.node (o_16x627 P) .nil .nil) .nil) (.node (o_16x499 P) .nil .nil))))
noncomputable abbrev tree_17_52 (P : Params) : BT := (.node (o_11x52 P) (.node (o_11x84 P) (.node (o_11x148 P) (.node (boot_o_7 P) (.node (boot_o_7 P) .nil .nil) .nil) (.node (o_11x404 P) (.node (o_16x645 P) .nil .nil) .nil)) (.node (o_11x212 P) (.node (o_11x340 P) (.node (boot_o_8 P) .nil .nil) .nil) (.node (boot_o_7 P) .nil .nil))) (.node (boot_o_8 P) (.node (o_11x180 P) (.node (boot_o_7 P) (.node (o_16x564 P) .nil .nil) .nil) (.node (o_11x436 P) (.node (o_17x692 P) .nil .nil) .nil)) (.node (o_11x37 P) (.node (boot_o_8 P) (.node (o_16x628 P) .nil .nil) .nil) (.node (o_16x500 P) .nil .nil))))
noncomputable abbrev tree_17_53 (P : Params) : BT := (.node (o_11x53 P) (.node (o_11x85 P) (.node (o_11x149 P) (.node (o_11x277 P) (.node (boot_o_8 P) .nil .nil) .nil) (.node (o_11x405 P) (.node (o_17x661 P) .nil .nil) .nil)) (.node (o_11x213 P) (.node (o_11x341 P) (.node (o_16x597 P) .nil .nil) .nil) (.node (o_16x469 P) .nil .nil))) (.node (o_11x117 P) (.node (boot_o_7 P) (.node (boot_o_8 P) (.node (o_16x565 P) .nil .nil) .nil) (.node (o_11x251 P) (.node (o_17x693 P) .nil .nil) .nil)) (.node (o_11x245 P) (.node (o_11x373 P) (.node (o_16x629 P) .nil .nil) .nil) (.node (boot_o_7 P) .nil .nil))))
noncomputable abbrev tree_17_54 (P : Params) : BT := (.node (o_11x54 P) (.node (o_11x86 P) (.node (boot_o_7 P) (.node (o_11x278 P) (.node (o_16x534 P) .nil .nil) .nil) (.node (o_11x406 P) (.node (o_17x662 P) .nil .nil) .nil)) (.node (boot_o_7 P) (.node (o_11x342 P) (.node (boot_o_7 P) .nil .nil) .nil) (.node (o_16x470 P) .nil .nil))) (.node (boot_o_7 P) (.node (o_11x182 P) (.node (o_11x310 P) (.node (o_16x566 P) .nil .nil) .nil) (.node (o_11x438 P) (.node (o_16x648 P) .nil .nil) .nil)) (.node (o_11x246 P) (.node (boot_o_7 P) (.node (o_16x630 P) .nil .nil) .nil) (.node (o_16x502 P) .nil .nil))))
noncomputable abbrev tree_17_55 (P : Params) : BT := (.node (o_11x55 P) (.node (boot_o_7 P) (.node (boot_o_8 P) (.node (o_11x279 P) (.node (boot_o_7 P) .nil .nil) .nil) (.node (boot_o_7 P) (.node (o_17x663 P) .nil .nil) .nil)) (.node (boot_o_8 P) (.node (boot_o_7 P) (.node (o_16x599 P) .nil .nil) .nil) (.node (o_16x471 P) .nil .nil))) (.node (o_11x119 P) (.node (o_11x183 P) (.node (boot_o_7 P) (.node (boot_o_7 P) .nil .nil) .nil) (.node (boot_o_8 P) (.node (o_16x649 P) .nil .nil) .nil)) (.node (boot_o_7 P) (.node (o_11x375 P) (.node (o_16x502 P) .nil .nil) .nil) (.node (o_16x503 P) .nil .nil))))
noncomputable abbrev tree_17_56 (P : Params) : BT := (.node (o_11x56 P) (.node (boot_o_8 P) (.node (o_11x152 P) (.node (boot_o_7 P) (.node (o_16x536 P) .nil .nil) .nil) (.node (boot_o_8 P) (.node (o_17x664 P) .nil .nil) .nil)) (.node (o_11x216 P) (.node (boot_o_8 P) (.node (o_16x600 P) .nil .nil) .nil) (.node (o_11x199 P) .nil .nil))) (.node (o_11x120 P) (.node (o_11x184 P) (.node (o_11x312 P) (.node (boot_o_8 P) .nil .nil) .nil) (.node (o_11x440 P) (.node (o_17x696 P) .nil .nil) .nil)) (.node (o_11x248 P) (.node (o_11x376 P) (.node (o_16x632 P) .nil .nil) .nil) (.node (boot_o_7 P) .nil .nil))))
noncomputable abbrev tree_17_57 (P : Params) : BT := (.node (o_11x57 P) (.node (o_11x89 P) (.node (boot_o_7 P) (.node (boot_o_8 P) (.node (o_16x537 P) .nil .nil) .nil) (.node (o_11x409 P) (.node (o_16x648 P) .nil .nil) .nil)) (.node (boot_o_7 P) (.node (o_11x345 P) (.node (o_16x601 P) .nil .nil) .nil) (.node (boot_o_7 P) .nil .nil))) (.node (o_11x121 P) (.node (boot_o_7 P) (.node (o_11x313 P) (.node (o_16x569 P) .nil .nil) .nil) (.node (boot_o_7 P) (.node (o_17x697 P) .nil .nil) .nil)) (.node (o_11x249 P) (.node (o_11x377 P) (.node (boot_o_7 P) .nil .nil) .nil) (.node (o_16x505 P) .nil .nil))))
noncomputable abbrev tree_17_58 (P : Params) : BT := (.node (boot_o_7 P) (.node (boot_o_7 P) (.node (o_11x154 P) (.node (o_11x282 P) (.node (o_16x538 P) .nil .nil) .nil) (.node (boot_o_7 P) (.node (o_16x649 P) .nil .nil) .nil)) (.node (o_11x218 P) (.node (boot_o_7 P) (.node (boot_o_7 P) .nil .nil) .nil) (.node (boot_o_8 P) .nil .nil))) (.node (boot_o_7 P) (.node (boot_o_8 P) (.node (o_11x314 P) (.node (boot_o_7 P) .nil .nil) .nil) (.node (o_11x442 P) (.node (o_16x648 P) .nil .nil) .nil)) (.node (o_11x250 P) (.node (boot_o_7 P) (.node (boot_o_8 P) .nil .nil) .nil) (.node (o_16x506 P) .nil .nil))))
noncomputable abbrev tree_17_59 (P : Params) : BT := (.node (o_11x37 P) (.node (o_11x91 P) (.node (o_11x155 P) (.node (boot_o_7 P) (.node (boot_o_7 P) .nil .nil) .nil) (.node (o_11x411 P) (.node (o_17x667 P) .nil .nil) .nil)) (.node (o_11x219 P) (.node (o_11x347 P) (.node (boot_o_8 P) .nil .nil) .nil) (.node (o_16x475 P) .nil .nil))) (.node (boot_o_8 P) (.node (o_11x187 P) (.node (boot_o_7 P) (.node (o_16x571 P) .nil .nil) .nil) (.node (o_11x443 P) (.node (o_16x649 P) .nil .nil) .nil)) (.node (o_11x251 P) (.node (boot_o_8 P) (.node (o_16x635 P) .nil .nil) .nil) (.node (o_16x507 P) .nil .nil))))
noncomputable abbrev tree_17_60 (P : Params) : BT := (.node (o_11x60 P) (.node (o_11x92 P) (.node (o_11x156 P) (.node (o_11x284 P) (.node (boot_o_8 P) .nil .nil) .nil) (.node (o_11x412 P) (.node (o_17x668 P) .nil .nil) .nil)) (.node (o_11x220 P) (.node (o_11x348 P) (.node (o_16x604 P) .nil .nil) .nil) (.node (boot_o_7 P) .nil .nil))) (.node (o_11x124 P) (.node (boot_o_7 P) (.node (boot_o_8 P) (.node (o_16x572 P) .nil .nil) .nil) (.node (o_11x444 P) (.node (o_17x700 P) .nil .nil) .nil)) (.node (o_11x252 P) (.node (o_11x380 P) (.node (o_16x636 P) .nil .nil) .nil) (.node (o_16x508 P) .nil .nil))))
noncomputable abbrev tree_17_61 (P : Params) : BT := (.node (boot_o_7 P) (.node (o_11x93 P) (.node (boot_o_7 P) (.node (o_11x285 P) (.node (o_16x541 P) .nil .nil) .nil) (.node (o_11x413 P) (.node (o_17x669 P) .nil .nil) .nil)) (.node (boot_o_7 P) (.node (o_11x349 P) (.node (boot_o_7 P) .nil .nil) .nil) (.node (o_16x477 P) .nil .nil))) (.node (boot_o_7 P) (.node (o_11x189 P) (.node (o_11x317 P) (.node (o_16x573 P) .nil .nil) .nil) (.node (boot_o_7 P) (.node (o_17x701 P) .nil .nil) .nil)) (.node (boot_o_8 P) (.node (boot_o_7 P) (.node (o_16x637 P) .nil .nil) .nil) (.node (boot_o_6 P) .nil .nil))))
noncomputable abbrev tree_17_62 (P : Params) : BT := (.node (o_11x62 P) (.node (boot_o_7 P) (.node (boot_o_8 P) (.node (o_11x286 P) (.node (boot_o_7 P) .nil .nil) .nil) (.node (boot_o_7 P) (.node (o_17x670 P) .nil .nil) .nil)) (.node (boot_o_8 P) (.node (boot_o_7 P) (.node (o_16x606 P) .nil .nil) .nil) (.node (o_16x478 P) .nil .nil))) (.node (o_11x126 P) (.node (o_11x190 P) (.node (boot_o_7 P) (.node (boot_o_7 P) .nil .nil) .nil) (.node (boot_o_8 P) (.node (o_16x648 P) .nil .nil) .nil)) (.node (o_11x254 P) (.node (o_11x382 P) (.node (boot_o_7 P) .nil .nil) .nil) (.node (boot_o_6 P) .nil .nil))))
noncomputable abbrev tree_17 (P : Params) : BT := (.node (boot_o_0 P) (.node (boot_o_1 P) (.node (o_16x3 P) (.node (boot_o_7 P) (.node (boot_o_7 P) (tree_17_31 P) (tree_17_47 P)) (.node (boot_o_8 P) (tree_17_39 P) (tree_17_55 P))) (.node (boot_o_7 P) (.node (o_11x19 P) (tree_17_35 P) (tree_17_51 P)) (.node (o_11x27 P) (tree_17_43 P) (tree_17_59 P)))) (.node (boot_o_5 P) (.node (boot_o_9 P) (.node (o_11x17 P) (tree_17_33 P) (tree_17_49 P)) (.node (boot_o_7 P) (tree_17_41 P) (tree_17_57 P))) (.node (o_a13 P) (.node (o_11x21 P) (tree_17_37 P) (tree_17_53 P)) (.node (boot_o_7 P) (tree_17_45 P) (tree_17_61 P))))) (.node (boot_o_2 P) (.node (boot_o_4 P) (.node (boot_o_8 P) (.node (boot_o_8 P) (tree_17_32 P) (tree_17_48 P)) (.node (o_11x24 P) (tree_17_40 P) (tree_17_56 P))) (.node (o_16x12 P) (.node (o_11x20 P) (tree_17_36 P) (tree_17_52 P)) (.node (o_11x28 P) (tree_17_44 P) (tree_17_60 P)))) (.node (boot_o_6 P) (.node (boot_o_10 P) (.node (boot_o_7 P) (tree_17_34 P) (tree_17_50 P)) (.node (o_11x26 P) (tree_17_42 P) (tree_17_58 P))) (.node (o_a14 P) (.node (boot_o_7 P) (tree_17_38 P) (tree_17_54 P)) (.node (boot_o_8 P) (tree_17_46 P) (tree_17_62 P))))))
noncomputable abbrev tree_27_31 (P : Params) : BT := (.node (o_11x31 P) (.node (o_11x63 P) (.node (o_11x127 P) (.node (boot_o_7 P) (.node (o_16x508 P) .nil .nil) (.node (boot_o_6 P) .nil .nil)) (.node (o_11x383 P) (.node (boot_o_6 P) .nil .nil) .nil)) (.node (o_11x191 P) (.node (o_11x319 P) (.node (boot_o_8 P) .nil .nil) (.node (o_27x831 P) .nil .nil)) (.node (o_11x447 P) (.node (o_16x649 P) .nil .nil) .nil))) (.node (boot_o_8 P) (.node (o_11x159 P) (.node (boot_o_7 P) (.node (o_16x543 P) .nil .nil) (.node (boot_o_6 P) .nil .nil)) (.node (boot_o_8 P) (.node (o_17x671 P) .nil .nil) .nil)) (.node (o_11x223 P) (.node (boot_o_8 P) (.node (o_16x607 P) .nil .nil) .nil) (.node (o_16x479 P) (.node (o_27x735 P) .nil .nil) .nil))))
noncomputable abbrev tree_27_32 (P : Params) : BT := (.node (boot_o_7 P) (.node (o_11x64 P) (.node (o_11x128 P) (.node (o_11x256 P) (.node (o_16x508 P) .nil .nil) (.node (o_27x768 P) .nil .nil)) (.node (o_11x384 P) (.node (o_16x640 P) .nil .nil) .nil)) (.node (boot_o_7 P) (.node (o_11x320 P) (.node (o_16x576 P) .nil .nil) (.node (o_27x832 P) .nil .nil)) (.node (boot_o_7 P) (.node (boot_o_7 P) .nil .nil) .nil))) (.node (o_11x96 P) (.node (boot_o_7 P) (.node (boot_o_8 P) (.node (o_16x544 P) .nil .nil) (.node (boot_o_7 P) .nil .nil)) (.node (o_11x416 P) (.node (o_17x672 P) .nil .nil) .nil)) (.node (boot_o_7 P) (.node (o_11x352 P) (.node (o_16x608 P) .nil .nil) .nil) (.node (boot_o_7 P) (.node (boot_o_7 P) .nil .nil) .nil))))
noncomputable abbrev tree_27_33 (P : Params) : BT := (.node (o_11x33 P) (.node (o_11x65 P) (.node (boot_o_7 P) (.node (o_11x257 P) (.node (boot_o_6 P) .nil .nil) (.node (o_27x769 P) .nil .nil)) (.node (boot_o_7 P) (.node (o_11x456 P) .nil .nil) .nil)) (.node (boot_o_8 P) (.node (o_11x321 P) (.node (boot_o_7 P) .nil .nil) (.node (o_27x833 P) .nil .nil)) (.node (o_11x449 P) (.node (o_11x37 P) .nil .nil) .nil))) (.node (boot_o_7 P) (.node (o_11x161 P) (.node (o_11x289 P) (.node (o_16x545 P) .nil .nil) (.node (boot_o_8 P) .nil .nil)) (.node (o_11x417 P) (.node (o_17x673 P) .nil .nil) .nil)) (.node (o_11x225 P) (.node (boot_o_7 P) (.node (o_16x609 P) .nil .nil) .nil) (.node (boot_o_8 P) (.node (o_27x737 P) .nil .nil) .nil))))
noncomputable abbrev tree_27_34 (P : Params) : BT := (.node (o_11x34 P) (.node (boot_o_7 P) (.node (boot_o_8 P) (.node (o_11x258 P) (.node (boot_o_7 P) .nil .nil) (.node (o_27x770 P) .nil .nil)) (.node (boot_o_8 P) (.node (o_17x642 P) .nil .nil) .nil)) (.node (o_11x194 P) (.node (boot_o_7 P) (.node (o_16x578 P) .nil .nil) (.node (boot_o_7 P) .nil .nil)) (.node (o_11x450 P) (.node (o_27x706 P) .nil .nil) .nil))) (.node (o_11x98 P) (.node (o_11x162 P) (.node (boot_o_7 P) (.node (boot_o_7 P) .nil .nil) (.node (o_27x802 P) .nil .nil)) (.node (o_11x418 P) (.node (o_17x674 P) .nil .nil) .nil)) (.node (o_11x226 P) (.node (o_11x354 P) (.node (o_16x610 P) .nil .nil) .nil) (.node (o_16x482 P) (.node (o_27x738 P) .nil .nil) .nil))))
noncomputable abbrev tree_27_35 (P : Params) : BT := (.node (o_11x35 P) (.node (boot_o_8 P) (.node (o_11x131 P) (.node (boot_o_7 P) (.node (boot_o_7 P) .nil .nil) (.node (o_27x771 P) .nil .nil)) (.node (o_11x387 P) (.node (o_16x643 P) .nil .nil) .nil)) (.node (boot_o_7 P) (.node (boot_o_8 P) (.node (o_16x579 P) .nil .nil) (.node (boot_o_8 P) .nil .nil)) (.node (o_11x451 P) (.node (boot_o_7 P) .nil .nil) .nil))) (.node (o_11x99 P) (.node (o_11x163 P) (.node (o_11x291 P) (.node (boot_o_8 P) .nil .nil) (.node (o_27x803 P) .nil .nil)) (.node (o_11x419 P) (.node (o_17x675 P) .nil .nil) .nil)) (.node (o_11x227 P) (.node (o_11x355 P) (.node (o_16x611 P) .nil .nil) .nil) (.node (boot_o_7 P) (.node (o_27x739 P) .nil .nil) .nil))))
noncomputable abbrev tree_27_36 (P : Params) : BT := (.node (boot_o_7 P) (.node (o_11x68 P) (.node (boot_o_7 P) (.node (boot_o_8 P) (.node (boot_o_8 P) .nil .nil) (.node (o_27x772 P) .nil .nil)) (.node (o_11x388 P) (.node (o_16x644 P) .nil .nil) .nil)) (.node (o_11x196 P) (.node (o_11x324 P) (.node (o_16x580 P) .nil .nil) (.node (o_27x836 P) .nil .nil)) (.node (boot_o_7 P) (.node (o_27x708 P) .nil .nil) .nil))) (.node (o_11x100 P) (.node (boot_o_7 P) (.node (o_11x292 P) (.node (o_16x548 P) .nil .nil) (.node (o_27x804 P) .nil .nil)) (.node (o_11x420 P) (.node (o_17x676 P) .nil .nil) .nil)) (.node (boot_o_7 P) (.node (o_11x356 P) (.node (o_16x612 P) .nil .nil) .nil) (.node (o_16x484 P) (.node (boot_o_7 P) .nil .nil) .nil))))
noncomputable abbrev tree_27_37 (P : Params) : BT := (.node (o_11x37 P) (.node (boot_o_7 P) (.node (o_11x133 P) (.node (o_11x261 P) (.node (o_16x517 P) .nil .nil) (.node (o_27x733 P) .nil .nil)) (.node (o_11x389 P) (.node (o_16x645 P) .nil .nil) .nil)) (.node (o_11x197 P) (.node (boot_o_7 P) (.node (boot_o_7 P) .nil .nil) (.node (o_27x837 P) .nil .nil)) (.node (o_11x453 P) (.node (o_27x709 P) .nil .nil) .nil))) (.node (boot_o_7 P) (.node (boot_o_8 P) (.node (o_11x293 P) (.node (boot_o_7 P) .nil .nil) (.node (o_27x805 P) .nil .nil)) (.node (o_11x251 P) (.node (o_17x677 P) .nil .nil) .nil)) (.node (boot_o_8 P) (.node (boot_o_7 P) (.node (o_16x613 P) .nil .nil) .nil) (.node (o_16x485 P) (.node (boot_o_8 P) .nil .nil) .nil))))
noncomputable abbrev tree_27_38 (P : Params) : BT := (.node (o_11x38 P) (.node (o_11x70 P) (.node (o_11x134 P) (.node (boot_o_7 P) (.node (boot_o_7 P) .nil .nil) (.node (o_11x37 P) .nil .nil)) (.node (o_11x390 P) (.node (o_16x646 P) .nil .nil) .nil)) (.node (o_11x198 P) (.node (o_11x326 P) (.node (boot_o_8 P) .nil .nil) (.node (o_27x838 P) .nil .nil)) (.node (o_11x454 P) (.node (o_27x710 P) .nil .nil) .nil))) (.node (boot_o_8 P) (.node (o_11x166 P) (.node (boot_o_7 P) (.node (o_16x550 P) .nil .nil) (.node (o_27x806 P) .nil .nil)) (.node (o_11x422 P) (.node (o_16x648 P) .nil .nil) .nil)) (.node (o_11x230 P) (.node (boot_o_8 P) (.node (o_16x614 P) .nil .nil) .nil) (.node (o_16x486 P) (.node (o_27x742 P) .nil .nil) .nil))))
noncomputable abbrev tree_27_39 (P : Params) : BT := (.node (boot_o_7 P) (.node (o_11x71 P) (.node (o_11x135 P) (.node (o_11x263 P) (.node (o_16x519 P) .nil .nil) (.node (o_27x775 P) .nil .nil)) (.node (o_11x391 P) (.node (o_16x647 P) .nil .nil) .nil)) (.node (o_11x199 P) (.node (o_11x327 P) (.node (o_16x583 P) .nil .nil) (.node (boot_o_7 P) .nil .nil)) (.node (o_11x455 P) (.node (o_11x199 P) .nil .nil) .nil))) (.node (o_11x103 P) (.node (boot_o_7 P) (.node (boot_o_8 P) (.node (o_16x551 P) .nil .nil) (.node (boot_o_6 P) .nil .nil)) (.node (boot_o_8 P) (.node (o_16x649 P) .nil .nil) .nil)) (.node (boot_o_7 P) (.node (o_11x359 P) (.node (boot_o_7 P) .nil .nil) .nil) (.node (boot_o_7 P) (.node (boot_o_7 P) .nil .nil) .nil))))
noncomputable abbrev tree_27_40 (P : Params) : BT := (.node (o_11x40 P) (.node (o_11x72 P) (.node (boot_o_7 P) (.node (o_11x264 P) (.node (o_16x520 P) .nil .nil) (.node (boot_o_7 P) .nil .nil)) (.node (boot_o_7 P) (.node (o_16x648 P) .nil .nil) .nil)) (.node (boot_o_7 P) (.node (o_11x328 P) (.node (boot_o_7 P) .nil .nil) (.node (boot_o_8 P) .nil .nil)) (.node (o_11x456 P) (.node (boot_o_7 P) .nil .nil) .nil))) (.node (boot_o_7 P) (.node (o_11x168 P) (.node (o_11x296 P) (.node (o_16x552 P) .nil .nil) (.node (o_27x808 P) .nil .nil)) (.node (o_11x424 P) (.node (o_17x680 P) .nil .nil) .nil)) (.node (o_11x232 P) (.node (boot_o_7 P) (.node (boot_o_6 P) .nil .nil) .nil) (.node (boot_o_8 P) (.node (o_27x744 P) .nil .nil) .nil))))
noncomputable abbrev tree_27_41 (P : Params) : BT := (.node (o_11x41 P) (.node (boot_o_7 P) (.node (boot_o_8 P) (.node (o_11x265 P) (.node (o_16x521 P) .nil .nil) (.node (o_27x777 P) .nil .nil)) (.node (boot_o_8 P) (.node (o_16x649 P) .nil .nil) .nil)) (.node (boot_o_8 P) (.node (boot_o_7 P) (.node (o_16x585 P) .nil .nil) (.node (o_27x841 P) .nil .nil)) (.node (o_11x457 P) (.node (boot_o_8 P) .nil .nil) .nil))) (.node (o_11x105 P) (.node (o_11x169 P) (.node (boot_o_7 P) (.node (boot_o_7 P) .nil .nil) (.node (o_27x809 P) .nil .nil)) (.node (boot_o_7 P) (.node (o_16x648 P) .nil .nil) .nil)) (.node (o_11x233 P) (.node (o_11x361 P) (.node (o_16x617 P) .nil .nil) .nil) (.node (o_16x489 P) (.node (o_27x745 P) .nil .nil) .nil))))
noncomputable abbrev tree_27_42 (P : Params) : BT := (.node (o_11x42 P) (.node (boot_o_8 P) (.node (o_11x138 P) (.node (boot_o_7 P) (.node (boot_o_7 P) .nil .nil) (.node (o_27x778 P) .nil .nil)) (.node (o_11x394 P) (.node (boot_o_7 P) .nil .nil) .nil)) (.node (o_11x202 P) (.node (boot_o_8 P) (.node (o_16x586 P) .nil .nil) (.node (boot_o_7 P) .nil .nil)) (.node (boot_o_7 P) (.node (o_27x714 P) .nil .nil) .nil))) (.node (o_11x106 P) (.node (o_11x170 P) (.node (o_11x298 P) (.node (boot_o_8 P) .nil .nil) (.node (o_27x810 P) .nil .nil)) (.node (o_11x426 P) (.node (o_16x649 P) .nil .nil) .nil)) (.node (o_11x234 P) (.node (o_11x362 P) (.node (o_11x456 P) .nil .nil) .nil) (.node (boot_o_7 P) (.node (o_27x746 P) .nil .nil) .nil))))
noncomputable abbrev tree_27_43 (P : Params) : BT := (.node (boot_o_7 P) (.node (o_11x75 P) (.node (boot_o_7 P) (.node (boot_o_8 P) (.node (boot_o_8 P) .nil .nil) (.node (o_27x779 P) .nil .nil)) (.node (boot_o_7 P) (.node (boot_o_8 P) .nil .nil) .nil)) (.node (boot_o_7 P) (.node (o_11x331 P) (.node (o_16x587 P) .nil .nil) (.node (o_27x843 P) .nil .nil)) (.node (o_11x37 P) (.node (boot_o_7 P) .nil .nil) .nil))) (.node (o_11x107 P) (.node (boot_o_7 P) (.node (o_11x299 P) (.node (o_16x555 P) .nil .nil) (.node (o_27x811 P) .nil .nil)) (.node (o_11x427 P) (.node (o_17x683 P) .nil .nil) .nil)) (.node (o_11x235 P) (.node (o_11x363 P) (.node (o_16x619 P) .nil .nil) .nil) (.node (o_16x491 P) (.node (boot_o_7 P) .nil .nil) .nil))))
noncomputable abbrev tree_27_44 (P : Params) : BT := (.node (boot_o_8 P) (.node (boot_o_7 P) (.node (o_11x140 P) (.node (o_11x268 P) (.node (o_16x524 P) .nil .nil) (.node (boot_o_7 P) .nil .nil)) (.node (o_11x396 P) (.node (o_16x652 P) .nil .nil) .nil)) (.node (o_11x204 P) (.node (boot_o_7 P) (.node (boot_o_7 P) .nil .nil) (.node (o_27x844 P) .nil .nil)) (.node (o_16x460 P) (.node (o_27x716 P) .nil .nil) .nil))) (.node (boot_o_7 P) (.node (boot_o_8 P) (.node (o_11x300 P) (.node (boot_o_7 P) .nil .nil) (.node (o_27x812 P) .nil .nil)) (.node (o_11x428 P) (.node (o_16x648 P) .nil .nil) .nil)) (.node (o_11x236 P) (.node (boot_o_7 P) (.node (o_16x620 P) .nil .nil) .nil) (.node (o_16x492 P) (.node (boot_o_8 P) .nil .nil) .nil))))
noncomputable abbrev tree_27_45 (P : Params) : BT := (.node (o_11x45 P) (.node (o_11x77 P) (.node (o_11x141 P) (.node (boot_o_7 P) (.node (boot_o_7 P) .nil .nil) (.node (boot_o_8 P) .nil .nil)) (.node (o_11x397 P) (.node (boot_o_7 P) .nil .nil) .nil)) (.node (o_11x205 P) (.node (o_11x333 P) (.node (boot_o_8 P) .nil .nil) (.node (o_27x845 P) .nil .nil)) (.node (boot_o_7 P) (.node (o_27x717 P) .nil .nil) .nil))) (.node (boot_o_8 P) (.node (o_11x173 P) (.node (boot_o_7 P) (.node (o_16x557 P) .nil .nil) (.node (boot_o_7 P) .nil .nil)) (.node (o_11x251 P) (.node (o_16x649 P) .nil .nil) .nil)) (.node (o_11x237 P) (.node (boot_o_8 P) (.node (o_16x621 P) .nil .nil) .nil) (.node (o_16x493 P) (.node (o_27x749 P) .nil .nil) .nil))))
noncomputable abbrev tree_27_46 (P : Params) : BT := (.node (boot_o_7 P) (.node (o_11x78 P) (.node (o_11x142 P) (.node (o_11x270 P) (.node (o_16x526 P) .nil .nil) (.node (o_27x782 P) .nil .nil)) (.node (o_11x398 P) (.node (o_16x654 P) .nil .nil) .nil)) (.node (o_11x206 P) (.node (o_11x334 P) (.node (o_16x590 P) .nil .nil) .nil) (.node (o_16x462 P) (.node (o_27x718 P) .nil .nil) .nil))) (.node (o_11x110 P) (.node (boot_o_7 P) (.node (boot_o_8 P) (.node (o_16x558 P) .nil .nil) (.node (boot_o_8 P) .nil .nil)) (.node (o_11x430 P) (.node (o_17x686 P) .nil .nil) .nil)) (.node (o_11x238 P) (.node (o_11x366 P) (.node (o_16x622 P) .nil .nil) .nil) (.node (o_16x494 P) (.node (o_27x750 P) .nil .nil) .nil))))
noncomputable abbrev tree_27_47 (P : Params) : BT := (.node (o_11x47 P) (.node (o_11x79 P) (.node (boot_o_7 P) (.node (o_11x271 P) (.node (o_16x527 P) .nil .nil) (.node (boot_o_7 P) .nil .nil)) (.node (boot_o_7 P) (.node (o_16x655 P) .nil .nil) .nil)) (.node (boot_o_7 P) (.node (o_11x335 P) (.node (boot_o_7 P) .nil .nil) .nil) (.node (o_16x463 P) (.node (boot_o_7 P) .nil .nil) .nil))) (.node (boot_o_7 P) (.node (o_11x175 P) (.node (o_11x303 P) (.node (o_16x559 P) .nil .nil) (.node (o_27x815 P) .nil .nil)) (.node (boot_o_8 P) (.node (o_16x648 P) .nil .nil) .nil)) (.node (o_11x239 P) (.node (boot_o_7 P) (.node (o_16x623 P) .nil .nil) .nil) (.node (o_16x495 P) (.node (o_27x751 P) .nil .nil) .nil))))
noncomputable abbrev tree_27_48 (P : Params) : BT := (.node (o_11x48 P) (.node (boot_o_7 P) (.node (boot_o_8 P) (.node (o_11x272 P) (.node (o_16x528 P) .nil .nil) (.node (o_27x784 P) .nil .nil)) (.node (boot_o_8 P) (.node (o_16x656 P) .nil .nil) .nil)) (.node (boot_o_8 P) (.node (boot_o_7 P) (.node (o_16x592 P) .nil .nil) .nil) (.node (o_16x464 P) (.node (boot_o_8 P) .nil .nil) .nil))) (.node (o_11x112 P) (.node (o_11x176 P) (.node (boot_o_7 P) (.node (boot_o_7 P) .nil .nil) (.node (boot_o_7 P) .nil .nil)) (.node (o_11x432 P) (.node (o_16x649 P) .nil .nil) .nil)) (.node (o_11x240 P) (.node (o_11x368 P) (.node (o_16x624 P) .nil .nil) .nil) (.node (o_16x496 P) (.node (boot_o_7 P) .nil .nil) .nil))))
noncomputable abbrev tree_27_49 (P : Params) : BT := (.node (o_11x49 P) (.node (boot_o_8 P) (.node (o_11x145 P) (.node (boot_o_7 P) (.node (o_16x529 P) .nil .nil) (.node (o_27x785 P) .nil .nil)) (.node (o_11x401 P) (.node (o_17x657 P) .nil .nil) .nil)) (.node (o_11x209 P) (.node (boot_o_8 P) (.node (o_16x593 P) .nil .nil) .nil) (.node (boot_o_7 P) (.node (o_27x721 P) .nil .nil) .nil))) (.node (o_11x113 P) (.node (o_11x177 P) (.node (o_11x305 P) (.node (boot_o_8 P) .nil .nil) (.node (o_27x817 P) .nil .nil)) (.node (boot_o_7 P) (.node (o_17x689 P) .nil .nil) .nil)) (.node (o_11x241 P) (.node (o_11x369 P) (.node (o_16x625 P) .nil .nil) .nil) (.node (o_16x497 P) (.node (boot_o_8 P) .nil .nil) .nil))))
noncomputable abbrev tree_27_50 (P : Params) : BT := (.node (boot_o_7 P) (.node (o_11x82 P) (.node (boot_o_7 P) (.node (boot_o_8 P) (.node (o_16x530 P) .nil .nil) (.node (o_27x786 P) .nil .nil)) (.node (boot_o_7 P) (.node (o_17x658 P) .nil .nil) .nil)) (.node (boot_o_7 P) (.node (o_11x338 P) (.node (o_16x594 P) .nil .nil) .nil) (.node (boot_o_8 P) (.node (boot_o_7 P) .nil .nil) .nil))) (.node (o_11x114 P) (.node (boot_o_7 P) (.node (o_11x306 P) (.node (o_16x562 P) .nil .nil) (.node (o_27x818 P) .nil .nil)) (.node (o_11x434 P) (.node (o_16x648 P) .nil .nil) .nil)) (.node (o_11x242 P) (.node (o_11x370 P) (.node (o_16x626 P) .nil .nil) .nil) (.node (o_16x498 P) (.node (o_27x754 P) .nil .nil) .nil))))
noncomputable abbrev tree_27_51 (P : Params) : BT := (.node (o_11x51 P) (.node (boot_o_7 P) (.node (o_11x147 P) (.node (o_11x275 P) (.node (boot_o_6 P) .nil .nil) (.node (boot_o_7 P) .nil .nil)) (.node (o_11x403 P) (.node (o_17x659 P) .nil .nil) .nil)) (.node (o_11x211 P) (.node (boot_o_7 P) (.node (boot_o_7 P) .nil .nil) .nil) (.node (o_16x467 P) (.node (o_27x723 P) .nil .nil) .nil))) (.node (boot_o_7 P) (.node (boot_o_8 P) (.node (o_11x307 P) (.node (boot_o_7 P) .nil .nil) (.node (o_27x819 P) .nil .nil)) (.node (o_11x435 P) (.node (o_16x649 P) .nil .nil) .nil)) (.node (o_11x243 P) (.node (boot_o_7 P) (.node (o_16x627 P) .nil .nil) .nil) (.node (o_16x499 P) (.node (o_27x755 P) .nil .nil) .nil))))
noncomputable abbrev tree_27_52 (P : Params) : BT := (.node (o_27x52 P) (.node (o_11x84 P) (.node (o_11x148 P) (.node (boot_o_7 P) (.node (boot_o_7 P) .nil .nil) (.node (boot_o_8 P) .nil .nil)) (.node (o_11x404 P) (.node (o_16x645 P) .nil .nil) .nil)) (.node (o_11x212 P) (.node (o_11x340 P) (.node (boot_o_8 P) .nil .nil) .nil) (.node (boot_o_7 P) (.node (o_27x724 P) .nil .nil) .nil))) (.node (boot_o_8 P) (.node (o_11x180 P) (.node (boot_o_7 P) (.node (o_16x564 P) .nil .nil) (.node (boot_o_7 P) .nil .nil)) (.node (o_11x436 P) (.node (o_17x692 P) .nil .nil) .nil)) (.node (o_11x37 P) (.node (boot_o_8 P) (.node (o_16x628 P) .nil .nil) .nil) (.node (o_16x500 P) (.node (o_27x756 P) .nil .nil) .nil))))
noncomputable abbrev tree_27_53 (P : Params) : BT := (.node (o_11x53 P) (.node (o_11x85 P) (.node (o_11x149 P) (.node (o_11x277 P) (.node (boot_o_8 P) .nil .nil) (.node (o_27x789 P) .nil .nil)) (.node (o_11x405 P) (.node (o_17x661 P) .nil .nil) .nil)) (.node (o_11x213 P) (.node (o_11x341 P) (.node (o_16x597 P) .nil .nil) .nil) (.node (o_16x469 P) (.node (o_27x725 P) .nil .nil) .nil))) (.node (o_11x117 P) (.node (boot_o_7 P) (.node (boot_o_8 P) (.node (o_16x565 P) .nil .nil) (.node (boot_o_8 P) .nil .nil)) (.node (o_11x251 P) (.node (o_17x693 P) .nil .nil) .nil)) (.node (o_11x245 P) (.node (o_11x373 P) (.node (o_16x629 P) .nil .nil) .nil) (.node (boot_o_7 P) (.node (o_27x757 P) .nil .nil) .nil))))
noncomputable abbrev tree_27_54 (P : Params) : BT := (.node (o_11x54 P) (.node (o_11x86 P) (.node (boot_o_7 P) (.node (o_11x278 P) (.node (o_16x534 P) .nil .nil) (.node (o_27x790 P) .nil .nil)) (.node (o_11x406 P) (.node (o_17x662 P) .nil .nil) .nil)) (.node (boot_o_7 P) (.node (o_11x342 P) (.node (boot_o_7 P) .nil .nil) .nil) (.node (o_16x470 P) (.node (o_27x726 P) .nil .nil) .nil))) (.node (boot_o_7 P) (.node (o_11x182 P) (.node (o_11x310 P) (.node (o_16x566 P) .nil .nil) (.node (o_27x822 P) .nil .nil)) (.node (o_11x438 P) (.node (o_16x648 P) .nil .nil) .nil)) (.node (o_11x246 P) (.node (boot_o_7 P) (.node (o_16x630 P) .nil .nil) .nil) (.node (o_16x502 P) (.node (o_27x758 P) .nil .nil) .nil))))
noncomputable abbrev tree_27_55 (P : Params) : BT := (.node (o_11x55 P) (.node (boot_o_7 P) (.node (boot_o_8 P) (.node (o_11x279 P) (.node (boot_o_7 P) .nil .nil) (.node (o_27x791 P) .nil .nil)) (.node (boot_o_7 P) (.node (o_17x663 P) .nil .nil) .nil)) (.node (boot_o_8 P) (.node (boot_o_7 P) (.node (o_16x599 P) .nil .nil) .nil) (.node (o_16x471 P) (.node (o_27x727 P) .nil .nil) .nil))) (.node (o_11x119 P) (.node (o_11x183 P) (.node (boot_o_7 P) (.node (boot_o_7 P) .nil .nil) (.node (boot_o_7 P) .nil .nil)) (.node (boot_o_8 P) (.node (o_16x649 P) .nil .nil) .nil)) (.node (boot_o_7 P) (.node (o_11x375 P) (.node (o_16x502 P) .nil .nil) .nil) (.node (o_16x503 P) (.node (boot_o_6 P) .nil .nil) .nil))))
noncomputable abbrev tree_27_56 (P : Params) : BT := (.node (o_11x56 P) (.node (boot_o_8 P) (.node (o_11x152 P) (.node (boot_o_7 P) (.node (o_16x536 P) .nil .nil) (.node (boot_o_7 P) .nil .nil)) (.node (boot_o_8 P) (.node (o_17x664 P) .nil .nil) .nil)) (.node (o_11x216 P) (.node (boot_o_8 P) (.node (o_16x600 P) .nil .nil) .nil) (.node (o_11x199 P) (.node (o_27x728 P) .nil .nil) .nil))) (.node (o_11x120 P) (.node (o_11x184 P) (.node (o_11x312 P) (.node (boot_o_8 P) .nil .nil) (.node (o_27x824 P) .nil .nil)) (.node (o_11x440 P) (.node (o_17x696 P) .nil .nil) .nil)) (.node (o_11x248 P) (.node (o_11x376 P) (.node (o_16x632 P) .nil .nil) .nil) (.node (boot_o_7 P) (.node (boot_o_7 P) .nil .nil) .nil))))
noncomputable abbrev tree_27_57 (P : Params) : BT := (.node (o_11x57 P) (.node (o_11x89 P) (.node (boot_o_7 P) (.node (boot_o_8 P) (.node (o_16x537 P) .nil .nil) (.node (boot_o_8 P) .nil .nil)) (.node (o_11x409 P) (.node (o_16x648 P) .nil .nil) .nil)) (.node (boot_o_7 P) (.node (o_11x345 P) (.node (o_16x601 P) .nil .nil) .nil) (.node (boot_o_7 P) (.node (o_27x729 P) .nil .nil) .nil))) (.node (o_11x121 P) (.node (boot_o_7 P) (.node (o_11x313 P) (.node (o_16x569 P) .nil .nil) (.node (o_27x825 P) .nil .nil)) (.node (boot_o_7 P) (.node (o_17x697 P) .nil .nil) .nil)) (.node (o_11x249 P) (.node (o_11x377 P) (.node (boot_o_7 P) .nil .nil) .nil) (.node (o_16x505 P) (.node (boot_o_8 P) .nil .nil) .nil))))
noncomputable abbrev tree_27_58 (P : Params) : BT := (.node (boot_o_7 P) (.node (boot_o_7 P) (.node (o_11x154 P) (.node (o_11x282 P) (.node (o_16x538 P) .nil .nil) (.node (o_27x794 P) .nil .nil)) (.node (boot_o_7 P) (.node (o_16x649 P) .nil .nil) .nil)) (.node (o_11x218 P) (.node (boot_o_7 P) (.node (boot_o_7 P) .nil .nil) .nil) (.node (boot_o_8 P) (.node (o_27x730 P) .nil .nil) .nil))) (.node (boot_o_7 P) (.node (boot_o_8 P) (.node (o_11x314 P) (.node (boot_o_7 P) .nil .nil) (.node (o_27x826 P) .nil .nil)) (.node (o_11x442 P) (.node (o_16x648 P) .nil .nil) .nil)) (.node (o_11x250 P) (.node (boot_o_7 P) (.node (boot_o_8 P) .nil .nil) .nil) (.node (o_16x506 P) (.node (o_27x762 P) .nil .nil) .nil))))
noncomputable abbrev tree_27_59 (P : Params) : BT := (.node (o_11x37 P) (.node (o_11x91 P) (.node (o_11x155 P) (.node (boot_o_7 P) (.node (boot_o_7 P) .nil .nil) (.node (o_27x795 P) .nil .nil)) (.node (o_11x411 P) (.node (o_17x667 P) .nil .nil) .nil)) (.node (o_11x219 P) (.node (o_11x347 P) (.node (boot_o_8 P) .nil .nil) .nil) (.node (o_16x475 P) (.node (o_27x731 P) .nil .nil) .nil))) (.node (boot_o_8 P) (.node (o_11x187 P) (.node (boot_o_7 P) (.node (o_16x571 P) .nil .nil) (.node (boot_o_7 P) .nil .nil)) (.node (o_11x443 P) (.node (o_16x649 P) .nil .nil) .nil)) (.node (o_11x251 P) (.node (boot_o_8 P) (.node (o_16x635 P) .nil .nil) .nil) (.node (o_16x507 P) (.node (o_27x763 P) .nil .nil) .nil))))
noncomputable abbrev tree_27_60 (P : Params) : BT := (.node (o_11x60 P) (.node (o_11x92 P) (.node (o_11x156 P) (.node (o_11x284 P) (.node (boot_o_8 P) .nil .nil) (.node (o_27x796 P) .nil .nil)) (.node (o_11x412 P) (.node (o_17x668 P) .nil .nil) .nil)) (.node (o_11x220 P) (.node (o_11x348 P) (.node (o_16x604 P) .nil .nil) .nil) (.node (boot_o_7 P) (.node (o_27x732 P) .nil .nil) .nil))) (.node (o_11x124 P) (.node (boot_o_7 P) (.node (boot_o_8 P) (.node (o_16x572 P) .nil .nil) (.node (boot_o_8 P) .nil .nil)) (.node (o_11x444 P) (.node (o_17x700 P) .nil .nil) .nil)) (.node (o_11x252 P) (.node (o_11x380 P) (.node (o_16x636 P) .nil .nil) .nil) (.node (o_16x508 P) (.node (o_27x764 P) .nil .nil) .nil))))
noncomputable abbrev tree_27_61 (P : Params) : BT := (.node (boot_o_7 P) (.node (o_11x93 P) (.node (boot_o_7 P) (.node (o_11x285 P) (.node (o_16x541 P) .nil .nil) (.node (o_27x797 P) .nil .nil)) (.node (o_11x413 P) (.node (o_17x669 P) .nil .nil) .nil)) (.node (boot_o_7 P) (.node (o_11x349 P) (.node (boot_o_7 P) .nil .nil) .nil) (.node (o_16x477 P) (.node (o_27x733 P) .nil .nil) .nil))) (.node (boot_o_7 P) (.node (o_11x189 P) (.node (o_11x317 P) (.node (o_16x573 P) .nil .nil) (.node (o_27x829 P) .nil .nil)) (.node (boot_o_7 P) (.node (o_17x701 P) .nil .nil) .nil)) (.node (boot_o_8 P) (.node (boot_o_7 P) (.node (o_16x637 P) .nil .nil) .nil) (.node (boot_o_6 P) (.node (o_27x765 P) .nil .nil) .nil))))
noncomputable abbrev tree_27_62 (P : Params) : BT := (.node (o_11x62 P) (.node (boot_o_7 P) (.node (boot_o_8 P) (.node (o_11x286 P) (.node (boot_o_7 P) .nil .nil) (.node (o_27x798 P) .nil .nil)) (.node (boot_o_7 P) (.node (o_17x670 P) .nil .nil) .nil)) (.node (boot_o_8 P) (.node (boot_o_7 P) (.node (o_16x606 P) .nil .nil) .nil) (.node (o_16x478 P) (.node (o_11x37 P) .nil .nil) .nil))) (.node (o_11x126 P) (.node (o_11x190 P) (.node (boot_o_7 P) (.node (boot_o_7 P) .nil .nil) (.node (boot_o_7 P) .nil .nil)) (.node (boot_o_8 P) (.node (o_16x648 P) .nil .nil) .nil)) (.node (o_11x254 P) (.node (o_11x382 P) (.node (boot_o_7 P) .nil .nil) .nil) (.node (boot_o_6 P) (.node (o_27x766 P) .nil .nil) .nil))))
noncomputable abbrev tree_27 (P : Params) : BT := (.node (boot_o_0 P) (.node (boot_o_1 P) (.node (o_27x3 P) (.node (boot_o_7 P) (.node (boot_o_7 P) (tree_27_31 P) (tree_27_47 P)) (.node (boot_o_8 P) (tree_27_39 P) (tree_27_55 P))) (.node (boot_o_7 P) (.node (o_11x19 P) (tree_27_35 P) (tree_27_51 P)) (.node (o_11x27 P) (tree_27_43 P) (tree_27_59 P)))) (.node (boot_o_5 P) (.node (boot_o_9 P) (.node (o_11x17 P) (tree_27_33 P) (tree_27_49 P)) (.node (boot_o_7 P) (tree_27_41 P) (tree_27_57 P))) (.node (o_a13 P) (.node (o_11x21 P) (tree_27_37 P) (tree_27_53 P)) (.node (boot_o_7 P) (tree_27_45 P) (tree_27_61 P))))) (.node (boot_o_2 P) (.node (boot_o_4 P) (.node (boot_o_8 P) (.node (boot_o_8 P) (tree_27_32 P) (tree_27_48 P)) (.node (o_11x24 P) (tree_27_40 P) (tree_27_56 P))) (.node (o_27x12 P) (.node (o_11x20 P) (tree_27_36 P) (tree_27_52 P)) (.node (o_11x28 P) (tree_27_44 P) (tree_27_60 P)))) (.node (boot_o_6 P) (.node (boot_o_10 P) (.node (boot_o_7 P) (tree_27_34 P) (tree_27_50 P)) (.node (o_11x26 P) (tree_27_42 P) (tree_27_58 P))) (.node (o_a14 P) (.node (boot_o_7 P) (tree_27_38 P) (tree_27_54 P)) (.node (boot_o_8 P) (tree_27_46 P) (tree_27_62 P))))))
noncomputable abbrev heap_a (P : Params) : Heap := ⟨⟨[boot_o_0 P, boot_o_1 P, boot_o_2 P, boot_o_3 P, boot_o_4 P, boot_o_5 P, boot_o_6 P, boot_o_7 P, boot_o_8 P, boot_o_9 P, boot_o_10 P, boot_o_7 P, boot_o_8 P, o_a13 P, o_a14 P]⟩, ⟨[], [], [], (0:Nat), [], [], .false, #[], [], (0:Nat), .false, .false, .false, (0:Int), [(2000:Int), (10:Int), (10:Int)], .false, (0:Nat), .true, [], [], (0:Nat), .false⟩⟩
noncomputable abbrev ch_0 (P : Params) (r : List Obj) : List Obj := boot_o_0 P :: boot_o_1 P :: boot_o_2 P :: o_27x3 P :: boot_o_4 P :: boot_o_5 P :: boot_o_6 P :: boot_o_7 P :: boot_o_8 P :: boot_o_9 P :: boot_o_10 P :: boot_o_7 P :: o_27x12 P :: o_a13 P :: o_a14 P :: boot_o_7 P :: boot_o_8 P :: o_11x17 P :: boot_o_7 P :: o_11x19 P :: o_11x20 P :: o_11x21 P :: boot_o_7 P :: boot_o_8 P :: o_11x24 P :: boot_o_7 P :: o_11x26 P :: o_11x27 P :: o_11x28 P :: r
noncomputable abbrev ch_1 (P : Params) (r : List Obj) : List Obj := boot_o_7 P :: boot_o_8 P :: o_11x31 P :: boot_o_7 P :: o_11x33 P :: o_11x34 P :: o_11x35 P :: boot_o_7 P :: o_11x37 P :: o_11x38 P :: boot_o_7 P :: o_11x40 P :: o_11x41 P :: o_11x42 P :: boot_o_7 P :: boot_o_8 P :: o_11x45 P :: boot_o_7 P :: o_11x47 P :: o_11x48 P :: o_11x49 P :: boot_o_7 P :: o_11x51 P :: o_27x52 P :: o_11x53 P :: o_11x54 P :: o_11x55 P :: o_11x56 P :: o_11x57 P :: r
noncomputable abbrev ch_2 (P : Params) (r : List Obj) : List Obj := boot_o_7 P :: o_11x37 P :: o_11x60 P :: boot_o_7 P :: o_11x62 P :: o_11x63 P :: o_11x64 P :: o_11x65 P :: boot_o_7 P :: boot_o_8 P :: o_11x68 P :: boot_o_7 P :: o_11x70 P :: o_11x71 P :: o_11x72 P :: boot_o_7 P :: boot_o_8 P :: o_11x75 P :: boot_o_7 P :: o_11x77 P :: o_11x78 P :: o_11x79 P :: boot_o_7 P :: boot_o_8 P :: o_11x82 P :: boot_o_7 P :: o_11x84 P :: o_11x85 P :: o_11x86 P :: r
noncomputable abbrev ch_3 (P : Params) (r : List Obj) : List Obj := boot_o_7 P :: boot_o_8 P :: o_11x89 P :: boot_o_7 P :: o_11x91 P :: o_11x92 P :: o_11x93 P :: boot_o_7 P :: boot_o_8 P :: o_11x96 P :: boot_o_7 P :: o_11x98 P :: o_11x99 P :: o_11x100 P :: boot_o_7 P :: boot_o_8 P :: o_11x103 P :: boot_o_7 P :: o_11x105 P :: o_11x106 P :: o_11x107 P :: boot_o_7 P :: boot_o_8 P :: o_11x110 P :: boot_o_7 P :: o_11x112 P :: o_11x113 P :: o_11x114 P :: boot_o_7 P :: r
noncomputable abbrev ch_4 (P : Params) (r : List Obj) : List Obj := boot_o_8 P :: o_11x117 P :: boot_o_7 P :: o_11x119 P :: o_11x120 P :: o_11x121 P :: boot_o_7 P :: boot_o_8 P :: o_11x124 P :: boot_o_7 P :: o_11x126 P :: o_11x127 P :: o_11x128 P :: boot_o_7 P :: boot_o_8 P :: o_11x131 P :: boot_o_7 P :: o_11x133 P :: o_11x134 P :: o_11x135 P :: boot_o_7 P :: boot_o_8 P :: o_11x138 P :: boot_o_7 P :: o_11x140 P :: o_11x141 P :: o_11x142 P :: boot_o_7 P :: boot_o_8 P :: r
noncomputable abbrev ch_5 (P : Params) (r : List Obj) : List Obj := o_11x145 P :: boot_o_7 P :: o_11x147 P :: o_11x148 P :: o_11x149 P :: boot_o_7 P :: boot_o_8 P :: o_11x152 P :: boot_o_7 P :: o_11x154 P :: o_11x155 P :: o_11x156 P :: boot_o_7 P :: boot_o_8 P :: o_11x159 P :: boot_o_7 P :: o_11x161 P :: o_11x162 P :: o_11x163 P :: boot_o_7 P :: boot_o_8 P :: o_11x166 P :: boot_o_7 P :: o_11x168 P :: o_11x169 P :: o_11x170 P :: boot_o_7 P :: boot_o_8 P :: o_11x173 P :: r
noncomputable abbrev ch_6 (P : Params) (r : List Obj) : List Obj := boot_o_7 P :: o_11x175 P :: o_11x176 P :: o_11x177 P :: boot_o_7 P :: boot_o_8 P :: o_11x180 P :: boot_o_7 P :: o_11x182 P :: o_11x183 P :: o_11x184 P :: boot_o_7 P :: boot_o_8 P :: o_11x187 P :: boot_o_7 P :: o_11x189 P :: o_11x190 P :: o_11x191 P :: boot_o_7 P :: boot_o_8 P :: o_11x194 P :: boot_o_7 P :: o_11x196 P :: o_11x197 P :: o_11x198 P :: o_11x199 P :: boot_o_7 P :: boot_o_8 P :: o_11x202 P :: r
noncomputable abbrev ch_7 (P : Params) (r : List Obj) : List Obj := boot_o_7 P :: o_11x204 P :: o_11x205 P :: o_11x206 P :: boot_o_7 P :: boot_o_8 P :: o_11x209 P :: boot_o_7 P :: o_11x211 P :: o_11x212 P :: o_11x213 P :: boot_o_7 P :: boot_o_8 P :: o_11x216 P :: boot_o_7 P :: o_11x218 P :: o_11x219 P :: o_11x220 P :: boot_o_7 P :: boot_o_8 P :: o_11x223 P :: boot_o_7 P :: o_11x225 P :: o_11x226 P :: o_11x227 P :: boot_o_7 P :: boot_o_8 P :: o_11x230 P :: boot_o_7 P :: r
noncomputable abbrev ch_8 (P : Params) (r : List Obj) : List Obj := o_11x232 P :: o_11x233 P :: o_11x234 P :: o_11x235 P :: o_11x236 P :: o_11x237 P :: o_11x238 P :: o_11x239 P :: o_11x240 P :: o_11x241 P :: o_11x242 P :: o_11x243 P :: o_11x37 P :: o_11x245 P :: o_11x246 P :: boot_o_7 P :: o_11x248 P :: o_11x249 P :: o_11x250 P :: o_11x251 P :: o_11x252 P :: boot_o_8 P :: o_11x254 P :: boot_o_7 P :: o_11x256 P :: o_11x257 P :: o_11x258 P :: boot_o_7 P :: boot_o_8 P :: r
noncomputable abbrev ch_9 (P : Params) (r : List Obj) : List Obj := o_11x261 P :: boot_o_7 P :: o_11x263 P :: o_11x264 P :: o_11x265 P :: boot_o_7 P :: boot_o_8 P :: o_11x268 P :: boot_o_7 P :: o_11x270 P :: o_11x271 P :: o_11x272 P :: boot_o_7 P :: boot_o_8 P :: o_11x275 P :: boot_o_7 P :: o_11x277 P :: o_11x278 P :: o_11x279 P :: boot_o_7 P :: boot_o_8 P :: o_11x282 P :: boot_o_7 P :: o_11x284 P :: o_11x285 P :: o_11x286 P :: boot_o_7 P :: boot_o_8 P :: o_11x289 P :: r
noncomputable abbrev ch_10 (P : Params) (r : List Obj) : List Obj := boot_o_7 P :: o_11x291 P :: o_11x292 P :: o_11x293 P :: boot_o_7 P :: boot_o_8 P :: o_11x296 P :: boot_o_7 P :: o_11x298 P :: o_11x299 P :: o_11x300 P :: boot_o_7 P :: boot_o_8 P :: o_11x303 P :: boot_o_7 P :: o_11x305 P :: o_11x306 P :: o_11x307 P :: boot_o_7 P :: boot_o_8 P :: o_11x310 P :: boot_o_7 P :: o_11x312 P :: o_11x313 P :: o_11x314 P :: boot_o_7 P :: boot_o_8 P :: o_11x317 P :: boot_o_7 P :: r
noncomputable abbrev ch_11 (P : Params) (r : List Obj) : List Obj := o_11x319 P :: o_11x320 P :: o_11x321 P :: boot_o_7 P :: boot_o_8 P :: o_11x324 P :: boot_o_7 P :: o_11x326 P :: o_11x327 P :: o_11x328 P :: boot_o_7 P :: boot_o_8 P :: o_11x331 P :: boot_o_7 P :: o_11x333 P :: o_11x334 P :: o_11x335 P :: boot_o_7 P :: boot_o_8 P :: o_11x338 P :: boot_o_7 P :: o_11x340 P :: o_11x341 P :: o_11x342 P :: boot_o_7 P :: boot_o_8 P :: o_11x345 P :: boot_o_7 P :: o_11x347 P :: r
noncomputable abbrev ch_12 (P : Params) (r : List Obj) : List Obj := o_11x348 P :: o_11x349 P :: boot_o_7 P :: boot_o_8 P :: o_11x352 P :: boot_o_7 P :: o_11x354 P :: o_11x355 P :: o_11x356 P :: boot_o_7 P :: boot_o_8 P :: o_11x359 P :: boot_o_7 P :: o_11x361 P :: o_11x362 P :: o_11x363 P :: boot_o_7 P :: boot_o_8 P :: o_11x366 P :: boot_o_7 P :: o_11x368 P :: o_11x369 P :: o_11x370 P :: boot_o_7 P :: boot_o_8 P :: o_11x373 P :: boot_o_7 P :: o_11x375 P :: o_11x376 P :: r
noncomputable abbrev ch_13 (P : Params) (r : List Obj) : List Obj := o_11x377 P :: boot_o_7 P :: boot_o_8 P :: o_11x380 P :: boot_o_7 P :: o_11x382 P :: o_11x383 P :: o_11x384 P :: boot_o_7 P :: boot_o_8 P :: o_11x387 P :: o_11x388 P :: o_11x389 P :: o_11x390 P :: o_11x391 P :: boot_o_7 P :: boot_o_8 P :: o_11x394 P :: boot_o_7 P :: o_11x396 P :: o_11x397 P :: o_11x398 P :: boot_o_7 P :: boot_o_8 P :: o_11x401 P :: boot_o_7 P :: o_11x403 P :: o_11x404 P :: o_11x405 P :: r
noncomputable abbrev ch_14 (P : Params) (r : List Obj) : List Obj := o_11x406 P :: boot_o_7 P :: boot_o_8 P :: o_11x409 P :: boot_o_7 P :: o_11x411 P :: o_11x412 P :: o_11x413 P :: boot_o_7 P :: boot_o_8 P :: o_11x416 P :: o_11x417 P :: o_11x418 P :: o_11x419 P :: o_11x420 P :: o_11x251 P :: o_11x422 P :: boot_o_8 P :: o_11x424 P :: boot_o_7 P :: o_11x426 P :: o_11x427 P :: o_11x428 P :: o_11x251 P :: o_11x430 P :: boot_o_8 P :: o_11x432 P :: boot_o_7 P :: o_11x434 P :: r
noncomputable abbrev ch_15 (P : Params) (r : List Obj) : List Obj := o_11x435 P :: o_11x436 P :: o_11x251 P :: o_11x438 P :: boot_o_8 P :: o_11x440 P :: boot_o_7 P :: o_11x442 P :: o_11x443 P :: o_11x444 P :: boot_o_7 P :: boot_o_8 P :: o_11x447 P :: boot_o_7 P :: o_11x449 P :: o_11x450 P :: o_11x451 P :: boot_o_7 P :: o_11x453 P :: o_11x454 P :: o_11x455 P :: o_11x456 P :: o_11x457 P :: boot_o_7 P :: o_11x37 P :: o_16x460 P :: boot_o_7 P :: o_16x462 P :: o_16x463 P :: r
noncomputable abbrev ch_16 (P : Params) (r : List Obj) : List Obj := o_16x464 P :: boot_o_7 P :: boot_o_8 P :: o_16x467 P :: boot_o_7 P :: o_16x469 P :: o_16x470 P :: o_16x471 P :: o_11x199 P :: boot_o_7 P :: boot_o_8 P :: o_16x475 P :: boot_o_7 P :: o_16x477 P :: o_16x478 P :: o_16x479 P :: boot_o_7 P :: boot_o_8 P :: o_16x482 P :: boot_o_7 P :: o_16x484 P :: o_16x485 P :: o_16x486 P :: boot_o_7 P :: boot_o_8 P :: o_16x489 P :: boot_o_7 P :: o_16x491 P :: o_16x492 P :: r
noncomputable abbrev ch_17 (P : Params) (r : List Obj) : List Obj := o_16x493 P :: o_16x494 P :: o_16x495 P :: o_16x496 P :: o_16x497 P :: o_16x498 P :: o_16x499 P :: o_16x500 P :: boot_o_7 P :: o_16x502 P :: o_16x503 P :: boot_o_7 P :: o_16x505 P :: o_16x506 P :: o_16x507 P :: o_16x508 P :: boot_o_6 P :: boot_o_6 P :: o_16x508 P :: o_16x508 P :: boot_o_6 P :: boot_o_7 P :: boot_o_7 P :: boot_o_8 P :: o_16x517 P :: boot_o_7 P :: o_16x519 P :: o_16x520 P :: o_16x521 P :: r
noncomputable abbrev ch_18 (P : Params) (r : List Obj) : List Obj := boot_o_7 P :: boot_o_8 P :: o_16x524 P :: boot_o_7 P :: o_16x526 P :: o_16x527 P :: o_16x528 P :: o_16x529 P :: o_16x530 P :: boot_o_6 P :: boot_o_7 P :: boot_o_8 P :: o_16x534 P :: boot_o_7 P :: o_16x536 P :: o_16x537 P :: o_16x538 P :: boot_o_7 P :: boot_o_8 P :: o_16x541 P :: boot_o_7 P :: o_16x543 P :: o_16x544 P :: o_16x545 P :: boot_o_7 P :: boot_o_8 P :: o_16x548 P :: boot_o_7 P :: o_16x550 P :: r
noncomputable abbrev ch_19 (P : Params) (r : List Obj) : List Obj := o_16x551 P :: o_16x552 P :: boot_o_7 P :: boot_o_8 P :: o_16x555 P :: boot_o_7 P :: o_16x557 P :: o_16x558 P :: o_16x559 P :: boot_o_7 P :: boot_o_8 P :: o_16x562 P :: boot_o_7 P :: o_16x564 P :: o_16x565 P :: o_16x566 P :: boot_o_7 P :: boot_o_8 P :: o_16x569 P :: boot_o_7 P :: o_16x571 P :: o_16x572 P :: o_16x573 P :: boot_o_7 P :: boot_o_8 P :: o_16x576 P :: boot_o_7 P :: o_16x578 P :: o_16x579 P :: r
noncomputable abbrev ch_20 (P : Params) (r : List Obj) : List Obj := o_16x580 P :: boot_o_7 P :: boot_o_8 P :: o_16x583 P :: boot_o_7 P :: o_16x585 P :: o_16x586 P :: o_16x587 P :: boot_o_7 P :: boot_o_8 P :: o_16x590 P :: boot_o_7 P :: o_16x592 P :: o_16x593 P :: o_16x594 P :: boot_o_7 P :: boot_o_8 P :: o_16x597 P :: boot_o_7 P :: o_16x599 P :: o_16x600 P :: o_16x601 P :: boot_o_7 P :: boot_o_8 P :: o_16x604 P :: boot_o_7 P :: o_16x606 P :: o_16x607 P :: o_16x608 P :: r
noncomputable abbrev ch_21 (P : Params) (r : List Obj) : List Obj := o_16x609 P :: o_16x610 P :: o_16x611 P :: o_16x612 P :: o_16x613 P :: o_16x614 P :: boot_o_7 P :: boot_o_6 P :: o_16x617 P :: o_11x456 P :: o_16x619 P :: o_16x620 P :: o_16x621 P :: o_16x622 P :: o_16x623 P :: o_16x624 P :: o_16x625 P :: o_16x626 P :: o_16x627 P :: o_16x628 P :: o_16x629 P :: o_16x630 P :: o_16x502 P :: o_16x632 P :: boot_o_7 P :: boot_o_8 P :: o_16x635 P :: o_16x636 P :: o_16x637 P :: r
noncomputable abbrev ch_22 (P : Params) (r : List Obj) : List Obj := boot_o_7 P :: boot_o_6 P :: o_16x640 P :: o_11x456 P :: o_17x642 P :: o_16x643 P :: o_16x644 P :: o_16x645 P :: o_16x646 P :: o_16x647 P :: o_16x648 P :: o_16x649 P :: boot_o_7 P :: boot_o_8 P :: o_16x652 P :: boot_o_7 P :: o_16x654 P :: o_16x655 P :: o_16x656 P :: o_17x657 P :: o_17x658 P :: o_17x659 P :: o_16x645 P :: o_17x661 P :: o_17x662 P :: o_17x663 P :: o_17x664 P :: o_16x648 P :: o_16x649 P :: r
noncomputable abbrev ch_23 (P : Params) (r : List Obj) : List Obj := o_17x667 P :: o_17x668 P :: o_17x669 P :: o_17x670 P :: o_17x671 P :: o_17x672 P :: o_17x673 P :: o_17x674 P :: o_17x675 P :: o_17x676 P :: o_17x677 P :: o_16x648 P :: o_16x649 P :: o_17x680 P :: o_16x648 P :: o_16x649 P :: o_17x683 P :: o_16x648 P :: o_16x649 P :: o_17x686 P :: o_16x648 P :: o_16x649 P :: o_17x689 P :: o_16x648 P :: o_16x649 P :: o_17x692 P :: o_17x693 P :: o_16x648 P :: o_16x649 P :: r
noncomputable abbrev ch_24 (P : Params) (r : List Obj) : List Obj := o_17x696 P :: o_17x697 P :: o_16x648 P :: o_16x649 P :: o_17x700 P :: o_17x701 P :: o_16x648 P :: o_16x649 P :: boot_o_7 P :: o_11x37 P :: o_27x706 P :: boot_o_7 P :: o_27x708 P :: o_27x709 P :: o_27x710 P :: o_11x199 P :: boot_o_7 P :: boot_o_8 P :: o_27x714 P :: boot_o_7 P :: o_27x716 P :: o_27x717 P :: o_27x718 P :: boot_o_7 P :: boot_o_8 P :: o_27x721 P :: boot_o_7 P :: o_27x723 P :: o_27x724 P :: r
noncomputable abbrev ch_25 (P : Params) (r : List Obj) : List Obj := o_27x725 P :: o_27x726 P :: o_27x727 P :: o_27x728 P :: o_27x729 P :: o_27x730 P :: o_27x731 P :: o_27x732 P :: o_27x733 P :: o_11x37 P :: o_27x735 P :: boot_o_7 P :: o_27x737 P :: o_27x738 P :: o_27x739 P :: boot_o_7 P :: boot_o_8 P :: o_27x742 P :: boot_o_7 P :: o_27x744 P :: o_27x745 P :: o_27x746 P :: boot_o_7 P :: boot_o_8 P :: o_27x749 P :: o_27x750 P :: o_27x751 P :: boot_o_7 P :: boot_o_8 P :: r
noncomputable abbrev ch_26 (P : Params) (r : List Obj) : List Obj := o_27x754 P :: o_27x755 P :: o_27x756 P :: o_27x757 P :: o_27x758 P :: boot_o_6 P :: boot_o_7 P :: boot_o_8 P :: o_27x762 P :: o_27x763 P :: o_27x764 P :: o_27x765 P :: o_27x766 P :: boot_o_6 P :: o_27x768 P :: o_27x769 P :: o_27x770 P :: o_27x771 P :: o_27x772 P :: o_27x733 P :: o_11x37 P :: o_27x775 P :: boot_o_7 P :: o_27x777 P :: o_27x778 P :: o_27x779 P :: boot_o_7 P :: boot_o_8 P :: o_27x782 P :: r
noncomputable abbrev ch_27 (P : Params) (r : List Obj) : List Obj := boot_o_7 P :: o_27x784 P :: o_27x785 P :: o_27x786 P :: boot_o_7 P :: boot_o_8 P :: o_27x789 P :: o_27x790 P :: o_27x791 P :: boot_o_7 P :: boot_o_8 P :: o_27x794 P :: o_27x795 P :: o_27x796 P :: o_27x797 P :: o_27x798 P :: boot_o_6 P :: boot_o_7 P :: boot_o_8 P :: o_27x802 P :: o_27x803 P :: o_27x804 P :: o_27x805 P :: o_27x806 P :: boot_o_6 P :: o_27x808 P :: o_27x809 P :: o_27x810 P :: o_27x811 P :: r
noncomputable abbrev ch_28 (P : Params) (r : List Obj) : List Obj := o_27x812 P :: boot_o_7 P :: boot_o_8 P :: o_27x815 P :: boot_o_7 P :: o_27x817 P :: o_27x818 P :: o_27x819 P :: boot_o_7 P :: boot_o_8 P :: o_27x822 P :: boot_o_7 P :: o_27x824 P :: o_27x825 P :: o_27x826 P :: boot_o_7 P :: boot_o_8 P :: o_27x829 P :: boot_o_7 P :: o_27x831 P :: o_27x832 P :: o_27x833 P :: boot_o_7 P :: boot_o_8 P :: o_27x836 P :: o_27x837 P :: o_27x838 P :: boot_o_7 P :: boot_o_8 P :: r
noncomputable abbrev ch_29 (P : Params) (r : List Obj) : List Obj := o_27x841 P :: boot_o_7 P :: o_27x843 P :: o_27x844 P :: o_27x845 P :: r
noncomputable abbrev heap_e (P : Params) : Heap := ⟨⟨(ch_0 P (ch_1 P (ch_2 P (ch_3 P (ch_4 P (ch_5 P (ch_6 P (ch_7 P (ch_8 P (ch_9 P (ch_10 P (ch_11 P (ch_12 P (ch_13 P (ch_14 P (ch_15 P (ch_16 P (ch_17 P (ch_18 P (ch_19 P (ch_20 P (ch_21 P (ch_22 P (ch_23 P (ch_24 P (ch_25 P (ch_26 P (ch_27 P (ch_28 P (ch_29 P []))))))))))))))))))))))))))))))⟩, ⟨[], [], [], (0:Nat), [], [], .false, #[], [], (0:Nat), .false, .false, .false, (0:Int), [(2000:Int), (10:Int), (10:Int)], .false, (0:Nat), .true, [], [], (0:Nat), .false⟩⟩
noncomputable abbrev fd_21 : FuncData := by
  refine (?f : (n : Str) → (a : Arguments) → (b : List Stmt) → (d : List Expr) → (r : Option Expr) → (t : List TypeParam) → (c : Scope) → (u : Option Scope) → (v : Str) → (p : Pos) → Stmt.FunctionDef n a b d r t c u v p = sd [0] → FuncData) _ _ _ _ _ _ _ _ _ _ rfl
  exact fun n a b d r t c u v p h => ⟨.ofString "_wall", .ofString "_wall", a, .stmts b, c, (3:Nat), [], .none, .none, .none, .str (.ofString "__main__") (164:Nat), none, .ref (20:Nat), .none, (0:Nat)⟩
noncomputable abbrev fd_28 : FuncData := by
  refine (?f : (n : Str) → (a : Arguments) → (b : List Stmt) → (d : List Expr) → (r : Option Expr) → (t : List TypeParam) → (c : Scope) → (u : Option Scope) → (v : Str) → (p : Pos) → Stmt.FunctionDef n a b d r t c u v p = sd [2] → FuncData) _ _ _ _ _ _ _ _ _ _ rfl
  exact fun n a b d r t c u v p h => ⟨.ofString "null_distance_results", .ofString "null_distance_results", a, .stmts b, c, (3:Nat), [], .none, .none, .none, .str (.ofString "symspellpy.helpers") (194:Nat), none, .ref (27:Nat), .none, (0:Nat)⟩
noncomputable abbrev fd_35 : FuncData := by
  refine (?f : (n : Str) → (a : Arguments) → (b : List Stmt) → (d : List Expr) → (r : Option Expr) → (t : List TypeParam) → (c : Scope) → (u : Option Scope) → (v : Str) → (p : Pos) → Stmt.FunctionDef n a b d r t c u v p = sd [3] → FuncData) _ _ _ _ _ _ _ _ _ _ rfl
  exact fun n a b d r t c u v p h => ⟨.ofString "prefix_suffix_prep", .ofString "prefix_suffix_prep", a, .stmts b, c, (3:Nat), [], .none, .none, .none, .str (.ofString "symspellpy.helpers") (194:Nat), none, .ref (34:Nat), .none, (0:Nat)⟩
noncomputable abbrev fd_49 : FuncData := by
  refine (?f : (n : Str) → (a : Arguments) → (b : List Stmt) → (d : List Expr) → (r : Option Expr) → (t : List TypeParam) → (c : Scope) → (u : Option Scope) → (v : Str) → (p : Pos) → Stmt.FunctionDef n a b d r t c u v p = sd [5, 0] → FuncData) _ _ _ _ _ _ _ _ _ _ rfl
  exact fun n a b d r t c u v p h => ⟨.ofString "distance", .ofString "AbstractDistanceComparer.distance", a, .stmts b, c, (3:Nat), [], .none, .none, .none, .str (.ofString "symspellpy.abstract_distance_comparer") (216:Nat), none, .ref (48:Nat), .none, (0:Nat)⟩
noncomputable abbrev fd_72 : FuncData := by
  refine (?f : (n : Str) → (a : Arguments) → (b : List Stmt) → (d : List Expr) → (r : Option Expr) → (t : List TypeParam) → (c : Scope) → (u : Option Scope) → (v : Str) → (p : Pos) → Stmt.FunctionDef n a b d r t c u v p = sd [8, 2] → FuncData) _ _ _ _ _ _ _ _ _ _ rfl
  exact fun n a b d r t c u v p h => ⟨.ofString "__new__", .ofString "mappingproxy.__new__", a, .stmts b, c, (3:Nat), [], .none, .none, .none, .str (.ofString "enum") (248:Nat), none, .ref (71:Nat), .none, (0:Nat)⟩
noncomputable abbrev fd_79 : FuncData := by
  refine (?f : (n : Str) → (a : Arguments) → (b : List Stmt) → (d : List Expr) → (r : Option Expr) → (t : List TypeParam) → (c : Scope) → (u : Option Scope) → (v : Str) → (p : Pos) → Stmt.FunctionDef n a b d r t c u v p = sd [8, 3] → FuncData) _ _ _ _ _ _ _ _ _ _ rfl
  exact fun n a b d r t c u v p h => ⟨.ofString "__reduce_ex__", .ofString "mappingproxy.__reduce_ex__", a, .stmts b, c, (3:Nat), [], .none, .none, .none, .str (.ofString "enum") (248:Nat), none, .ref (78:Nat), .none, (0:Nat)⟩
noncomputable abbrev fd_86 : FuncData := by
  refine (?f : (n : Str) → (a : Arguments) → (b : List Stmt) → (d : List Expr) → (r : Option Expr) → (t : List TypeParam) → (c : Scope) → (u : Option Scope) → (v : Str) → (p : Pos) → Stmt.FunctionDef n a b d r t c u v p = sd [8, 4] → FuncData) _ _ _ _ _ _ _ _ _ _ rfl
  exact fun n a b d r t c u v p h => ⟨.ofString "__getitem__", .ofString "mappingproxy.__getitem__", a, .stmts b, c, (3:Nat), [], .none, .none, .none, .str (.ofString "enum") (248:Nat), none, .ref (85:Nat), .none, (0:Nat)⟩
noncomputable abbrev fd_93 : FuncData := by
  refine (?f : (n : Str) → (a : Arguments) → (b : List Stmt) → (d : List Expr) → (r : Option Expr) → (t : List TypeParam) → (c : Scope) → (u : Option Scope) → (v : Str) → (p : Pos) → Stmt.FunctionDef n a b d r t c u v p = sd [8, 5] → FuncData) _ _ _ _ _ _ _ _ _ _ rfl
  exact fun n a b d r t c u v p h => ⟨.ofString "__len__", .ofString "mappingproxy.__len__", a, .stmts b, c, (3:Nat), [], .none, .none, .none, .str (.ofString "enum") (248:Nat), none, .ref (92:Nat), .none, (0:Nat)⟩
noncomputable abbrev fd_100 : FuncData := by
  refine (?f : (n : Str) → (a : Arguments) → (b : List Stmt) → (d : List Expr) → (r : Option Expr) → (t : List TypeParam) → (c : Scope) → (u : Option Scope) → (v : Str) → (p : Pos) → Stmt.FunctionDef n a b d r t c u v p = sd [8, 6] → FuncData) _ _ _ _ _ _ _ _ _ _ rfl
  exact fun n a b d r t c u v p h => ⟨.ofString "__iter__", .ofString "mappingproxy.__iter__", a, .stmts b, c, (3:Nat), [], .none, .none, .none, .str (.ofString "enum") (248:Nat), none, .ref (99:Nat), .none, (0:Nat)⟩
noncomputable abbrev fd_107 : FuncData := by
  refine (?f : (n : Str) → (a : Arguments) → (b : List Stmt) → (d : List Expr) → (r : Option Expr) → (t : List TypeParam) → (c : Scope) → (u : Option Scope) → (v : Str) → (p : Pos) → Stmt.FunctionDef n a b d r t c u v p = sd [8, 7] → FuncData) _ _ _ _ _ _ _ _ _ _ rfl
  exact fun n a b d r t c u v p h => ⟨.ofString "__reversed__", .ofString "mappingproxy.__reversed__", a, .stmts b, c, (3:Nat), [], .none, .none, .none, .str (.ofString "enum") (248:Nat), none, .ref (106:Nat), .none, (0:Nat)⟩
noncomputable abbrev fd_114 : FuncData := by
  refine (?f : (n : Str) → (a : Arguments) → (b : List Stmt) → (d : List Expr) → (r : Option Expr) → (t : List TypeParam) → (c : Scope) → (u : Option Scope) → (v : Str) → (p : Pos) → Stmt.FunctionDef n a b d r t c u v p = sd [8, 8] → FuncData) _ _ _ _ _ _ _ _ _ _ rfl
  exact fun n a b d r t c u v p h => ⟨.ofString "__contains__", .ofString "mappingproxy.__contains__", a, .stmts b, c, (3:Nat), [], .none, .none, .none, .str (.ofString "enum") (248:Nat), none, .ref (113:Nat), .none, (0:Nat)⟩
noncomputable abbrev fd_121 : FuncData := by
  refine (?f : (n : Str) → (a : Arguments) → (b : List Stmt) → (d : List Expr) → (r : Option Expr) → (t : List TypeParam) → (c : Scope) → (u : Option Scope) → (v : Str) → (p : Pos) → Stmt.FunctionDef n a b d r t c u v p = sd [8, 9] → FuncData) _ _ _ _ _ _ _ _ _ _ rfl
  exact fun n a b d r t c u v p h => ⟨.ofString "__repr__", .ofString "mappingproxy.__repr__", a, .stmts b, c, (3:Nat), [], .none, .none, .none, .str (.ofString "enum") (248:Nat), none, .ref (120:Nat), .none, (0:Nat)⟩
noncomputable abbrev fd_128 : FuncData := by
  refine (?f : (n : Str) → (a : Arguments) → (b : List Stmt) → (d : List Expr) → (r : Option Expr) → (t : List TypeParam) → (c : Scope) → (u : Option Scope) → (v : Str) → (p : Pos) → Stmt.FunctionDef n a b d r t c u v p = sd [8, 10] → FuncData) _ _ _ _ _ _ _ _ _ _ rfl
  exact fun n a b d r t c u v p h => ⟨.ofString "__str__", .ofString "mappingproxy.__str__", a, .stmts b, c, (3:Nat), [], .none, .none, .none, .str (.ofString "enum") (248:Nat), none, .ref (127:Nat), .none, (0:Nat)⟩
noncomputable abbrev fd_135 : FuncData := by
  refine (?f : (n : Str) → (a : Arguments) → (b : List Stmt) → (d : List Expr) → (r : Option Expr) → (t : List TypeParam) → (c : Scope) → (u : Option Scope) → (v : Str) → (p : Pos) → Stmt.FunctionDef n a b d r t c u v p = sd [8, 11] → FuncData) _ _ _ _ _ _ _ _ _ _ rfl
  exact fun n a b d r t c u v p h => ⟨.ofString "__eq__", .ofString "mappingproxy.__eq__", a, .stmts b, c, (3:Nat), [], .none, .none, .none, .str (.ofString "enum") (248:Nat), none, .ref (134:Nat), .none, (0:Nat)⟩
noncomputable abbrev fd_142 : FuncData := by
  refine (?f : (n : Str) → (a : Arguments) → (b : List Stmt) → (d : List Expr) → (r : Option Expr) → (t : List TypeParam) → (c : Scope) → (u : Option Scope) → (v : Str) → (p : Pos) → Stmt.FunctionDef n a b d r t c u v p = sd [8, 12] → FuncData) _ _ _ _ _ _ _ _ _ _ rfl
  exact fun n a b d r t c u v p h => ⟨.ofString "__ne__", .ofString "mappingproxy.__ne__", a, .stmts b, c, (3:Nat), [], .none, .none, .none, .str (.ofString "enum") (248:Nat), none, .ref (141:Nat), .none, (0:Nat)⟩
noncomputable abbrev fd_149 : FuncData := by
  refine (?f : (n : Str) → (a : Arguments) → (b : List Stmt) → (d : List Expr) → (r : Option Expr) → (t : List TypeParam) → (c : Scope) → (u : Option Scope) → (v : Str) → (p : Pos) → Stmt.FunctionDef n a b d r t c u v p = sd [8, 13] → FuncData) _ _ _ _ _ _ _ _ _ _ rfl
  exact fun n a b d r t c u v p h => ⟨.ofString "__lt__", .ofString "mappingproxy.__lt__", a, .stmts b, c, (3:Nat), [], .none, .none, .none, .str (.ofString "enum") (248:Nat), none, .ref (148:Nat), .none, (0:Nat)⟩
noncomputable abbrev fd_156 : FuncData := by
  refine (?f : (n : Str) → (a : Arguments) → (b : List Stmt) → (d : List Expr) → (r : Option Expr) → (t : List TypeParam) → (c : Scope) → (u : Option Scope) → (v : Str) → (p : Pos) → Stmt.FunctionDef n a b d r t c u v p = sd [8, 14] → FuncData) _ _ _ _ _ _ _ _ _ _ rfl
  exact fun n a b d r t c u v p h => ⟨.ofString "__le__", .ofString "mappingproxy.__le__", a, .stmts b, c, (3:Nat), [], .none, .none, .none, .str (.ofString "enum") (248:Nat), none, .ref (155:Nat), .none, (0:Nat)⟩
noncomputable abbrev fd_163 : FuncData := by
  refine (?f : (n : Str) → (a : Arguments) → (b : List Stmt) → (d : List Expr) → (r : Option Expr) → (t : List TypeParam) → (c : Scope) → (u : Option Scope) → (v : Str) → (p : Pos) → Stmt.FunctionDef n a b d r t c u v p = sd [8, 15] → FuncData) _ _ _ _ _ _ _ _ _ _ rfl
  exact fun n a b d r t c u v p h => ⟨.ofString "__gt__", .ofString "mappingproxy.__gt__", a, .stmts b, c, (3:Nat), [], .none, .none, .none, .str (.ofString "enum") (248:Nat), none, .ref (162:Nat), .none, (0:Nat)⟩
noncomputable abbrev fd_170 : FuncData := by
  refine (?f : (n : Str) → (a : Arguments) → (b : List Stmt) → (d : List Expr) → (r : Option Expr) → (t : List TypeParam) → (c : Scope) → (u : Option Scope) → (v : Str) → (p : Pos) → Stmt.FunctionDef n a b d r t c u v p = sd [8, 16] → FuncData) _ _ _ _ _ _ _ _ _ _ rfl
  exact fun n a b d r t c u v p h => ⟨.ofString "__ge__", .ofString "mappingproxy.__ge__", a, .stmts b, c, (3:Nat), [], .none, .none, .none, .str (.ofString "enum") (248:Nat), none, .ref (169:Nat), .none, (0:Nat)⟩
noncomputable abbrev fd_177 : FuncData := by
  refine (?f : (n : Str) → (a : Arguments) → (b : List Stmt) → (d : List Expr) → (r : Option Expr) → (t : List TypeParam) → (c : Scope) → (u : Option Scope) → (v : Str) → (p : Pos) → Stmt.FunctionDef n a b d r t c u v p = sd [8, 17] → FuncData) _ _ _ _ _ _ _ _ _ _ rfl
  exact fun n a b d r t c u v p h => ⟨.ofString "__hash__", .ofString "mappingproxy.__hash__", a, .stmts b, c, (3:Nat), [], .none, .none, .none, .str (.ofString "enum") (248:Nat), none, .ref (176:Nat), .none, (0:Nat)⟩
noncomputable abbrev fd_184 : FuncData := by
  refine (?f : (n : Str) → (a : Arguments) → (b : List Stmt) → (d : List Expr) → (r : Option Expr) → (t : List TypeParam) → (c : Scope) → (u : Option Scope) → (v : Str) → (p : Pos) → Stmt.FunctionDef n a b d r t c u v p = sd [8, 18] → FuncData) _ _ _ _ _ _ _ _ _ _ rfl
  exact fun n a b d r t c u v p h => ⟨.ofString "__or__", .ofString "mappingproxy.__or__", a, .stmts b, c, (3:Nat), [], .none, .none, .none, .str (.ofString "enum") (248:Nat), none, .ref (183:Nat), .none, (0:Nat)⟩
noncomputable abbrev fd_191 : FuncData := by
  refine (?f : (n : Str) → (a : Arguments) → (b : List Stmt) → (d : List Expr) → (r : Option Expr) → (t : List TypeParam) → (c : Scope) → (u : Option Scope) → (v : Str) → (p : Pos) → Stmt.FunctionDef n a b d r t c u v p = sd [8, 19] → FuncData) _ _ _ _ _ _ _ _ _ _ rfl
  exact fun n a b d r t c u v p h => ⟨.ofString "__ror__", .ofString "mappingproxy.__ror__", a, .stmts b, c, (3:Nat), [], .none, .none, .none, .str (.ofString "enum") (248:Nat), none, .ref (190:Nat), .none, (0:Nat)⟩
noncomputable abbrev fd_198 : FuncData := by
  refine (?f : (n : Str) → (a : Arguments) → (b : List Stmt) → (d : List Expr) → (r : Option Expr) → (t : List TypeParam) → (c : Scope) → (u : Option Scope) → (v : Str) → (p : Pos) → Stmt.FunctionDef n a b d r t c u v p = sd [8, 20] → FuncData) _ _ _ _ _ _ _ _ _ _ rfl
  exact fun n a b d r t c u v p h => ⟨.ofString "__ior__", .ofString "mappingproxy.__ior__", a, .stmts b, c, (3:Nat), [], .none, .none, .none, .str (.ofString "enum") (248:Nat), none, .ref (197:Nat), .none, (0:Nat)⟩
noncomputable abbrev fd_206 : FuncData := by
  refine (?f : (n : Str) → (a : Arguments) → (b : List Stmt) → (d : List Expr) → (r : Option Expr) → (t : List TypeParam) → (c : Scope) → (u : Option Scope) → (v : Str) → (p : Pos) → Stmt.FunctionDef n a b d r t c u v p = sd [8, 21] → FuncData) _ _ _ _ _ _ _ _ _ _ rfl
  exact fun n a b d r t c u v p h => ⟨.ofString "get", .ofString "mappingproxy.get", a, .stmts b, c, (3:Nat), [], .ref (199:Nat), .none, .none, .str (.ofString "enum") (248:Nat), none, .ref (205:Nat), .none, (0:Nat)⟩
noncomputable abbrev fd_213 : FuncData := by
  refine (?f : (n : Str) → (a : Arguments) → (b : List Stmt) → (d : List Expr) → (r : Option Expr) → (t : List TypeParam) → (c : Scope) → (u : Option Scope) → (v : Str) → (p : Pos) → Stmt.FunctionDef n a b d r t c u v p = sd [8, 22] → FuncData) _ _ _ _ _ _ _ _ _ _ rfl
  exact fun n a b d r t c u v p h => ⟨.ofString "keys", .ofString "mappingproxy.keys", a, .stmts b, c, (3:Nat), [], .none, .none, .none, .str (.ofString "enum") (248:Nat), none, .ref (212:Nat), .none, (0:Nat)⟩
noncomputable abbrev fd_220 : FuncData := by
  refine (?f : (n : Str) → (a : Arguments) → (b : List Stmt) → (d : List Expr) → (r : Option Expr) → (t : List TypeParam) → (c : Scope) → (u : Option Scope) → (v : Str) → (p : Pos) → Stmt.FunctionDef n a b d r t c u v p = sd [8, 23] → FuncData) _ _ _ _ _ _ _ _ _ _ rfl
  exact fun n a b d r t c u v p h => ⟨.ofString "values", .ofString "mappingproxy.values", a, .stmts b, c, (3:Nat), [], .none, .none, .none, .str (.ofString "enum") (248:Nat), none, .ref (219:Nat), .none, (0:Nat)⟩
noncomputable abbrev fd_227 : FuncData := by
  refine (?f : (n : Str) → (a : Arguments) → (b : List Stmt) → (d : List Expr) → (r : Option Expr) → (t : List TypeParam) → (c : Scope) → (u : Option Scope) → (v : Str) → (p : Pos) → Stmt.FunctionDef n a b d r t c u v p = sd [8, 24] → FuncData) _ _ _ _ _ _ _ _ _ _ rfl
  exact fun n a b d r t c u v p h => ⟨.ofString "items", .ofString "mappingproxy.items", a, .stmts b, c, (3:Nat), [], .none, .none, .none, .str (.ofString "enum") (248:Nat), none, .ref (226:Nat), .none, (0:Nat)⟩
noncomputable abbrev fd_234 : FuncData := by
  refine (?f : (n : Str) → (a : Arguments) → (b : List Stmt) → (d : List Expr) → (r : Option Expr) → (t : List TypeParam) → (c : Scope) → (u : Option Scope) → (v : Str) → (p : Pos) → Stmt.FunctionDef n a b d r t c u v p = sd [8, 25] → FuncData) _ _ _ _ _ _ _ _ _ _ rfl
  exact fun n a b d r t c u v p h => ⟨.ofString "copy", .ofString "mappingproxy.copy", a, .stmts b, c, (3:Nat), [], .none, .none, .none, .str (.ofString "enum") (248:Nat), none, .ref (233:Nat), .none, (0:Nat)⟩
noncomputable abbrev fd_258 : FuncData := by
  refine (?f : (n : Str) → (a : Arguments) → (b : List Stmt) → (d : List Expr) → (r : Option Expr) → (t : List TypeParam) → (c : Scope) → (u : Option Scope) → (v : Str) → (p : Pos) → Stmt.FunctionDef n a b d r t c u v p = sd [10, 2] → FuncData) _ _ _ _ _ _ _ _ _ _ rfl
  exact fun n a b d r t c u v p h => ⟨.ofString "__new__", .ofString "EnumType.__new__", a, .stmts b, c, (3:Nat), [(.ofString "__class__", (246:Nat))], .none, .none, .none, .str (.ofString "enum") (248:Nat), none, .ref (257:Nat), .ref (251:Nat), (0:Nat)⟩
noncomputable abbrev fd_265 : FuncData := by
  refine (?f : (n : Str) → (a : Arguments) → (b : List Stmt) → (d : List Expr) → (r : Option Expr) → (t : List TypeParam) → (c : Scope) → (u : Option Scope) → (v : Str) → (p : Pos) → Stmt.FunctionDef n a b d r t c u v p = sd [10, 3] → FuncData) _ _ _ _ _ _ _ _ _ _ rfl
  exact fun n a b d r t c u v p h => ⟨.ofString "_planted_", .ofString "EnumType._planted_", a, .stmts b, c, (3:Nat), [], .none, .none, .none, .str (.ofString "enum") (248:Nat), none, .ref (264:Nat), .none, (0:Nat)⟩
noncomputable abbrev fd_272 : FuncData := by
  refine (?f : (n : Str) → (a : Arguments) → (b : List Stmt) → (d : List Expr) → (r : Option Expr) → (t : List TypeParam) → (c : Scope) → (u : Option Scope) → (v : Str) → (p : Pos) → Stmt.FunctionDef n a b d r t c u v p = sd [10, 4] → FuncData) _ _ _ _ _ _ _ _ _ _ rfl
  exact fun n a b d r t c u v p h => ⟨.ofString "_planted_at_", .ofString "EnumType._planted_at_", a, .stmts b, c, (3:Nat), [], .none, .none, .none, .str (.ofString "enum") (248:Nat), none, .ref (271:Nat), .none, (0:Nat)⟩
noncomputable abbrev fd_279 : FuncData := by
  refine (?f : (n : Str) → (a : Arguments) → (b : List Stmt) → (d : List Expr) → (r : Option Expr) → (t : List TypeParam) → (c : Scope) → (u : Option Scope) → (v : Str) → (p : Pos) → Stmt.FunctionDef n a b d r t c u v p = sd [10, 5] → FuncData) _ _ _ _ _ _ _ _ _ _ rfl
  exact fun n a b d r t c u v p h => ⟨.ofString "_held_value_", .ofString "EnumType._held_value_", a, .stmts b, c, (3:Nat), [], .none, .none, .none, .str (.ofString "enum") (248:Nat), none, .ref (278:Nat), .none, (0:Nat)⟩
noncomputable abbrev fd_286 : FuncData := by
  refine (?f : (n : Str) → (a : Arguments) → (b : List Stmt) → (d : List Expr) → (r : Option Expr) → (t : List TypeParam) → (c : Scope) → (u : Option Scope) → (v : Str) → (p : Pos) → Stmt.FunctionDef n a b d r t c u v p = sd [10, 6] → FuncData) _ _ _ _ _ _ _ _ _ _ rfl
  exact fun n a b d r t c u v p h => ⟨.ofString "_canonical_", .ofString "EnumType._canonical_", a, .stmts b, c, (3:Nat), [], .none, .none, .none, .str (.ofString "enum") (248:Nat), none, .ref (285:Nat), .none, (0:Nat)⟩
noncomputable abbrev fd_293 : FuncData := by
  refine (?f : (n : Str) → (a : Arguments) → (b : List Stmt) → (d : List Expr) → (r : Option Expr) → (t : List TypeParam) → (c : Scope) → (u : Option Scope) → (v : Str) → (p : Pos) → Stmt.FunctionDef n a b d r t c u v p = sd [10, 7] → FuncData) _ _ _ _ _ _ _ _ _ _ rfl
  exact fun n a b d r t c u v p h => ⟨.ofString "_book_value_", .ofString "EnumType._book_value_", a, .stmts b, c, (3:Nat), [], .none, .none, .none, .str (.ofString "enum") (248:Nat), none, .ref (292:Nat), .none, (0:Nat)⟩
noncomputable abbrev fd_300 : FuncData := by
  refine (?f : (n : Str) → (a : Arguments) → (b : List Stmt) → (d : List Expr) → (r : Option Expr) → (t : List TypeParam) → (c : Scope) → (u : Option Scope) → (v : Str) → (p : Pos) → Stmt.FunctionDef n a b d r t c u v p = sd [10, 8] → FuncData) _ _ _ _ _ _ _ _ _ _ rfl
  exact fun n a b d r t c u v p h => ⟨.ofString "_mixed_", .ofString "EnumType._mixed_", a, .stmts b, c, (3:Nat), [], .none, .none, .none, .str (.ofString "enum") (248:Nat), none, .ref (299:Nat), .none, (0:Nat)⟩
noncomputable abbrev fd_307 : FuncData := by
  refine (?f : (n : Str) → (a : Arguments) → (b : List Stmt) → (d : List Expr) → (r : Option Expr) → (t : List TypeParam) → (c : Scope) → (u : Option Scope) → (v : Str) → (p : Pos) → Stmt.FunctionDef n a b d r t c u v p = sd [10, 9] → FuncData) _ _ _ _ _ _ _ _ _ _ rfl
  exact fun n a b d r t c u v p h => ⟨.ofString "_held_def_", .ofString "EnumType._held_def_", a, .stmts b, c, (3:Nat), [], .none, .none, .none, .str (.ofString "enum") (248:Nat), none, .ref (306:Nat), .none, (0:Nat)⟩
noncomputable abbrev fd_314 : FuncData := by
  refine (?f : (n : Str) → (a : Arguments) → (b : List Stmt) → (d : List Expr) → (r : Option Expr) → (t : List TypeParam) → (c : Scope) → (u : Option Scope) → (v : Str) → (p : Pos) → Stmt.FunctionDef n a b d r t c u v p = sd [10, 10] → FuncData) _ _ _ _ _ _ _ _ _ _ rfl
  exact fun n a b d r t c u v p h => ⟨.ofString "_closed_", .ofString "EnumType._closed_", a, .stmts b, c, (3:Nat), [], .none, .none, .none, .str (.ofString "enum") (248:Nat), none, .ref (313:Nat), .none, (0:Nat)⟩
noncomputable abbrev fd_321 : FuncData := by
  refine (?f : (n : Str) → (a : Arguments) → (b : List Stmt) → (d : List Expr) → (r : Option Expr) → (t : List TypeParam) → (c : Scope) → (u : Option Scope) → (v : Str) → (p : Pos) → Stmt.FunctionDef n a b d r t c u v p = sd [10, 11] → FuncData) _ _ _ _ _ _ _ _ _ _ rfl
  exact fun n a b d r t c u v p h => ⟨.ofString "_held_auto_", .ofString "EnumType._held_auto_", a, .stmts b, c, (3:Nat), [], .none, .none, .none, .str (.ofString "enum") (248:Nat), none, .ref (320:Nat), .none, (0:Nat)⟩
noncomputable abbrev fd_328 : FuncData := by
  refine (?f : (n : Str) → (a : Arguments) → (b : List Stmt) → (d : List Expr) → (r : Option Expr) → (t : List TypeParam) → (c : Scope) → (u : Option Scope) → (v : Str) → (p : Pos) → Stmt.FunctionDef n a b d r t c u v p = sd [10, 12] → FuncData) _ _ _ _ _ _ _ _ _ _ rfl
  exact fun n a b d r t c u v p h => ⟨.ofString "_unique_", .ofString "EnumType._unique_", a, .stmts b, c, (3:Nat), [], .none, .none, .none, .str (.ofString "enum") (248:Nat), none, .ref (327:Nat), .none, (0:Nat)⟩
noncomputable abbrev fd_335 : FuncData := by
  refine (?f : (n : Str) → (a : Arguments) → (b : List Stmt) → (d : List Expr) → (r : Option Expr) → (t : List TypeParam) → (c : Scope) → (u : Option Scope) → (v : Str) → (p : Pos) → Stmt.FunctionDef n a b d r t c u v p = sd [10, 13] → FuncData) _ _ _ _ _ _ _ _ _ _ rfl
  exact fun n a b d r t c u v p h => ⟨.ofString "_close_", .ofString "EnumType._close_", a, .stmts b, c, (3:Nat), [], .none, .none, .none, .str (.ofString "enum") (248:Nat), none, .ref (334:Nat), .none, (0:Nat)⟩
noncomputable abbrev fd_342 : FuncData := by
  refine (?f : (n : Str) → (a : Arguments) → (b : List Stmt) → (d : List Expr) → (r : Option Expr) → (t : List TypeParam) → (c : Scope) → (u : Option Scope) → (v : Str) → (p : Pos) → Stmt.FunctionDef n a b d r t c u v p = sd [10, 14] → FuncData) _ _ _ _ _ _ _ _ _ _ rfl
  exact fun n a b d r t c u v p h => ⟨.ofString "_expect_", .ofString "EnumType._expect_", a, .stmts b, c, (3:Nat), [], .none, .none, .none, .str (.ofString "enum") (248:Nat), none, .ref (341:Nat), .none, (0:Nat)⟩
noncomputable abbrev fd_349 : FuncData := by
  refine (?f : (n : Str) → (a : Arguments) → (b : List Stmt) → (d : List Expr) → (r : Option Expr) → (t : List TypeParam) → (c : Scope) → (u : Option Scope) → (v : Str) → (p : Pos) → Stmt.FunctionDef n a b d r t c u v p = sd [10, 15] → FuncData) _ _ _ _ _ _ _ _ _ _ rfl
  exact fun n a b d r t c u v p h => ⟨.ofString "_value_of_", .ofString "EnumType._value_of_", a, .stmts b, c, (3:Nat), [], .none, .none, .none, .str (.ofString "enum") (248:Nat), none, .ref (348:Nat), .none, (0:Nat)⟩
noncomputable abbrev fd_356 : FuncData := by
  refine (?f : (n : Str) → (a : Arguments) → (b : List Stmt) → (d : List Expr) → (r : Option Expr) → (t : List TypeParam) → (c : Scope) → (u : Option Scope) → (v : Str) → (p : Pos) → Stmt.FunctionDef n a b d r t c u v p = sd [10, 16] → FuncData) _ _ _ _ _ _ _ _ _ _ rfl
  exact fun n a b d r t c u v p h => ⟨.ofString "_args_of_", .ofString "EnumType._args_of_", a, .stmts b, c, (3:Nat), [], .none, .none, .none, .str (.ofString "enum") (248:Nat), none, .ref (355:Nat), .none, (0:Nat)⟩
noncomputable abbrev fd_363 : FuncData := by
  refine (?f : (n : Str) → (a : Arguments) → (b : List Stmt) → (d : List Expr) → (r : Option Expr) → (t : List TypeParam) → (c : Scope) → (u : Option Scope) → (v : Str) → (p : Pos) → Stmt.FunctionDef n a b d r t c u v p = sd [10, 17] → FuncData) _ _ _ _ _ _ _ _ _ _ rfl
  exact fun n a b d r t c u v p h => ⟨.ofString "__bool__", .ofString "EnumType.__bool__", a, .stmts b, c, (3:Nat), [], .none, .none, .none, .str (.ofString "enum") (248:Nat), none, .ref (362:Nat), .none, (0:Nat)⟩
noncomputable abbrev fd_370 : FuncData := by
  refine (?f : (n : Str) → (a : Arguments) → (b : List Stmt) → (d : List Expr) → (r : Option Expr) → (t : List TypeParam) → (c : Scope) → (u : Option Scope) → (v : Str) → (p : Pos) → Stmt.FunctionDef n a b d r t c u v p = sd [10, 18] → FuncData) _ _ _ _ _ _ _ _ _ _ rfl
  exact fun n a b d r t c u v p h => ⟨.ofString "__call__", .ofString "EnumType.__call__", a, .stmts b, c, (3:Nat), [], .none, .none, .none, .str (.ofString "enum") (248:Nat), none, .ref (369:Nat), .none, (0:Nat)⟩
noncomputable abbrev fd_377 : FuncData := by
  refine (?f : (n : Str) → (a : Arguments) → (b : List Stmt) → (d : List Expr) → (r : Option Expr) → (t : List TypeParam) → (c : Scope) → (u : Option Scope) → (v : Str) → (p : Pos) → Stmt.FunctionDef n a b d r t c u v p = sd [10, 19] → FuncData) _ _ _ _ _ _ _ _ _ _ rfl
  exact fun n a b d r t c u v p h => ⟨.ofString "__contains__", .ofString "EnumType.__contains__", a, .stmts b, c, (3:Nat), [], .none, .none, .none, .str (.ofString "enum") (248:Nat), none, .ref (376:Nat), .none, (0:Nat)⟩
noncomputable abbrev fd_384 : FuncData := by
  refine (?f : (n : Str) → (a : Arguments) → (b : List Stmt) → (d : List Expr) → (r : Option Expr) → (t : List TypeParam) → (c : Scope) → (u : Option Scope) → (v : Str) → (p : Pos) → Stmt.FunctionDef n a b d r t c u v p = sd [10, 20] → FuncData) _ _ _ _ _ _ _ _ _ _ rfl
  exact fun n a b d r t c u v p h => ⟨.ofString "__getitem__", .ofString "EnumType.__getitem__", a, .stmts b, c, (3:Nat), [], .none, .none, .none, .str (.ofString "enum") (248:Nat), none, .ref (383:Nat), .none, (0:Nat)⟩
noncomputable abbrev fd_391 : FuncData := by
  refine (?f : (n : Str) → (a : Arguments) → (b : List Stmt) → (d : List Expr) → (r : Option Expr) → (t : List TypeParam) → (c : Scope) → (u : Option Scope) → (v : Str) → (p : Pos) → Stmt.FunctionDef n a b d r t c u v p = sd [10, 21] → FuncData) _ _ _ _ _ _ _ _ _ _ rfl
  exact fun n a b d r t c u v p h => ⟨.ofString "__iter__", .ofString "EnumType.__iter__", a, .stmts b, c, (3:Nat), [], .none, .none, .none, .str (.ofString "enum") (248:Nat), none, .ref (390:Nat), .none, (0:Nat)⟩
noncomputable abbrev fd_398 : FuncData := by
  refine (?f : (n : Str) → (a : Arguments) → (b : List Stmt) → (d : List Expr) → (r : Option Expr) → (t : List TypeParam) → (c : Scope) → (u : Option Scope) → (v : Str) → (p : Pos) → Stmt.FunctionDef n a b d r t c u v p = sd [10, 22] → FuncData) _ _ _ _ _ _ _ _ _ _ rfl
  exact fun n a b d r t c u v p h => ⟨.ofString "__len__", .ofString "EnumType.__len__", a, .stmts b, c, (3:Nat), [], .none, .none, .none, .str (.ofString "enum") (248:Nat), none, .ref (397:Nat), .none, (0:Nat)⟩
noncomputable abbrev fd_405 : FuncData := by
  refine (?f : (n : Str) → (a : Arguments) → (b : List Stmt) → (d : List Expr) → (r : Option Expr) → (t : List TypeParam) → (c : Scope) → (u : Option Scope) → (v : Str) → (p : Pos) → Stmt.FunctionDef n a b d r t c u v p = sd [10, 23] → FuncData) _ _ _ _ _ _ _ _ _ _ rfl
  exact fun n a b d r t c u v p h => ⟨.ofString "__members__", .ofString "EnumType.__members__", a, .stmts b, c, (3:Nat), [], .none, .none, .none, .str (.ofString "enum") (248:Nat), none, .ref (404:Nat), .none, (0:Nat)⟩
noncomputable abbrev fd_413 : FuncData := by
  refine (?f : (n : Str) → (a : Arguments) → (b : List Stmt) → (d : List Expr) → (r : Option Expr) → (t : List TypeParam) → (c : Scope) → (u : Option Scope) → (v : Str) → (p : Pos) → Stmt.FunctionDef n a b d r t c u v p = sd [10, 24] → FuncData) _ _ _ _ _ _ _ _ _ _ rfl
  exact fun n a b d r t c u v p h => ⟨.ofString "__repr__", .ofString "EnumType.__repr__", a, .stmts b, c, (3:Nat), [], .none, .none, .none, .str (.ofString "enum") (248:Nat), none, .ref (412:Nat), .none, (0:Nat)⟩
noncomputable abbrev fd_420 : FuncData := by
  refine (?f : (n : Str) → (a : Arguments) → (b : List Stmt) → (d : List Expr) → (r : Option Expr) → (t : List TypeParam) → (c : Scope) → (u : Option Scope) → (v : Str) → (p : Pos) → Stmt.FunctionDef n a b d r t c u v p = sd [10, 25] → FuncData) _ _ _ _ _ _ _ _ _ _ rfl
  exact fun n a b d r t c u v p h => ⟨.ofString "__reversed__", .ofString "EnumType.__reversed__", a, .stmts b, c, (3:Nat), [], .none, .none, .none, .str (.ofString "enum") (248:Nat), none, .ref (419:Nat), .none, (0:Nat)⟩
noncomputable abbrev fd_428 : FuncData := by
  refine (?f : (n : Str) → (a : Arguments) → (b : List Stmt) → (d : List Expr) → (r : Option Expr) → (t : List TypeParam) → (c : Scope) → (u : Option Scope) → (v : Str) → (p : Pos) → Stmt.FunctionDef n a b d r t c u v p = sd [10, 26] → FuncData) _ _ _ _ _ _ _ _ _ _ rfl
  exact fun n a b d r t c u v p h => ⟨.ofString "__setattr__", .ofString "EnumType.__setattr__", a, .stmts b, c, (3:Nat), [(.ofString "__class__", (246:Nat))], .none, .none, .none, .str (.ofString "enum") (248:Nat), none, .ref (427:Nat), .ref (421:Nat), (0:Nat)⟩
noncomputable abbrev fd_436 : FuncData := by
  refine (?f : (n : Str) → (a : Arguments) → (b : List Stmt) → (d : List Expr) → (r : Option Expr) → (t : List TypeParam) → (c : Scope) → (u : Option Scope) → (v : Str) → (p : Pos) → Stmt.FunctionDef n a b d r t c u v p = sd [10, 27] → FuncData) _ _ _ _ _ _ _ _ _ _ rfl
  exact fun n a b d r t c u v p h => ⟨.ofString "__delattr__", .ofString "EnumType.__delattr__", a, .stmts b, c, (3:Nat), [(.ofString "__class__", (246:Nat))], .none, .none, .none, .str (.ofString "enum") (248:Nat), none, .ref (435:Nat), .ref (429:Nat), (0:Nat)⟩
noncomputable abbrev fd_444 : FuncData := by
  refine (?f : (n : Str) → (a : Arguments) → (b : List Stmt) → (d : List Expr) → (r : Option Expr) → (t : List TypeParam) → (c : Scope) → (u : Option Scope) → (v : Str) → (p : Pos) → Stmt.FunctionDef n a b d r t c u v p = sd [10, 28] → FuncData) _ _ _ _ _ _ _ _ _ _ rfl
  exact fun n a b d r t c u v p h => ⟨.ofString "_store_", .ofString "EnumType._store_", a, .stmts b, c, (3:Nat), [(.ofString "__class__", (246:Nat))], .none, .none, .none, .str (.ofString "enum") (248:Nat), none, .ref (443:Nat), .ref (437:Nat), (0:Nat)⟩
noncomputable abbrev fd_451 : FuncData := by
  refine (?f : (n : Str) → (a : Arguments) → (b : List Stmt) → (d : List Expr) → (r : Option Expr) → (t : List TypeParam) → (c : Scope) → (u : Option Scope) → (v : Str) → (p : Pos) → Stmt.FunctionDef n a b d r t c u v p = sd [10, 29] → FuncData) _ _ _ _ _ _ _ _ _ _ rfl
  exact fun n a b d r t c u v p h => ⟨.ofString "__dir__", .ofString "EnumType.__dir__", a, .stmts b, c, (3:Nat), [], .none, .none, .none, .str (.ofString "enum") (248:Nat), none, .ref (450:Nat), .none, (0:Nat)⟩
noncomputable abbrev fd_471 : FuncData := by
  refine (?f : (n : Str) → (a : Arguments) → (b : List Stmt) → (d : List Expr) → (r : Option Expr) → (t : List TypeParam) → (c : Scope) → (u : Option Scope) → (v : Str) → (p : Pos) → Stmt.FunctionDef n a b d r t c u v p = sd [11, 0] → FuncData) _ _ _ _ _ _ _ _ _ _ rfl
  exact fun n a b d r t c u v p h => ⟨.ofString "__init__", .ofString "_EnumField.__init__", a, .stmts b, c, (3:Nat), [], .none, .none, .none, .str (.ofString "enum") (248:Nat), none, .ref (470:Nat), .none, (0:Nat)⟩
noncomputable abbrev fd_479 : FuncData := by
  refine (?f : (n : Str) → (a : Arguments) → (b : List Stmt) → (d : List Expr) → (r : Option Expr) → (t : List TypeParam) → (c : Scope) → (u : Option Scope) → (v : Str) → (p : Pos) → Stmt.FunctionDef n a b d r t c u v p = sd [11, 1] → FuncData) _ _ _ _ _ _ _ _ _ _ rfl
  exact fun n a b d r t c u v p h => ⟨.ofString "__get__", .ofString "_EnumField.__get__", a, .stmts b, c, (3:Nat), [], .ref (472:Nat), .none, .none, .str (.ofString "enum") (248:Nat), none, .ref (478:Nat), .none, (0:Nat)⟩
noncomputable abbrev fd_486 : FuncData := by
  refine (?f : (n : Str) → (a : Arguments) → (b : List Stmt) → (d : List Expr) → (r : Option Expr) → (t : List TypeParam) → (c : Scope) → (u : Option Scope) → (v : Str) → (p : Pos) → Stmt.FunctionDef n a b d r t c u v p = sd [11, 2] → FuncData) _ _ _ _ _ _ _ _ _ _ rfl
  exact fun n a b d r t c u v p h => ⟨.ofString "__set__", .ofString "_EnumField.__set__", a, .stmts b, c, (3:Nat), [], .none, .none, .none, .str (.ofString "enum") (248:Nat), none, .ref (485:Nat), .none, (0:Nat)⟩
noncomputable abbrev fd_493 : FuncData := by
  refine (?f : (n : Str) → (a : Arguments) → (b : List Stmt) → (d : List Expr) → (r : Option Expr) → (t : List TypeParam) → (c : Scope) → (u : Option Scope) → (v : Str) → (p : Pos) → Stmt.FunctionDef n a b d r t c u v p = sd [11, 3] → FuncData) _ _ _ _ _ _ _ _ _ _ rfl
  exact fun n a b d r t c u v p h => ⟨.ofString "__delete__", .ofString "_EnumField.__delete__", a, .stmts b, c, (3:Nat), [], .none, .none, .none, .str (.ofString "enum") (248:Nat), none, .ref (492:Nat), .none, (0:Nat)⟩
noncomputable abbrev fd_521 : FuncData := by
  refine (?f : (n : Str) → (a : Arguments) → (b : List Stmt) → (d : List Expr) → (r : Option Expr) → (t : List TypeParam) → (c : Scope) → (u : Option Scope) → (v : Str) → (p : Pos) → Stmt.FunctionDef n a b d r t c u v p = sd [12, 12] → FuncData) _ _ _ _ _ _ _ _ _ _ rfl
  exact fun n a b d r t c u v p h => ⟨.ofString "__new__", .ofString "Enum.__new__", a, .stmts b, c, (3:Nat), [], .none, .none, .none, .str (.ofString "enum") (248:Nat), none, .ref (520:Nat), .none, (0:Nat)⟩
noncomputable abbrev fd_528 : FuncData := by
  refine (?f : (n : Str) → (a : Arguments) → (b : List Stmt) → (d : List Expr) → (r : Option Expr) → (t : List TypeParam) → (c : Scope) → (u : Option Scope) → (v : Str) → (p : Pos) → Stmt.FunctionDef n a b d r t c u v p = sd [12, 13] → FuncData) _ _ _ _ _ _ _ _ _ _ rfl
  exact fun n a b d r t c u v p h => ⟨.ofString "_missing_", .ofString "Enum._missing_", a, .stmts b, c, (3:Nat), [], .none, .none, .none, .str (.ofString "enum") (248:Nat), some (531:Nat), .ref (527:Nat), .none, (0:Nat)⟩
noncomputable abbrev fd_538 : FuncData := by
  refine (?f : (n : Str) → (a : Arguments) → (b : List Stmt) → (d : List Expr) → (r : Option Expr) → (t : List TypeParam) → (c : Scope) → (u : Option Scope) → (v : Str) → (p : Pos) → Stmt.FunctionDef n a b d r t c u v p = sd [12, 14] → FuncData) _ _ _ _ _ _ _ _ _ _ rfl
  exact fun n a b d r t c u v p h => ⟨.ofString "__init__", .ofString "Enum.__init__", a, .stmts b, c, (3:Nat), [], .none, .none, .none, .str (.ofString "enum") (248:Nat), none, .ref (537:Nat), .none, (0:Nat)⟩
noncomputable abbrev fd_545 : FuncData := by
  refine (?f : (n : Str) → (a : Arguments) → (b : List Stmt) → (d : List Expr) → (r : Option Expr) → (t : List TypeParam) → (c : Scope) → (u : Option Scope) → (v : Str) → (p : Pos) → Stmt.FunctionDef n a b d r t c u v p = sd [12, 15] → FuncData) _ _ _ _ _ _ _ _ _ _ rfl
  exact fun n a b d r t c u v p h => ⟨.ofString "__repr__", .ofString "Enum.__repr__", a, .stmts b, c, (3:Nat), [], .none, .none, .none, .str (.ofString "enum") (248:Nat), none, .ref (544:Nat), .none, (0:Nat)⟩
noncomputable abbrev fd_552 : FuncData := by
  refine (?f : (n : Str) → (a : Arguments) → (b : List Stmt) → (d : List Expr) → (r : Option Expr) → (t : List TypeParam) → (c : Scope) → (u : Option Scope) → (v : Str) → (p : Pos) → Stmt.FunctionDef n a b d r t c u v p = sd [12, 16] → FuncData) _ _ _ _ _ _ _ _ _ _ rfl
  exact fun n a b d r t c u v p h => ⟨.ofString "__str__", .ofString "Enum.__str__", a, .stmts b, c, (3:Nat), [], .none, .none, .none, .str (.ofString "enum") (248:Nat), none, .ref (551:Nat), .none, (0:Nat)⟩
noncomputable abbrev fd_559 : FuncData := by
  refine (?f : (n : Str) → (a : Arguments) → (b : List Stmt) → (d : List Expr) → (r : Option Expr) → (t : List TypeParam) → (c : Scope) → (u : Option Scope) → (v : Str) → (p : Pos) → Stmt.FunctionDef n a b d r t c u v p = sd [12, 17] → FuncData) _ _ _ _ _ _ _ _ _ _ rfl
  exact fun n a b d r t c u v p h => ⟨.ofString "__format__", .ofString "Enum.__format__", a, .stmts b, c, (3:Nat), [], .none, .none, .none, .str (.ofString "enum") (248:Nat), none, .ref (558:Nat), .none, (0:Nat)⟩
noncomputable abbrev fd_566 : FuncData := by
  refine (?f : (n : Str) → (a : Arguments) → (b : List Stmt) → (d : List Expr) → (r : Option Expr) → (t : List TypeParam) → (c : Scope) → (u : Option Scope) → (v : Str) → (p : Pos) → Stmt.FunctionDef n a b d r t c u v p = sd [12, 18] → FuncData) _ _ _ _ _ _ _ _ _ _ rfl
  exact fun n a b d r t c u v p h => ⟨.ofString "__hash__", .ofString "Enum.__hash__", a, .stmts b, c, (3:Nat), [], .none, .none, .none, .str (.ofString "enum") (248:Nat), none, .ref (565:Nat), .none, (0:Nat)⟩
noncomputable abbrev fd_573 : FuncData := by
  refine (?f : (n : Str) → (a : Arguments) → (b : List Stmt) → (d : List Expr) → (r : Option Expr) → (t : List TypeParam) → (c : Scope) → (u : Option Scope) → (v : Str) → (p : Pos) → Stmt.FunctionDef n a b d r t c u v p = sd [12, 19] → FuncData) _ _ _ _ _ _ _ _ _ _ rfl
  exact fun n a b d r t c u v p h => ⟨.ofString "__reduce_ex__", .ofString "Enum.__reduce_ex__", a, .stmts b, c, (3:Nat), [], .none, .none, .none, .str (.ofString "enum") (248:Nat), none, .ref (572:Nat), .none, (0:Nat)⟩
noncomputable abbrev fd_580 : FuncData := by
  refine (?f : (n : Str) → (a : Arguments) → (b : List Stmt) → (d : List Expr) → (r : Option Expr) → (t : List TypeParam) → (c : Scope) → (u : Option Scope) → (v : Str) → (p : Pos) → Stmt.FunctionDef n a b d r t c u v p = sd [12, 20] → FuncData) _ _ _ _ _ _ _ _ _ _ rfl
  exact fun n a b d r t c u v p h => ⟨.ofString "__deepcopy__", .ofString "Enum.__deepcopy__", a, .stmts b, c, (3:Nat), [], .none, .none, .none, .str (.ofString "enum") (248:Nat), none, .ref (579:Nat), .none, (0:Nat)⟩
noncomputable abbrev fd_587 : FuncData := by
  refine (?f : (n : Str) → (a : Arguments) → (b : List Stmt) → (d : List Expr) → (r : Option Expr) → (t : List TypeParam) → (c : Scope) → (u : Option Scope) → (v : Str) → (p : Pos) → Stmt.FunctionDef n a b d r t c u v p = sd [12, 21] → FuncData) _ _ _ _ _ _ _ _ _ _ rfl
  exact fun n a b d r t c u v p h => ⟨.ofString "__copy__", .ofString "Enum.__copy__", a, .stmts b, c, (3:Nat), [], .none, .none, .none, .str (.ofString "enum") (248:Nat), none, .ref (586:Nat), .none, (0:Nat)⟩
noncomputable abbrev fd_594 : FuncData := by
  refine (?f : (n : Str) → (a : Arguments) → (b : List Stmt) → (d : List Expr) → (r : Option Expr) → (t : List TypeParam) → (c : Scope) → (u : Option Scope) → (v : Str) → (p : Pos) → Stmt.FunctionDef n a b d r t c u v p = sd [12, 22] → FuncData) _ _ _ _ _ _ _ _ _ _ rfl
  exact fun n a b d r t c u v p h => ⟨.ofString "__dir__", .ofString "Enum.__dir__", a, .stmts b, c, (3:Nat), [], .none, .none, .none, .str (.ofString "enum") (248:Nat), none, .ref (593:Nat), .none, (0:Nat)⟩
noncomputable abbrev fd_601 : FuncData := by
  refine (?f : (n : Str) → (a : Arguments) → (b : List Stmt) → (d : List Expr) → (r : Option Expr) → (t : List TypeParam) → (c : Scope) → (u : Option Scope) → (v : Str) → (p : Pos) → Stmt.FunctionDef n a b d r t c u v p = sd [12, 23] → FuncData) _ _ _ _ _ _ _ _ _ _ rfl
  exact fun n a b d r t c u v p h => ⟨.ofString "_add_alias_", .ofString "Enum._add_alias_", a, .stmts b, c, (3:Nat), [], .none, .none, .none, .str (.ofString "enum") (248:Nat), none, .ref (600:Nat), .none, (0:Nat)⟩
noncomputable abbrev fd_608 : FuncData := by
  refine (?f : (n : Str) → (a : Arguments) → (b : List Stmt) → (d : List Expr) → (r : Option Expr) → (t : List TypeParam) → (c : Scope) → (u : Option Scope) → (v : Str) → (p : Pos) → Stmt.FunctionDef n a b d r t c u v p = sd [12, 24] → FuncData) _ _ _ _ _ _ _ _ _ _ rfl
  exact fun n a b d r t c u v p h => ⟨.ofString "_add_value_alias_", .ofString "Enum._add_value_alias_", a, .stmts b, c, (3:Nat), [], .none, .none, .none, .str (.ofString "enum") (248:Nat), none, .ref (607:Nat), .none, (0:Nat)⟩
noncomputable abbrev fd_718 : FuncData := by
  refine (?f : (n : Str) → (a : Arguments) → (b : List Stmt) → (d : List Expr) → (r : Option Expr) → (t : List TypeParam) → (c : Scope) → (u : Option Scope) → (v : Str) → (p : Pos) → Stmt.FunctionDef n a b d r t c u v p = sd [17, 0] → FuncData) _ _ _ _ _ _ _ _ _ _ rfl
  exact fun n a b d r t c u v p h => ⟨.ofString "__init__", .ofString "EditDistance.__init__", a, .stmts b, c, (3:Nat), [], .ref (711:Nat), .none, .none, .str (.ofString "symspellpy.editdistance") (967:Nat), none, .ref (717:Nat), .none, (0:Nat)⟩
noncomputable abbrev fd_725 : FuncData := by
  refine (?f : (n : Str) → (a : Arguments) → (b : List Stmt) → (d : List Expr) → (r : Option Expr) → (t : List TypeParam) → (c : Scope) → (u : Option Scope) → (v : Str) → (p : Pos) → Stmt.FunctionDef n a b d r t c u v p = sd [17, 1] → FuncData) _ _ _ _ _ _ _ _ _ _ rfl
  exact fun n a b d r t c u v p h => ⟨.ofString "compare", .ofString "EditDistance.compare", a, .stmts b, c, (3:Nat), [], .none, .none, .none, .str (.ofString "symspellpy.editdistance") (967:Nat), none, .ref (724:Nat), .none, (0:Nat)⟩
noncomputable abbrev fd_746 : FuncData := by
  refine (?f : (n : Str) → (a : Arguments) → (b : List Stmt) → (d : List Expr) → (r : Option Expr) → (t : List TypeParam) → (c : Scope) → (u : Option Scope) → (v : Str) → (p : Pos) → Stmt.FunctionDef n a b d r t c u v p = sd [18, 0] → FuncData) _ _ _ _ _ _ _ _ _ _ rfl
  exact fun n a b d r t c u v p h => ⟨.ofString "__init__", .ofString "Levenshtein.__init__", a, .stmts b, c, (3:Nat), [], .none, .none, .none, .str (.ofString "symspellpy.editdistance") (967:Nat), none, .ref (745:Nat), .none, (0:Nat)⟩
noncomputable abbrev fd_751 : FuncData := by
  refine (?f : (n : Str) → (a : Arguments) → (b : List Stmt) → (d : List Expr) → (r : Option Expr) → (t : List TypeParam) → (c : Scope) → (u : Option Scope) → (v : Str) → (p : Pos) → Stmt.FunctionDef n a b d r t c u v p = sd [18, 1] → FuncData) _ _ _ _ _ _ _ _ _ _ rfl
  exact fun n a b d r t c u v p h => ⟨.ofString "distance", .ofString "Levenshtein.distance", a, .stmts b, c, (3:Nat), [], .none, .none, .none, .str (.ofString "symspellpy.editdistance") (967:Nat), none, .ref (750:Nat), .none, (0:Nat)⟩
noncomputable abbrev fd_756 : FuncData := by
  refine (?f : (n : Str) → (a : Arguments) → (b : List Stmt) → (d : List Expr) → (r : Option Expr) → (t : List TypeParam) → (c : Scope) → (u : Option Scope) → (v : Str) → (p : Pos) → Stmt.FunctionDef n a b d r t c u v p = sd [18, 2] → FuncData) _ _ _ _ _ _ _ _ _ _ rfl
  exact fun n a b d r t c u v p h => ⟨.ofString "_distance", .ofString "Levenshtein._distance", a, .stmts b, c, (3:Nat), [], .none, .none, .none, .str (.ofString "symspellpy.editdistance") (967:Nat), some (759:Nat), .ref (755:Nat), .none, (0:Nat)⟩
noncomputable abbrev fd_764 : FuncData := by
  refine (?f : (n : Str) → (a : Arguments) → (b : List Stmt) → (d : List Expr) → (r : Option Expr) → (t : List TypeParam) → (c : Scope) → (u : Option Scope) → (v : Str) → (p : Pos) → Stmt.FunctionDef n a b d r t c u v p = sd [18, 3] → FuncData) _ _ _ _ _ _ _ _ _ _ rfl
  exact fun n a b d r t c u v p h => ⟨.ofString "_distance_max", .ofString "Levenshtein._distance_max", a, .stmts b, c, (3:Nat), [], .none, .none, .none, .str (.ofString "symspellpy.editdistance") (967:Nat), some (767:Nat), .ref (763:Nat), .none, (0:Nat)⟩
noncomputable abbrev fd_786 : FuncData := by
  refine (?f : (n : Str) → (a : Arguments) → (b : List Stmt) → (d : List Expr) → (r : Option Expr) → (t : List TypeParam) → (c : Scope) → (u : Option Scope) → (v : Str) → (p : Pos) → Stmt.FunctionDef n a b d r t c u v p = sd [19, 0] → FuncData) _ _ _ _ _ _ _ _ _ _ rfl
  exact fun n a b d r t c u v p h => ⟨.ofString "__init__", .ofString "DamerauOsa.__init__", a, .stmts b, c, (3:Nat), [], .none, .none, .none, .str (.ofString "symspellpy.editdistance") (967:Nat), none, .ref (785:Nat), .none, (0:Nat)⟩
noncomputable abbrev fd_791 : FuncData := by
  refine (?f : (n : Str) → (a : Arguments) → (b : List Stmt) → (d : List Expr) → (r : Option Expr) → (t : List TypeParam) → (c : Scope) → (u : Option Scope) → (v : Str) → (p : Pos) → Stmt.FunctionDef n a b d r t c u v p = sd [19, 1] → FuncData) _ _ _ _ _ _ _ _ _ _ rfl
  exact fun n a b d r t c u v p h => ⟨.ofString "distance", .ofString "DamerauOsa.distance", a, .stmts b, c, (3:Nat), [], .none, .none, .none, .str (.ofString "symspellpy.editdistance") (967:Nat), none, .ref (790:Nat), .none, (0:Nat)⟩
noncomputable abbrev fd_796 : FuncData := by
  refine (?f : (n : Str) → (a : Arguments) → (b : List Stmt) → (d : List Expr) → (r : Option Expr) → (t : List TypeParam) → (c : Scope) → (u : Option Scope) → (v : Str) → (p : Pos) → Stmt.FunctionDef n a b d r t c u v p = sd [19, 2] → FuncData) _ _ _ _ _ _ _ _ _ _ rfl
  exact fun n a b d r t c u v p h => ⟨.ofString "_distance", .ofString "DamerauOsa._distance", a, .stmts b, c, (3:Nat), [], .none, .none, .none, .str (.ofString "symspellpy.editdistance") (967:Nat), some (799:Nat), .ref (795:Nat), .none, (0:Nat)⟩
noncomputable abbrev fd_804 : FuncData := by
  refine (?f : (n : Str) → (a : Arguments) → (b : List Stmt) → (d : List Expr) → (r : Option Expr) → (t : List TypeParam) → (c : Scope) → (u : Option Scope) → (v : Str) → (p : Pos) → Stmt.FunctionDef n a b d r t c u v p = sd [19, 3] → FuncData) _ _ _ _ _ _ _ _ _ _ rfl
  exact fun n a b d r t c u v p h => ⟨.ofString "_distance_max", .ofString "DamerauOsa._distance_max", a, .stmts b, c, (3:Nat), [], .none, .none, .none, .str (.ofString "symspellpy.editdistance") (967:Nat), some (807:Nat), .ref (803:Nat), .none, (0:Nat)⟩
noncomputable abbrev fd_819 : FuncData := by
  refine (?f : (n : Str) → (a : Arguments) → (b : List Stmt) → (d : List Expr) → (r : Option Expr) → (t : List TypeParam) → (c : Scope) → (u : Option Scope) → (v : Str) → (p : Pos) → Stmt.FunctionDef n a b d r t c u v p = sd [22] → FuncData) _ _ _ _ _ _ _ _ _ _ rfl
  exact fun n a b d r t c u v p h => ⟨.ofString "_law_at", .ofString "_law_at", a, .stmts b, c, (3:Nat), [], .none, .none, .none, .str (.ofString "law_db5021_01") (1375:Nat), none, .ref (818:Nat), .none, (0:Nat)⟩
noncomputable abbrev fd_826 : FuncData := by
  refine (?f : (n : Str) → (a : Arguments) → (b : List Stmt) → (d : List Expr) → (r : Option Expr) → (t : List TypeParam) → (c : Scope) → (u : Option Scope) → (v : Str) → (p : Pos) → Stmt.FunctionDef n a b d r t c u v p = sd [23] → FuncData) _ _ _ _ _ _ _ _ _ _ rfl
  exact fun n a b d r t c u v p h => ⟨.ofString "_law_text", .ofString "_law_text", a, .stmts b, c, (3:Nat), [], .none, .none, .none, .str (.ofString "law_db5021_01") (1375:Nat), none, .ref (825:Nat), .none, (0:Nat)⟩
noncomputable abbrev fd_833 : FuncData := by
  refine (?f : (n : Str) → (a : Arguments) → (b : List Stmt) → (d : List Expr) → (r : Option Expr) → (t : List TypeParam) → (c : Scope) → (u : Option Scope) → (v : Str) → (p : Pos) → Stmt.FunctionDef n a b d r t c u v p = sd [24] → FuncData) _ _ _ _ _ _ _ _ _ _ rfl
  exact fun n a b d r t c u v p h => ⟨.ofString "_law_turned", .ofString "_law_turned", a, .stmts b, c, (3:Nat), [], .none, .none, .none, .str (.ofString "law_db5021_01") (1375:Nat), none, .ref (832:Nat), .none, (0:Nat)⟩
noncomputable abbrev fd_838 : FuncData := by
  refine (?f : (n : Str) → (a : Arguments) → (b : List Stmt) → (d : List Expr) → (r : Option Expr) → (t : List TypeParam) → (c : Scope) → (u : Option Scope) → (v : Str) → (p : Pos) → Stmt.FunctionDef n a b d r t c u v p = sd [25] → FuncData) _ _ _ _ _ _ _ _ _ _ rfl
  exact fun n a b d r t c u v p h => ⟨.ofString "_law_table", .ofString "_law_table", a, .stmts b, c, (3:Nat), [], .none, .none, .none, .str (.ofString "law_db5021_01") (1375:Nat), none, .ref (837:Nat), .none, (0:Nat)⟩
noncomputable abbrev fd_845 : FuncData := by
  refine (?f : (n : Str) → (a : Arguments) → (b : List Stmt) → (d : List Expr) → (r : Option Expr) → (t : List TypeParam) → (c : Scope) → (u : Option Scope) → (v : Str) → (p : Pos) → Stmt.FunctionDef n a b d r t c u v p = sd [26] → FuncData) _ _ _ _ _ _ _ _ _ _ rfl
  exact fun n a b d r t c u v p h => ⟨.ofString "law", .ofString "law", a, .stmts b, c, (3:Nat), [], .none, .none, .none, .str (.ofString "law_db5021_01") (1375:Nat), none, .ref (844:Nat), .none, (0:Nat)⟩
noncomputable def heap_39 : Params → Frag := fun P => ((nat_lit 2, ⟨.none, none, .dict #[] (0:Nat), #[]⟩) ::
 (nat_lit 3, ⟨.type "dict", none, .dict #[⟨PySem.PyData.keyHash P (.ofString "__name__"), .str (.ofString "__name__") (165:Nat), .str (.ofString "law_db5021_01") (1375:Nat)⟩, ⟨PySem.PyData.keyHash P (.ofString "__doc__"), .str (.ofString "__doc__") (166:Nat), .none⟩, ⟨PySem.PyData.keyHash P (.ofString "__package__"), .str (.ofString "__package__") (167:Nat), .none⟩, ⟨PySem.PyData.keyHash P (.ofString "__loader__"), .str (.ofString "__loader__") (168:Nat), .builtin "__main__.__loader__#opaque"⟩, ⟨PySem.PyData.keyHash P (.ofString "__spec__"), .str (.ofString "__spec__") (169:Nat), .none⟩, ⟨PySem.PyData.keyHash P (.ofString "__annotations__"), .str (.ofString "__annotations__") (170:Nat), .ref (6:Nat)⟩, ⟨PySem.PyData.keyHash P (.ofString "__builtins__"), .str (.ofString "__builtins__") (171:Nat), .ref (4:Nat)⟩, ⟨PySem.PyData.keyHash P (.ofString "__file__"), .str (.ofString "__file__") (173:Nat), .str (.ofString "/claim/cut.py") (172:Nat)⟩, ⟨PySem.PyData.keyHash P (.ofString "__cached__"), .str (.ofString "__cached__") (174:Nat), .none⟩, ⟨PySem.PyData.keyHash P (.ofString "_wall"), .str (.ofString "_wall") (193:Nat), .ref (21:Nat)⟩, ⟨PySem.PyData.keyHash P (.ofString "null_distance_results"), .str (.ofString "null_distance_results") (204:Nat), .ref (28:Nat)⟩, ⟨PySem.PyData.keyHash P (.ofString "prefix_suffix_prep"), .str (.ofString "prefix_suffix_prep") (215:Nat), .ref (35:Nat)⟩, ⟨PySem.PyData.keyHash P (.ofString "AbstractDistanceComparer"), .str (.ofString "AbstractDistanceComparer") (247:Nat), .ref (52:Nat)⟩, ⟨PySem.PyData.keyHash P (.ofString "_OWN_NAMES"), .str (.ofString "_OWN_NAMES") (255:Nat), .ref (57:Nat)⟩, ⟨PySem.PyData.keyHash P (.ofString "mappingproxy"), .str (.ofString "mappingproxy") (463:Nat), .ref (238:Nat)⟩, ⟨PySem.PyData.keyHash P (.ofString "_MEMBERS_VIEW"), .str (.ofString "_MEMBERS_VIEW") (464:Nat), .ref (238:Nat)⟩, ⟨PySem.PyData.keyHash P (.ofString "EnumType"), .str (.ofString "EnumType") (724:Nat), .ref (454:Nat)⟩, ⟨PySem.PyData.keyHash P (.ofString "_EnumField"), .str (.ofString "_EnumField") (779:Nat), .ref (496:Nat)⟩, ⟨PySem.PyData.keyHash P (.ofString "Enum"), .str (.ofString "Enum") (966:Nat), .ref (620:Nat)⟩, ⟨PySem.PyData.keyHash P (.ofString "DistanceAlgorithm"), .str (.ofString "DistanceAlgorithm") (1014:Nat), .ref (643:Nat)⟩, ⟨PySem.PyData.keyHash P (.ofString "_lay_DistanceAlgorithm"), .str (.ofString "_lay_DistanceAlgorithm") (1030:Nat), .ref (656:Nat)⟩, ⟨PySem.PyData.keyHash P (.ofString "EditDistance"), .str (.ofString "EditDistance") (1241:Nat), .ref (728:Nat)⟩, ⟨PySem.PyData.keyHash P (.ofString "Levenshtein"), .str (.ofString "Levenshtein") (1307:Nat), .ref (770:Nat)⟩, ⟨PySem.PyData.keyHash P (.ofString "DamerauOsa"), .str (.ofString "DamerauOsa") (1374:Nat), .ref (810:Nat)⟩, ⟨PySem.PyData.keyHash P (.ofString "_law_SIGNS"), .str (.ofString "_law_SIGNS") (1378:Nat), .str (.ofString "abc ") (1377:Nat)⟩, ⟨PySem.PyData.keyHash P (.ofString "_law_at"), .str (.ofString "_law_at") (1386:Nat), .ref (819:Nat)⟩, ⟨PySem.PyData.keyHash P (.ofString "_law_text"), .str (.ofString "_law_text") (1398:Nat), .ref (826:Nat)⟩, ⟨PySem.PyData.keyHash P (.ofString "_law_turned"), .str (.ofString "_law_turned") (1413:Nat), .ref (833:Nat)⟩, ⟨PySem.PyData.keyHash P (.ofString "_law_table"), .str (.ofString "_law_table") (1419:Nat), .ref (838:Nat)⟩, ⟨PySem.PyData.keyHash P (.ofString "law"), .str (.ofString "law") (1440:Nat), .ref (845:Nat)⟩] (30:Nat), #[]⟩) ::
 (nat_lit 15, ⟨.type "tuple", none, .seq #[] (0:Nat), #[]⟩) ::
 (nat_lit 17, ⟨.type "tuple", none, .seq #[.str (.ofString "k") (190:Nat)] (0:Nat), #[]⟩) ::
 (nat_lit 18, ⟨.type "tuple", none, .seq #[] (0:Nat), #[]⟩) ::
 (nat_lit 20, ⟨.type "code", none, .fields #[.str (.ofString "_wall") (187:Nat), .str (.ofString "_wall") (188:Nat), .str (.ofString "/claim/cut.py") (189:Nat), .int (1:Int) (0:Nat), .int (1:Int) (0:Nat), .int (0:Int) (0:Nat), .int (0:Int) (0:Nat), .int (3:Int) (0:Nat), .ref (15:Nat), .bool .true, .int (181:Int) (0:Nat), .ref (16:Nat), .none, .ref (17:Nat), .ref (18:Nat), .ref (19:Nat), .int (191:Int) (0:Nat), .int (1:Int) (0:Nat), .str (.ofString "/claim/cut.py") (192:Nat)], #[]⟩) ::
 (nat_lit 21, ⟨.type "function", none, .func fd_21, #[]⟩) ::
 (nat_lit 22, ⟨.type "tuple", none, .seq #[] (0:Nat), #[]⟩) ::
 (nat_lit 24, ⟨.type "tuple", none, .seq #[.str (.ofString "string_1") (199:Nat), .str (.ofString "string_2") (200:Nat), .str (.ofString "max_distance") (201:Nat)] (0:Nat), #[]⟩) ::
 (nat_lit 25, ⟨.type "tuple", none, .seq #[] (0:Nat), #[]⟩) ::
 (nat_lit 27, ⟨.type "code", none, .fields #[.str (.ofString "null_distance_results") (196:Nat), .str (.ofString "null_distance_results") (197:Nat), .str (.ofString "/claim/cut.py") (198:Nat), .int (5:Int) (0:Nat), .int (3:Int) (0:Nat), .int (0:Int) (0:Nat), .int (0:Int) (0:Nat), .int (3:Int) (0:Nat), .ref (22:Nat), .bool .true, .int (181:Int) (0:Nat), .ref (23:Nat), .none, .ref (24:Nat), .ref (25:Nat), .ref (26:Nat), .int (202:Int) (0:Nat), .int (5:Int) (0:Nat), .str (.ofString "/claim/cut.py") (203:Nat)], #[]⟩) ::
 (nat_lit 28, ⟨.type "function", none, .func fd_28, #[]⟩) ::
 (nat_lit 29, ⟨.type "tuple", none, .seq #[] (0:Nat), #[]⟩) ::
 (nat_lit 31, ⟨.type "tuple", none, .seq #[.str (.ofString "string_1") (208:Nat), .str (.ofString "string_2") (209:Nat), .str (.ofString "len_1") (210:Nat), .str (.ofString "len_2") (211:Nat), .str (.ofString "start") (212:Nat)] (0:Nat), #[]⟩) ::
 (nat_lit 32, ⟨.type "tuple", none, .seq #[] (0:Nat), #[]⟩) ::
 (nat_lit 34, ⟨.type "code", none, .fields #[.str (.ofString "prefix_suffix_prep") (205:Nat), .str (.ofString "prefix_suffix_prep") (206:Nat), .str (.ofString "/claim/cut.py") (207:Nat), .int (11:Int) (0:Nat), .int (2:Int) (0:Nat), .int (0:Int) (0:Nat), .int (0:Int) (0:Nat), .int (3:Int) (0:Nat), .ref (29:Nat), .bool .true, .int (181:Int) (0:Nat), .ref (30:Nat), .none, .ref (31:Nat), .ref (32:Nat), .ref (33:Nat), .int (213:Int) (0:Nat), .int (11:Int) (0:Nat), .str (.ofString "/claim/cut.py") (214:Nat)], #[]⟩) ::
 (nat_lit 35, ⟨.type "function", none, .func fd_35, #[]⟩) ::
 (nat_lit 43, ⟨.type "tuple", none, .seq #[] (0:Nat), #[]⟩) ::
 (nat_lit 45, ⟨.type "tuple", none, .seq #[.str (.ofString "self") (233:Nat), .str (.ofString "string_1") (234:Nat), .str (.ofString "string_2") (235:Nat), .str (.ofString "max_distance") (236:Nat)] (0:Nat), #[]⟩) ::
 (nat_lit 46, ⟨.type "tuple", none, .seq #[] (0:Nat), #[]⟩) ::
 (nat_lit 48, ⟨.type "code", none, .fields #[.str (.ofString "distance") (230:Nat), .str (.ofString "AbstractDistanceComparer.distance") (231:Nat), .str (.ofString "/claim/cut.py") (232:Nat), .int (27:Int) (0:Nat), .int (4:Int) (0:Nat), .int (0:Int) (0:Nat), .int (0:Int) (0:Nat), .int (3:Int) (0:Nat), .ref (43:Nat), .bool .true, .int (181:Int) (0:Nat), .ref (44:Nat), .none, .ref (45:Nat), .ref (46:Nat), .ref (47:Nat), .int (237:Int) (0:Nat), .int (27:Int) (0:Nat), .str (.ofString "/claim/cut.py") (238:Nat)], #[]⟩) ::
 (nat_lit 49, ⟨.type "function", none, .func fd_49, #[]⟩) ::
 (nat_lit 50, ⟨.type "tuple", none, .seq #[] (0:Nat), #[]⟩) ::
 (nat_lit 51, ⟨.type "dict", none, .dict #[⟨PySem.PyData.keyHash P (.ofString "__module__"), .str (.ofString "__module__") (225:Nat), .str (.ofString "symspellpy.abstract_distance_comparer") (216:Nat)⟩, ⟨PySem.PyData.keyHash P (.ofString "__firstlineno__"), .str (.ofString "__firstlineno__") (229:Nat), .int (25:Int) (228:Nat)⟩, ⟨PySem.PyData.keyHash P (.ofString "distance"), .str (.ofString "distance") (239:Nat), .ref (49:Nat)⟩, ⟨PySem.PyData.keyHash P (.ofString "__static_attributes__"), .str (.ofString "__static_attributes__") (240:Nat), .ref (50:Nat)⟩, ⟨PySem.PyData.keyHash P (.ofString "__dict__"), .str (.ofString "__dict__") (242:Nat), .ref (53:Nat)⟩, ⟨PySem.PyData.keyHash P (.ofString "__weakref__"), .str (.ofString "__weakref__") (244:Nat), .ref (54:Nat)⟩, ⟨PySem.PyData.keyHash P (.ofString "__doc__"), .str (.ofString "__doc__") (245:Nat), .none⟩] (4:Nat), #[]⟩) ::
 (nat_lit 52, ⟨.type "type", none, .cls ⟨.ofString "AbstractDistanceComparer", [.type "object"], [.ref (52:Nat), .type "object"], (51:Nat), .ofString "AbstractDistanceComparer", .true, [], [.ref (770:Nat), .ref (810:Nat)], .false, none, .false⟩, #[none, none, some (.str (.ofString "AbstractDistanceComparer") (218:Nat)), some (.str (.ofString "AbstractDistanceComparer") (226:Nat)), some (.builtin "object.__new__"), some (.bool .true)]⟩) ::
 (nat_lit 53, ⟨.type "getset_descriptor", none, .fields #[.str (.ofString "__dict__") (241:Nat), .ref (52:Nat), .builtin "function.__dict__", .builtin "function.__dict__#set"], #[]⟩) ::
 (nat_lit 54, ⟨.type "getset_descriptor", none, .fields #[.str (.ofString "__weakref__") (243:Nat), .ref (52:Nat), .builtin "ExceptionGroup.__weakref__", .none], #[]⟩) ::
 (nat_lit 57, ⟨.type "tuple", none, .seq #[.str (.ofString "_written_out_") (250:Nat), .str (.ofString "_is_flag_") (251:Nat), .str (.ofString "_given_values_") (252:Nat), .str (.ofString "_held_init_") (253:Nat), .str (.ofString "_making_") (254:Nat)] (0:Nat), #[]⟩) ::
 (nat_lit 65, ⟨.type "tuple", none, .seq #[.str (.ofString "_mapping") (270:Nat)] (0:Nat), #[]⟩) ::
 (nat_lit 66, ⟨.type "tuple", none, .seq #[] (0:Nat), #[]⟩) ::
 (nat_lit 68, ⟨.type "tuple", none, .seq #[.str (.ofString "cls") (275:Nat), .str (.ofString "mapping") (276:Nat), .str (.ofString "self") (277:Nat)] (0:Nat), #[]⟩) ::
 (nat_lit 69, ⟨.type "tuple", none, .seq #[] (0:Nat), #[]⟩) ::
 (nat_lit 71, ⟨.type "code", none, .fields #[.str (.ofString "__new__") (272:Nat), .str (.ofString "mappingproxy.__new__") (273:Nat), .str (.ofString "/claim/cut.py") (274:Nat), .int (35:Int) (0:Nat), .int (2:Int) (0:Nat), .int (0:Int) (0:Nat), .int (0:Int) (0:Nat), .int (3:Int) (0:Nat), .ref (66:Nat), .bool .true, .int (181:Int) (0:Nat), .ref (67:Nat), .none, .ref (68:Nat), .ref (69:Nat), .ref (70:Nat), .int (278:Int) (0:Nat), .int (35:Int) (0:Nat), .str (.ofString "/claim/cut.py") (279:Nat)], #[]⟩) ::
 (nat_lit 72, ⟨.type "function", none, .func fd_72, #[]⟩) ::
 (nat_lit 73, ⟨.type "tuple", none, .seq #[] (0:Nat), #[]⟩) ::
 (nat_lit 75, ⟨.type "tuple", none, .seq #[.str (.ofString "self") (284:Nat), .str (.ofString "protocol") (285:Nat)] (0:Nat), #[]⟩) ::
 (nat_lit 76, ⟨.type "tuple", none, .seq #[] (0:Nat), #[]⟩) ::
 (nat_lit 78, ⟨.type "code", none, .fields #[.str (.ofString "__reduce_ex__") (281:Nat), .str (.ofString "mappingproxy.__reduce_ex__") (282:Nat), .str (.ofString "/claim/cut.py") (283:Nat), .int (42:Int) (0:Nat), .int (2:Int) (0:Nat), .int (0:Int) (0:Nat), .int (0:Int) (0:Nat), .int (3:Int) (0:Nat), .ref (73:Nat), .bool .true, .int (181:Int) (0:Nat), .ref (74:Nat), .none, .ref (75:Nat), .ref (76:Nat), .ref (77:Nat), .int (286:Int) (0:Nat), .int (42:Int) (0:Nat), .str (.ofString "/claim/cut.py") (287:Nat)], #[]⟩) ::
 (nat_lit 79, ⟨.type "function", none, .func fd_79, #[]⟩) ::
 (nat_lit 80, ⟨.type "tuple", none, .seq #[] (0:Nat), #[]⟩) ::
 (nat_lit 82, ⟨.type "tuple", none, .seq #[.str (.ofString "self") (292:Nat), .str (.ofString "key") (293:Nat)] (0:Nat), #[]⟩) ::
 (nat_lit 83, ⟨.type "tuple", none, .seq #[] (0:Nat), #[]⟩) ::
 (nat_lit 85, ⟨.type "code", none, .fields #[.str (.ofString "__getitem__") (289:Nat), .str (.ofString "mappingproxy.__getitem__") (290:Nat), .str (.ofString "/claim/cut.py") (291:Nat), .int (45:Int) (0:Nat), .int (2:Int) (0:Nat), .int (0:Int) (0:Nat), .int (0:Int) (0:Nat), .int (3:Int) (0:Nat), .ref (80:Nat), .bool .true, .int (181:Int) (0:Nat), .ref (81:Nat), .none, .ref (82:Nat), .ref (83:Nat), .ref (84:Nat), .int (294:Int) (0:Nat), .int (45:Int) (0:Nat), .str (.ofString "/claim/cut.py") (295:Nat)], #[]⟩) ::
 (nat_lit 86, ⟨.type "function", none, .func fd_86, #[]⟩) ::
 (nat_lit 87, ⟨.type "tuple", none, .seq #[] (0:Nat), #[]⟩) ::
 (nat_lit 89, ⟨.type "tuple", none, .seq #[.str (.ofString "self") (300:Nat)] (0:Nat), #[]⟩) ::
 (nat_lit 90, ⟨.type "tuple", none, .seq #[] (0:Nat), #[]⟩) ::
 (nat_lit 92, ⟨.type "code", none, .fields #[.str (.ofString "__len__") (297:Nat), .str (.ofString "mappingproxy.__len__") (298:Nat), .str (.ofString "/claim/cut.py") (299:Nat), .int (48:Int) (0:Nat), .int (1:Int) (0:Nat), .int (0:Int) (0:Nat), .int (0:Int) (0:Nat), .int (3:Int) (0:Nat), .ref (87:Nat), .bool .true, .int (181:Int) (0:Nat), .ref (88:Nat), .none, .ref (89:Nat), .ref (90:Nat), .ref (91:Nat), .int (301:Int) (0:Nat), .int (48:Int) (0:Nat), .str (.ofString "/claim/cut.py") (302:Nat)], #[]⟩) ::
 (nat_lit 93, ⟨.type "function", none, .func fd_93, #[]⟩) ::
 (nat_lit 94, ⟨.type "tuple", none, .seq #[] (0:Nat), #[]⟩) ::
 (nat_lit 96, ⟨.type "tuple", none, .seq #[.str (.ofString "self") (307:Nat)] (0:Nat), #[]⟩) ::
 (nat_lit 97, ⟨.type "tuple", none, .seq #[] (0:Nat), #[]⟩) ::
 (nat_lit 99, ⟨.type "code", none, .fields #[.str (.ofString "__iter__") (304:Nat), .str (.ofString "mappingproxy.__iter__") (305:Nat), .str (.ofString "/claim/cut.py") (306:Nat), .int (51:Int) (0:Nat), .int (1:Int) (0:Nat), .int (0:Int) (0:Nat), .int (0:Int) (0:Nat), .int (3:Int) (0:Nat), .ref (94:Nat), .bool .true, .int (181:Int) (0:Nat), .ref (95:Nat), .none, .ref (96:Nat), .ref (97:Nat), .ref (98:Nat), .int (308:Int) (0:Nat), .int (51:Int) (0:Nat), .str (.ofString "/claim/cut.py") (309:Nat)], #[]⟩) ::
 (nat_lit 100, ⟨.type "function", none, .func fd_100, #[]⟩) ::
 (nat_lit 101, ⟨.type "tuple", none, .seq #[] (0:Nat), #[]⟩) ::
 (nat_lit 103, ⟨.type "tuple", none, .seq #[.str (.ofString "self") (314:Nat)] (0:Nat), #[]⟩) ::
 (nat_lit 104, ⟨.type "tuple", none, .seq #[] (0:Nat), #[]⟩) ::
 (nat_lit 106, ⟨.type "code", none, .fields #[.str (.ofString "__reversed__") (311:Nat), .str (.ofString "mappingproxy.__reversed__") (312:Nat), .str (.ofString "/claim/cut.py") (313:Nat), .int (54:Int) (0:Nat), .int (1:Int) (0:Nat), .int (0:Int) (0:Nat), .int (0:Int) (0:Nat), .int (3:Int) (0:Nat), .ref (101:Nat), .bool .true, .int (181:Int) (0:Nat), .ref (102:Nat), .none, .ref (103:Nat), .ref (104:Nat), .ref (105:Nat), .int (315:Int) (0:Nat), .int (54:Int) (0:Nat), .str (.ofString "/claim/cut.py") (316:Nat)], #[]⟩) ::
 (nat_lit 107, ⟨.type "function", none, .func fd_107, #[]⟩) ::
 (nat_lit 108, ⟨.type "tuple", none, .seq #[] (0:Nat), #[]⟩) ::
 (nat_lit 110, ⟨.type "tuple", none, .seq #[.str (.ofString "self") (321:Nat), .str (.ofString "key") (322:Nat)] (0:Nat), #[]⟩) ::
 (nat_lit 111, ⟨.type "tuple", none, .seq #[] (0:Nat), #[]⟩) ::
 (nat_lit 113, ⟨.type "code", none, .fields #[.str (.ofString "__contains__") (318:Nat), .str (.ofString "mappingproxy.__contains__") (319:Nat), .str (.ofString "/claim/cut.py") (320:Nat), .int (57:Int) (0:Nat), .int (2:Int) (0:Nat), .int (0:Int) (0:Nat), .int (0:Int) (0:Nat), .int (3:Int) (0:Nat), .ref (108:Nat), .bool .true, .int (181:Int) (0:Nat), .ref (109:Nat), .none, .ref (110:Nat), .ref (111:Nat), .ref (112:Nat), .int (323:Int) (0:Nat), .int (57:Int) (0:Nat), .str (.ofString "/claim/cut.py") (324:Nat)], #[]⟩) ::
 (nat_lit 114, ⟨.type "function", none, .func fd_114, #[]⟩) ::
 (nat_lit 115, ⟨.type "tuple", none, .seq #[] (0:Nat), #[]⟩) ::
 (nat_lit 117, ⟨.type "tuple", none, .seq #[.str (.ofString "self") (329:Nat)] (0:Nat), #[]⟩) ::
 (nat_lit 118, ⟨.type "tuple", none, .seq #[] (0:Nat), #[]⟩) ::
 (nat_lit 120, ⟨.type "code", none, .fields #[.str (.ofString "__repr__") (326:Nat), .str (.ofString "mappingproxy.__repr__") (327:Nat), .str (.ofString "/claim/cut.py") (328:Nat), .int (60:Int) (0:Nat), .int (1:Int) (0:Nat), .int (0:Int) (0:Nat), .int (0:Int) (0:Nat), .int (3:Int) (0:Nat), .ref (115:Nat), .bool .true, .int (181:Int) (0:Nat), .ref (116:Nat), .none, .ref (117:Nat), .ref (118:Nat), .ref (119:Nat), .int (330:Int) (0:Nat), .int (60:Int) (0:Nat), .str (.ofString "/claim/cut.py") (331:Nat)], #[]⟩) ::
 (nat_lit 121, ⟨.type "function", none, .func fd_121, #[]⟩) ::
 (nat_lit 122, ⟨.type "tuple", none, .seq #[] (0:Nat), #[]⟩) ::
 (nat_lit 124, ⟨.type "tuple", none, .seq #[.str (.ofString "self") (336:Nat)] (0:Nat), #[]⟩) ::
 (nat_lit 125, ⟨.type "tuple", none, .seq #[] (0:Nat), #[]⟩) ::
 (nat_lit 127, ⟨.type "code", none, .fields #[.str (.ofString "__str__") (333:Nat), .str (.ofString "mappingproxy.__str__") (334:Nat), .str (.ofString "/claim/cut.py") (335:Nat), .int (63:Int) (0:Nat), .int (1:Int) (0:Nat), .int (0:Int) (0:Nat), .int (0:Int) (0:Nat), .int (3:Int) (0:Nat), .ref (122:Nat), .bool .true, .int (181:Int) (0:Nat), .ref (123:Nat), .none, .ref (124:Nat), .ref (125:Nat), .ref (126:Nat), .int (337:Int) (0:Nat), .int (63:Int) (0:Nat), .str (.ofString "/claim/cut.py") (338:Nat)], #[]⟩) ::
 (nat_lit 128, ⟨.type "function", none, .func fd_128, #[]⟩) ::
 (nat_lit 129, ⟨.type "tuple", none, .seq #[] (0:Nat), #[]⟩) ::
 (nat_lit 131, ⟨.type "tuple", none, .seq #[.str (.ofString "self") (343:Nat), .str (.ofString "other") (344:Nat)] (0:Nat), #[]⟩) ::
 (nat_lit 132, ⟨.type "tuple", none, .seq #[] (0:Nat), #[]⟩) ::
 (nat_lit 134, ⟨.type "code", none, .fields #[.str (.ofString "__eq__") (340:Nat), .str (.ofString "mappingproxy.__eq__") (341:Nat), .str (.ofString "/claim/cut.py") (342:Nat), .int (66:Int) (0:Nat), .int (2:Int) (0:Nat), .int (0:Int) (0:Nat), .int (0:Int) (0:Nat), .int (3:Int) (0:Nat), .ref (129:Nat), .bool .true, .int (181:Int) (0:Nat), .ref (130:Nat), .none, .ref (131:Nat), .ref (132:Nat), .ref (133:Nat), .int (345:Int) (0:Nat), .int (66:Int) (0:Nat), .str (.ofString "/claim/cut.py") (346:Nat)], #[]⟩) ::
 (nat_lit 135, ⟨.type "function", none, .func fd_135, #[]⟩) ::
 (nat_lit 136, ⟨.type "tuple", none, .seq #[] (0:Nat), #[]⟩) ::
 (nat_lit 138, ⟨.type "tuple", none, .seq #[.str (.ofString "self") (351:Nat), .str (.ofString "other") (352:Nat)] (0:Nat), #[]⟩) ::
 (nat_lit 139, ⟨.type "tuple", none, .seq #[] (0:Nat), #[]⟩) ::
 (nat_lit 141, ⟨.type "code", none, .fields #[.str (.ofString "__ne__") (348:Nat), .str (.ofString "mappingproxy.__ne__") (349:Nat), .str (.ofString "/claim/cut.py") (350:Nat), .int (69:Int) (0:Nat), .int (2:Int) (0:Nat), .int (0:Int) (0:Nat), .int (0:Int) (0:Nat), .int (3:Int) (0:Nat), .ref (136:Nat), .bool .true, .int (181:Int) (0:Nat), .ref (137:Nat), .none, .ref (138:Nat), .ref (139:Nat), .ref (140:Nat), .int (353:Int) (0:Nat), .int (69:Int) (0:Nat), .str (.ofString "/claim/cut.py") (354:Nat)], #[]⟩) ::
 (nat_lit 142, ⟨.type "function", none, .func fd_142, #[]⟩) ::
 (nat_lit 143, ⟨.type "tuple", none, .seq #[] (0:Nat), #[]⟩) ::
 (nat_lit 145, ⟨.type "tuple", none, .seq #[.str (.ofString "self") (359:Nat), .str (.ofString "other") (360:Nat)] (0:Nat), #[]⟩) ::
 (nat_lit 146, ⟨.type "tuple", none, .seq #[] (0:Nat), #[]⟩) ::
 (nat_lit 148, ⟨.type "code", none, .fields #[.str (.ofString "__lt__") (356:Nat), .str (.ofString "mappingproxy.__lt__") (357:Nat), .str (.ofString "/claim/cut.py") (358:Nat), .int (72:Int) (0:Nat), .int (2:Int) (0:Nat), .int (0:Int) (0:Nat), .int (0:Int) (0:Nat), .int (3:Int) (0:Nat), .ref (143:Nat), .bool .true, .int (181:Int) (0:Nat), .ref (144:Nat), .none, .ref (145:Nat), .ref (146:Nat), .ref (147:Nat), .int (361:Int) (0:Nat), .int (72:Int) (0:Nat), .str (.ofString "/claim/cut.py") (362:Nat)], #[]⟩) ::
 (nat_lit 149, ⟨.type "function", none, .func fd_149, #[]⟩) ::
 (nat_lit 150, ⟨.type "tuple", none, .seq #[] (0:Nat), #[]⟩) ::
 (nat_lit 152, ⟨.type "tuple", none, .seq #[.str (.ofString "self") (367:Nat), .str (.ofString "other") (368:Nat)] (0:Nat), #[]⟩) ::
 (nat_lit 153, ⟨.type "tuple", none, .seq #[] (0:Nat), #[]⟩) ::
 (nat_lit 155, ⟨.type "code", none, .fields #[.str (.ofString "__le__") (364:Nat), .str (.ofString "mappingproxy.__le__") (365:Nat), .str (.ofString "/claim/cut.py") (366:Nat), .int (75:Int) (0:Nat), .int (2:Int) (0:Nat), .int (0:Int) (0:Nat), .int (0:Int) (0:Nat), .int (3:Int) (0:Nat), .ref (150:Nat), .bool .true, .int (181:Int) (0:Nat), .ref (151:Nat), .none, .ref (152:Nat), .ref (153:Nat), .ref (154:Nat), .int (369:Int) (0:Nat), .int (75:Int) (0:Nat), .str (.ofString "/claim/cut.py") (370:Nat)], #[]⟩) ::
 (nat_lit 156, ⟨.type "function", none, .func fd_156, #[]⟩) ::
 (nat_lit 157, ⟨.type "tuple", none, .seq #[] (0:Nat), #[]⟩) ::
 (nat_lit 159, ⟨.type "tuple", none, .seq #[.str (.ofString "self") (375:Nat), .str (.ofString "other") (376:Nat)] (0:Nat), #[]⟩) ::
 (nat_lit 160, ⟨.type "tuple", none, .seq #[] (0:Nat), #[]⟩) ::
 (nat_lit 162, ⟨.type "code", none, .fields #[.str (.ofString "__gt__") (372:Nat), .str (.ofString "mappingproxy.__gt__") (373:Nat), .str (.ofString "/claim/cut.py") (374:Nat), .int (78:Int) (0:Nat), .int (2:Int) (0:Nat), .int (0:Int) (0:Nat), .int (0:Int) (0:Nat), .int (3:Int) (0:Nat), .ref (157:Nat), .bool .true, .int (181:Int) (0:Nat), .ref (158:Nat), .none, .ref (159:Nat), .ref (160:Nat), .ref (161:Nat), .int (377:Int) (0:Nat), .int (78:Int) (0:Nat), .str (.ofString "/claim/cut.py") (378:Nat)], #[]⟩) ::
 (nat_lit 163, ⟨.type "function", none, .func fd_163, #[]⟩) ::
 (nat_lit 164, ⟨.type "tuple", none, .seq #[] (0:Nat), #[]⟩) ::
 (nat_lit 166, ⟨.type "tuple", none, .seq #[.str (.ofString "self") (383:Nat), .str (.ofString "other") (384:Nat)] (0:Nat), #[]⟩) ::
 (nat_lit 167, ⟨.type "tuple", none, .seq #[] (0:Nat), #[]⟩) ::
 (nat_lit 169, ⟨.type "code", none, .fields #[.str (.ofString "__ge__") (380:Nat), .str (.ofString "mappingproxy.__ge__") (381:Nat), .str (.ofString "/claim/cut.py") (382:Nat), .int (81:Int) (0:Nat), .int (2:Int) (0:Nat), .int (0:Int) (0:Nat), .int (0:Int) (0:Nat), .int (3:Int) (0:Nat), .ref (164:Nat), .bool .true, .int (181:Int) (0:Nat), .ref (165:Nat), .none, .ref (166:Nat), .ref (167:Nat), .ref (168:Nat), .int (385:Int) (0:Nat), .int (81:Int) (0:Nat), .str (.ofString "/claim/cut.py") (386:Nat)], #[]⟩) ::
 (nat_lit 170, ⟨.type "function", none, .func fd_170, #[]⟩) ::
 (nat_lit 171, ⟨.type "tuple", none, .seq #[] (0:Nat), #[]⟩) ::
 (nat_lit 173, ⟨.type "tuple", none, .seq #[.str (.ofString "self") (391:Nat)] (0:Nat), #[]⟩) ::
 (nat_lit 174, ⟨.type "tuple", none, .seq #[] (0:Nat), #[]⟩) ::
 (nat_lit 176, ⟨.type "code", none, .fields #[.str (.ofString "__hash__") (388:Nat), .str (.ofString "mappingproxy.__hash__") (389:Nat), .str (.ofString "/claim/cut.py") (390:Nat), .int (84:Int) (0:Nat), .int (1:Int) (0:Nat), .int (0:Int) (0:Nat), .int (0:Int) (0:Nat), .int (3:Int) (0:Nat), .ref (171:Nat), .bool .true, .int (181:Int) (0:Nat), .ref (172:Nat), .none, .ref (173:Nat), .ref (174:Nat), .ref (175:Nat), .int (392:Int) (0:Nat), .int (84:Int) (0:Nat), .str (.ofString "/claim/cut.py") (393:Nat)], #[]⟩) ::
 (nat_lit 177, ⟨.type "function", none, .func fd_177, #[]⟩) ::
 (nat_lit 178, ⟨.type "tuple", none, .seq #[] (0:Nat), #[]⟩) ::
 (nat_lit 180, ⟨.type "tuple", none, .seq #[.str (.ofString "self") (398:Nat), .str (.ofString "other") (399:Nat)] (0:Nat), #[]⟩) ::
 (nat_lit 181, ⟨.type "tuple", none, .seq #[] (0:Nat), #[]⟩) ::
 (nat_lit 183, ⟨.type "code", none, .fields #[.str (.ofString "__or__") (395:Nat), .str (.ofString "mappingproxy.__or__") (396:Nat), .str (.ofString "/claim/cut.py") (397:Nat), .int (87:Int) (0:Nat), .int (2:Int) (0:Nat), .int (0:Int) (0:Nat), .int (0:Int) (0:Nat), .int (3:Int) (0:Nat), .ref (178:Nat), .bool .true, .int (181:Int) (0:Nat), .ref (179:Nat), .none, .ref (180:Nat), .ref (181:Nat), .ref (182:Nat), .int (400:Int) (0:Nat), .int (87:Int) (0:Nat), .str (.ofString "/claim/cut.py") (401:Nat)], #[]⟩) ::
 (nat_lit 184, ⟨.type "function", none, .func fd_184, #[]⟩) ::
 (nat_lit 185, ⟨.type "tuple", none, .seq #[] (0:Nat), #[]⟩) ::
 (nat_lit 187, ⟨.type "tuple", none, .seq #[.str (.ofString "self") (406:Nat), .str (.ofString "other") (407:Nat)] (0:Nat), #[]⟩) ::
 (nat_lit 188, ⟨.type "tuple", none, .seq #[] (0:Nat), #[]⟩) ::
 (nat_lit 190, ⟨.type "code", none, .fields #[.str (.ofString "__ror__") (403:Nat), .str (.ofString "mappingproxy.__ror__") (404:Nat), .str (.ofString "/claim/cut.py") (405:Nat), .int (92:Int) (0:Nat), .int (2:Int) (0:Nat), .int (0:Int) (0:Nat), .int (0:Int) (0:Nat), .int (3:Int) (0:Nat), .ref (185:Nat), .bool .true, .int (181:Int) (0:Nat), .ref (186:Nat), .none, .ref (187:Nat), .ref (188:Nat), .ref (189:Nat), .int (408:Int) (0:Nat), .int (92:Int) (0:Nat), .str (.ofString "/claim/cut.py") (409:Nat)], #[]⟩) ::
 (nat_lit 191, ⟨.type "function", none, .func fd_191, #[]⟩) ::
 (nat_lit 192, ⟨.type "tuple", none, .seq #[] (0:Nat), #[]⟩) ::
 (nat_lit 194, ⟨.type "tuple", none, .seq #[.str (.ofString "self") (414:Nat), .str (.ofString "other") (415:Nat)] (0:Nat), #[]⟩) ::
 (nat_lit 195, ⟨.type "tuple", none, .seq #[] (0:Nat), #[]⟩) ::
 (nat_lit 197, ⟨.type "code", none, .fields #[.str (.ofString "__ior__") (411:Nat), .str (.ofString "mappingproxy.__ior__") (412:Nat), .str (.ofString "/claim/cut.py") (413:Nat), .int (95:Int) (0:Nat), .int (2:Int) (0:Nat), .int (0:Int) (0:Nat), .int (0:Int) (0:Nat), .int (3:Int) (0:Nat), .ref (192:Nat), .bool .true, .int (181:Int) (0:Nat), .ref (193:Nat), .none, .ref (194:Nat), .ref (195:Nat), .ref (196:Nat), .int (416:Int) (0:Nat), .int (95:Int) (0:Nat), .str (.ofString "/claim/cut.py") (417:Nat)], #[]⟩) ::
 (nat_lit 198, ⟨.type "function", none, .func fd_198, #[]⟩) ::
 (nat_lit 199, ⟨.type "tuple", none, .seq #[.none] (0:Nat), #[]⟩) ::
 (nat_lit 200, ⟨.type "tuple", none, .seq #[] (0:Nat), #[]⟩) ::
 (nat_lit 202, ⟨.type "tuple", none, .seq #[.str (.ofString "self") (422:Nat), .str (.ofString "key") (423:Nat), .str (.ofString "default") (424:Nat)] (0:Nat), #[]⟩) ::
 (nat_lit 203, ⟨.type "tuple", none, .seq #[] (0:Nat), #[]⟩) ::
 (nat_lit 205, ⟨.type "code", none, .fields #[.str (.ofString "get") (419:Nat), .str (.ofString "mappingproxy.get") (420:Nat), .str (.ofString "/claim/cut.py") (421:Nat), .int (98:Int) (0:Nat), .int (3:Int) (0:Nat), .int (3:Int) (0:Nat), .int (0:Int) (0:Nat), .int (3:Int) (0:Nat), .ref (200:Nat), .bool .true, .int (181:Int) (0:Nat), .ref (201:Nat), .none, .ref (202:Nat), .ref (203:Nat), .ref (204:Nat), .int (425:Int) (0:Nat), .int (98:Int) (0:Nat), .str (.ofString "/claim/cut.py") (426:Nat)], #[]⟩) ::
 (nat_lit 206, ⟨.type "function", none, .func fd_206, #[]⟩) ::
 (nat_lit 207, ⟨.type "tuple", none, .seq #[] (0:Nat), #[]⟩) ::
 (nat_lit 209, ⟨.type "tuple", none, .seq #[.str (.ofString "self") (431:Nat)] (0:Nat), #[]⟩) ::
 (nat_lit 210, ⟨.type "tuple", none, .seq #[] (0:Nat), #[]⟩) ::
 (nat_lit 212, ⟨.type "code", none, .fields #[.str (.ofString "keys") (428:Nat), .str (.ofString "mappingproxy.keys") (429:Nat), .str (.ofString "/claim/cut.py") (430:Nat), .int (101:Int) (0:Nat), .int (1:Int) (0:Nat), .int (0:Int) (0:Nat), .int (0:Int) (0:Nat), .int (3:Int) (0:Nat), .ref (207:Nat), .bool .true, .int (181:Int) (0:Nat), .ref (208:Nat), .none, .ref (209:Nat), .ref (210:Nat), .ref (211:Nat), .int (432:Int) (0:Nat), .int (101:Int) (0:Nat), .str (.ofString "/claim/cut.py") (433:Nat)], #[]⟩) ::
 (nat_lit 213, ⟨.type "function", none, .func fd_213, #[]⟩) ::
 (nat_lit 214, ⟨.type "tuple", none, .seq #[] (0:Nat), #[]⟩) ::
 (nat_lit 216, ⟨.type "tuple", none, .seq #[.str (.ofString "self") (438:Nat)] (0:Nat), #[]⟩) ::
 (nat_lit 217, ⟨.type "tuple", none, .seq #[] (0:Nat), #[]⟩) ::
 (nat_lit 219, ⟨.type "code", none, .fields #[.str (.ofString "values") (435:Nat), .str (.ofString "mappingproxy.values") (436:Nat), .str (.ofString "/claim/cut.py") (437:Nat), .int (104:Int) (0:Nat), .int (1:Int) (0:Nat), .int (0:Int) (0:Nat), .int (0:Int) (0:Nat), .int (3:Int) (0:Nat), .ref (214:Nat), .bool .true, .int (181:Int) (0:Nat), .ref (215:Nat), .none, .ref (216:Nat), .ref (217:Nat), .ref (218:Nat), .int (439:Int) (0:Nat), .int (104:Int) (0:Nat), .str (.ofString "/claim/cut.py") (440:Nat)], #[]⟩) ::
 (nat_lit 220, ⟨.type "function", none, .func fd_220, #[]⟩) ::
 (nat_lit 221, ⟨.type "tuple", none, .seq #[] (0:Nat), #[]⟩) ::
 (nat_lit 223, ⟨.type "tuple", none, .seq #[.str (.ofString "self") (445:Nat)] (0:Nat), #[]⟩) ::
 (nat_lit 224, ⟨.type "tuple", none, .seq #[] (0:Nat), #[]⟩) ::
 (nat_lit 226, ⟨.type "code", none, .fields #[.str (.ofString "items") (442:Nat), .str (.ofString "mappingproxy.items") (443:Nat), .str (.ofString "/claim/cut.py") (444:Nat), .int (107:Int) (0:Nat), .int (1:Int) (0:Nat), .int (0:Int) (0:Nat), .int (0:Int) (0:Nat), .int (3:Int) (0:Nat), .ref (221:Nat), .bool .true, .int (181:Int) (0:Nat), .ref (222:Nat), .none, .ref (223:Nat), .ref (224:Nat), .ref (225:Nat), .int (446:Int) (0:Nat), .int (107:Int) (0:Nat), .str (.ofString "/claim/cut.py") (447:Nat)], #[]⟩) ::
 (nat_lit 227, ⟨.type "function", none, .func fd_227, #[]⟩) ::
 (nat_lit 228, ⟨.type "tuple", none, .seq #[] (0:Nat), #[]⟩) ::
 (nat_lit 230, ⟨.type "tuple", none, .seq #[.str (.ofString "self") (452:Nat)] (0:Nat), #[]⟩) ::
 (nat_lit 231, ⟨.type "tuple", none, .seq #[] (0:Nat), #[]⟩) ::
 (nat_lit 233, ⟨.type "code", none, .fields #[.str (.ofString "copy") (449:Nat), .str (.ofString "mappingproxy.copy") (450:Nat), .str (.ofString "/claim/cut.py") (451:Nat), .int (110:Int) (0:Nat), .int (1:Int) (0:Nat), .int (0:Int) (0:Nat), .int (0:Int) (0:Nat), .int (3:Int) (0:Nat), .ref (228:Nat), .bool .true, .int (181:Int) (0:Nat), .ref (229:Nat), .none, .ref (230:Nat), .ref (231:Nat), .ref (232:Nat), .int (453:Int) (0:Nat), .int (110:Int) (0:Nat), .str (.ofString "/claim/cut.py") (454:Nat)], #[]⟩) ::
 (nat_lit 234, ⟨.type "function", none, .func fd_234, #[]⟩) ::
 (nat_lit 235, ⟨.type "tuple", none, .seq #[.str (.ofString "_mapping") (456:Nat)] (0:Nat), #[]⟩) ::
 (nat_lit 237, ⟨.type "dict", none, .dict #[⟨PySem.PyData.keyHash P (.ofString "__module__"), .str (.ofString "__module__") (263:Nat), .str (.ofString "builtins") (268:Nat)⟩, ⟨PySem.PyData.keyHash P (.ofString "__firstlineno__"), .str (.ofString "__firstlineno__") (267:Nat), .int (31:Int) (266:Nat)⟩, ⟨PySem.PyData.keyHash P (.ofString "__slots__"), .str (.ofString "__slots__") (271:Nat), .ref (65:Nat)⟩, ⟨PySem.PyData.keyHash P (.ofString "__new__"), .str (.ofString "__new__") (280:Nat), .ref (239:Nat)⟩, ⟨PySem.PyData.keyHash P (.ofString "__reduce_ex__"), .str (.ofString "__reduce_ex__") (288:Nat), .ref (79:Nat)⟩, ⟨PySem.PyData.keyHash P (.ofString "__getitem__"), .str (.ofString "__getitem__") (296:Nat), .ref (86:Nat)⟩, ⟨PySem.PyData.keyHash P (.ofString "__len__"), .str (.ofString "__len__") (303:Nat), .ref (93:Nat)⟩, ⟨PySem.PyData.keyHash P (.ofString "__iter__"), .str (.ofString "__iter__") (310:Nat), .ref (100:Nat)⟩, ⟨PySem.PyData.keyHash P (.ofString "__reversed__"), .str (.ofString "__reversed__") (317:Nat), .ref (107:Nat)⟩, ⟨PySem.PyData.keyHash P (.ofString "__contains__"), .str (.ofString "__contains__") (325:Nat), .ref (114:Nat)⟩, ⟨PySem.PyData.keyHash P (.ofString "__repr__"), .str (.ofString "__repr__") (332:Nat), .ref (121:Nat)⟩, ⟨PySem.PyData.keyHash P (.ofString "__str__"), .str (.ofString "__str__") (339:Nat), .ref (128:Nat)⟩, ⟨PySem.PyData.keyHash P (.ofString "__eq__"), .str (.ofString "__eq__") (347:Nat), .ref (135:Nat)⟩, ⟨PySem.PyData.keyHash P (.ofString "__ne__"), .str (.ofString "__ne__") (355:Nat), .ref (142:Nat)⟩, ⟨PySem.PyData.keyHash P (.ofString "__lt__"), .str (.ofString "__lt__") (363:Nat), .ref (149:Nat)⟩, ⟨PySem.PyData.keyHash P (.ofString "__le__"), .str (.ofString "__le__") (371:Nat), .ref (156:Nat)⟩, ⟨PySem.PyData.keyHash P (.ofString "__gt__"), .str (.ofString "__gt__") (379:Nat), .ref (163:Nat)⟩, ⟨PySem.PyData.keyHash P (.ofString "__ge__"), .str (.ofString "__ge__") (387:Nat), .ref (170:Nat)⟩, ⟨PySem.PyData.keyHash P (.ofString "__hash__"), .str (.ofString "__hash__") (394:Nat), .ref (177:Nat)⟩, ⟨PySem.PyData.keyHash P (.ofString "__or__"), .str (.ofString "__or__") (402:Nat), .ref (184:Nat)⟩, ⟨PySem.PyData.keyHash P (.ofString "__ror__"), .str (.ofString "__ror__") (410:Nat), .ref (191:Nat)⟩, ⟨PySem.PyData.keyHash P (.ofString "__ior__"), .str (.ofString "__ior__") (418:Nat), .ref (198:Nat)⟩, ⟨PySem.PyData.keyHash P (.ofString "get"), .str (.ofString "get") (427:Nat), .ref (206:Nat)⟩, ⟨PySem.PyData.keyHash P (.ofString "keys"), .str (.ofString "keys") (434:Nat), .ref (213:Nat)⟩, ⟨PySem.PyData.keyHash P (.ofString "values"), .str (.ofString "values") (441:Nat), .ref (220:Nat)⟩, ⟨PySem.PyData.keyHash P (.ofString "items"), .str (.ofString "items") (448:Nat), .ref (227:Nat)⟩, ⟨PySem.PyData.keyHash P (.ofString "copy"), .str (.ofString "copy") (455:Nat), .ref (234:Nat)⟩, ⟨PySem.PyData.keyHash P (.ofString "__static_attributes__"), .str (.ofString "__static_attributes__") (457:Nat), .ref (235:Nat)⟩, ⟨PySem.PyData.keyHash P (.ofString "_mapping"), .str (.ofString "_mapping") (460:Nat), .ref (240:Nat)⟩, ⟨PySem.PyData.keyHash P (.ofString "__doc__"), .str (.ofString "__doc__") (461:Nat), .none⟩] (3:Nat), #[]⟩) ::
 (nat_lit 238, ⟨.type "type", none, .cls ⟨.ofString "mappingproxy", [.type "object"], [.ref (238:Nat), .type "object"], (237:Nat), .ofString "mappingproxy", .false, [.ofString "_mapping"], [], .false, none, .false⟩, #[none, none, some (.str (.ofString "mappingproxy") (256:Nat)), some (.str (.ofString "mappingproxy") (264:Nat)), some .none, some (.bool .false)]⟩) ::
 (nat_lit 239, ⟨.type "staticmethod", none, .fields #[.ref (72:Nat)], #[]⟩) ::
 (nat_lit 240, ⟨.type "member_descriptor", none, .fields #[.str (.ofString "_mapping") (459:Nat), .ref (238:Nat), .builtin "proto.slot", .builtin "proto.slot#set", .int (0:Int) (0:Nat)], #[]⟩) ::
 (nat_lit 243, ⟨.type "tuple", none, .seq #[.type "type"] (0:Nat), #[]⟩) ::
 (nat_lit 246, ⟨.type "cell", none, .cell (some (.ref (454:Nat))), #[]⟩) ::
 (nat_lit 251, ⟨.type "tuple", none, .seq #[.ref (246:Nat)] (0:Nat), #[]⟩) ::
 (nat_lit 252, ⟨.type "tuple", none, .seq #[.str (.ofString "__class__") (484:Nat)] (0:Nat), #[]⟩) ::
 (nat_lit 254, ⟨.type "tuple", none, .seq #[.str (.ofString "metacls") (485:Nat), .str (.ofString "cls") (486:Nat), .str (.ofString "bases") (487:Nat), .str (.ofString "classdict") (488:Nat), .str (.ofString "kwds") (489:Nat), .str (.ofString "made") (490:Nat)] (0:Nat), #[]⟩) ::
 (nat_lit 255, ⟨.type "tuple", none, .seq #[] (0:Nat), #[]⟩) ::
 (nat_lit 257, ⟨.type "code", none, .fields #[.str (.ofString "__new__") (481:Nat), .str (.ofString "EnumType.__new__") (482:Nat), .str (.ofString "/claim/cut.py") (483:Nat), .int (117:Int) (0:Nat), .int (4:Int) (0:Nat), .int (0:Int) (0:Nat), .int (0:Int) (0:Nat), .int (11:Int) (0:Nat), .ref (252:Nat), .bool .true, .int (181:Int) (0:Nat), .ref (253:Nat), .none, .ref (254:Nat), .ref (255:Nat), .ref (256:Nat), .int (491:Int) (0:Nat), .int (117:Int) (0:Nat), .str (.ofString "/claim/cut.py") (492:Nat)], #[]⟩) ::
 (nat_lit 258, ⟨.type "function", none, .func fd_258, #[]⟩) ::
 (nat_lit 259, ⟨.type "tuple", none, .seq #[] (0:Nat), #[]⟩) ::
 (nat_lit 261, ⟨.type "tuple", none, .seq #[.str (.ofString "cls") (497:Nat), .str (.ofString "own_init") (498:Nat), .str (.ofString "asks_new") (499:Nat)] (0:Nat), #[]⟩) ::
 (nat_lit 262, ⟨.type "tuple", none, .seq #[] (0:Nat), #[]⟩) ::
 (nat_lit 264, ⟨.type "code", none, .fields #[.str (.ofString "_planted_") (494:Nat), .str (.ofString "EnumType._planted_") (495:Nat), .str (.ofString "/claim/cut.py") (496:Nat), .int (126:Int) (0:Nat), .int (3:Int) (0:Nat), .int (0:Int) (0:Nat), .int (0:Int) (0:Nat), .int (3:Int) (0:Nat), .ref (259:Nat), .bool .true, .int (181:Int) (0:Nat), .ref (260:Nat), .none, .ref (261:Nat), .ref (262:Nat), .ref (263:Nat), .int (500:Int) (0:Nat), .int (126:Int) (0:Nat), .str (.ofString "/claim/cut.py") (501:Nat)], #[]⟩) ::
 (nat_lit 265, ⟨.type "function", none, .func fd_265, #[]⟩) ::
 (nat_lit 266, ⟨.type "tuple", none, .seq #[] (0:Nat), #[]⟩) ::
 (nat_lit 268, ⟨.type "tuple", none, .seq #[.str (.ofString "cls") (506:Nat)] (0:Nat), #[]⟩) ::
 (nat_lit 269, ⟨.type "tuple", none, .seq #[] (0:Nat), #[]⟩) ::
 (nat_lit 271, ⟨.type "code", none, .fields #[.str (.ofString "_planted_at_") (503:Nat), .str (.ofString "EnumType._planted_at_") (504:Nat), .str (.ofString "/claim/cut.py") (505:Nat), .int (138:Int) (0:Nat), .int (1:Int) (0:Nat), .int (0:Int) (0:Nat), .int (0:Int) (0:Nat), .int (3:Int) (0:Nat), .ref (266:Nat), .bool .true, .int (181:Int) (0:Nat), .ref (267:Nat), .none, .ref (268:Nat), .ref (269:Nat), .ref (270:Nat), .int (507:Int) (0:Nat), .int (138:Int) (0:Nat), .str (.ofString "/claim/cut.py") (508:Nat)], #[]⟩) ::
 (nat_lit 272, ⟨.type "function", none, .func fd_272, #[]⟩) ::
 (nat_lit 273, ⟨.type "tuple", none, .seq #[] (0:Nat), #[]⟩) ::
 (nat_lit 275, ⟨.type "tuple", none, .seq #[.str (.ofString "cls") (513:Nat), .str (.ofString "value") (514:Nat), .str (.ofString "name") (515:Nat), .str (.ofString "data") (516:Nat)] (0:Nat), #[]⟩) ::
 (nat_lit 276, ⟨.type "tuple", none, .seq #[] (0:Nat), #[]⟩) ::
 (nat_lit 278, ⟨.type "code", none, .fields #[.str (.ofString "_held_value_") (510:Nat), .str (.ofString "EnumType._held_value_") (511:Nat), .str (.ofString "/claim/cut.py") (512:Nat), .int (141:Int) (0:Nat), .int (4:Int) (0:Nat), .int (0:Int) (0:Nat), .int (0:Int) (0:Nat), .int (3:Int) (0:Nat), .ref (273:Nat), .bool .true, .int (181:Int) (0:Nat), .ref (274:Nat), .none, .ref (275:Nat), .ref (276:Nat), .ref (277:Nat), .int (517:Int) (0:Nat), .int (141:Int) (0:Nat), .str (.ofString "/claim/cut.py") (518:Nat)], #[]⟩) ::
 (nat_lit 279, ⟨.type "function", none, .func fd_279, #[]⟩) ::
 (nat_lit 280, ⟨.type "tuple", none, .seq #[] (0:Nat), #[]⟩) ::
 (nat_lit 282, ⟨.type "tuple", none, .seq #[.str (.ofString "cls") (523:Nat), .str (.ofString "value") (524:Nat), .str (.ofString "member") (525:Nat), .str (.ofString "name") (526:Nat)] (0:Nat), #[]⟩) ::
 (nat_lit 283, ⟨.type "tuple", none, .seq #[] (0:Nat), #[]⟩) ::
 (nat_lit 285, ⟨.type "code", none, .fields #[.str (.ofString "_canonical_") (520:Nat), .str (.ofString "EnumType._canonical_") (521:Nat), .str (.ofString "/claim/cut.py") (522:Nat), .int (144:Int) (0:Nat), .int (4:Int) (0:Nat), .int (0:Int) (0:Nat), .int (0:Int) (0:Nat), .int (3:Int) (0:Nat), .ref (280:Nat), .bool .true, .int (181:Int) (0:Nat), .ref (281:Nat), .none, .ref (282:Nat), .ref (283:Nat), .ref (284:Nat), .int (527:Int) (0:Nat), .int (144:Int) (0:Nat), .str (.ofString "/claim/cut.py") (528:Nat)], #[]⟩) ::
 (nat_lit 286, ⟨.type "function", none, .func fd_286, #[]⟩) ::
 (nat_lit 287, ⟨.type "tuple", none, .seq #[] (0:Nat), #[]⟩) ::
 (nat_lit 289, ⟨.type "tuple", none, .seq #[.str (.ofString "cls") (533:Nat), .str (.ofString "value") (534:Nat), .str (.ofString "member") (535:Nat), .str (.ofString "name") (536:Nat)] (0:Nat), #[]⟩) ::
 (nat_lit 290, ⟨.type "tuple", none, .seq #[] (0:Nat), #[]⟩) ::
 (nat_lit 292, ⟨.type "code", none, .fields #[.str (.ofString "_book_value_") (530:Nat), .str (.ofString "EnumType._book_value_") (531:Nat), .str (.ofString "/claim/cut.py") (532:Nat), .int (147:Int) (0:Nat), .int (4:Int) (0:Nat), .int (0:Int) (0:Nat), .int (0:Int) (0:Nat), .int (3:Int) (0:Nat), .ref (287:Nat), .bool .true, .int (181:Int) (0:Nat), .ref (288:Nat), .none, .ref (289:Nat), .ref (290:Nat), .ref (291:Nat), .int (537:Int) (0:Nat), .int (147:Int) (0:Nat), .str (.ofString "/claim/cut.py") (538:Nat)], #[]⟩) ::
 (nat_lit 293, ⟨.type "function", none, .func fd_293, #[]⟩) ::
 (nat_lit 294, ⟨.type "tuple", none, .seq #[] (0:Nat), #[]⟩) ::
 (nat_lit 296, ⟨.type "tuple", none, .seq #[.str (.ofString "cls") (543:Nat), .str (.ofString "mixins") (544:Nat)] (0:Nat), #[]⟩) ::
 (nat_lit 297, ⟨.type "tuple", none, .seq #[] (0:Nat), #[]⟩) ::
 (nat_lit 299, ⟨.type "code", none, .fields #[.str (.ofString "_mixed_") (540:Nat), .str (.ofString "EnumType._mixed_") (541:Nat), .str (.ofString "/claim/cut.py") (542:Nat), .int (150:Int) (0:Nat), .int (2:Int) (0:Nat), .int (0:Int) (0:Nat), .int (0:Int) (0:Nat), .int (3:Int) (0:Nat), .ref (294:Nat), .bool .true, .int (181:Int) (0:Nat), .ref (295:Nat), .none, .ref (296:Nat), .ref (297:Nat), .ref (298:Nat), .int (545:Int) (0:Nat), .int (150:Int) (0:Nat), .str (.ofString "/claim/cut.py") (546:Nat)], #[]⟩) ::
 (nat_lit 300, ⟨.type "function", none, .func fd_300, #[]⟩) ::
 (nat_lit 301, ⟨.type "tuple", none, .seq #[] (0:Nat), #[]⟩) ::
 (nat_lit 303, ⟨.type "tuple", none, .seq #[.str (.ofString "cls") (551:Nat), .str (.ofString "value") (552:Nat), .str (.ofString "maker") (553:Nat)] (0:Nat), #[]⟩) ::
 (nat_lit 304, ⟨.type "tuple", none, .seq #[] (0:Nat), #[]⟩) ::
 (nat_lit 306, ⟨.type "code", none, .fields #[.str (.ofString "_held_def_") (548:Nat), .str (.ofString "EnumType._held_def_") (549:Nat), .str (.ofString "/claim/cut.py") (550:Nat), .int (153:Int) (0:Nat), .int (3:Int) (0:Nat), .int (0:Int) (0:Nat), .int (0:Int) (0:Nat), .int (3:Int) (0:Nat), .ref (301:Nat), .bool .true, .int (181:Int) (0:Nat), .ref (302:Nat), .none, .ref (303:Nat), .ref (304:Nat), .ref (305:Nat), .int (554:Int) (0:Nat), .int (153:Int) (0:Nat), .str (.ofString "/claim/cut.py") (555:Nat)], #[]⟩) ::
 (nat_lit 307, ⟨.type "function", none, .func fd_307, #[]⟩) ::
 (nat_lit 308, ⟨.type "tuple", none, .seq #[] (0:Nat), #[]⟩) ::
 (nat_lit 310, ⟨.type "tuple", none, .seq #[.str (.ofString "cls") (560:Nat)] (0:Nat), #[]⟩) ::
 (nat_lit 311, ⟨.type "tuple", none, .seq #[] (0:Nat), #[]⟩) ::
 (nat_lit 313, ⟨.type "code", none, .fields #[.str (.ofString "_closed_") (557:Nat), .str (.ofString "EnumType._closed_") (558:Nat), .str (.ofString "/claim/cut.py") (559:Nat), .int (156:Int) (0:Nat), .int (1:Int) (0:Nat), .int (0:Int) (0:Nat), .int (0:Int) (0:Nat), .int (3:Int) (0:Nat), .ref (308:Nat), .bool .true, .int (181:Int) (0:Nat), .ref (309:Nat), .none, .ref (310:Nat), .ref (311:Nat), .ref (312:Nat), .int (561:Int) (0:Nat), .int (156:Int) (0:Nat), .str (.ofString "/claim/cut.py") (562:Nat)], #[]⟩) ::
 (nat_lit 314, ⟨.type "function", none, .func fd_314, #[]⟩) ::
 (nat_lit 315, ⟨.type "tuple", none, .seq #[] (0:Nat), #[]⟩) ::
 (nat_lit 317, ⟨.type "tuple", none, .seq #[.str (.ofString "cls") (567:Nat), .str (.ofString "value") (568:Nat), .str (.ofString "data") (569:Nat)] (0:Nat), #[]⟩) ::
 (nat_lit 318, ⟨.type "tuple", none, .seq #[] (0:Nat), #[]⟩) ::
 (nat_lit 320, ⟨.type "code", none, .fields #[.str (.ofString "_held_auto_") (564:Nat), .str (.ofString "EnumType._held_auto_") (565:Nat), .str (.ofString "/claim/cut.py") (566:Nat), .int (159:Int) (0:Nat), .int (3:Int) (0:Nat), .int (0:Int) (0:Nat), .int (0:Int) (0:Nat), .int (3:Int) (0:Nat), .ref (315:Nat), .bool .true, .int (181:Int) (0:Nat), .ref (316:Nat), .none, .ref (317:Nat), .ref (318:Nat), .ref (319:Nat), .int (570:Int) (0:Nat), .int (159:Int) (0:Nat), .str (.ofString "/claim/cut.py") (571:Nat)], #[]⟩) ::
 (nat_lit 321, ⟨.type "function", none, .func fd_321, #[]⟩) ::
 (nat_lit 322, ⟨.type "tuple", none, .seq #[] (0:Nat), #[]⟩) ::
 (nat_lit 324, ⟨.type "tuple", none, .seq #[.str (.ofString "cls") (576:Nat)] (0:Nat), #[]⟩) ::
 (nat_lit 325, ⟨.type "tuple", none, .seq #[] (0:Nat), #[]⟩) ::
 (nat_lit 327, ⟨.type "code", none, .fields #[.str (.ofString "_unique_") (573:Nat), .str (.ofString "EnumType._unique_") (574:Nat), .str (.ofString "/claim/cut.py") (575:Nat), .int (162:Int) (0:Nat), .int (1:Int) (0:Nat), .int (0:Int) (0:Nat), .int (0:Int) (0:Nat), .int (3:Int) (0:Nat), .ref (322:Nat), .bool .true, .int (181:Int) (0:Nat), .ref (323:Nat), .none, .ref (324:Nat), .ref (325:Nat), .ref (326:Nat), .int (577:Int) (0:Nat), .int (162:Int) (0:Nat), .str (.ofString "/claim/cut.py") (578:Nat)], #[]⟩) ::
 (nat_lit 328, ⟨.type "function", none, .func fd_328, #[]⟩) ::
 (nat_lit 329, ⟨.type "tuple", none, .seq #[] (0:Nat), #[]⟩) ::
 (nat_lit 331, ⟨.type "tuple", none, .seq #[.str (.ofString "cls") (583:Nat)] (0:Nat), #[]⟩) ::
 (nat_lit 332, ⟨.type "tuple", none, .seq #[] (0:Nat), #[]⟩) ::
 (nat_lit 334, ⟨.type "code", none, .fields #[.str (.ofString "_close_") (580:Nat), .str (.ofString "EnumType._close_") (581:Nat), .str (.ofString "/claim/cut.py") (582:Nat), .int (165:Int) (0:Nat), .int (1:Int) (0:Nat), .int (0:Int) (0:Nat), .int (0:Int) (0:Nat), .int (3:Int) (0:Nat), .ref (329:Nat), .bool .true, .int (181:Int) (0:Nat), .ref (330:Nat), .none, .ref (331:Nat), .ref (332:Nat), .ref (333:Nat), .int (584:Int) (0:Nat), .int (165:Int) (0:Nat), .str (.ofString "/claim/cut.py") (585:Nat)], #[]⟩) ::
 (nat_lit 335, ⟨.type "function", none, .func fd_335, #[]⟩) ::
 (nat_lit 336, ⟨.type "tuple", none, .seq #[] (0:Nat), #[]⟩) ::
 (nat_lit 338, ⟨.type "tuple", none, .seq #[.str (.ofString "cls") (590:Nat), .str (.ofString "names") (591:Nat)] (0:Nat), #[]⟩) ::
 (nat_lit 339, ⟨.type "tuple", none, .seq #[] (0:Nat), #[]⟩) ::
 (nat_lit 341, ⟨.type "code", none, .fields #[.str (.ofString "_expect_") (587:Nat), .str (.ofString "EnumType._expect_") (588:Nat), .str (.ofString "/claim/cut.py") (589:Nat), .int (168:Int) (0:Nat), .int (2:Int) (0:Nat), .int (0:Int) (0:Nat), .int (0:Int) (0:Nat), .int (3:Int) (0:Nat), .ref (336:Nat), .bool .true, .int (181:Int) (0:Nat), .ref (337:Nat), .none, .ref (338:Nat), .ref (339:Nat), .ref (340:Nat), .int (592:Int) (0:Nat), .int (168:Int) (0:Nat), .str (.ofString "/claim/cut.py") (593:Nat)], #[]⟩) ::
 (nat_lit 342, ⟨.type "function", none, .func fd_342, #[]⟩) ::
 (nat_lit 343, ⟨.type "tuple", none, .seq #[] (0:Nat), #[]⟩) ::
 (nat_lit 345, ⟨.type "tuple", none, .seq #[.str (.ofString "cls") (598:Nat), .str (.ofString "data") (599:Nat), .str (.ofString "args") (600:Nat)] (0:Nat), #[]⟩) ::
 (nat_lit 346, ⟨.type "tuple", none, .seq #[] (0:Nat), #[]⟩) ::
 (nat_lit 348, ⟨.type "code", none, .fields #[.str (.ofString "_value_of_") (595:Nat), .str (.ofString "EnumType._value_of_") (596:Nat), .str (.ofString "/claim/cut.py") (597:Nat), .int (171:Int) (0:Nat), .int (3:Int) (0:Nat), .int (0:Int) (0:Nat), .int (0:Int) (0:Nat), .int (3:Int) (0:Nat), .ref (343:Nat), .bool .true, .int (181:Int) (0:Nat), .ref (344:Nat), .none, .ref (345:Nat), .ref (346:Nat), .ref (347:Nat), .int (601:Int) (0:Nat), .int (171:Int) (0:Nat), .str (.ofString "/claim/cut.py") (602:Nat)], #[]⟩) ::
 (nat_lit 349, ⟨.type "function", none, .func fd_349, #[]⟩) ::
 (nat_lit 350, ⟨.type "tuple", none, .seq #[] (0:Nat), #[]⟩) ::
 (nat_lit 352, ⟨.type "tuple", none, .seq #[.str (.ofString "cls") (607:Nat), .str (.ofString "value") (608:Nat)] (0:Nat), #[]⟩) ::
 (nat_lit 353, ⟨.type "tuple", none, .seq #[] (0:Nat), #[]⟩) ::
 (nat_lit 355, ⟨.type "code", none, .fields #[.str (.ofString "_args_of_") (604:Nat), .str (.ofString "EnumType._args_of_") (605:Nat), .str (.ofString "/claim/cut.py") (606:Nat), .int (174:Int) (0:Nat), .int (2:Int) (0:Nat), .int (0:Int) (0:Nat), .int (0:Int) (0:Nat), .int (3:Int) (0:Nat), .ref (350:Nat), .bool .true, .int (181:Int) (0:Nat), .ref (351:Nat), .none, .ref (352:Nat), .ref (353:Nat), .ref (354:Nat), .int (609:Int) (0:Nat), .int (174:Int) (0:Nat), .str (.ofString "/claim/cut.py") (610:Nat)], #[]⟩) ::
 (nat_lit 356, ⟨.type "function", none, .func fd_356, #[]⟩) ::
 (nat_lit 357, ⟨.type "tuple", none, .seq #[] (0:Nat), #[]⟩) ::
 (nat_lit 359, ⟨.type "tuple", none, .seq #[.str (.ofString "cls") (615:Nat)] (0:Nat), #[]⟩) ::
 (nat_lit 360, ⟨.type "tuple", none, .seq #[] (0:Nat), #[]⟩) ::
 (nat_lit 362, ⟨.type "code", none, .fields #[.str (.ofString "__bool__") (612:Nat), .str (.ofString "EnumType.__bool__") (613:Nat), .str (.ofString "/claim/cut.py") (614:Nat), .int (177:Int) (0:Nat), .int (1:Int) (0:Nat), .int (0:Int) (0:Nat), .int (0:Int) (0:Nat), .int (3:Int) (0:Nat), .ref (357:Nat), .bool .true, .int (181:Int) (0:Nat), .ref (358:Nat), .none, .ref (359:Nat), .ref (360:Nat), .ref (361:Nat), .int (616:Int) (0:Nat), .int (177:Int) (0:Nat), .str (.ofString "/claim/cut.py") (617:Nat)], #[]⟩) ::
 (nat_lit 363, ⟨.type "function", none, .func fd_363, #[]⟩) ::
 (nat_lit 364, ⟨.type "tuple", none, .seq #[] (0:Nat), #[]⟩) ::
 (nat_lit 366, ⟨.type "tuple", none, .seq #[.str (.ofString "cls") (622:Nat), .str (.ofString "values") (623:Nat), .str (.ofString "kwds") (624:Nat)] (0:Nat), #[]⟩) ::
 (nat_lit 367, ⟨.type "tuple", none, .seq #[] (0:Nat), #[]⟩) ::
 (nat_lit 369, ⟨.type "code", none, .fields #[.str (.ofString "__call__") (619:Nat), .str (.ofString "EnumType.__call__") (620:Nat), .str (.ofString "/claim/cut.py") (621:Nat), .int (180:Int) (0:Nat), .int (1:Int) (0:Nat), .int (0:Int) (0:Nat), .int (0:Int) (0:Nat), .int (15:Int) (0:Nat), .ref (364:Nat), .bool .true, .int (181:Int) (0:Nat), .ref (365:Nat), .none, .ref (366:Nat), .ref (367:Nat), .ref (368:Nat), .int (625:Int) (0:Nat), .int (180:Int) (0:Nat), .str (.ofString "/claim/cut.py") (626:Nat)], #[]⟩) ::
 (nat_lit 370, ⟨.type "function", none, .func fd_370, #[]⟩) ::
 (nat_lit 371, ⟨.type "tuple", none, .seq #[] (0:Nat), #[]⟩) ::
 (nat_lit 373, ⟨.type "tuple", none, .seq #[.str (.ofString "cls") (631:Nat), .str (.ofString "value") (632:Nat), .str (.ofString "result") (633:Nat)] (0:Nat), #[]⟩) ::
 (nat_lit 374, ⟨.type "tuple", none, .seq #[] (0:Nat), #[]⟩) ::
 (nat_lit 376, ⟨.type "code", none, .fields #[.str (.ofString "__contains__") (628:Nat), .str (.ofString "EnumType.__contains__") (629:Nat), .str (.ofString "/claim/cut.py") (630:Nat), .int (193:Int) (0:Nat), .int (2:Int) (0:Nat), .int (0:Int) (0:Nat), .int (0:Int) (0:Nat), .int (3:Int) (0:Nat), .ref (371:Nat), .bool .true, .int (181:Int) (0:Nat), .ref (372:Nat), .none, .ref (373:Nat), .ref (374:Nat), .ref (375:Nat), .int (634:Int) (0:Nat), .int (193:Int) (0:Nat), .str (.ofString "/claim/cut.py") (635:Nat)], #[]⟩) ::
 (nat_lit 377, ⟨.type "function", none, .func fd_377, #[]⟩) ::
 (nat_lit 378, ⟨.type "tuple", none, .seq #[] (0:Nat), #[]⟩) ::
 (nat_lit 380, ⟨.type "tuple", none, .seq #[.str (.ofString "cls") (640:Nat), .str (.ofString "name") (641:Nat)] (0:Nat), #[]⟩) ::
 (nat_lit 381, ⟨.type "tuple", none, .seq #[] (0:Nat), #[]⟩) ::
 (nat_lit 383, ⟨.type "code", none, .fields #[.str (.ofString "__getitem__") (637:Nat), .str (.ofString "EnumType.__getitem__") (638:Nat), .str (.ofString "/claim/cut.py") (639:Nat), .int (204:Int) (0:Nat), .int (2:Int) (0:Nat), .int (0:Int) (0:Nat), .int (0:Int) (0:Nat), .int (3:Int) (0:Nat), .ref (378:Nat), .bool .true, .int (181:Int) (0:Nat), .ref (379:Nat), .none, .ref (380:Nat), .ref (381:Nat), .ref (382:Nat), .int (642:Int) (0:Nat), .int (204:Int) (0:Nat), .str (.ofString "/claim/cut.py") (643:Nat)], #[]⟩) ::
 (nat_lit 384, ⟨.type "function", none, .func fd_384, #[]⟩) ::
 (nat_lit 385, ⟨.type "tuple", none, .seq #[] (0:Nat), #[]⟩) ::
 (nat_lit 387, ⟨.type "tuple", none, .seq #[.str (.ofString "cls") (648:Nat)] (0:Nat), #[]⟩) ::
 (nat_lit 388, ⟨.type "tuple", none, .seq #[.str (.ofString "cls") (649:Nat)] (0:Nat), #[]⟩) ::
 (nat_lit 390, ⟨.type "code", none, .fields #[.str (.ofString "__iter__") (645:Nat), .str (.ofString "EnumType.__iter__") (646:Nat), .str (.ofString "/claim/cut.py") (647:Nat), .int (207:Int) (0:Nat), .int (1:Int) (0:Nat), .int (0:Int) (0:Nat), .int (0:Int) (0:Nat), .int (3:Int) (0:Nat), .ref (385:Nat), .bool .true, .int (181:Int) (0:Nat), .ref (386:Nat), .none, .ref (387:Nat), .ref (388:Nat), .ref (389:Nat), .int (650:Int) (0:Nat), .int (207:Int) (0:Nat), .str (.ofString "/claim/cut.py") (651:Nat)], #[]⟩) ::
 (nat_lit 391, ⟨.type "function", none, .func fd_391, #[]⟩) ::
 (nat_lit 392, ⟨.type "tuple", none, .seq #[] (0:Nat), #[]⟩) ::
 (nat_lit 394, ⟨.type "tuple", none, .seq #[.str (.ofString "cls") (656:Nat)] (0:Nat), #[]⟩) ::
 (nat_lit 395, ⟨.type "tuple", none, .seq #[] (0:Nat), #[]⟩) ::
 (nat_lit 397, ⟨.type "code", none, .fields #[.str (.ofString "__len__") (653:Nat), .str (.ofString "EnumType.__len__") (654:Nat), .str (.ofString "/claim/cut.py") (655:Nat), .int (210:Int) (0:Nat), .int (1:Int) (0:Nat), .int (0:Int) (0:Nat), .int (0:Int) (0:Nat), .int (3:Int) (0:Nat), .ref (392:Nat), .bool .true, .int (181:Int) (0:Nat), .ref (393:Nat), .none, .ref (394:Nat), .ref (395:Nat), .ref (396:Nat), .int (657:Int) (0:Nat), .int (210:Int) (0:Nat), .str (.ofString "/claim/cut.py") (658:Nat)], #[]⟩) ::
 (nat_lit 398, ⟨.type "function", none, .func fd_398, #[]⟩) ::
 (nat_lit 399, ⟨.type "tuple", none, .seq #[] (0:Nat), #[]⟩) ::
 (nat_lit 401, ⟨.type "tuple", none, .seq #[.str (.ofString "cls") (663:Nat)] (0:Nat), #[]⟩) ::
 (nat_lit 402, ⟨.type "tuple", none, .seq #[] (0:Nat), #[]⟩) ::
 (nat_lit 404, ⟨.type "code", none, .fields #[.str (.ofString "__members__") (660:Nat), .str (.ofString "EnumType.__members__") (661:Nat), .str (.ofString "/claim/cut.py") (662:Nat), .int (213:Int) (0:Nat), .int (1:Int) (0:Nat), .int (0:Int) (0:Nat), .int (0:Int) (0:Nat), .int (3:Int) (0:Nat), .ref (399:Nat), .bool .true, .int (181:Int) (0:Nat), .ref (400:Nat), .none, .ref (401:Nat), .ref (402:Nat), .ref (403:Nat), .int (664:Int) (0:Nat), .int (213:Int) (0:Nat), .str (.ofString "/claim/cut.py") (665:Nat)], #[]⟩) ::
 (nat_lit 405, ⟨.type "function", none, .func fd_405, #[]⟩) ::
 (nat_lit 406, ⟨.type "property", none, .fields #[.ref (405:Nat), .none, .none, .none, .str (.ofString "__members__") (667:Nat), .bool .false], #[]⟩) ::
 (nat_lit 407, ⟨.type "tuple", none, .seq #[] (0:Nat), #[]⟩) ::
 (nat_lit 409, ⟨.type "tuple", none, .seq #[.str (.ofString "cls") (671:Nat)] (0:Nat), #[]⟩) ::
 (nat_lit 410, ⟨.type "tuple", none, .seq #[] (0:Nat), #[]⟩) ::
 (nat_lit 412, ⟨.type "code", none, .fields #[.str (.ofString "__repr__") (668:Nat), .str (.ofString "EnumType.__repr__") (669:Nat), .str (.ofString "/claim/cut.py") (670:Nat), .int (217:Int) (0:Nat), .int (1:Int) (0:Nat), .int (0:Int) (0:Nat), .int (0:Int) (0:Nat), .int (3:Int) (0:Nat), .ref (407:Nat), .bool .true, .int (181:Int) (0:Nat), .ref (408:Nat), .none, .ref (409:Nat), .ref (410:Nat), .ref (411:Nat), .int (672:Int) (0:Nat), .int (217:Int) (0:Nat), .str (.ofString "/claim/cut.py") (673:Nat)], #[]⟩) ::
 (nat_lit 413, ⟨.type "function", none, .func fd_413, #[]⟩) ::
 (nat_lit 414, ⟨.type "tuple", none, .seq #[] (0:Nat), #[]⟩) ::
 (nat_lit 416, ⟨.type "tuple", none, .seq #[.str (.ofString "cls") (678:Nat)] (0:Nat), #[]⟩) ::
 (nat_lit 417, ⟨.type "tuple", none, .seq #[.str (.ofString "cls") (679:Nat)] (0:Nat), #[]⟩) ::
 (nat_lit 419, ⟨.type "code", none, .fields #[.str (.ofString "__reversed__") (675:Nat), .str (.ofString "EnumType.__reversed__") (676:Nat), .str (.ofString "/claim/cut.py") (677:Nat), .int (223:Int) (0:Nat), .int (1:Int) (0:Nat), .int (0:Int) (0:Nat), .int (0:Int) (0:Nat), .int (3:Int) (0:Nat), .ref (414:Nat), .bool .true, .int (181:Int) (0:Nat), .ref (415:Nat), .none, .ref (416:Nat), .ref (417:Nat), .ref (418:Nat), .int (680:Int) (0:Nat), .int (223:Int) (0:Nat), .str (.ofString "/claim/cut.py") (681:Nat)], #[]⟩) ::
 (nat_lit 420, ⟨.type "function", none, .func fd_420, #[]⟩) ::
 (nat_lit 421, ⟨.type "tuple", none, .seq #[.ref (246:Nat)] (0:Nat), #[]⟩) ::
 (nat_lit 422, ⟨.type "tuple", none, .seq #[.str (.ofString "__class__") (686:Nat)] (0:Nat), #[]⟩) ::
 (nat_lit 424, ⟨.type "tuple", none, .seq #[.str (.ofString "cls") (687:Nat), .str (.ofString "name") (688:Nat), .str (.ofString "value") (689:Nat)] (0:Nat), #[]⟩) ::
 (nat_lit 425, ⟨.type "tuple", none, .seq #[] (0:Nat), #[]⟩) ::
 (nat_lit 427, ⟨.type "code", none, .fields #[.str (.ofString "__setattr__") (683:Nat), .str (.ofString "EnumType.__setattr__") (684:Nat), .str (.ofString "/claim/cut.py") (685:Nat), .int (226:Int) (0:Nat), .int (3:Int) (0:Nat), .int (0:Int) (0:Nat), .int (0:Int) (0:Nat), .int (3:Int) (0:Nat), .ref (422:Nat), .bool .true, .int (181:Int) (0:Nat), .ref (423:Nat), .none, .ref (424:Nat), .ref (425:Nat), .ref (426:Nat), .int (690:Int) (0:Nat), .int (226:Int) (0:Nat), .str (.ofString "/claim/cut.py") (691:Nat)], #[]⟩) ::
 (nat_lit 428, ⟨.type "function", none, .func fd_428, #[]⟩) ::
 (nat_lit 429, ⟨.type "tuple", none, .seq #[.ref (246:Nat)] (0:Nat), #[]⟩) ::
 (nat_lit 430, ⟨.type "tuple", none, .seq #[.str (.ofString "__class__") (696:Nat)] (0:Nat), #[]⟩) ::
 (nat_lit 432, ⟨.type "tuple", none, .seq #[.str (.ofString "cls") (697:Nat), .str (.ofString "attr") (698:Nat)] (0:Nat), #[]⟩) ::
 (nat_lit 433, ⟨.type "tuple", none, .seq #[] (0:Nat), #[]⟩) ::
 (nat_lit 435, ⟨.type "code", none, .fields #[.str (.ofString "__delattr__") (693:Nat), .str (.ofString "EnumType.__delattr__") (694:Nat), .str (.ofString "/claim/cut.py") (695:Nat), .int (233:Int) (0:Nat), .int (2:Int) (0:Nat), .int (0:Int) (0:Nat), .int (0:Int) (0:Nat), .int (3:Int) (0:Nat), .ref (430:Nat), .bool .true, .int (181:Int) (0:Nat), .ref (431:Nat), .none, .ref (432:Nat), .ref (433:Nat), .ref (434:Nat), .int (699:Int) (0:Nat), .int (233:Int) (0:Nat), .str (.ofString "/claim/cut.py") (700:Nat)], #[]⟩) ::
 (nat_lit 436, ⟨.type "function", none, .func fd_436, #[]⟩) ::
 (nat_lit 437, ⟨.type "tuple", none, .seq #[.ref (246:Nat)] (0:Nat), #[]⟩) ::
 (nat_lit 438, ⟨.type "tuple", none, .seq #[.str (.ofString "__class__") (705:Nat)] (0:Nat), #[]⟩) ::
 (nat_lit 440, ⟨.type "tuple", none, .seq #[.str (.ofString "cls") (706:Nat), .str (.ofString "name") (707:Nat), .str (.ofString "value") (708:Nat)] (0:Nat), #[]⟩) ::
 (nat_lit 441, ⟨.type "tuple", none, .seq #[] (0:Nat), #[]⟩) ::
 (nat_lit 443, ⟨.type "code", none, .fields #[.str (.ofString "_store_") (702:Nat), .str (.ofString "EnumType._store_") (703:Nat), .str (.ofString "/claim/cut.py") (704:Nat), .int (238:Int) (0:Nat), .int (3:Int) (0:Nat), .int (0:Int) (0:Nat), .int (0:Int) (0:Nat), .int (3:Int) (0:Nat), .ref (438:Nat), .bool .true, .int (181:Int) (0:Nat), .ref (439:Nat), .none, .ref (440:Nat), .ref (441:Nat), .ref (442:Nat), .int (709:Int) (0:Nat), .int (238:Int) (0:Nat), .str (.ofString "/claim/cut.py") (710:Nat)], #[]⟩) ::
 (nat_lit 444, ⟨.type "function", none, .func fd_444, #[]⟩) ::
 (nat_lit 445, ⟨.type "tuple", none, .seq #[] (0:Nat), #[]⟩) ::
 (nat_lit 447, ⟨.type "tuple", none, .seq #[.str (.ofString "cls") (715:Nat)] (0:Nat), #[]⟩) ::
 (nat_lit 448, ⟨.type "tuple", none, .seq #[] (0:Nat), #[]⟩) ::
 (nat_lit 450, ⟨.type "code", none, .fields #[.str (.ofString "__dir__") (712:Nat), .str (.ofString "EnumType.__dir__") (713:Nat), .str (.ofString "/claim/cut.py") (714:Nat), .int (241:Int) (0:Nat), .int (1:Int) (0:Nat), .int (0:Int) (0:Nat), .int (0:Int) (0:Nat), .int (3:Int) (0:Nat), .ref (445:Nat), .bool .true, .int (181:Int) (0:Nat), .ref (446:Nat), .none, .ref (447:Nat), .ref (448:Nat), .ref (449:Nat), .int (716:Int) (0:Nat), .int (241:Int) (0:Nat), .str (.ofString "/claim/cut.py") (717:Nat)], #[]⟩) ::
 (nat_lit 451, ⟨.type "function", none, .func fd_451, #[]⟩) ::
 (nat_lit 452, ⟨.type "tuple", none, .seq #[] (0:Nat), #[]⟩) ::
 (nat_lit 453, ⟨.type "dict", none, .dict #[⟨PySem.PyData.keyHash P (.ofString "__module__"), .str (.ofString "__module__") (472:Nat), .str (.ofString "enum") (477:Nat)⟩, ⟨PySem.PyData.keyHash P (.ofString "__firstlineno__"), .str (.ofString "__firstlineno__") (476:Nat), .int (113:Int) (475:Nat)⟩, ⟨PySem.PyData.keyHash P (.ofString "_written_out_"), .str (.ofString "_written_out_") (480:Nat), .int (0:Int) (479:Nat)⟩, ⟨PySem.PyData.keyHash P (.ofString "__new__"), .str (.ofString "__new__") (493:Nat), .ref (455:Nat)⟩, ⟨PySem.PyData.keyHash P (.ofString "_planted_"), .str (.ofString "_planted_") (502:Nat), .ref (265:Nat)⟩, ⟨PySem.PyData.keyHash P (.ofString "_planted_at_"), .str (.ofString "_planted_at_") (509:Nat), .ref (272:Nat)⟩, ⟨PySem.PyData.keyHash P (.ofString "_held_value_"), .str (.ofString "_held_value_") (519:Nat), .ref (279:Nat)⟩, ⟨PySem.PyData.keyHash P (.ofString "_canonical_"), .str (.ofString "_canonical_") (529:Nat), .ref (286:Nat)⟩, ⟨PySem.PyData.keyHash P (.ofString "_book_value_"), .str (.ofString "_book_value_") (539:Nat), .ref (293:Nat)⟩, ⟨PySem.PyData.keyHash P (.ofString "_mixed_"), .str (.ofString "_mixed_") (547:Nat), .ref (300:Nat)⟩, ⟨PySem.PyData.keyHash P (.ofString "_held_def_"), .str (.ofString "_held_def_") (556:Nat), .ref (307:Nat)⟩, ⟨PySem.PyData.keyHash P (.ofString "_closed_"), .str (.ofString "_closed_") (563:Nat), .ref (314:Nat)⟩, ⟨PySem.PyData.keyHash P (.ofString "_held_auto_"), .str (.ofString "_held_auto_") (572:Nat), .ref (321:Nat)⟩, ⟨PySem.PyData.keyHash P (.ofString "_unique_"), .str (.ofString "_unique_") (579:Nat), .ref (328:Nat)⟩, ⟨PySem.PyData.keyHash P (.ofString "_close_"), .str (.ofString "_close_") (586:Nat), .ref (335:Nat)⟩, ⟨PySem.PyData.keyHash P (.ofString "_expect_"), .str (.ofString "_expect_") (594:Nat), .ref (342:Nat)⟩, ⟨PySem.PyData.keyHash P (.ofString "_value_of_"), .str (.ofString "_value_of_") (603:Nat), .ref (349:Nat)⟩, ⟨PySem.PyData.keyHash P (.ofString "_args_of_"), .str (.ofString "_args_of_") (611:Nat), .ref (356:Nat)⟩, ⟨PySem.PyData.keyHash P (.ofString "__bool__"), .str (.ofString "__bool__") (618:Nat), .ref (363:Nat)⟩, ⟨PySem.PyData.keyHash P (.ofString "__call__"), .str (.ofString "__call__") (627:Nat), .ref (370:Nat)⟩, ⟨PySem.PyData.keyHash P (.ofString "__contains__"), .str (.ofString "__contains__") (636:Nat), .ref (377:Nat)⟩, ⟨PySem.PyData.keyHash P (.ofString "__getitem__"), .str (.ofString "__getitem__") (644:Nat), .ref (384:Nat)⟩, ⟨PySem.PyData.keyHash P (.ofString "__iter__"), .str (.ofString "__iter__") (652:Nat), .ref (391:Nat)⟩, ⟨PySem.PyData.keyHash P (.ofString "__len__"), .str (.ofString "__len__") (659:Nat), .ref (398:Nat)⟩, ⟨PySem.PyData.keyHash P (.ofString "__members__"), .str (.ofString "__members__") (667:Nat), .ref (406:Nat)⟩, ⟨PySem.PyData.keyHash P (.ofString "__repr__"), .str (.ofString "__repr__") (674:Nat), .ref (413:Nat)⟩, ⟨PySem.PyData.keyHash P (.ofString "__reversed__"), .str (.ofString "__reversed__") (682:Nat), .ref (420:Nat)⟩, ⟨PySem.PyData.keyHash P (.ofString "__setattr__"), .str (.ofString "__setattr__") (692:Nat), .ref (428:Nat)⟩, ⟨PySem.PyData.keyHash P (.ofString "__delattr__"), .str (.ofString "__delattr__") (701:Nat), .ref (436:Nat)⟩, ⟨PySem.PyData.keyHash P (.ofString "_store_"), .str (.ofString "_store_") (711:Nat), .ref (444:Nat)⟩, ⟨PySem.PyData.keyHash P (.ofString "__dir__"), .str (.ofString "__dir__") (718:Nat), .ref (451:Nat)⟩, ⟨PySem.PyData.keyHash P (.ofString "__static_attributes__"), .str (.ofString "__static_attributes__") (719:Nat), .ref (452:Nat)⟩, ⟨PySem.PyData.keyHash P (.ofString "__doc__"), .str (.ofString "__doc__") (722:Nat), .none⟩] (3:Nat), #[]⟩) ::
 (nat_lit 454, ⟨.type "type", none, .cls ⟨.ofString "EnumType", [.type "type"], [.ref (454:Nat), .type "type", .type "object"], (453:Nat), .ofString "EnumType", .true, [], [], .false, none, .false⟩, #[some (.ref (243:Nat)), none, some (.str (.ofString "EnumType") (465:Nat)), some (.str (.ofString "EnumType") (473:Nat)), some .none, some (.bool .true)]⟩) ::
 (nat_lit 455, ⟨.type "staticmethod", none, .fields #[.ref (258:Nat)], #[]⟩) ::
 (nat_lit 465, ⟨.type "tuple", none, .seq #[] (0:Nat), #[]⟩) ::
 (nat_lit 467, ⟨.type "tuple", none, .seq #[.str (.ofString "self") (740:Nat), .str (.ofString "name") (741:Nat)] (0:Nat), #[]⟩) ::
 (nat_lit 468, ⟨.type "tuple", none, .seq #[] (0:Nat), #[]⟩) ::
 (nat_lit 470, ⟨.type "code", none, .fields #[.str (.ofString "__init__") (737:Nat), .str (.ofString "_EnumField.__init__") (738:Nat), .str (.ofString "/claim/cut.py") (739:Nat), .int (245:Int) (0:Nat), .int (2:Int) (0:Nat), .int (0:Int) (0:Nat), .int (0:Int) (0:Nat), .int (3:Int) (0:Nat), .ref (465:Nat), .bool .true, .int (181:Int) (0:Nat), .ref (466:Nat), .none, .ref (467:Nat), .ref (468:Nat), .ref (469:Nat), .int (742:Int) (0:Nat), .int (245:Int) (0:Nat), .str (.ofString "/claim/cut.py") (743:Nat)], #[]⟩) ::
 (nat_lit 471, ⟨.type "function", none, .func fd_471, #[]⟩) ::
 (nat_lit 472, ⟨.type "tuple", none, .seq #[.none] (0:Nat), #[]⟩) ::
 (nat_lit 473, ⟨.type "tuple", none, .seq #[] (0:Nat), #[]⟩) ::
 (nat_lit 475, ⟨.type "tuple", none, .seq #[.str (.ofString "self") (748:Nat), .str (.ofString "instance") (749:Nat), .str (.ofString "ownerclass") (750:Nat)] (0:Nat), #[]⟩) ::
 (nat_lit 476, ⟨.type "tuple", none, .seq #[] (0:Nat), #[]⟩) ::
 (nat_lit 478, ⟨.type "code", none, .fields #[.str (.ofString "__get__") (745:Nat), .str (.ofString "_EnumField.__get__") (746:Nat), .str (.ofString "/claim/cut.py") (747:Nat), .int (248:Int) (0:Nat), .int (3:Int) (0:Nat), .int (0:Int) (0:Nat), .int (0:Int) (0:Nat), .int (3:Int) (0:Nat), .ref (473:Nat), .bool .true, .int (181:Int) (0:Nat), .ref (474:Nat), .none, .ref (475:Nat), .ref (476:Nat), .ref (477:Nat), .int (751:Int) (0:Nat), .int (248:Int) (0:Nat), .str (.ofString "/claim/cut.py") (752:Nat)], #[]⟩) ::
 (nat_lit 479, ⟨.type "function", none, .func fd_479, #[]⟩) ::
 (nat_lit 480, ⟨.type "tuple", none, .seq #[] (0:Nat), #[]⟩) ::
 (nat_lit 482, ⟨.type "tuple", none, .seq #[.str (.ofString "self") (757:Nat), .str (.ofString "instance") (758:Nat), .str (.ofString "value") (759:Nat)] (0:Nat), #[]⟩) ::
 (nat_lit 483, ⟨.type "tuple", none, .seq #[] (0:Nat), #[]⟩) ::
 (nat_lit 485, ⟨.type "code", none, .fields #[.str (.ofString "__set__") (754:Nat), .str (.ofString "_EnumField.__set__") (755:Nat), .str (.ofString "/claim/cut.py") (756:Nat), .int (255:Int) (0:Nat), .int (3:Int) (0:Nat), .int (0:Int) (0:Nat), .int (0:Int) (0:Nat), .int (3:Int) (0:Nat), .ref (480:Nat), .bool .true, .int (181:Int) (0:Nat), .ref (481:Nat), .none, .ref (482:Nat), .ref (483:Nat), .ref (484:Nat), .int (760:Int) (0:Nat), .int (255:Int) (0:Nat), .str (.ofString "/claim/cut.py") (761:Nat)], #[]⟩) ::
 (nat_lit 486, ⟨.type "function", none, .func fd_486, #[]⟩) ::
 (nat_lit 487, ⟨.type "tuple", none, .seq #[] (0:Nat), #[]⟩) ::
 (nat_lit 489, ⟨.type "tuple", none, .seq #[.str (.ofString "self") (766:Nat), .str (.ofString "instance") (767:Nat)] (0:Nat), #[]⟩) ::
 (nat_lit 490, ⟨.type "tuple", none, .seq #[] (0:Nat), #[]⟩) ::
 (nat_lit 492, ⟨.type "code", none, .fields #[.str (.ofString "__delete__") (763:Nat), .str (.ofString "_EnumField.__delete__") (764:Nat), .str (.ofString "/claim/cut.py") (765:Nat), .int (258:Int) (0:Nat), .int (2:Int) (0:Nat), .int (0:Int) (0:Nat), .int (0:Int) (0:Nat), .int (3:Int) (0:Nat), .ref (487:Nat), .bool .true, .int (181:Int) (0:Nat), .ref (488:Nat), .none, .ref (489:Nat), .ref (490:Nat), .ref (491:Nat), .int (768:Int) (0:Nat), .int (258:Int) (0:Nat), .str (.ofString "/claim/cut.py") (769:Nat)], #[]⟩) ::
 (nat_lit 493, ⟨.type "function", none, .func fd_493, #[]⟩) ::
 (nat_lit 494, ⟨.type "tuple", none, .seq #[.str (.ofString "name") (771:Nat)] (0:Nat), #[]⟩) ::
 (nat_lit 495, ⟨.type "dict", none, .dict #[⟨PySem.PyData.keyHash P (.ofString "__module__"), .str (.ofString "__module__") (732:Nat), .str (.ofString "enum") (248:Nat)⟩, ⟨PySem.PyData.keyHash P (.ofString "__firstlineno__"), .str (.ofString "__firstlineno__") (736:Nat), .int (243:Int) (735:Nat)⟩, ⟨PySem.PyData.keyHash P (.ofString "__init__"), .str (.ofString "__init__") (744:Nat), .ref (471:Nat)⟩, ⟨PySem.PyData.keyHash P (.ofString "__get__"), .str (.ofString "__get__") (753:Nat), .ref (479:Nat)⟩, ⟨PySem.PyData.keyHash P (.ofString "__set__"), .str (.ofString "__set__") (762:Nat), .ref (486:Nat)⟩, ⟨PySem.PyData.keyHash P (.ofString "__delete__"), .str (.ofString "__delete__") (770:Nat), .ref (493:Nat)⟩, ⟨PySem.PyData.keyHash P (.ofString "__static_attributes__"), .str (.ofString "__static_attributes__") (772:Nat), .ref (494:Nat)⟩, ⟨PySem.PyData.keyHash P (.ofString "__dict__"), .str (.ofString "__dict__") (774:Nat), .ref (497:Nat)⟩, ⟨PySem.PyData.keyHash P (.ofString "__weakref__"), .str (.ofString "__weakref__") (776:Nat), .ref (498:Nat)⟩, ⟨PySem.PyData.keyHash P (.ofString "__doc__"), .str (.ofString "__doc__") (777:Nat), .none⟩] (4:Nat), #[]⟩) ::
 (nat_lit 496, ⟨.type "type", none, .cls ⟨.ofString "_EnumField", [.type "object"], [.ref (496:Nat), .type "object"], (495:Nat), .ofString "_EnumField", .true, [], [], .false, none, .false⟩, #[none, none, some (.str (.ofString "_EnumField") (725:Nat)), some (.str (.ofString "_EnumField") (733:Nat)), some (.builtin "object.__new__"), some (.bool .true)]⟩) ::
 (nat_lit 497, ⟨.type "getset_descriptor", none, .fields #[.str (.ofString "__dict__") (773:Nat), .ref (496:Nat), .builtin "function.__dict__", .builtin "function.__dict__#set"], #[]⟩) ::
 (nat_lit 498, ⟨.type "getset_descriptor", none, .fields #[.str (.ofString "__weakref__") (775:Nat), .ref (496:Nat), .builtin "ExceptionGroup.__weakref__", .none], #[]⟩) ::
 (nat_lit 508, ⟨.type "list", none, .seq #[] (0:Nat), #[]⟩) ::
 (nat_lit 509, ⟨.type "dict", none, .dict #[] (0:Nat), #[]⟩) ::
 (nat_lit 510, ⟨.type "dict", none, .dict #[] (0:Nat), #[]⟩) ::
 (nat_lit 511, ⟨.type "list", none, .seq #[] (0:Nat), #[]⟩) ::
 (nat_lit 512, ⟨.type "list", none, .seq #[] (0:Nat), #[]⟩) ::
 (nat_lit 513, ⟨.type "dict", none, .dict #[] (0:Nat), #[]⟩) ::
 (nat_lit 514, ⟨.type "tuple", none, .seq #[] (0:Nat), #[]⟩) ::
 (nat_lit 515, ⟨.type "tuple", none, .seq #[] (0:Nat), #[]⟩) ::
 (nat_lit 517, ⟨.type "tuple", none, .seq #[.str (.ofString "cls") (809:Nat), .str (.ofString "value") (810:Nat), .str (.ofString "name") (811:Nat), .str (.ofString "unhashable_values") (812:Nat), .str (.ofString "member") (813:Nat), .str (.ofString "exc") (814:Nat), .str (.ofString "result") (815:Nat), .str (.ofString "e") (816:Nat), .str (.ofString "ve_exc") (817:Nat)] (0:Nat), #[]⟩) ::
 (nat_lit 518, ⟨.type "tuple", none, .seq #[] (0:Nat), #[]⟩) ::
 (nat_lit 520, ⟨.type "code", none, .fields #[.str (.ofString "__new__") (806:Nat), .str (.ofString "Enum.__new__") (807:Nat), .str (.ofString "/claim/cut.py") (808:Nat), .int (274:Int) (0:Nat), .int (2:Int) (0:Nat), .int (0:Int) (0:Nat), .int (0:Int) (0:Nat), .int (3:Int) (0:Nat), .ref (515:Nat), .bool .true, .int (181:Int) (0:Nat), .ref (516:Nat), .none, .ref (517:Nat), .ref (518:Nat), .ref (519:Nat), .int (818:Int) (0:Nat), .int (274:Int) (0:Nat), .str (.ofString "/claim/cut.py") (819:Nat)], #[]⟩) ::
 (nat_lit 521, ⟨.type "function", none, .func fd_521, #[]⟩) ::
 (nat_lit 522, ⟨.type "tuple", none, .seq #[] (0:Nat), #[]⟩) ::
 (nat_lit 524, ⟨.type "tuple", none, .seq #[.str (.ofString "cls") (824:Nat), .str (.ofString "value") (825:Nat)] (0:Nat), #[]⟩) ::
 (nat_lit 525, ⟨.type "tuple", none, .seq #[] (0:Nat), #[]⟩) ::
 (nat_lit 527, ⟨.type "code", none, .fields #[.str (.ofString "_missing_") (821:Nat), .str (.ofString "Enum._missing_") (822:Nat), .str (.ofString "/claim/cut.py") (823:Nat), .int (314:Int) (0:Nat), .int (2:Int) (0:Nat), .int (0:Int) (0:Nat), .int (0:Int) (0:Nat), .int (3:Int) (0:Nat), .ref (522:Nat), .bool .true, .int (181:Int) (0:Nat), .ref (523:Nat), .none, .ref (524:Nat), .ref (525:Nat), .ref (526:Nat), .int (826:Int) (0:Nat), .int (314:Int) (0:Nat), .str (.ofString "/claim/cut.py") (827:Nat)], #[]⟩) ::
 (nat_lit 528, ⟨.type "function", none, .func fd_528, #[]⟩) ::
 (nat_lit 529, ⟨.type "dict", none, .dict #[⟨PySem.PyData.keyHash P (.ofString "__module__"), .str (.ofString "__module__") (829:Nat), .str (.ofString "enum") (248:Nat)⟩, ⟨PySem.PyData.keyHash P (.ofString "__name__"), .str (.ofString "__name__") (832:Nat), .str (.ofString "_missing_") (831:Nat)⟩, ⟨PySem.PyData.keyHash P (.ofString "__qualname__"), .str (.ofString "__qualname__") (835:Nat), .str (.ofString "Enum._missing_") (834:Nat)⟩, ⟨PySem.PyData.keyHash P (.ofString "__doc__"), .str (.ofString "__doc__") (837:Nat), .none⟩, ⟨PySem.PyData.keyHash P (.ofString "__annotations__"), .str (.ofString "__annotations__") (839:Nat), .ref (531:Nat)⟩] (5:Nat), #[]⟩) ::
 (nat_lit 530, ⟨.type "classmethod", some (529:Nat), .fields #[.ref (528:Nat), .bool .false], #[]⟩) ::
 (nat_lit 531, ⟨.type "dict", none, .dict #[] (0:Nat), #[]⟩) ::
 (nat_lit 532, ⟨.type "tuple", none, .seq #[] (0:Nat), #[]⟩) ::
 (nat_lit 534, ⟨.type "tuple", none, .seq #[.str (.ofString "self") (844:Nat), .str (.ofString "args") (845:Nat), .str (.ofString "kwds") (846:Nat)] (0:Nat), #[]⟩) ::
 (nat_lit 535, ⟨.type "tuple", none, .seq #[] (0:Nat), #[]⟩) ::
 (nat_lit 537, ⟨.type "code", none, .fields #[.str (.ofString "__init__") (841:Nat), .str (.ofString "Enum.__init__") (842:Nat), .str (.ofString "/claim/cut.py") (843:Nat), .int (318:Int) (0:Nat), .int (1:Int) (0:Nat), .int (0:Int) (0:Nat), .int (0:Int) (0:Nat), .int (15:Int) (0:Nat), .ref (532:Nat), .bool .true, .int (181:Int) (0:Nat), .ref (533:Nat), .none, .ref (534:Nat), .ref (535:Nat), .ref (536:Nat), .int (847:Int) (0:Nat), .int (318:Int) (0:Nat), .str (.ofString "/claim/cut.py") (848:Nat)], #[]⟩) ::
 (nat_lit 538, ⟨.type "function", none, .func fd_538, #[]⟩) ::
 (nat_lit 539, ⟨.type "tuple", none, .seq #[] (0:Nat), #[]⟩) ::
 (nat_lit 541, ⟨.type "tuple", none, .seq #[.str (.ofString "self") (853:Nat), .str (.ofString "v_repr") (854:Nat)] (0:Nat), #[]⟩) ::
 (nat_lit 542, ⟨.type "tuple", none, .seq #[] (0:Nat), #[]⟩) ::
 (nat_lit 544, ⟨.type "code", none, .fields #[.str (.ofString "__repr__") (850:Nat), .str (.ofString "Enum.__repr__") (851:Nat), .str (.ofString "/claim/cut.py") (852:Nat), .int (321:Int) (0:Nat), .int (1:Int) (0:Nat), .int (0:Int) (0:Nat), .int (0:Int) (0:Nat), .int (3:Int) (0:Nat), .ref (539:Nat), .bool .true, .int (181:Int) (0:Nat), .ref (540:Nat), .none, .ref (541:Nat), .ref (542:Nat), .ref (543:Nat), .int (855:Int) (0:Nat), .int (321:Int) (0:Nat), .str (.ofString "/claim/cut.py") (856:Nat)], #[]⟩) ::
 (nat_lit 545, ⟨.type "function", none, .func fd_545, #[]⟩) ::
 (nat_lit 546, ⟨.type "tuple", none, .seq #[] (0:Nat), #[]⟩) ::
 (nat_lit 548, ⟨.type "tuple", none, .seq #[.str (.ofString "self") (861:Nat)] (0:Nat), #[]⟩) ::
 (nat_lit 549, ⟨.type "tuple", none, .seq #[] (0:Nat), #[]⟩) ::
 (nat_lit 551, ⟨.type "code", none, .fields #[.str (.ofString "__str__") (858:Nat), .str (.ofString "Enum.__str__") (859:Nat), .str (.ofString "/claim/cut.py") (860:Nat), .int (325:Int) (0:Nat), .int (1:Int) (0:Nat), .int (0:Int) (0:Nat), .int (0:Int) (0:Nat), .int (3:Int) (0:Nat), .ref (546:Nat), .bool .true, .int (181:Int) (0:Nat), .ref (547:Nat), .none, .ref (548:Nat), .ref (549:Nat), .ref (550:Nat), .int (862:Int) (0:Nat), .int (325:Int) (0:Nat), .str (.ofString "/claim/cut.py") (863:Nat)], #[]⟩) ::
 (nat_lit 552, ⟨.type "function", none, .func fd_552, #[]⟩) ::
 (nat_lit 553, ⟨.type "tuple", none, .seq #[] (0:Nat), #[]⟩) ::
 (nat_lit 555, ⟨.type "tuple", none, .seq #[.str (.ofString "self") (868:Nat), .str (.ofString "format_spec") (869:Nat)] (0:Nat), #[]⟩) ::
 (nat_lit 556, ⟨.type "tuple", none, .seq #[] (0:Nat), #[]⟩) ::
 (nat_lit 558, ⟨.type "code", none, .fields #[.str (.ofString "__format__") (865:Nat), .str (.ofString "Enum.__format__") (866:Nat), .str (.ofString "/claim/cut.py") (867:Nat), .int (328:Int) (0:Nat), .int (2:Int) (0:Nat), .int (0:Int) (0:Nat), .int (0:Int) (0:Nat), .int (3:Int) (0:Nat), .ref (553:Nat), .bool .true, .int (181:Int) (0:Nat), .ref (554:Nat), .none, .ref (555:Nat), .ref (556:Nat), .ref (557:Nat), .int (870:Int) (0:Nat), .int (328:Int) (0:Nat), .str (.ofString "/claim/cut.py") (871:Nat)], #[]⟩) ::
 (nat_lit 559, ⟨.type "function", none, .func fd_559, #[]⟩) ::
 (nat_lit 560, ⟨.type "tuple", none, .seq #[] (0:Nat), #[]⟩) ::
 (nat_lit 562, ⟨.type "tuple", none, .seq #[.str (.ofString "self") (876:Nat)] (0:Nat), #[]⟩) ::
 (nat_lit 563, ⟨.type "tuple", none, .seq #[] (0:Nat), #[]⟩) ::
 (nat_lit 565, ⟨.type "code", none, .fields #[.str (.ofString "__hash__") (873:Nat), .str (.ofString "Enum.__hash__") (874:Nat), .str (.ofString "/claim/cut.py") (875:Nat), .int (331:Int) (0:Nat), .int (1:Int) (0:Nat), .int (0:Int) (0:Nat), .int (0:Int) (0:Nat), .int (3:Int) (0:Nat), .ref (560:Nat), .bool .true, .int (181:Int) (0:Nat), .ref (561:Nat), .none, .ref (562:Nat), .ref (563:Nat), .ref (564:Nat), .int (877:Int) (0:Nat), .int (331:Int) (0:Nat), .str (.ofString "/claim/cut.py") (878:Nat)], #[]⟩) ::
 (nat_lit 566, ⟨.type "function", none, .func fd_566, #[]⟩) ::
 (nat_lit 567, ⟨.type "tuple", none, .seq #[] (0:Nat), #[]⟩) ::
 (nat_lit 569, ⟨.type "tuple", none, .seq #[.str (.ofString "self") (883:Nat), .str (.ofString "proto") (884:Nat)] (0:Nat), #[]⟩) ::
 (nat_lit 570, ⟨.type "tuple", none, .seq #[] (0:Nat), #[]⟩) ::
 (nat_lit 572, ⟨.type "code", none, .fields #[.str (.ofString "__reduce_ex__") (880:Nat), .str (.ofString "Enum.__reduce_ex__") (881:Nat), .str (.ofString "/claim/cut.py") (882:Nat), .int (334:Int) (0:Nat), .int (2:Int) (0:Nat), .int (0:Int) (0:Nat), .int (0:Int) (0:Nat), .int (3:Int) (0:Nat), .ref (567:Nat), .bool .true, .int (181:Int) (0:Nat), .ref (568:Nat), .none, .ref (569:Nat), .ref (570:Nat), .ref (571:Nat), .int (885:Int) (0:Nat), .int (334:Int) (0:Nat), .str (.ofString "/claim/cut.py") (886:Nat)], #[]⟩) ::
 (nat_lit 573, ⟨.type "function", none, .func fd_573, #[]⟩) ::
 (nat_lit 574, ⟨.type "tuple", none, .seq #[] (0:Nat), #[]⟩) ::
 (nat_lit 576, ⟨.type "tuple", none, .seq #[.str (.ofString "self") (891:Nat), .str (.ofString "memo") (892:Nat)] (0:Nat), #[]⟩) ::
 (nat_lit 577, ⟨.type "tuple", none, .seq #[] (0:Nat), #[]⟩) ::
 (nat_lit 579, ⟨.type "code", none, .fields #[.str (.ofString "__deepcopy__") (888:Nat), .str (.ofString "Enum.__deepcopy__") (889:Nat), .str (.ofString "/claim/cut.py") (890:Nat), .int (337:Int) (0:Nat), .int (2:Int) (0:Nat), .int (0:Int) (0:Nat), .int (0:Int) (0:Nat), .int (3:Int) (0:Nat), .ref (574:Nat), .bool .true, .int (181:Int) (0:Nat), .ref (575:Nat), .none, .ref (576:Nat), .ref (577:Nat), .ref (578:Nat), .int (893:Int) (0:Nat), .int (337:Int) (0:Nat), .str (.ofString "/claim/cut.py") (894:Nat)], #[]⟩) ::
 (nat_lit 580, ⟨.type "function", none, .func fd_580, #[]⟩) ::
 (nat_lit 581, ⟨.type "tuple", none, .seq #[] (0:Nat), #[]⟩) ::
 (nat_lit 583, ⟨.type "tuple", none, .seq #[.str (.ofString "self") (899:Nat)] (0:Nat), #[]⟩) ::
 (nat_lit 584, ⟨.type "tuple", none, .seq #[] (0:Nat), #[]⟩) ::
 (nat_lit 586, ⟨.type "code", none, .fields #[.str (.ofString "__copy__") (896:Nat), .str (.ofString "Enum.__copy__") (897:Nat), .str (.ofString "/claim/cut.py") (898:Nat), .int (340:Int) (0:Nat), .int (1:Int) (0:Nat), .int (0:Int) (0:Nat), .int (0:Int) (0:Nat), .int (3:Int) (0:Nat), .ref (581:Nat), .bool .true, .int (181:Int) (0:Nat), .ref (582:Nat), .none, .ref (583:Nat), .ref (584:Nat), .ref (585:Nat), .int (900:Int) (0:Nat), .int (340:Int) (0:Nat), .str (.ofString "/claim/cut.py") (901:Nat)], #[]⟩) ::
 (nat_lit 587, ⟨.type "function", none, .func fd_587, #[]⟩) ::
 (nat_lit 588, ⟨.type "tuple", none, .seq #[] (0:Nat), #[]⟩) ::
 (nat_lit 590, ⟨.type "tuple", none, .seq #[.str (.ofString "self") (906:Nat)] (0:Nat), #[]⟩) ::
 (nat_lit 591, ⟨.type "tuple", none, .seq #[] (0:Nat), #[]⟩) ::
 (nat_lit 593, ⟨.type "code", none, .fields #[.str (.ofString "__dir__") (903:Nat), .str (.ofString "Enum.__dir__") (904:Nat), .str (.ofString "/claim/cut.py") (905:Nat), .int (343:Int) (0:Nat), .int (1:Int) (0:Nat), .int (0:Int) (0:Nat), .int (0:Int) (0:Nat), .int (3:Int) (0:Nat), .ref (588:Nat), .bool .true, .int (181:Int) (0:Nat), .ref (589:Nat), .none, .ref (590:Nat), .ref (591:Nat), .ref (592:Nat), .int (907:Int) (0:Nat), .int (343:Int) (0:Nat), .str (.ofString "/claim/cut.py") (908:Nat)], #[]⟩) ::
 (nat_lit 594, ⟨.type "function", none, .func fd_594, #[]⟩) ::
 (nat_lit 595, ⟨.type "tuple", none, .seq #[] (0:Nat), #[]⟩) ::
 (nat_lit 597, ⟨.type "tuple", none, .seq #[.str (.ofString "self") (913:Nat), .str (.ofString "name") (914:Nat)] (0:Nat), #[]⟩) ::
 (nat_lit 598, ⟨.type "tuple", none, .seq #[] (0:Nat), #[]⟩) ::
 (nat_lit 600, ⟨.type "code", none, .fields #[.str (.ofString "_add_alias_") (910:Nat), .str (.ofString "Enum._add_alias_") (911:Nat), .str (.ofString "/claim/cut.py") (912:Nat), .int (346:Int) (0:Nat), .int (2:Int) (0:Nat), .int (0:Int) (0:Nat), .int (0:Int) (0:Nat), .int (3:Int) (0:Nat), .ref (595:Nat), .bool .true, .int (181:Int) (0:Nat), .ref (596:Nat), .none, .ref (597:Nat), .ref (598:Nat), .ref (599:Nat), .int (915:Int) (0:Nat), .int (346:Int) (0:Nat), .str (.ofString "/claim/cut.py") (916:Nat)], #[]⟩) ::
 (nat_lit 601, ⟨.type "function", none, .func fd_601, #[]⟩) ::
 (nat_lit 602, ⟨.type "tuple", none, .seq #[] (0:Nat), #[]⟩) ::
 (nat_lit 604, ⟨.type "tuple", none, .seq #[.str (.ofString "self") (921:Nat), .str (.ofString "value") (922:Nat)] (0:Nat), #[]⟩) ::
 (nat_lit 605, ⟨.type "tuple", none, .seq #[] (0:Nat), #[]⟩) ::
 (nat_lit 607, ⟨.type "code", none, .fields #[.str (.ofString "_add_value_alias_") (918:Nat), .str (.ofString "Enum._add_value_alias_") (919:Nat), .str (.ofString "/claim/cut.py") (920:Nat), .int (349:Int) (0:Nat), .int (2:Int) (0:Nat), .int (0:Int) (0:Nat), .int (0:Int) (0:Nat), .int (3:Int) (0:Nat), .ref (602:Nat), .bool .true, .int (181:Int) (0:Nat), .ref (603:Nat), .none, .ref (604:Nat), .ref (605:Nat), .ref (606:Nat), .int (923:Int) (0:Nat), .int (349:Int) (0:Nat), .str (.ofString "/claim/cut.py") (924:Nat)], #[]⟩) ::
 (nat_lit 608, ⟨.type "function", none, .func fd_608, #[]⟩) ::
 (nat_lit 609, ⟨.type "dict", none, .dict #[⟨PySem.PyData.keyHash P (.ofString "name"), .str (.ofString "name") (930:Nat), .str (.ofString "name") (926:Nat)⟩] (1:Nat), #[]⟩) ::
 (nat_lit 610, ⟨.ref (496:Nat), some (609:Nat), .plain, #[]⟩) ::
 (nat_lit 612, ⟨.type "dict", none, .dict #[⟨PySem.PyData.keyHash P (.ofString "name"), .str (.ofString "name") (936:Nat), .str (.ofString "value") (932:Nat)⟩] (1:Nat), #[]⟩) ::
 (nat_lit 613, ⟨.ref (496:Nat), some (612:Nat), .plain, #[]⟩) ::
 (nat_lit 615, ⟨.type "tuple", none, .seq #[] (0:Nat), #[]⟩) ::
 (nat_lit 619, ⟨.type "dict", none, .dict #[⟨PySem.PyData.keyHash P (.ofString "__module__"), .str (.ofString "__module__") (787:Nat), .str (.ofString "enum") (792:Nat)⟩, ⟨PySem.PyData.keyHash P (.ofString "__firstlineno__"), .str (.ofString "__firstlineno__") (791:Nat), .int (260:Int) (790:Nat)⟩, ⟨PySem.PyData.keyHash P (.ofString "_written_out_"), .str (.ofString "_written_out_") (795:Nat), .int (0:Int) (960:Nat)⟩, ⟨PySem.PyData.keyHash P (.ofString "_member_names_"), .str (.ofString "_member_names_") (796:Nat), .ref (508:Nat)⟩, ⟨PySem.PyData.keyHash P (.ofString "_member_map_"), .str (.ofString "_member_map_") (797:Nat), .ref (509:Nat)⟩, ⟨PySem.PyData.keyHash P (.ofString "_value2member_map_"), .str (.ofString "_value2member_map_") (798:Nat), .ref (510:Nat)⟩, ⟨PySem.PyData.keyHash P (.ofString "_hashable_values_"), .str (.ofString "_hashable_values_") (799:Nat), .ref (511:Nat)⟩, ⟨PySem.PyData.keyHash P (.ofString "_unhashable_values_"), .str (.ofString "_unhashable_values_") (800:Nat), .ref (512:Nat)⟩, ⟨PySem.PyData.keyHash P (.ofString "_unhashable_values_map_"), .str (.ofString "_unhashable_values_map_") (801:Nat), .ref (513:Nat)⟩, ⟨PySem.PyData.keyHash P (.ofString "_members_"), .str (.ofString "_members_") (802:Nat), .ref (514:Nat)⟩, ⟨PySem.PyData.keyHash P (.ofString "_value_repr_"), .str (.ofString "_value_repr_") (803:Nat), .none⟩, ⟨PySem.PyData.keyHash P (.ofString "_is_flag_"), .str (.ofString "_is_flag_") (804:Nat), .bool .false⟩, ⟨PySem.PyData.keyHash P (.ofString "_making_"), .str (.ofString "_making_") (805:Nat), .bool .false⟩, ⟨PySem.PyData.keyHash P (.ofString "__new__"), .str (.ofString "__new__") (820:Nat), .ref (621:Nat)⟩, ⟨PySem.PyData.keyHash P (.ofString "_missing_"), .str (.ofString "_missing_") (840:Nat), .ref (530:Nat)⟩, ⟨PySem.PyData.keyHash P (.ofString "__init__"), .str (.ofString "__init__") (849:Nat), .ref (538:Nat)⟩, ⟨PySem.PyData.keyHash P (.ofString "__repr__"), .str (.ofString "__repr__") (857:Nat), .ref (545:Nat)⟩, ⟨PySem.PyData.keyHash P (.ofString "__str__"), .str (.ofString "__str__") (864:Nat), .ref (552:Nat)⟩, ⟨PySem.PyData.keyHash P (.ofString "__format__"), .str (.ofString "__format__") (872:Nat), .ref (559:Nat)⟩, ⟨PySem.PyData.keyHash P (.ofString "__hash__"), .str (.ofString "__hash__") (879:Nat), .ref (566:Nat)⟩, ⟨PySem.PyData.keyHash P (.ofString "__reduce_ex__"), .str (.ofString "__reduce_ex__") (887:Nat), .ref (573:Nat)⟩, ⟨PySem.PyData.keyHash P (.ofString "__deepcopy__"), .str (.ofString "__deepcopy__") (895:Nat), .ref (580:Nat)⟩, ⟨PySem.PyData.keyHash P (.ofString "__copy__"), .str (.ofString "__copy__") (902:Nat), .ref (587:Nat)⟩, ⟨PySem.PyData.keyHash P (.ofString "__dir__"), .str (.ofString "__dir__") (909:Nat), .ref (594:Nat)⟩, ⟨PySem.PyData.keyHash P (.ofString "_add_alias_"), .str (.ofString "_add_alias_") (917:Nat), .ref (601:Nat)⟩, ⟨PySem.PyData.keyHash P (.ofString "_add_value_alias_"), .str (.ofString "_add_value_alias_") (925:Nat), .ref (608:Nat)⟩, ⟨PySem.PyData.keyHash P (.ofString "name"), .str (.ofString "name") (931:Nat), .ref (610:Nat)⟩, ⟨PySem.PyData.keyHash P (.ofString "value"), .str (.ofString "value") (937:Nat), .ref (613:Nat)⟩, ⟨PySem.PyData.keyHash P (.ofString "__static_attributes__"), .str (.ofString "__static_attributes__") (938:Nat), .ref (615:Nat)⟩, ⟨PySem.PyData.keyHash P (.ofString "__dict__"), .str (.ofString "__dict__") (950:Nat), .ref (622:Nat)⟩, ⟨PySem.PyData.keyHash P (.ofString "__weakref__"), .str (.ofString "__weakref__") (952:Nat), .ref (623:Nat)⟩, ⟨PySem.PyData.keyHash P (.ofString "__doc__"), .str (.ofString "__doc__") (953:Nat), .none⟩] (4:Nat), #[]⟩) ::
 (nat_lit 620, ⟨.ref (454:Nat), none, .cls ⟨.ofString "Enum", [.type "object"], [.ref (620:Nat), .type "object"], (619:Nat), .ofString "Enum", .true, [], [.ref (643:Nat)], .false, none, .false⟩, #[none, none, some (.str (.ofString "Enum") (780:Nat)), some (.str (.ofString "Enum") (788:Nat)), some .none, some (.bool .true)]⟩) ::
 (nat_lit 621, ⟨.type "staticmethod", none, .fields #[.ref (521:Nat)], #[]⟩) ::
 (nat_lit 622, ⟨.type "getset_descriptor", none, .fields #[.str (.ofString "__dict__") (949:Nat), .ref (620:Nat), .builtin "function.__dict__", .builtin "function.__dict__#set"], #[]⟩) ::
 (nat_lit 623, ⟨.type "getset_descriptor", none, .fields #[.str (.ofString "__weakref__") (951:Nat), .ref (620:Nat), .builtin "ExceptionGroup.__weakref__", .none], #[]⟩) ::
 (nat_lit 630, ⟨.type "tuple", none, .seq #[.ref (620:Nat)] (0:Nat), #[]⟩) ::
 (nat_lit 637, ⟨.type "list", none, .seq #[.str (.ofString "LEVENSHTEIN") (983:Nat), .str (.ofString "DAMERAU_OSA") (984:Nat), .str (.ofString "LEVENSHTEIN_FAST") (985:Nat), .str (.ofString "DAMERAU_OSA_FAST") (986:Nat), .str (.ofString "USER_PROVIDED") (987:Nat)] (0:Nat), #[]⟩) ::
 (nat_lit 638, ⟨.type "tuple", none, .seq #[] (0:Nat), #[]⟩) ::
 (nat_lit 642, ⟨.type "dict", none, .dict #[⟨PySem.PyData.keyHash P (.ofString "__module__"), .str (.ofString "__module__") (976:Nat), .str (.ofString "symspellpy.editdistance") (967:Nat)⟩, ⟨PySem.PyData.keyHash P (.ofString "__firstlineno__"), .str (.ofString "__firstlineno__") (980:Nat), .int (354:Int) (979:Nat)⟩, ⟨PySem.PyData.keyHash P (.ofString "_written_out_"), .str (.ofString "_written_out_") (982:Nat), .int (0:Int) (1008:Nat)⟩, ⟨PySem.PyData.keyHash P (.ofString "_member_names_"), .str (.ofString "_member_names_") (988:Nat), .ref (637:Nat)⟩, ⟨PySem.PyData.keyHash P (.ofString "_value_repr_"), .str (.ofString "_value_repr_") (990:Nat), .none⟩, ⟨PySem.PyData.keyHash P (.ofString "__static_attributes__"), .str (.ofString "__static_attributes__") (991:Nat), .ref (638:Nat)⟩, ⟨PySem.PyData.keyHash P (.ofString "__doc__"), .str (.ofString "__doc__") (1001:Nat), .none⟩, ⟨PySem.PyData.keyHash P (.ofString "__new__"), .str (.ofString "__new__") (1051:Nat), .ref (521:Nat)⟩, ⟨PySem.PyData.keyHash P (.ofString "LEVENSHTEIN"), .str (.ofString "LEVENSHTEIN") (1129:Nat), .ref (668:Nat)⟩, ⟨PySem.PyData.keyHash P (.ofString "DAMERAU_OSA"), .str (.ofString "DAMERAU_OSA") (1137:Nat), .ref (670:Nat)⟩, ⟨PySem.PyData.keyHash P (.ofString "LEVENSHTEIN_FAST"), .str (.ofString "LEVENSHTEIN_FAST") (1145:Nat), .ref (672:Nat)⟩, ⟨PySem.PyData.keyHash P (.ofString "DAMERAU_OSA_FAST"), .str (.ofString "DAMERAU_OSA_FAST") (1153:Nat), .ref (674:Nat)⟩, ⟨PySem.PyData.keyHash P (.ofString "USER_PROVIDED"), .str (.ofString "USER_PROVIDED") (1161:Nat), .ref (676:Nat)⟩, ⟨PySem.PyData.keyHash P (.ofString "_member_map_"), .str (.ofString "_member_map_") (1179:Nat), .ref (692:Nat)⟩, ⟨PySem.PyData.keyHash P (.ofString "_value2member_map_"), .str (.ofString "_value2member_map_") (1192:Nat), .ref (696:Nat)⟩, ⟨PySem.PyData.keyHash P (.ofString "_hashable_values_"), .str (.ofString "_hashable_values_") (1200:Nat), .ref (700:Nat)⟩] (11:Nat), #[]⟩) ::
 (nat_lit 643, ⟨.ref (454:Nat), none, .cls ⟨.ofString "DistanceAlgorithm", [.ref (620:Nat)], [.ref (643:Nat), .ref (620:Nat), .type "object"], (642:Nat), .ofString "DistanceAlgorithm", .true, [], [], .false, none, .false⟩, #[some (.ref (630:Nat)), none, some (.str (.ofString "DistanceAlgorithm") (969:Nat)), some (.str (.ofString "DistanceAlgorithm") (977:Nat)), some .none, some (.bool .true)]⟩) ::
 (nat_lit 667, ⟨.type "dict", none, .dict #[⟨PySem.PyData.keyHash P (.ofString "_value_"), .str (.ofString "_value_") (1057:Nat), .int (0:Int) (1052:Nat)⟩, ⟨PySem.PyData.keyHash P (.ofString "_name_"), .str (.ofString "_name_") (1060:Nat), .str (.ofString "LEVENSHTEIN") (1058:Nat)⟩, ⟨PySem.PyData.keyHash P (.ofString "__objclass__"), .str (.ofString "__objclass__") (1062:Nat), .ref (643:Nat)⟩, ⟨PySem.PyData.keyHash P (.ofString "_sort_order_"), .str (.ofString "_sort_order_") (1065:Nat), .int (0:Int) (1063:Nat)⟩] (4:Nat), #[]⟩) ::
 (nat_lit 668, ⟨.ref (643:Nat), some (667:Nat), .plain, #[]⟩) ::
 (nat_lit 669, ⟨.type "dict", none, .dict #[⟨PySem.PyData.keyHash P (.ofString "_value_"), .str (.ofString "_value_") (1071:Nat), .int (1:Int) (1066:Nat)⟩, ⟨PySem.PyData.keyHash P (.ofString "_name_"), .str (.ofString "_name_") (1074:Nat), .str (.ofString "DAMERAU_OSA") (1072:Nat)⟩, ⟨PySem.PyData.keyHash P (.ofString "__objclass__"), .str (.ofString "__objclass__") (1076:Nat), .ref (643:Nat)⟩, ⟨PySem.PyData.keyHash P (.ofString "_sort_order_"), .str (.ofString "_sort_order_") (1079:Nat), .int (1:Int) (1077:Nat)⟩] (4:Nat), #[]⟩) ::
 (nat_lit 670, ⟨.ref (643:Nat), some (669:Nat), .plain, #[]⟩) ::
 (nat_lit 671, ⟨.type "dict", none, .dict #[⟨PySem.PyData.keyHash P (.ofString "_value_"), .str (.ofString "_value_") (1085:Nat), .int (2:Int) (1080:Nat)⟩, ⟨PySem.PyData.keyHash P (.ofString "_name_"), .str (.ofString "_name_") (1088:Nat), .str (.ofString "LEVENSHTEIN_FAST") (1086:Nat)⟩, ⟨PySem.PyData.keyHash P (.ofString "__objclass__"), .str (.ofString "__objclass__") (1090:Nat), .ref (643:Nat)⟩, ⟨PySem.PyData.keyHash P (.ofString "_sort_order_"), .str (.ofString "_sort_order_") (1093:Nat), .int (2:Int) (1091:Nat)⟩] (4:Nat), #[]⟩) ::
 (nat_lit 672, ⟨.ref (643:Nat), some (671:Nat), .plain, #[]⟩) ::
 (nat_lit 673, ⟨.type "dict", none, .dict #[⟨PySem.PyData.keyHash P (.ofString "_value_"), .str (.ofString "_value_") (1099:Nat), .int (3:Int) (1094:Nat)⟩, ⟨PySem.PyData.keyHash P (.ofString "_name_"), .str (.ofString "_name_") (1102:Nat), .str (.ofString "DAMERAU_OSA_FAST") (1100:Nat)⟩, ⟨PySem.PyData.keyHash P (.ofString "__objclass__"), .str (.ofString "__objclass__") (1104:Nat), .ref (643:Nat)⟩, ⟨PySem.PyData.keyHash P (.ofString "_sort_order_"), .str (.ofString "_sort_order_") (1107:Nat), .int (3:Int) (1105:Nat)⟩] (4:Nat), #[]⟩) ::
 (nat_lit 674, ⟨.ref (643:Nat), some (673:Nat), .plain, #[]⟩) ::
 (nat_lit 675, ⟨.type "dict", none, .dict #[⟨PySem.PyData.keyHash P (.ofString "_value_"), .str (.ofString "_value_") (1113:Nat), .int (4:Int) (1108:Nat)⟩, ⟨PySem.PyData.keyHash P (.ofString "_name_"), .str (.ofString "_name_") (1116:Nat), .str (.ofString "USER_PROVIDED") (1114:Nat)⟩, ⟨PySem.PyData.keyHash P (.ofString "__objclass__"), .str (.ofString "__objclass__") (1118:Nat), .ref (643:Nat)⟩, ⟨PySem.PyData.keyHash P (.ofString "_sort_order_"), .str (.ofString "_sort_order_") (1121:Nat), .int (4:Int) (1119:Nat)⟩] (4:Nat), #[]⟩) ::
 (nat_lit 676, ⟨.ref (643:Nat), some (675:Nat), .plain, #[]⟩) ::
 (nat_lit 692, ⟨.type "dict", none, .dict #[⟨PySem.PyData.keyHash P (.ofString "LEVENSHTEIN"), .str (.ofString "LEVENSHTEIN") (1162:Nat), .ref (668:Nat)⟩, ⟨PySem.PyData.keyHash P (.ofString "DAMERAU_OSA"), .str (.ofString "DAMERAU_OSA") (1163:Nat), .ref (670:Nat)⟩, ⟨PySem.PyData.keyHash P (.ofString "LEVENSHTEIN_FAST"), .str (.ofString "LEVENSHTEIN_FAST") (1164:Nat), .ref (672:Nat)⟩, ⟨PySem.PyData.keyHash P (.ofString "DAMERAU_OSA_FAST"), .str (.ofString "DAMERAU_OSA_FAST") (1165:Nat), .ref (674:Nat)⟩, ⟨PySem.PyData.keyHash P (.ofString "USER_PROVIDED"), .str (.ofString "USER_PROVIDED") (1166:Nat), .ref (676:Nat)⟩] (5:Nat), #[]⟩) ::
 (nat_lit 696, ⟨.type "dict", none, .dict #[⟨(0:Int), .int (0:Int) (1052:Nat), .ref (668:Nat)⟩, ⟨(1:Int), .int (1:Int) (1066:Nat), .ref (670:Nat)⟩, ⟨(2:Int), .int (2:Int) (1080:Nat), .ref (672:Nat)⟩, ⟨(3:Int), .int (3:Int) (1094:Nat), .ref (674:Nat)⟩, ⟨(4:Int), .int (4:Int) (1108:Nat), .ref (676:Nat)⟩] (5:Nat), #[]⟩) ::
 (nat_lit 700, ⟨.type "list", none, .seq #[.int (0:Int) (1052:Nat), .int (1:Int) (1066:Nat), .int (2:Int) (1080:Nat), .int (3:Int) (1094:Nat), .int (4:Int) (1108:Nat)] (0:Nat), #[]⟩) ::
 (nat_lit 711, ⟨.type "tuple", none, .seq #[.none] (0:Nat), #[]⟩) ::
 (nat_lit 712, ⟨.type "tuple", none, .seq #[] (0:Nat), #[]⟩) ::
 (nat_lit 714, ⟨.type "tuple", none, .seq #[.str (.ofString "self") (1216:Nat), .str (.ofString "algorithm") (1217:Nat), .str (.ofString "comparer") (1218:Nat)] (0:Nat), #[]⟩) ::
 (nat_lit 715, ⟨.type "tuple", none, .seq #[] (0:Nat), #[]⟩) ::
 (nat_lit 717, ⟨.type "code", none, .fields #[.str (.ofString "__init__") (1213:Nat), .str (.ofString "EditDistance.__init__") (1214:Nat), .str (.ofString "/claim/cut.py") (1215:Nat), .int (401:Int) (0:Nat), .int (3:Int) (0:Nat), .int (0:Int) (0:Nat), .int (0:Int) (0:Nat), .int (3:Int) (0:Nat), .ref (712:Nat), .bool .true, .int (181:Int) (0:Nat), .ref (713:Nat), .none, .ref (714:Nat), .ref (715:Nat), .ref (716:Nat), .int (1219:Int) (0:Nat), .int (401:Int) (0:Nat), .str (.ofString "/claim/cut.py") (1220:Nat)], #[]⟩) ::
 (nat_lit 718, ⟨.type "function", none, .func fd_718, #[]⟩) ::
 (nat_lit 719, ⟨.type "tuple", none, .seq #[] (0:Nat), #[]⟩) ::
 (nat_lit 721, ⟨.type "tuple", none, .seq #[.str (.ofString "self") (1225:Nat), .str (.ofString "string_1") (1226:Nat), .str (.ofString "string_2") (1227:Nat), .str (.ofString "max_distance") (1228:Nat)] (0:Nat), #[]⟩) ::
 (nat_lit 722, ⟨.type "tuple", none, .seq #[] (0:Nat), #[]⟩) ::
 (nat_lit 724, ⟨.type "code", none, .fields #[.str (.ofString "compare") (1222:Nat), .str (.ofString "EditDistance.compare") (1223:Nat), .str (.ofString "/claim/cut.py") (1224:Nat), .int (414:Int) (0:Nat), .int (4:Int) (0:Nat), .int (0:Int) (0:Nat), .int (0:Int) (0:Nat), .int (3:Int) (0:Nat), .ref (719:Nat), .bool .true, .int (181:Int) (0:Nat), .ref (720:Nat), .none, .ref (721:Nat), .ref (722:Nat), .ref (723:Nat), .int (1229:Int) (0:Nat), .int (414:Int) (0:Nat), .str (.ofString "/claim/cut.py") (1230:Nat)], #[]⟩) ::
 (nat_lit 725, ⟨.type "function", none, .func fd_725, #[]⟩) ::
 (nat_lit 726, ⟨.type "tuple", none, .seq #[.str (.ofString "_algorithm") (1232:Nat), .str (.ofString "_distance_comparer") (1233:Nat)] (0:Nat), #[]⟩) ::
 (nat_lit 727, ⟨.type "dict", none, .dict #[⟨PySem.PyData.keyHash P (.ofString "__module__"), .str (.ofString "__module__") (1208:Nat), .str (.ofString "symspellpy.editdistance") (967:Nat)⟩, ⟨PySem.PyData.keyHash P (.ofString "__firstlineno__"), .str (.ofString "__firstlineno__") (1212:Nat), .int (399:Int) (1211:Nat)⟩, ⟨PySem.PyData.keyHash P (.ofString "__init__"), .str (.ofString "__init__") (1221:Nat), .ref (718:Nat)⟩, ⟨PySem.PyData.keyHash P (.ofString "compare"), .str (.ofString "compare") (1231:Nat), .ref (725:Nat)⟩, ⟨PySem.PyData.keyHash P (.ofString "__static_attributes__"), .str (.ofString "__static_attributes__") (1234:Nat), .ref (726:Nat)⟩, ⟨PySem.PyData.keyHash P (.ofString "__dict__"), .str (.ofString "__dict__") (1236:Nat), .ref (729:Nat)⟩, ⟨PySem.PyData.keyHash P (.ofString "__weakref__"), .str (.ofString "__weakref__") (1238:Nat), .ref (730:Nat)⟩, ⟨PySem.PyData.keyHash P (.ofString "__doc__"), .str (.ofString "__doc__") (1239:Nat), .none⟩] (4:Nat), #[]⟩) ::
 (nat_lit 728, ⟨.type "type", none, .cls ⟨.ofString "EditDistance", [.type "object"], [.ref (728:Nat), .type "object"], (727:Nat), .ofString "EditDistance", .true, [], [], .false, none, .false⟩, #[none, none, some (.str (.ofString "EditDistance") (1201:Nat)), some (.str (.ofString "EditDistance") (1209:Nat)), some (.builtin "object.__new__"), some (.bool .true)]⟩) ::
 (nat_lit 729, ⟨.type "getset_descriptor", none, .fields #[.str (.ofString "__dict__") (1235:Nat), .ref (728:Nat), .builtin "function.__dict__", .builtin "function.__dict__#set"], #[]⟩) ::
 (nat_lit 730, ⟨.type "getset_descriptor", none, .fields #[.str (.ofString "__weakref__") (1237:Nat), .ref (728:Nat), .builtin "ExceptionGroup.__weakref__", .none], #[]⟩) ::
 (nat_lit 733, ⟨.type "tuple", none, .seq #[.ref (52:Nat)] (0:Nat), #[]⟩) ::
 (nat_lit 740, ⟨.type "tuple", none, .seq #[] (0:Nat), #[]⟩) ::
 (nat_lit 742, ⟨.type "tuple", none, .seq #[.str (.ofString "self") (1257:Nat)] (0:Nat), #[]⟩) ::
 (nat_lit 743, ⟨.type "tuple", none, .seq #[] (0:Nat), #[]⟩) ::
 (nat_lit 745, ⟨.type "code", none, .fields #[.str (.ofString "__init__") (1254:Nat), .str (.ofString "Levenshtein.__init__") (1255:Nat), .str (.ofString "/claim/cut.py") (1256:Nat), .int (418:Int) (0:Nat), .int (1:Int) (0:Nat), .int (0:Int) (0:Nat), .int (0:Int) (0:Nat), .int (3:Int) (0:Nat), .ref (740:Nat), .bool .true, .int (181:Int) (0:Nat), .ref (741:Nat), .none, .ref (742:Nat), .ref (743:Nat), .ref (744:Nat), .int (1258:Int) (0:Nat), .int (418:Int) (0:Nat), .str (.ofString "/claim/cut.py") (1259:Nat)], #[]⟩) ::
 (nat_lit 746, ⟨.type "function", none, .func fd_746, #[]⟩) ::
 (nat_lit 747, ⟨.type "tuple", none, .seq #[] (0:Nat), #[]⟩) ::
 (nat_lit 750, ⟨.type "code", none, .fields #[.str (.ofString "distance") (1261:Nat), .str (.ofString "Levenshtein.distance") (1262:Nat), .str (.ofString "/claim/cut.py") (1263:Nat), .int (421:Int) (0:Nat), .int (4:Int) (0:Nat), .int (0:Int) (0:Nat), .int (0:Int) (0:Nat), .int (3:Int) (0:Nat), .ref (747:Nat), .bool .true, .int (181:Int) (0:Nat), .ref (748:Nat), .none, .none, .none, .ref (749:Nat), .int (1264:Int) (0:Nat), .int (421:Int) (0:Nat), .str (.ofString "/claim/cut.py") (1265:Nat)], #[]⟩) ::
 (nat_lit 751, ⟨.type "function", none, .func fd_751, #[]⟩) ::
 (nat_lit 752, ⟨.type "tuple", none, .seq #[] (0:Nat), #[]⟩) ::
 (nat_lit 755, ⟨.type "code", none, .fields #[.str (.ofString "_distance") (1267:Nat), .str (.ofString "Levenshtein._distance") (1268:Nat), .str (.ofString "/claim/cut.py") (1269:Nat), .int (440:Int) (0:Nat), .int (6:Int) (0:Nat), .int (0:Int) (0:Nat), .int (0:Int) (0:Nat), .int (3:Int) (0:Nat), .ref (752:Nat), .bool .true, .int (181:Int) (0:Nat), .ref (753:Nat), .none, .none, .none, .ref (754:Nat), .int (1270:Int) (0:Nat), .int (440:Int) (0:Nat), .str (.ofString "/claim/cut.py") (1271:Nat)], #[]⟩) ::
 (nat_lit 756, ⟨.type "function", none, .func fd_756, #[]⟩) ::
 (nat_lit 757, ⟨.type "dict", none, .dict #[⟨PySem.PyData.keyHash P (.ofString "__module__"), .str (.ofString "__module__") (1273:Nat), .str (.ofString "symspellpy.editdistance") (967:Nat)⟩, ⟨PySem.PyData.keyHash P (.ofString "__name__"), .str (.ofString "__name__") (1276:Nat), .str (.ofString "_distance") (1275:Nat)⟩, ⟨PySem.PyData.keyHash P (.ofString "__qualname__"), .str (.ofString "__qualname__") (1279:Nat), .str (.ofString "Levenshtein._distance") (1278:Nat)⟩, ⟨PySem.PyData.keyHash P (.ofString "__doc__"), .str (.ofString "__doc__") (1281:Nat), .none⟩, ⟨PySem.PyData.keyHash P (.ofString "__annotations__"), .str (.ofString "__annotations__") (1283:Nat), .ref (759:Nat)⟩] (5:Nat), #[]⟩) ::
 (nat_lit 758, ⟨.type "staticmethod", some (757:Nat), .fields #[.ref (756:Nat), .bool .false], #[]⟩) ::
 (nat_lit 759, ⟨.type "dict", none, .dict #[] (0:Nat), #[]⟩) ::
 (nat_lit 760, ⟨.type "tuple", none, .seq #[] (0:Nat), #[]⟩) ::
 (nat_lit 763, ⟨.type "code", none, .fields #[.str (.ofString "_distance_max") (1285:Nat), .str (.ofString "Levenshtein._distance_max") (1286:Nat), .str (.ofString "/claim/cut.py") (1287:Nat), .int (459:Int) (0:Nat), .int (7:Int) (0:Nat), .int (0:Int) (0:Nat), .int (0:Int) (0:Nat), .int (3:Int) (0:Nat), .ref (760:Nat), .bool .true, .int (181:Int) (0:Nat), .ref (761:Nat), .none, .none, .none, .ref (762:Nat), .int (1288:Int) (0:Nat), .int (459:Int) (0:Nat), .str (.ofString "/claim/cut.py") (1289:Nat)], #[]⟩) ::
 (nat_lit 764, ⟨.type "function", none, .func fd_764, #[]⟩) ::
 (nat_lit 765, ⟨.type "dict", none, .dict #[⟨PySem.PyData.keyHash P (.ofString "__module__"), .str (.ofString "__module__") (1291:Nat), .str (.ofString "symspellpy.editdistance") (967:Nat)⟩, ⟨PySem.PyData.keyHash P (.ofString "__name__"), .str (.ofString "__name__") (1294:Nat), .str (.ofString "_distance_max") (1293:Nat)⟩, ⟨PySem.PyData.keyHash P (.ofString "__qualname__"), .str (.ofString "__qualname__") (1297:Nat), .str (.ofString "Levenshtein._distance_max") (1296:Nat)⟩, ⟨PySem.PyData.keyHash P (.ofString "__doc__"), .str (.ofString "__doc__") (1299:Nat), .none⟩, ⟨PySem.PyData.keyHash P (.ofString "__annotations__"), .str (.ofString "__annotations__") (1301:Nat), .ref (767:Nat)⟩] (5:Nat), #[]⟩) ::
 (nat_lit 766, ⟨.type "staticmethod", some (765:Nat), .fields #[.ref (764:Nat), .bool .false], #[]⟩) ::
 (nat_lit 767, ⟨.type "dict", none, .dict #[] (0:Nat), #[]⟩) ::
 (nat_lit 768, ⟨.type "tuple", none, .seq #[.str (.ofString "_base_char_1_costs") (1303:Nat)] (0:Nat), #[]⟩) ::
 (nat_lit 769, ⟨.type "dict", none, .dict #[⟨PySem.PyData.keyHash P (.ofString "__module__"), .str (.ofString "__module__") (1249:Nat), .str (.ofString "symspellpy.editdistance") (967:Nat)⟩, ⟨PySem.PyData.keyHash P (.ofString "__firstlineno__"), .str (.ofString "__firstlineno__") (1253:Nat), .int (416:Int) (1252:Nat)⟩, ⟨PySem.PyData.keyHash P (.ofString "__init__"), .str (.ofString "__init__") (1260:Nat), .ref (746:Nat)⟩, ⟨PySem.PyData.keyHash P (.ofString "distance"), .str (.ofString "distance") (1266:Nat), .ref (751:Nat)⟩, ⟨PySem.PyData.keyHash P (.ofString "_distance"), .str (.ofString "_distance") (1284:Nat), .ref (758:Nat)⟩, ⟨PySem.PyData.keyHash P (.ofString "_distance_max"), .str (.ofString "_distance_max") (1302:Nat), .ref (766:Nat)⟩, ⟨PySem.PyData.keyHash P (.ofString "__static_attributes__"), .str (.ofString "__static_attributes__") (1304:Nat), .ref (768:Nat)⟩, ⟨PySem.PyData.keyHash P (.ofString "__doc__"), .str (.ofString "__doc__") (1305:Nat), .none⟩] (2:Nat), #[]⟩) ::
 (nat_lit 770, ⟨.type "type", none, .cls ⟨.ofString "Levenshtein", [.ref (52:Nat)], [.ref (770:Nat), .ref (52:Nat), .type "object"], (769:Nat), .ofString "Levenshtein", .true, [], [], .false, none, .false⟩, #[some (.ref (733:Nat)), none, some (.str (.ofString "Levenshtein") (1242:Nat)), some (.str (.ofString "Levenshtein") (1250:Nat)), some (.builtin "object.__new__"), some (.bool .true)]⟩) ::
 (nat_lit 773, ⟨.type "tuple", none, .seq #[.ref (52:Nat)] (0:Nat), #[]⟩) ::
 (nat_lit 780, ⟨.type "tuple", none, .seq #[] (0:Nat), #[]⟩) ::
 (nat_lit 782, ⟨.type "tuple", none, .seq #[.str (.ofString "self") (1323:Nat)] (0:Nat), #[]⟩) ::
 (nat_lit 783, ⟨.type "tuple", none, .seq #[] (0:Nat), #[]⟩) ::
 (nat_lit 785, ⟨.type "code", none, .fields #[.str (.ofString "__init__") (1320:Nat), .str (.ofString "DamerauOsa.__init__") (1321:Nat), .str (.ofString "/claim/cut.py") (1322:Nat), .int (487:Int) (0:Nat), .int (1:Int) (0:Nat), .int (0:Int) (0:Nat), .int (0:Int) (0:Nat), .int (3:Int) (0:Nat), .ref (780:Nat), .bool .true, .int (181:Int) (0:Nat), .ref (781:Nat), .none, .ref (782:Nat), .ref (783:Nat), .ref (784:Nat), .int (1324:Int) (0:Nat), .int (487:Int) (0:Nat), .str (.ofString "/claim/cut.py") (1325:Nat)], #[]⟩) ::
 (nat_lit 786, ⟨.type "function", none, .func fd_786, #[]⟩) ::
 (nat_lit 787, ⟨.type "tuple", none, .seq #[] (0:Nat), #[]⟩) ::
 (nat_lit 790, ⟨.type "code", none, .fields #[.str (.ofString "distance") (1327:Nat), .str (.ofString "DamerauOsa.distance") (1328:Nat), .str (.ofString "/claim/cut.py") (1329:Nat), .int (491:Int) (0:Nat), .int (4:Int) (0:Nat), .int (0:Int) (0:Nat), .int (0:Int) (0:Nat), .int (3:Int) (0:Nat), .ref (787:Nat), .bool .true, .int (181:Int) (0:Nat), .ref (788:Nat), .none, .none, .none, .ref (789:Nat), .int (1330:Int) (0:Nat), .int (491:Int) (0:Nat), .str (.ofString "/claim/cut.py") (1331:Nat)], #[]⟩) ::
 (nat_lit 791, ⟨.type "function", none, .func fd_791, #[]⟩) ::
 (nat_lit 792, ⟨.type "tuple", none, .seq #[] (0:Nat), #[]⟩) ::
 (nat_lit 795, ⟨.type "code", none, .fields #[.str (.ofString "_distance") (1333:Nat), .str (.ofString "DamerauOsa._distance") (1334:Nat), .str (.ofString "/claim/cut.py") (1335:Nat), .int (511:Int) (0:Nat), .int (7:Int) (0:Nat), .int (0:Int) (0:Nat), .int (0:Int) (0:Nat), .int (3:Int) (0:Nat), .ref (792:Nat), .bool .true, .int (181:Int) (0:Nat), .ref (793:Nat), .none, .none, .none, .ref (794:Nat), .int (1336:Int) (0:Nat), .int (511:Int) (0:Nat), .str (.ofString "/claim/cut.py") (1337:Nat)], #[]⟩) ::
 (nat_lit 796, ⟨.type "function", none, .func fd_796, #[]⟩) ::
 (nat_lit 797, ⟨.type "dict", none, .dict #[⟨PySem.PyData.keyHash P (.ofString "__module__"), .str (.ofString "__module__") (1339:Nat), .str (.ofString "symspellpy.editdistance") (967:Nat)⟩, ⟨PySem.PyData.keyHash P (.ofString "__name__"), .str (.ofString "__name__") (1342:Nat), .str (.ofString "_distance") (1341:Nat)⟩, ⟨PySem.PyData.keyHash P (.ofString "__qualname__"), .str (.ofString "__qualname__") (1345:Nat), .str (.ofString "DamerauOsa._distance") (1344:Nat)⟩, ⟨PySem.PyData.keyHash P (.ofString "__doc__"), .str (.ofString "__doc__") (1347:Nat), .none⟩, ⟨PySem.PyData.keyHash P (.ofString "__annotations__"), .str (.ofString "__annotations__") (1349:Nat), .ref (799:Nat)⟩] (5:Nat), #[]⟩) ::
 (nat_lit 798, ⟨.type "staticmethod", some (797:Nat), .fields #[.ref (796:Nat), .bool .false], #[]⟩) ::
 (nat_lit 799, ⟨.type "dict", none, .dict #[] (0:Nat), #[]⟩) ::
 (nat_lit 800, ⟨.type "tuple", none, .seq #[] (0:Nat), #[]⟩) ::
 (nat_lit 803, ⟨.type "code", none, .fields #[.str (.ofString "_distance_max") (1351:Nat), .str (.ofString "DamerauOsa._distance_max") (1352:Nat), .str (.ofString "/claim/cut.py") (1353:Nat), .int (540:Int) (0:Nat), .int (8:Int) (0:Nat), .int (0:Int) (0:Nat), .int (0:Int) (0:Nat), .int (3:Int) (0:Nat), .ref (800:Nat), .bool .true, .int (181:Int) (0:Nat), .ref (801:Nat), .none, .none, .none, .ref (802:Nat), .int (1354:Int) (0:Nat), .int (540:Int) (0:Nat), .str (.ofString "/claim/cut.py") (1355:Nat)], #[]⟩) ::
 (nat_lit 804, ⟨.type "function", none, .func fd_804, #[]⟩) ::
 (nat_lit 805, ⟨.type "dict", none, .dict #[⟨PySem.PyData.keyHash P (.ofString "__module__"), .str (.ofString "__module__") (1357:Nat), .str (.ofString "symspellpy.editdistance") (967:Nat)⟩, ⟨PySem.PyData.keyHash P (.ofString "__name__"), .str (.ofString "__name__") (1360:Nat), .str (.ofString "_distance_max") (1359:Nat)⟩, ⟨PySem.PyData.keyHash P (.ofString "__qualname__"), .str (.ofString "__qualname__") (1363:Nat), .str (.ofString "DamerauOsa._distance_max") (1362:Nat)⟩, ⟨PySem.PyData.keyHash P (.ofString "__doc__"), .str (.ofString "__doc__") (1365:Nat), .none⟩, ⟨PySem.PyData.keyHash P (.ofString "__annotations__"), .str (.ofString "__annotations__") (1367:Nat), .ref (807:Nat)⟩] (5:Nat), #[]⟩) ::
 (nat_lit 806, ⟨.type "staticmethod", some (805:Nat), .fields #[.ref (804:Nat), .bool .false], #[]⟩) ::
 (nat_lit 807, ⟨.type "dict", none, .dict #[] (0:Nat), #[]⟩) ::
 (nat_lit 808, ⟨.type "tuple", none, .seq #[.str (.ofString "_base_char_1_costs") (1369:Nat), .str (.ofString "_base_prev_char_1_costs") (1370:Nat)] (0:Nat), #[]⟩) ::
 (nat_lit 809, ⟨.type "dict", none, .dict #[⟨PySem.PyData.keyHash P (.ofString "__module__"), .str (.ofString "__module__") (1315:Nat), .str (.ofString "symspellpy.editdistance") (967:Nat)⟩, ⟨PySem.PyData.keyHash P (.ofString "__firstlineno__"), .str (.ofString "__firstlineno__") (1319:Nat), .int (485:Int) (1318:Nat)⟩, ⟨PySem.PyData.keyHash P (.ofString "__init__"), .str (.ofString "__init__") (1326:Nat), .ref (786:Nat)⟩, ⟨PySem.PyData.keyHash P (.ofString "distance"), .str (.ofString "distance") (1332:Nat), .ref (791:Nat)⟩, ⟨PySem.PyData.keyHash P (.ofString "_distance"), .str (.ofString "_distance") (1350:Nat), .ref (798:Nat)⟩, ⟨PySem.PyData.keyHash P (.ofString "_distance_max"), .str (.ofString "_distance_max") (1368:Nat), .ref (806:Nat)⟩, ⟨PySem.PyData.keyHash P (.ofString "__static_attributes__"), .str (.ofString "__static_attributes__") (1371:Nat), .ref (808:Nat)⟩, ⟨PySem.PyData.keyHash P (.ofString "__doc__"), .str (.ofString "__doc__") (1372:Nat), .none⟩] (2:Nat), #[]⟩) ::
 (nat_lit 810, ⟨.type "type", none, .cls ⟨.ofString "DamerauOsa", [.ref (52:Nat)], [.ref (810:Nat), .ref (52:Nat), .type "object"], (809:Nat), .ofString "DamerauOsa", .true, [], [], .false, none, .false⟩, #[some (.ref (773:Nat)), none, some (.str (.ofString "DamerauOsa") (1308:Nat)), some (.str (.ofString "DamerauOsa") (1316:Nat)), some (.builtin "object.__new__"), some (.bool .true)]⟩) ::
 (nat_lit 813, ⟨.type "tuple", none, .seq #[] (0:Nat), #[]⟩) ::
 (nat_lit 815, ⟨.type "tuple", none, .seq #[.str (.ofString "script") (1382:Nat), .str (.ofString "at") (1383:Nat)] (0:Nat), #[]⟩) ::
 (nat_lit 816, ⟨.type "tuple", none, .seq #[] (0:Nat), #[]⟩) ::
 (nat_lit 818, ⟨.type "code", none, .fields #[.str (.ofString "_law_at") (1379:Nat), .str (.ofString "_law_at") (1380:Nat), .str (.ofString "/claim/cut.py") (1381:Nat), .int (578:Int) (0:Nat), .int (2:Int) (0:Nat), .int (0:Int) (0:Nat), .int (0:Int) (0:Nat), .int (3:Int) (0:Nat), .ref (813:Nat), .bool .true, .int (181:Int) (0:Nat), .ref (814:Nat), .none, .ref (815:Nat), .ref (816:Nat), .ref (817:Nat), .int (1384:Int) (0:Nat), .int (578:Int) (0:Nat), .str (.ofString "/claim/cut.py") (1385:Nat)], #[]⟩) ::
 (nat_lit 819, ⟨.type "function", none, .func fd_819, #[]⟩) ::
 (nat_lit 820, ⟨.type "tuple", none, .seq #[] (0:Nat), #[]⟩) ::
 (nat_lit 822, ⟨.type "tuple", none, .seq #[.str (.ofString "script") (1390:Nat), .str (.ofString "at") (1391:Nat), .str (.ofString "size") (1392:Nat), .str (.ofString "signs") (1393:Nat), .str (.ofString "walk") (1394:Nat), .str (.ofString "place") (1395:Nat)] (0:Nat), #[]⟩) ::
 (nat_lit 823, ⟨.type "tuple", none, .seq #[] (0:Nat), #[]⟩) ::
 (nat_lit 825, ⟨.type "code", none, .fields #[.str (.ofString "_law_text") (1387:Nat), .str (.ofString "_law_text") (1388:Nat), .str (.ofString "/claim/cut.py") (1389:Nat), .int (580:Int) (0:Nat), .int (3:Int) (0:Nat), .int (0:Int) (0:Nat), .int (0:Int) (0:Nat), .int (3:Int) (0:Nat), .ref (820:Nat), .bool .true, .int (181:Int) (0:Nat), .ref (821:Nat), .none, .ref (822:Nat), .ref (823:Nat), .ref (824:Nat), .int (1396:Int) (0:Nat), .int (580:Int) (0:Nat), .str (.ofString "/claim/cut.py") (1397:Nat)], #[]⟩) ::
 (nat_lit 826, ⟨.type "function", none, .func fd_826, #[]⟩) ::
 (nat_lit 827, ⟨.type "tuple", none, .seq #[] (0:Nat), #[]⟩) ::
 (nat_lit 829, ⟨.type "tuple", none, .seq #[.str (.ofString "text") (1402:Nat), .str (.ofString "script") (1403:Nat), .str (.ofString "at") (1404:Nat), .str (.ofString "many") (1405:Nat), .str (.ofString "step") (1406:Nat), .str (.ofString "way") (1407:Nat), .str (.ofString "place") (1408:Nat), .str (.ofString "k") (1409:Nat), .str (.ofString "sign") (1410:Nat)] (0:Nat), #[]⟩) ::
 (nat_lit 830, ⟨.type "tuple", none, .seq #[] (0:Nat), #[]⟩) ::
 (nat_lit 832, ⟨.type "code", none, .fields #[.str (.ofString "_law_turned") (1399:Nat), .str (.ofString "_law_turned") (1400:Nat), .str (.ofString "/claim/cut.py") (1401:Nat), .int (586:Int) (0:Nat), .int (4:Int) (0:Nat), .int (0:Int) (0:Nat), .int (0:Int) (0:Nat), .int (3:Int) (0:Nat), .ref (827:Nat), .bool .true, .int (181:Int) (0:Nat), .ref (828:Nat), .none, .ref (829:Nat), .ref (830:Nat), .ref (831:Nat), .int (1411:Int) (0:Nat), .int (586:Int) (0:Nat), .str (.ofString "/claim/cut.py") (1412:Nat)], #[]⟩) ::
 (nat_lit 833, ⟨.type "function", none, .func fd_833, #[]⟩) ::
 (nat_lit 834, ⟨.type "tuple", none, .seq #[] (0:Nat), #[]⟩) ::
 (nat_lit 837, ⟨.type "code", none, .fields #[.str (.ofString "_law_table") (1414:Nat), .str (.ofString "_law_table") (1415:Nat), .str (.ofString "/claim/cut.py") (1416:Nat), .int (602:Int) (0:Nat), .int (3:Int) (0:Nat), .int (0:Int) (0:Nat), .int (0:Int) (0:Nat), .int (3:Int) (0:Nat), .ref (834:Nat), .bool .true, .int (181:Int) (0:Nat), .ref (835:Nat), .none, .none, .none, .ref (836:Nat), .int (1417:Int) (0:Nat), .int (602:Int) (0:Nat), .str (.ofString "/claim/cut.py") (1418:Nat)], #[]⟩) ::
 (nat_lit 838, ⟨.type "function", none, .func fd_838, #[]⟩) ::
 (nat_lit 839, ⟨.type "tuple", none, .seq #[] (0:Nat), #[]⟩) ::
 (nat_lit 841, ⟨.type "tuple", none, .seq #[.str (.ofString "script") (1423:Nat), .str (.ofString "swapped") (1424:Nat), .str (.ofString "kept") (1425:Nat), .str (.ofString "sizes") (1426:Nat), .str (.ofString "turn") (1427:Nat), .str (.ofString "told") (1428:Nat), .str (.ofString "due") (1429:Nat), .str (.ofString "step") (1430:Nat), .str (.ofString "at") (1431:Nat), .str (.ofString "size") (1432:Nat), .str (.ofString "one") (1433:Nat), .str (.ofString "two") (1434:Nat), .str (.ofString "far") (1435:Nat), .str (.ofString "bound") (1436:Nat), .str (.ofString "raw") (1437:Nat)] (0:Nat), #[]⟩) ::
 (nat_lit 842, ⟨.type "tuple", none, .seq #[] (0:Nat), #[]⟩) ::
 (nat_lit 844, ⟨.type "code", none, .fields #[.str (.ofString "law") (1420:Nat), .str (.ofString "law") (1421:Nat), .str (.ofString "/claim/cut.py") (1422:Nat), .int (613:Int) (0:Nat), .int (1:Int) (0:Nat), .int (0:Int) (0:Nat), .int (0:Int) (0:Nat), .int (3:Int) (0:Nat), .ref (839:Nat), .bool .true, .int (181:Int) (0:Nat), .ref (840:Nat), .none, .ref (841:Nat), .ref (842:Nat), .ref (843:Nat), .int (1438:Int) (0:Nat), .int (613:Int) (0:Nat), .str (.ofString "/claim/cut.py") (1439:Nat)], #[]⟩) ::
 (nat_lit 845, ⟨.type "function", none, .func fd_845, #[]⟩) :: ([] : List (Nat × Obj)))
abbrev as_39 : List Addr := ((nat_lit 2)::(nat_lit 3)::(nat_lit 15)::(nat_lit 17)::(nat_lit 18)::(nat_lit 20)::(nat_lit 21)::(nat_lit 22)::(nat_lit 24)::(nat_lit 25)::(nat_lit 27)::(nat_lit 28)::(nat_lit 29)::(nat_lit 31)::(nat_lit 32)::(nat_lit 34)::(nat_lit 35)::(nat_lit 43)::(nat_lit 45)::(nat_lit 46)::(nat_lit 48)::(nat_lit 49)::(nat_lit 50)::(nat_lit 51)::(nat_lit 52)::(nat_lit 53)::(nat_lit 54)::(nat_lit 57)::(nat_lit 65)::(nat_lit 66)::(nat_lit 68)::(nat_lit 69)::(nat_lit 71)::(nat_lit 72)::(nat_lit 73)::(nat_lit 75)::(nat_lit 76)::(nat_lit 78)::(nat_lit 79)::(nat_lit 80)::(nat_lit 82)::(nat_lit 83)::(nat_lit 85)::(nat_lit 86)::(nat_lit 87)::(nat_lit 89)::(nat_lit 90)::(nat_lit 92)::(nat_lit 93)::(nat_lit 94)::(nat_lit 96)::(nat_lit 97)::(nat_lit 99)::(nat_lit 100)::(nat_lit 101)::(nat_lit 103)::(nat_lit 104)::(nat_lit 106)::(nat_lit 107)::(nat_lit 108)::(nat_lit 110)::(nat_lit 111)::(nat_lit 113)::(nat_lit 114)::(nat_lit 115)::(nat_lit 117)::(nat_lit 118)::(nat_lit 120)::(nat_lit 121)::(nat_lit 122)::(nat_lit 124)::(nat_lit 125)::(nat_lit 127)::(nat_lit 128)::(nat_lit 129)::(nat_lit 131)::(nat_lit 132)::(nat_lit 134)::(nat_lit 135)::(nat_lit 136)::(nat_lit 138)::(nat_lit 139)::(nat_lit 141)::(nat_lit 142)::(nat_lit 143)::(nat_lit 145)::(nat_lit 146)::(nat_lit 148)::(nat_lit 149)::(nat_lit 150)::(nat_lit 152)::(nat_lit 153)::(nat_lit 155)::(nat_lit 156)::(nat_lit 157)::(nat_lit 159)::(nat_lit 160)::(nat_lit 162)::(nat_lit 163)::(nat_lit 164)::(nat_lit 166)::(nat_lit 167)::(nat_lit 169)::(nat_lit 170)::(nat_lit 171)::(nat_lit 173)::(nat_lit 174)::(nat_lit 176)::(nat_lit 177)::(nat_lit 178)::(nat_lit 180)::(nat_lit 181)::(nat_lit 183)::(nat_lit 184)::(nat_lit 185)::(nat_lit 187)::(nat_lit 188)::(nat_lit 190)::(nat_lit 191)::(nat_lit 192)::(nat_lit 194)::(nat_lit 195)::(nat_lit 197)::(nat_lit 198)::(nat_lit 199)::(nat_lit 200)::(nat_lit 202)::(nat_lit 203)::(nat_lit 205)::(nat_lit 206)::(nat_lit 207)::(nat_lit 209)::(nat_lit 210)::(nat_lit 212)::(nat_lit 213)::(nat_lit 214)::(nat_lit 216)::(nat_lit 217)::(nat_lit 219)::(nat_lit 220)::(nat_lit 221)::(nat_lit 223)::(nat_lit 224)::(nat_lit 226)::(nat_lit 227)::(nat_lit 228)::(nat_lit 230)::(nat_lit 231)::(nat_lit 233)::(nat_lit 234)::(nat_lit 235)::(nat_lit 237)::(nat_lit 238)::(nat_lit 239)::(nat_lit 240)::(nat_lit 243)::(nat_lit 246)::(nat_lit 251)::(nat_lit 252)::(nat_lit 254)::(nat_lit 255)::(nat_lit 257)::(nat_lit 258)::(nat_lit 259)::(nat_lit 261)::(nat_lit 262)::(nat_lit 264)::(nat_lit 265)::(nat_lit 266)::(nat_lit 268)::(nat_lit 269)::(nat_lit 271)::(nat_lit 272)::(nat_lit 273)::(nat_lit 275)::(nat_lit 276)::(nat_lit 278)::(nat_lit 279)::(nat_lit 280)::(nat_lit 282)::(nat_lit 283)::(nat_lit 285)::(nat_lit 286)::(nat_lit 287)::(nat_lit 289)::(nat_lit 290)::(nat_lit 292)::(nat_lit 293)::(nat_lit 294)::(nat_lit 296)::(nat_lit 297)::(nat_lit 299)::(nat_lit 300)::(nat_lit 301)::(nat_lit 303)::(nat_lit 304)::(nat_lit 306)::(nat_lit 307)::(nat_lit 308)::(nat_lit 310)::(nat_lit 311)::(nat_lit 313)::(nat_lit 314)::(nat_lit 315)::(nat_lit 317)::(nat_lit 318)::(nat_lit 320)::(nat_lit 321)::(nat_lit 322)::(nat_lit 324)::(nat_lit 325)::(nat_lit 327)::(nat_lit 328)::(nat_lit 329)::(nat_lit 331)::(nat_lit 332)::(nat_lit 334)::(nat_lit 335)::(nat_lit 336)::(nat_lit 338)::(nat_lit 339)::(nat_lit 341)::(nat_lit 342)::(nat_lit 343)::(nat_lit 345)::(nat_lit 346)::(nat_lit 348)::(nat_lit 349)::(nat_lit 350)::(nat_lit 352)::(nat_lit 353)::(nat_lit 355)::(nat_lit 356)::(nat_lit 357)::(nat_lit 359)::(nat_lit 360)::(nat_lit 362)::(nat_lit 363)::(nat_lit 364)::(nat_lit 366)::(nat_lit 367)::(nat_lit 369)::(nat_lit 370)::(nat_lit 371)::(nat_lit 373)::(nat_lit 374)::(nat_lit 376)::(nat_lit 377)::(nat_lit 378)::(nat_lit 380)::(nat_lit 381)::(nat_lit 383)::(nat_lit 384)::(nat_lit 385)::(nat_lit 387)::(nat_lit 388)::(nat_lit 390)::(nat_lit 391)::(nat_lit 392)::(nat_lit 394)::(nat_lit 395)::(nat_lit 397)::(nat_lit 398)::(nat_lit 399)::(nat_lit 401)::(nat_lit 402)::(nat_lit 404)::(nat_lit 405)::(nat_lit 406)::(nat_lit 407)::(nat_lit 409)::(nat_lit 410)::(nat_lit 412)::(nat_lit 413)::(nat_lit 414)::(nat_lit 416)::(nat_lit 417)::(nat_lit 419)::(nat_lit 420)::(nat_lit 421)::(nat_lit 422)::(nat_lit 424)::(nat_lit 425)::(nat_lit 427)::(nat_lit 428)::(nat_lit 429)::(nat_lit 430)::(nat_lit 432)::(nat_lit 433)::(nat_lit 435)::(nat_lit 436)::(nat_lit 437)::(nat_lit 438)::(nat_lit 440)::(nat_lit 441)::(nat_lit 443)::(nat_lit 444)::(nat_lit 445)::(nat_lit 447)::(nat_lit 448)::(nat_lit 450)::(nat_lit 451)::(nat_lit 452)::(nat_lit 453)::(nat_lit 454)::(nat_lit 455)::(nat_lit 465)::(nat_lit 467)::(nat_lit 468)::(nat_lit 470)::(nat_lit 471)::(nat_lit 472)::(nat_lit 473)::(nat_lit 475)::(nat_lit 476)::(nat_lit 478)::(nat_lit 479)::(nat_lit 480)::(nat_lit 482)::(nat_lit 483)::(nat_lit 485)::(nat_lit 486)::(nat_lit 487)::(nat_lit 489)::(nat_lit 490)::(nat_lit 492)::(nat_lit 493)::(nat_lit 494)::(nat_lit 495)::(nat_lit 496)::(nat_lit 497)::(nat_lit 498)::(nat_lit 508)::(nat_lit 509)::(nat_lit 510)::(nat_lit 511)::(nat_lit 512)::(nat_lit 513)::(nat_lit 514)::(nat_lit 515)::(nat_lit 517)::(nat_lit 518)::(nat_lit 520)::(nat_lit 521)::(nat_lit 522)::(nat_lit 524)::(nat_lit 525)::(nat_lit 527)::(nat_lit 528)::(nat_lit 529)::(nat_lit 530)::(nat_lit 531)::(nat_lit 532)::(nat_lit 534)::(nat_lit 535)::(nat_lit 537)::(nat_lit 538)::(nat_lit 539)::(nat_lit 541)::(nat_lit 542)::(nat_lit 544)::(nat_lit 545)::(nat_lit 546)::(nat_lit 548)::(nat_lit 549)::(nat_lit 551)::(nat_lit 552)::(nat_lit 553)::(nat_lit 555)::(nat_lit 556)::(nat_lit 558)::(nat_lit 559)::(nat_lit 560)::(nat_lit 562)::(nat_lit 563)::(nat_lit 565)::(nat_lit 566)::(nat_lit 567)::(nat_lit 569)::(nat_lit 570)::(nat_lit 572)::(nat_lit 573)::(nat_lit 574)::(nat_lit 576)::(nat_lit 577)::(nat_lit 579)::(nat_lit 580)::(nat_lit 581)::(nat_lit 583)::(nat_lit 584)::(nat_lit 586)::(nat_lit 587)::(nat_lit 588)::(nat_lit 590)::(nat_lit 591)::(nat_lit 593)::(nat_lit 594)::(nat_lit 595)::(nat_lit 597)::(nat_lit 598)::(nat_lit 600)::(nat_lit 601)::(nat_lit 602)::(nat_lit 604)::(nat_lit 605)::(nat_lit 607)::(nat_lit 608)::(nat_lit 609)::(nat_lit 610)::(nat_lit 612)::(nat_lit 613)::(nat_lit 615)::(nat_lit 619)::(nat_lit 620)::(nat_lit 621)::(nat_lit 622)::(nat_lit 623)::(nat_lit 630)::(nat_lit 637)::(nat_lit 638)::(nat_lit 642)::(nat_lit 643)::(nat_lit 667)::(nat_lit 668)::(nat_lit 669)::(nat_lit 670)::(nat_lit 671)::(nat_lit 672)::(nat_lit 673)::(nat_lit 674)::(nat_lit 675)::(nat_lit 676)::(nat_lit 692)::(nat_lit 696)::(nat_lit 700)::(nat_lit 711)::(nat_lit 712)::(nat_lit 714)::(nat_lit 715)::(nat_lit 717)::(nat_lit 718)::(nat_lit 719)::(nat_lit 721)::(nat_lit 722)::(nat_lit 724)::(nat_lit 725)::(nat_lit 726)::(nat_lit 727)::(nat_lit 728)::(nat_lit 729)::(nat_lit 730)::(nat_lit 733)::(nat_lit 740)::(nat_lit 742)::(nat_lit 743)::(nat_lit 745)::(nat_lit 746)::(nat_lit 747)::(nat_lit 750)::(nat_lit 751)::(nat_lit 752)::(nat_lit 755)::(nat_lit 756)::(nat_lit 757)::(nat_lit 758)::(nat_lit 759)::(nat_lit 760)::(nat_lit 763)::(nat_lit 764)::(nat_lit 765)::(nat_lit 766)::(nat_lit 767)::(nat_lit 768)::(nat_lit 769)::(nat_lit 770)::(nat_lit 773)::(nat_lit 780)::(nat_lit 782)::(nat_lit 783)::(nat_lit 785)::(nat_lit 786)::(nat_lit 787)::(nat_lit 790)::(nat_lit 791)::(nat_lit 792)::(nat_lit 795)::(nat_lit 796)::(nat_lit 797)::(nat_lit 798)::(nat_lit 799)::(nat_lit 800)::(nat_lit 803)::(nat_lit 804)::(nat_lit 805)::(nat_lit 806)::(nat_lit 807)::(nat_lit 808)::(nat_lit 809)::(nat_lit 810)::(nat_lit 813)::(nat_lit 815)::(nat_lit 816)::(nat_lit 818)::(nat_lit 819)::(nat_lit 820)::(nat_lit 822)::(nat_lit 823)::(nat_lit 825)::(nat_lit 826)::(nat_lit 827)::(nat_lit 829)::(nat_lit 830)::(nat_lit 832)::(nat_lit 833)::(nat_lit 834)::(nat_lit 837)::(nat_lit 838)::(nat_lit 839)::(nat_lit 841)::(nat_lit 842)::(nat_lit 844)::(nat_lit 845)::[])
noncomputable def view_39 : Program := view PySem.Challenge.pw_db5021_01 [0, 2, 3, 5, 7, 8, 9, 10, 11, 12, 14, 15, 17, 18, 19, 21, 22, 23, 24, 25, 26]
abbrev loose_39 : List Str := [.ofString "mappingproxy", .ofString "_MEMBERS_VIEW", .ofString "EnumType", .ofString "Enum", .ofString "DistanceAlgorithm", .ofString "Levenshtein", .ofString "DamerauOsa"]
noncomputable abbrev env : Env := { scope := PySem.Challenge.pw_db5021_01.main.scope, locals := mainNs, globals := mainNs, cells := [], code := (.ref (13:Nat)), frame := some 14 }
noncomputable abbrev cdE : Code := Code.body (behindTheImports PySem.Challenge.pw_db5021_01) env
noncomputable abbrev fr0 : List Frame := [topFrame ⟨(0:Nat), (0:Nat), (0:Nat), (0:Nat)⟩]
noncomputable abbrev sE (w : World) (os : OsState) : Shared := ⟨heap_e w.params, Array.mk [], ⟨(0:Nat), (0:Nat), (0:Nat), (0:Nat)⟩, nat_lit 1441, os⟩
abbrev mods : List Str := importedModules PySem.Challenge.pw_db5021_01.main.body
def tag {α : Type} (_ : α) : Bool := true
theorem lay_heap_a : tag heap_a = true := by k_qdec
theorem lay_heap_e : tag heap_e = true := by k_qdec
theorem lay_env : tag env = true := by k_qdec
theorem lay_sE : tag sE = true := by k_qdec
theorem lay_mods : tag mods = true := by k_qdec
theorem lay_view_39 : tag view_39 = true := by k_qdec
theorem lay_loose_39 : tag loose_39 = true := by k_qdec
theorem lay_tree_0 : tag tree_0 = true := by k_qdec
theorem lay_tree_11 : tag tree_11 = true := by k_qdec
theorem lay_tree_16 : tag tree_16 = true := by k_qdec
theorem lay_tree_17 : tag tree_17 = true := by k_qdec
theorem lay_tree_27 : tag tree_27 = true := by k_qdec
def n0 : Nat := 11
theorem pre (w : World) (os : OsState) : topGo treeTable PySem.Challenge.pw_db5021_01 w (nat_lit 11) (some (.ref (6:Nat))) (nat_lit 12) ⟨boot_heap w.params, Array.mk [], boot_drawn, boot_toks, os⟩ (topStub PySem.Challenge.pw_db5021_01) = some (⟨heap_a w.params, Array.mk [], ⟨(0:Nat), (0:Nat), (0:Nat), (0:Nat)⟩, nat_lit 187, os⟩, ⟨denote treeTable cdE, cdE, ⟨(0:Nat), (0:Nat), (0:Nat), (0:Nat)⟩, fr0⟩) := by
  (try rewrite [PySem.W.Fast.te10110043849684766642]); (try rewrite [PySem.W.Fast.te15667345088766844465]); (try rewrite [PySem.W.Fast.te14374325043358763698]); (try rewrite [PySem.W.Fast.te14082659384304107361]); (try rewrite [PySem.W.Fast.te14364793385576792824]); (try rewrite [PySem.W.Fast.te3280011900867787385]); (try rewrite [PySem.W.Fast.te15894900282522491990]); (try rewrite [PySem.W.Fast.te108448406025392696]); (try rewrite [PySem.W.Fast.te2530740449226627131]); (try rewrite [PySem.W.Fast.te13404198127182003575]); (try rewrite [PySem.W.Fast.te11892475500146522536]); (try rewrite [PySem.W.Fast.te5868089070849250262]); (try rewrite [PySem.W.Fast.te7778420639110033934]); (try rewrite [PySem.W.Fast.te12450589397125341944]); (try rewrite [PySem.W.Fast.te10845986317416049621]); (try rewrite [PySem.W.Fast.te5976367518433545841]); (try rewrite [PySem.W.Fast.te11116078769350989829]); (try rewrite [PySem.W.Fast.te18267506072317697142]); (try rewrite [PySem.W.Fast.te7064857741715595979]); (try rewrite [PySem.W.Fast.te2412676222886940526]); (try rewrite [PySem.W.Fast.te12021015641869877915]); (try rewrite [PySem.W.Fast.te11786499540890295008]); (try rewrite [PySem.W.Fast.te18390856906317167757]); (try rewrite [PySem.W.Fast.te5230368042074207986]); kernel_rfl
theorem block (w : World) (os : OsState) : segRun treeTable PySem.Challenge.pw_db5021_01 w (nat_lit 11) (some (.ref (6:Nat))) (nat_lit 1) (nat_lit 1) ⟨heap_a w.params, Array.mk [], ⟨(0:Nat), (0:Nat), (0:Nat), (0:Nat)⟩, nat_lit 187, os⟩ (blockOf (behindTheImports PySem.Challenge.pw_db5021_01) env cdE ⟨(0:Nat), (0:Nat), (0:Nat), (0:Nat)⟩ fr0) = some (.next, (⟨tree_0 w.params, nat_lit 15, ⟨[], [], [], (0:Nat), [], [], .false, #[], [], (0:Nat), .false, .false, .false, (0:Int), [(2000:Int), (10:Int), (10:Int)], .false, (0:Nat), .true, [], [], (0:Nat), .false⟩, Array.mk [], ⟨(0:Nat), (0:Nat), (0:Nat), (0:Nat)⟩, nat_lit 187, os⟩ : SharedT).abs, cdE, ⟨(0:Nat), (0:Nat), (0:Nat), (0:Nat)⟩) := by
  (try rewrite [PySem.W.Fast.te10110043849684766642]); (try rewrite [PySem.W.Fast.te15667345088766844465]); (try rewrite [PySem.W.Fast.te14374325043358763698]); (try rewrite [PySem.W.Fast.te14082659384304107361]); (try rewrite [PySem.W.Fast.te14364793385576792824]); (try rewrite [PySem.W.Fast.te3280011900867787385]); (try rewrite [PySem.W.Fast.te15894900282522491990]); (try rewrite [PySem.W.Fast.te108448406025392696]); (try rewrite [PySem.W.Fast.te2530740449226627131]); (try rewrite [PySem.W.Fast.te13404198127182003575]); (try rewrite [PySem.W.Fast.te11892475500146522536]); (try rewrite [PySem.W.Fast.te5868089070849250262]); (try rewrite [PySem.W.Fast.te7778420639110033934]); (try rewrite [PySem.W.Fast.te12450589397125341944]); (try rewrite [PySem.W.Fast.te10845986317416049621]); (try rewrite [PySem.W.Fast.te5976367518433545841]); (try rewrite [PySem.W.Fast.te11116078769350989829]); (try rewrite [PySem.W.Fast.te18267506072317697142]); (try rewrite [PySem.W.Fast.te7064857741715595979]); (try rewrite [PySem.W.Fast.te2412676222886940526]); (try rewrite [PySem.W.Fast.te12021015641869877915]); (try rewrite [PySem.W.Fast.te11786499540890295008]); (try rewrite [PySem.W.Fast.te18390856906317167757]); (try rewrite [PySem.W.Fast.te5230368042074207986]); (try rewrite [PySem.W.Fast.te15786405202946440463]); kernel_rfl
noncomputable abbrev sts_11 : List Stmt := ((behindTheImports PySem.Challenge.pw_db5021_01).drop 0).take 11
theorem run_11 (w : World) (os : OsState) : segRunT treeTable PySem.Challenge.pw_db5021_01 w (nat_lit 11) (some (.ref (6:Nat))) (nat_lit 1) (nat_lit 2546) (⟨tree_0 w.params, nat_lit 15, ⟨[], [], [], (0:Nat), [], [], .false, #[], [], (0:Nat), .false, .false, .false, (0:Int), [(2000:Int), (10:Int), (10:Int)], .false, (0:Nat), .true, [], [], (0:Nat), .false⟩, Array.mk [], ⟨(0:Nat), (0:Nat), (0:Nat), (0:Nat)⟩, nat_lit 187, os⟩ : SharedT) (piecesOf sts_11 env cdE ⟨(0:Nat), (0:Nat), (0:Nat), (0:Nat)⟩ fr0) = some (.next, (⟨tree_11 w.params, nat_lit 458, ⟨[], [], [], (0:Nat), [], [], .false, #[], [], (0:Nat), .false, .false, .false, (0:Int), [(2000:Int), (10:Int), (10:Int)], .false, (0:Nat), .true, [], [], (0:Nat), .false⟩, Array.mk [], ⟨(0:Nat), (0:Nat), (0:Nat), (0:Nat)⟩, nat_lit 725, os⟩ : SharedT), cdE, ⟨(113:Nat), (0:Nat), (242:Nat), (17:Nat)⟩) := by
  (try rewrite [PySem.W.Fast.te10110043849684766642]); (try rewrite [PySem.W.Fast.te15667345088766844465]); (try rewrite [PySem.W.Fast.te14374325043358763698]); (try rewrite [PySem.W.Fast.te14082659384304107361]); (try rewrite [PySem.W.Fast.te14364793385576792824]); (try rewrite [PySem.W.Fast.te3280011900867787385]); (try rewrite [PySem.W.Fast.te15894900282522491990]); (try rewrite [PySem.W.Fast.te108448406025392696]); (try rewrite [PySem.W.Fast.te2530740449226627131]); (try rewrite [PySem.W.Fast.te13404198127182003575]); (try rewrite [PySem.W.Fast.te11892475500146522536]); (try rewrite [PySem.W.Fast.te5868089070849250262]); (try rewrite [PySem.W.Fast.te7778420639110033934]); (try rewrite [PySem.W.Fast.te12450589397125341944]); (try rewrite [PySem.W.Fast.te10845986317416049621]); (try rewrite [PySem.W.Fast.te5976367518433545841]); (try rewrite [PySem.W.Fast.te11116078769350989829]); (try rewrite [PySem.W.Fast.te18267506072317697142]); (try rewrite [PySem.W.Fast.te7064857741715595979]); (try rewrite [PySem.W.Fast.te2412676222886940526]); (try rewrite [PySem.W.Fast.te11786499540890295008]); (try rewrite [PySem.W.Fast.te18390856906317167757]); (try rewrite [PySem.W.Fast.te5230368042074207986]); (try rewrite [PySem.W.Fast.te5846782303220188285]); (try rewrite [PySem.W.Fast.te15786405202946440463]); (try rewrite [PySem.W.Fast.te3490358392452942883]); kernel_rfl
noncomputable abbrev sts_16 : List Stmt := ((behindTheImports PySem.Challenge.pw_db5021_01).drop 11).take 5
theorem run_16_f (w : World) : (fun w : World => ∀ os : OsState, segRunT treeTable PySem.Challenge.pw_db5021_01 w (nat_lit 11) (some (.ref (6:Nat))) (nat_lit 1) (nat_lit 2440) (⟨tree_11 w.params, nat_lit 458, ⟨[], [], [], (0:Nat), [], [], .false, #[], [], (0:Nat), .false, .false, .false, (0:Int), [(2000:Int), (10:Int), (10:Int)], .false, (0:Nat), .true, [], [], (0:Nat), .false⟩, Array.mk [], ⟨(0:Nat), (0:Nat), (0:Nat), (0:Nat)⟩, nat_lit 725, os⟩ : SharedT) (piecesOf sts_16 env cdE ⟨(113:Nat), (0:Nat), (242:Nat), (17:Nat)⟩ fr0) = some (.next, (⟨tree_16 w.params, nat_lit 657, ⟨[], [], [], (0:Nat), [], [], .false, #[], [], (0:Nat), .false, .false, .false, (0:Int), [(2000:Int), (10:Int), (10:Int)], .false, (0:Nat), .true, [], [], (0:Nat), .false⟩, Array.mk [], ⟨(0:Nat), (0:Nat), (0:Nat), (0:Nat)⟩, nat_lit 1031, os⟩ : SharedT), cdE, ⟨(358:Nat), (0:Nat), (397:Nat), (67:Nat)⟩)) (w.withFollow "special-get-raises" false) := by
  intro os; (try rewrite [PySem.W.Fast.te10110043849684766642]); (try rewrite [PySem.W.Fast.te15667345088766844465]); (try rewrite [PySem.W.Fast.te14374325043358763698]); (try rewrite [PySem.W.Fast.te14082659384304107361]); (try rewrite [PySem.W.Fast.te14364793385576792824]); (try rewrite [PySem.W.Fast.te3280011900867787385]); (try rewrite [PySem.W.Fast.te15894900282522491990]); (try rewrite [PySem.W.Fast.te108448406025392696]); (try rewrite [PySem.W.Fast.te2530740449226627131]); (try rewrite [PySem.W.Fast.te13404198127182003575]); (try rewrite [PySem.W.Fast.te11892475500146522536]); (try rewrite [PySem.W.Fast.te5868089070849250262]); (try rewrite [PySem.W.Fast.te7778420639110033934]); (try rewrite [PySem.W.Fast.te12450589397125341944]); (try rewrite [PySem.W.Fast.te10845986317416049621]); (try rewrite [PySem.W.Fast.te5976367518433545841]); (try rewrite [PySem.W.Fast.te11116078769350989829]); (try rewrite [PySem.W.Fast.te18267506072317697142]); (try rewrite [PySem.W.Fast.te7064857741715595979]); (try rewrite [PySem.W.Fast.te2412676222886940526]); (try rewrite [PySem.W.Fast.te11786499540890295008]); (try rewrite [PySem.W.Fast.te18390856906317167757]); (try rewrite [PySem.W.Fast.te5230368042074207986]); (try rewrite [PySem.W.Fast.te17954694782651432939]); (try rewrite [PySem.W.Fast.te3490358392452942883]); (try rewrite [PySem.W.Fast.te5314543935751534816]); kernel_rfl
theorem run_16_t (w : World) : (fun w : World => ∀ os : OsState, segRunT treeTable PySem.Challenge.pw_db5021_01 w (nat_lit 11) (some (.ref (6:Nat))) (nat_lit 1) (nat_lit 2440) (⟨tree_11 w.params, nat_lit 458, ⟨[], [], [], (0:Nat), [], [], .false, #[], [], (0:Nat), .false, .false, .false, (0:Int), [(2000:Int), (10:Int), (10:Int)], .false, (0:Nat), .true, [], [], (0:Nat), .false⟩, Array.mk [], ⟨(0:Nat), (0:Nat), (0:Nat), (0:Nat)⟩, nat_lit 725, os⟩ : SharedT) (piecesOf sts_16 env cdE ⟨(113:Nat), (0:Nat), (242:Nat), (17:Nat)⟩ fr0) = some (.next, (⟨tree_16 w.params, nat_lit 657, ⟨[], [], [], (0:Nat), [], [], .false, #[], [], (0:Nat), .false, .false, .false, (0:Int), [(2000:Int), (10:Int), (10:Int)], .false, (0:Nat), .true, [], [], (0:Nat), .false⟩, Array.mk [], ⟨(0:Nat), (0:Nat), (0:Nat), (0:Nat)⟩, nat_lit 1031, os⟩ : SharedT), cdE, ⟨(358:Nat), (0:Nat), (397:Nat), (67:Nat)⟩)) (w.withFollow "special-get-raises" true) := by
  intro os; (try rewrite [PySem.W.Fast.te10110043849684766642]); (try rewrite [PySem.W.Fast.te15667345088766844465]); (try rewrite [PySem.W.Fast.te14374325043358763698]); (try rewrite [PySem.W.Fast.te14082659384304107361]); (try rewrite [PySem.W.Fast.te14364793385576792824]); (try rewrite [PySem.W.Fast.te3280011900867787385]); (try rewrite [PySem.W.Fast.te15894900282522491990]); (try rewrite [PySem.W.Fast.te108448406025392696]); (try rewrite [PySem.W.Fast.te2530740449226627131]); (try rewrite [PySem.W.Fast.te13404198127182003575]); (try rewrite [PySem.W.Fast.te11892475500146522536]); (try rewrite [PySem.W.Fast.te5868089070849250262]); (try rewrite [PySem.W.Fast.te7778420639110033934]); (try rewrite [PySem.W.Fast.te12450589397125341944]); (try rewrite [PySem.W.Fast.te10845986317416049621]); (try rewrite [PySem.W.Fast.te5976367518433545841]); (try rewrite [PySem.W.Fast.te11116078769350989829]); (try rewrite [PySem.W.Fast.te18267506072317697142]); (try rewrite [PySem.W.Fast.te7064857741715595979]); (try rewrite [PySem.W.Fast.te2412676222886940526]); (try rewrite [PySem.W.Fast.te11786499540890295008]); (try rewrite [PySem.W.Fast.te18390856906317167757]); (try rewrite [PySem.W.Fast.te5230368042074207986]); (try rewrite [PySem.W.Fast.te17954694782651432939]); (try rewrite [PySem.W.Fast.te3490358392452942883]); (try rewrite [PySem.W.Fast.te5314543935751534816]); kernel_rfl
theorem run_16 (w : World) (os : OsState) : segRunT treeTable PySem.Challenge.pw_db5021_01 w (nat_lit 11) (some (.ref (6:Nat))) (nat_lit 1) (nat_lit 2440) (⟨tree_11 w.params, nat_lit 458, ⟨[], [], [], (0:Nat), [], [], .false, #[], [], (0:Nat), .false, .false, .false, (0:Int), [(2000:Int), (10:Int), (10:Int)], .false, (0:Nat), .true, [], [], (0:Nat), .false⟩, Array.mk [], ⟨(0:Nat), (0:Nat), (0:Nat), (0:Nat)⟩, nat_lit 725, os⟩ : SharedT) (piecesOf sts_16 env cdE ⟨(113:Nat), (0:Nat), (242:Nat), (17:Nat)⟩ fr0) = some (.next, (⟨tree_16 w.params, nat_lit 657, ⟨[], [], [], (0:Nat), [], [], .false, #[], [], (0:Nat), .false, .false, .false, (0:Int), [(2000:Int), (10:Int), (10:Int)], .false, (0:Nat), .true, [], [], (0:Nat), .false⟩, Array.mk [], ⟨(0:Nat), (0:Nat), (0:Nat), (0:Nat)⟩, nat_lit 1031, os⟩ : SharedT), cdE, ⟨(358:Nat), (0:Nat), (397:Nat), (67:Nat)⟩) :=
  byRow2 "special-get-raises" (P := fun w : World => ∀ os : OsState, segRunT treeTable PySem.Challenge.pw_db5021_01 w (nat_lit 11) (some (.ref (6:Nat))) (nat_lit 1) (nat_lit 2440) (⟨tree_11 w.params, nat_lit 458, ⟨[], [], [], (0:Nat), [], [], .false, #[], [], (0:Nat), .false, .false, .false, (0:Int), [(2000:Int), (10:Int), (10:Int)], .false, (0:Nat), .true, [], [], (0:Nat), .false⟩, Array.mk [], ⟨(0:Nat), (0:Nat), (0:Nat), (0:Nat)⟩, nat_lit 725, os⟩ : SharedT) (piecesOf sts_16 env cdE ⟨(113:Nat), (0:Nat), (242:Nat), (17:Nat)⟩ fr0) = some (.next, (⟨tree_16 w.params, nat_lit 657, ⟨[], [], [], (0:Nat), [], [], .false, #[], [], (0:Nat), .false, .false, .false, (0:Int), [(2000:Int), (10:Int), (10:Int)], .false, (0:Nat), .true, [], [], (0:Nat), .false⟩, Array.mk [], ⟨(0:Nat), (0:Nat), (0:Nat), (0:Nat)⟩, nat_lit 1031, os⟩ : SharedT), cdE, ⟨(358:Nat), (0:Nat), (397:Nat), (67:Nat)⟩)) run_16_f run_16_t w os
noncomputable abbrev sts_17 : List Stmt := ((behindTheImports PySem.Challenge.pw_db5021_01).drop 16).take 1
theorem run_17_f (w : World) : (fun w : World => ∀ os : OsState, segRunT treeTable PySem.Challenge.pw_db5021_01 w (nat_lit 11) (some (.ref (6:Nat))) (nat_lit 1) (nat_lit 3192) (⟨tree_16 w.params, nat_lit 657, ⟨[], [], [], (0:Nat), [], [], .false, #[], [], (0:Nat), .false, .false, .false, (0:Int), [(2000:Int), (10:Int), (10:Int)], .false, (0:Nat), .true, [], [], (0:Nat), .false⟩, Array.mk [], ⟨(0:Nat), (0:Nat), (0:Nat), (0:Nat)⟩, nat_lit 1031, os⟩ : SharedT) (piecesOf sts_17 env cdE ⟨(358:Nat), (0:Nat), (397:Nat), (67:Nat)⟩ fr0) = some (.next, (⟨tree_17 w.params, nat_lit 704, ⟨[], [], [], (0:Nat), [], [], .false, #[], [], (0:Nat), .false, .false, .false, (0:Int), [(2000:Int), (10:Int), (10:Int)], .false, (0:Nat), .true, [], [], (0:Nat), .false⟩, Array.mk [], ⟨(0:Nat), (0:Nat), (0:Nat), (0:Nat)⟩, nat_lit 1201, os⟩ : SharedT), cdE, ⟨(398:Nat), (0:Nat), (398:Nat), (24:Nat)⟩)) (w.withFollow "special-get-raises" false) := by
  intro os; (try rewrite [PySem.W.Fast.te10110043849684766642]); (try rewrite [PySem.W.Fast.te15667345088766844465]); (try rewrite [PySem.W.Fast.te14374325043358763698]); (try rewrite [PySem.W.Fast.te14082659384304107361]); (try rewrite [PySem.W.Fast.te14364793385576792824]); (try rewrite [PySem.W.Fast.te3280011900867787385]); (try rewrite [PySem.W.Fast.te15894900282522491990]); (try rewrite [PySem.W.Fast.te108448406025392696]); (try rewrite [PySem.W.Fast.te2530740449226627131]); (try rewrite [PySem.W.Fast.te13404198127182003575]); (try rewrite [PySem.W.Fast.te11892475500146522536]); (try rewrite [PySem.W.Fast.te5868089070849250262]); (try rewrite [PySem.W.Fast.te7778420639110033934]); (try rewrite [PySem.W.Fast.te12450589397125341944]); (try rewrite [PySem.W.Fast.te10845986317416049621]); (try rewrite [PySem.W.Fast.te5976367518433545841]); (try rewrite [PySem.W.Fast.te11116078769350989829]); (try rewrite [PySem.W.Fast.te18267506072317697142]); (try rewrite [PySem.W.Fast.te7064857741715595979]); (try rewrite [PySem.W.Fast.te2412676222886940526]); (try rewrite [PySem.W.Fast.te11786499540890295008]); (try rewrite [PySem.W.Fast.te18390856906317167757]); (try rewrite [PySem.W.Fast.te5230368042074207986]); (try rewrite [PySem.W.Fast.te13339455476870478056]); (try rewrite [PySem.W.Fast.te5314543935751534816]); (try rewrite [PySem.W.Fast.te915419447542515580]); kernel_rfl
theorem run_17_t (w : World) : (fun w : World => ∀ os : OsState, segRunT treeTable PySem.Challenge.pw_db5021_01 w (nat_lit 11) (some (.ref (6:Nat))) (nat_lit 1) (nat_lit 3192) (⟨tree_16 w.params, nat_lit 657, ⟨[], [], [], (0:Nat), [], [], .false, #[], [], (0:Nat), .false, .false, .false, (0:Int), [(2000:Int), (10:Int), (10:Int)], .false, (0:Nat), .true, [], [], (0:Nat), .false⟩, Array.mk [], ⟨(0:Nat), (0:Nat), (0:Nat), (0:Nat)⟩, nat_lit 1031, os⟩ : SharedT) (piecesOf sts_17 env cdE ⟨(358:Nat), (0:Nat), (397:Nat), (67:Nat)⟩ fr0) = some (.next, (⟨tree_17 w.params, nat_lit 704, ⟨[], [], [], (0:Nat), [], [], .false, #[], [], (0:Nat), .false, .false, .false, (0:Int), [(2000:Int), (10:Int), (10:Int)], .false, (0:Nat), .true, [], [], (0:Nat), .false⟩, Array.mk [], ⟨(0:Nat), (0:Nat), (0:Nat), (0:Nat)⟩, nat_lit 1201, os⟩ : SharedT), cdE, ⟨(398:Nat), (0:Nat), (398:Nat), (24:Nat)⟩)) (w.withFollow "special-get-raises" true) := by
  intro os; (try rewrite [PySem.W.Fast.te10110043849684766642]); (try rewrite [PySem.W.Fast.te15667345088766844465]); (try rewrite [PySem.W.Fast.te14374325043358763698]); (try rewrite [PySem.W.Fast.te14082659384304107361]); (try rewrite [PySem.W.Fast.te14364793385576792824]); (try rewrite [PySem.W.Fast.te3280011900867787385]); (try rewrite [PySem.W.Fast.te15894900282522491990]); (try rewrite [PySem.W.Fast.te108448406025392696]); (try rewrite [PySem.W.Fast.te2530740449226627131]); (try rewrite [PySem.W.Fast.te13404198127182003575]); (try rewrite [PySem.W.Fast.te11892475500146522536]); (try rewrite [PySem.W.Fast.te5868089070849250262]); (try rewrite [PySem.W.Fast.te7778420639110033934]); (try rewrite [PySem.W.Fast.te12450589397125341944]); (try rewrite [PySem.W.Fast.te10845986317416049621]); (try rewrite [PySem.W.Fast.te5976367518433545841]); (try rewrite [PySem.W.Fast.te11116078769350989829]); (try rewrite [PySem.W.Fast.te18267506072317697142]); (try rewrite [PySem.W.Fast.te7064857741715595979]); (try rewrite [PySem.W.Fast.te2412676222886940526]); (try rewrite [PySem.W.Fast.te11786499540890295008]); (try rewrite [PySem.W.Fast.te18390856906317167757]); (try rewrite [PySem.W.Fast.te5230368042074207986]); (try rewrite [PySem.W.Fast.te13339455476870478056]); (try rewrite [PySem.W.Fast.te5314543935751534816]); (try rewrite [PySem.W.Fast.te915419447542515580]); kernel_rfl
theorem run_17 (w : World) (os : OsState) : segRunT treeTable PySem.Challenge.pw_db5021_01 w (nat_lit 11) (some (.ref (6:Nat))) (nat_lit 1) (nat_lit 3192) (⟨tree_16 w.params, nat_lit 657, ⟨[], [], [], (0:Nat), [], [], .false, #[], [], (0:Nat), .false, .false, .false, (0:Int), [(2000:Int), (10:Int), (10:Int)], .false, (0:Nat), .true, [], [], (0:Nat), .false⟩, Array.mk [], ⟨(0:Nat), (0:Nat), (0:Nat), (0:Nat)⟩, nat_lit 1031, os⟩ : SharedT) (piecesOf sts_17 env cdE ⟨(358:Nat), (0:Nat), (397:Nat), (67:Nat)⟩ fr0) = some (.next, (⟨tree_17 w.params, nat_lit 704, ⟨[], [], [], (0:Nat), [], [], .false, #[], [], (0:Nat), .false, .false, .false, (0:Int), [(2000:Int), (10:Int), (10:Int)], .false, (0:Nat), .true, [], [], (0:Nat), .false⟩, Array.mk [], ⟨(0:Nat), (0:Nat), (0:Nat), (0:Nat)⟩, nat_lit 1201, os⟩ : SharedT), cdE, ⟨(398:Nat), (0:Nat), (398:Nat), (24:Nat)⟩) :=
  byRow2 "special-get-raises" (P := fun w : World => ∀ os : OsState, segRunT treeTable PySem.Challenge.pw_db5021_01 w (nat_lit 11) (some (.ref (6:Nat))) (nat_lit 1) (nat_lit 3192) (⟨tree_16 w.params, nat_lit 657, ⟨[], [], [], (0:Nat), [], [], .false, #[], [], (0:Nat), .false, .false, .false, (0:Int), [(2000:Int), (10:Int), (10:Int)], .false, (0:Nat), .true, [], [], (0:Nat), .false⟩, Array.mk [], ⟨(0:Nat), (0:Nat), (0:Nat), (0:Nat)⟩, nat_lit 1031, os⟩ : SharedT) (piecesOf sts_17 env cdE ⟨(358:Nat), (0:Nat), (397:Nat), (67:Nat)⟩ fr0) = some (.next, (⟨tree_17 w.params, nat_lit 704, ⟨[], [], [], (0:Nat), [], [], .false, #[], [], (0:Nat), .false, .false, .false, (0:Int), [(2000:Int), (10:Int), (10:Int)], .false, (0:Nat), .true, [], [], (0:Nat), .false⟩, Array.mk [], ⟨(0:Nat), (0:Nat), (0:Nat), (0:Nat)⟩, nat_lit 1201, os⟩ : SharedT), cdE, ⟨(398:Nat), (0:Nat), (398:Nat), (24:Nat)⟩)) run_17_f run_17_t w os
noncomputable abbrev sts_27 : List Stmt := ((behindTheImports PySem.Challenge.pw_db5021_01).drop 17).take 10
theorem run_27 (w : World) (os : OsState) : segRunT treeTable PySem.Challenge.pw_db5021_01 w (nat_lit 11) (some (.ref (6:Nat))) (nat_lit 1) (nat_lit 1633) (⟨tree_17 w.params, nat_lit 704, ⟨[], [], [], (0:Nat), [], [], .false, #[], [], (0:Nat), .false, .false, .false, (0:Int), [(2000:Int), (10:Int), (10:Int)], .false, (0:Nat), .true, [], [], (0:Nat), .false⟩, Array.mk [], ⟨(0:Nat), (0:Nat), (0:Nat), (0:Nat)⟩, nat_lit 1201, os⟩ : SharedT) (piecesOf sts_27 env cdE ⟨(398:Nat), (0:Nat), (398:Nat), (24:Nat)⟩ fr0) = some (.next, (⟨tree_27 w.params, nat_lit 846, ⟨[], [], [], (0:Nat), [], [], .false, #[], [], (0:Nat), .false, .false, .false, (0:Int), [(2000:Int), (10:Int), (10:Int)], .false, (0:Nat), .true, [], [], (0:Nat), .false⟩, Array.mk [], ⟨(0:Nat), (0:Nat), (0:Nat), (0:Nat)⟩, nat_lit 1441, os⟩ : SharedT), cdE, ⟨(613:Nat), (0:Nat), (636:Nat), (22:Nat)⟩) := by
  (try rewrite [PySem.W.Fast.te10110043849684766642]); (try rewrite [PySem.W.Fast.te15667345088766844465]); (try rewrite [PySem.W.Fast.te14374325043358763698]); (try rewrite [PySem.W.Fast.te14082659384304107361]); (try rewrite [PySem.W.Fast.te14364793385576792824]); (try rewrite [PySem.W.Fast.te3280011900867787385]); (try rewrite [PySem.W.Fast.te15894900282522491990]); (try rewrite [PySem.W.Fast.te108448406025392696]); (try rewrite [PySem.W.Fast.te2530740449226627131]); (try rewrite [PySem.W.Fast.te13404198127182003575]); (try rewrite [PySem.W.Fast.te11892475500146522536]); (try rewrite [PySem.W.Fast.te5868089070849250262]); (try rewrite [PySem.W.Fast.te7778420639110033934]); (try rewrite [PySem.W.Fast.te12450589397125341944]); (try rewrite [PySem.W.Fast.te10845986317416049621]); (try rewrite [PySem.W.Fast.te5976367518433545841]); (try rewrite [PySem.W.Fast.te11116078769350989829]); (try rewrite [PySem.W.Fast.te18267506072317697142]); (try rewrite [PySem.W.Fast.te7064857741715595979]); (try rewrite [PySem.W.Fast.te2412676222886940526]); (try rewrite [PySem.W.Fast.te11786499540890295008]); (try rewrite [PySem.W.Fast.te18390856906317167757]); (try rewrite [PySem.W.Fast.te5230368042074207986]); (try rewrite [PySem.W.Fast.te12638436561510665209]); (try rewrite [PySem.W.Fast.te915419447542515580]); (try rewrite [PySem.W.Fast.te4503273574858694394]); kernel_rfl
theorem fin (w : World) (os : OsState) : topRun treeTable PySem.Challenge.pw_db5021_01 w (nat_lit 11) (some (.ref (6:Nat))) (nat_lit 2) (⟨tree_27 w.params, nat_lit 846, ⟨[], [], [], (0:Nat), [], [], .false, #[], [], (0:Nat), .false, .false, .false, (0:Int), [(2000:Int), (10:Int), (10:Int)], .false, (0:Nat), .true, [], [], (0:Nat), .false⟩, Array.mk [], ⟨(0:Nat), (0:Nat), (0:Nat), (0:Nat)⟩, nat_lit 1441, os⟩ : SharedT).abs ⟨doneF .next, cdE, ⟨(613:Nat), (0:Nat), (636:Nat), (22:Nat)⟩, fr0⟩ = some (⟨tree_27 w.params, nat_lit 846, ⟨[], [], [], (0:Nat), [], [], .false, #[], [], (0:Nat), .false, .false, .false, (0:Int), [(2000:Int), (10:Int), (10:Int)], .false, (0:Nat), .true, [], [], (0:Nat), .false⟩, Array.mk [], ⟨(0:Nat), (0:Nat), (0:Nat), (0:Nat)⟩, nat_lit 1441, os⟩ : SharedT).abs := by
  (try rewrite [PySem.W.Fast.te10110043849684766642]); (try rewrite [PySem.W.Fast.te15667345088766844465]); (try rewrite [PySem.W.Fast.te14374325043358763698]); (try rewrite [PySem.W.Fast.te14082659384304107361]); (try rewrite [PySem.W.Fast.te14364793385576792824]); (try rewrite [PySem.W.Fast.te3280011900867787385]); (try rewrite [PySem.W.Fast.te15894900282522491990]); (try rewrite [PySem.W.Fast.te108448406025392696]); (try rewrite [PySem.W.Fast.te2530740449226627131]); (try rewrite [PySem.W.Fast.te13404198127182003575]); (try rewrite [PySem.W.Fast.te11892475500146522536]); (try rewrite [PySem.W.Fast.te5868089070849250262]); (try rewrite [PySem.W.Fast.te7778420639110033934]); (try rewrite [PySem.W.Fast.te12450589397125341944]); (try rewrite [PySem.W.Fast.te10845986317416049621]); (try rewrite [PySem.W.Fast.te5976367518433545841]); (try rewrite [PySem.W.Fast.te11116078769350989829]); (try rewrite [PySem.W.Fast.te18267506072317697142]); (try rewrite [PySem.W.Fast.te7064857741715595979]); (try rewrite [PySem.W.Fast.te2412676222886940526]); (try rewrite [PySem.W.Fast.te11786499540890295008]); (try rewrite [PySem.W.Fast.te18390856906317167757]); (try rewrite [PySem.W.Fast.te5230368042074207986]); (try rewrite [PySem.W.Fast.te4503273574858694394]); kernel_rfl
theorem end_nil : (behindTheImports PySem.Challenge.pw_db5021_01).drop 27 = [] := by kernel_rfl
theorem fin_rest (w : World) (os : OsState) : topRun treeTable PySem.Challenge.pw_db5021_01 w (nat_lit 11) (some (.ref (6:Nat))) (nat_lit 2) (⟨tree_27 w.params, nat_lit 846, ⟨[], [], [], (0:Nat), [], [], .false, #[], [], (0:Nat), .false, .false, .false, (0:Int), [(2000:Int), (10:Int), (10:Int)], .false, (0:Nat), .true, [], [], (0:Nat), .false⟩, Array.mk [], ⟨(0:Nat), (0:Nat), (0:Nat), (0:Nat)⟩, nat_lit 1441, os⟩ : SharedT).abs (restOf ((behindTheImports PySem.Challenge.pw_db5021_01).drop 27) env cdE ⟨(613:Nat), (0:Nat), (636:Nat), (22:Nat)⟩ fr0) = some (⟨tree_27 w.params, nat_lit 846, ⟨[], [], [], (0:Nat), [], [], .false, #[], [], (0:Nat), .false, .false, .false, (0:Int), [(2000:Int), (10:Int), (10:Int)], .false, (0:Nat), .true, [], [], (0:Nat), .false⟩, Array.mk [], ⟨(0:Nat), (0:Nat), (0:Nat), (0:Nat)⟩, nat_lit 1441, os⟩ : SharedT).abs := by
  rw [end_nil]; exact piece_nil (fin w os)
theorem restOf_split {w : World} {N : Nat} {s : Shared} {pos : Pos} {r : Shared} (a n b : Nat) (e : a + n = b) (h : topRun treeTable PySem.Challenge.pw_db5021_01 w (nat_lit 11) (some (.ref (6:Nat))) N s (restOf (((behindTheImports PySem.Challenge.pw_db5021_01).drop a).take n ++ (behindTheImports PySem.Challenge.pw_db5021_01).drop b) env cdE pos fr0) = some r) : topRun treeTable PySem.Challenge.pw_db5021_01 w (nat_lit 11) (some (.ref (6:Nat))) N s (restOf ((behindTheImports PySem.Challenge.pw_db5021_01).drop a) env cdE pos fr0) = some r := by
  subst e
  rw [← List.drop_drop, List.take_append_drop] at h
  exact h
theorem run (w : World) (os : OsState) : topRun treeTable PySem.Challenge.pw_db5021_01 w (nat_lit 11) (some (.ref (6:Nat))) ((nat_lit 12) + ((nat_lit 1) + ((nat_lit 2546) + ((nat_lit 2440) + ((nat_lit 3192) + ((nat_lit 1633) + (nat_lit 2))))))) ⟨boot_heap w.params, Array.mk [], boot_drawn, boot_toks, os⟩ (topStub PySem.Challenge.pw_db5021_01) = some (⟨tree_27 w.params, nat_lit 846, ⟨[], [], [], (0:Nat), [], [], .false, #[], [], (0:Nat), .false, .false, .false, (0:Int), [(2000:Int), (10:Int), (10:Int)], .false, (0:Nat), .true, [], [], (0:Nat), .false⟩, Array.mk [], ⟨(0:Nat), (0:Nat), (0:Nat), (0:Nat)⟩, nat_lit 1441, os⟩ : SharedT).abs :=
  go_top (pre w os) (piece_block (block w os) (restOf_split 0 11 11 (by rfl) (piece_app (segRun_of (run_11 w os)) (restOf_split 11 5 16 (by rfl) (piece_app (segRun_of (run_16 w os)) (restOf_split 16 1 17 (by rfl) (piece_app (segRun_of (run_17 w os)) (restOf_split 17 10 27 (by rfl) (piece_app (segRun_of (run_27 w os)) (fin_rest w os))))))))))
theorem lk_a (w : World) (os : OsState) : (staticsOk mods (boot_heap w.params) (heap_e w.params) && namesBound PySem.Challenge.pw_db5021_01 (heap_e w.params) && gensDone (sE w os) && laidKept (boot_heap w.params) (heap_e w.params)) = true := by
  (try rewrite [PySem.W.Fast.te5160383126252970620]); (try rewrite [PySem.W.R.mapR_eq]); (try rewrite [PySem.W.Fast.te3399658132070893891]); (try rewrite [PySem.W.Fast.te5991557255702980513]); (try rewrite [PySem.W.Fast.te10880121769531294198]); (try rewrite [PySem.W.Fast.te821141287760084731]); (try rewrite [PySem.W.Fast.te7409074990110511671]); (try rewrite [PySem.W.Fast.te13664370479719496447]); (try rewrite [PySem.W.Fast.te14722251495701143533]); (try rewrite [PySem.W.Fast.te10994771534591457954]); (try rewrite [PySem.W.Fast.te2368527892694137696]); (try rewrite [PySem.W.Fast.te479339242167458305]); (try rewrite [PySem.W.Fast.te16090120013241838585]); (try rewrite [PySem.W.Fast.te3247288618530077131]); (try rewrite [PySem.W.Fast.te2386780881361962483]); (try rewrite [PySem.W.Fast.te11698064438423848299]); (try rewrite [PySem.W.Fast.te7317090234206586261]); (try rewrite [PySem.W.Fast.te7369524293546568484]); (try rewrite [PySem.W.Fast.te2412676222886940526]); (try rewrite [PySem.W.Fast.te8147203006132636578]); (try rewrite [PySem.W.Fast.te9304005743775784946]); (try rewrite [PySem.W.Fast.te17827276104080341361]); (try rewrite [PySem.W.Fast.te14979626087600564940]); (try rewrite [PySem.W.Fast.te16622002244238032055]); kernel_rfl
theorem lk_1 (w : World) (os : OsState) : seen ((recsOf view_39).map (·.name)) (ownsOf view_39) [] { sE w os with gens := #[] } = expectedOf view_39 := by
  (try rewrite [PySem.W.Fast.te5160383126252970620]); (try rewrite [PySem.W.R.mapR_eq]); (try rewrite [PySem.W.Fast.te3399658132070893891]); (try rewrite [PySem.W.Fast.te5991557255702980513]); (try rewrite [PySem.W.Fast.te10880121769531294198]); (try rewrite [PySem.W.Fast.te821141287760084731]); (try rewrite [PySem.W.Fast.te7409074990110511671]); (try rewrite [PySem.W.Fast.te13664370479719496447]); (try rewrite [PySem.W.Fast.te14722251495701143533]); (try rewrite [PySem.W.Fast.te10994771534591457954]); (try rewrite [PySem.W.Fast.te2368527892694137696]); (try rewrite [PySem.W.Fast.te479339242167458305]); (try rewrite [PySem.W.Fast.te16090120013241838585]); (try rewrite [PySem.W.Fast.te3247288618530077131]); (try rewrite [PySem.W.Fast.te2386780881361962483]); (try rewrite [PySem.W.Fast.te11698064438423848299]); (try rewrite [PySem.W.Fast.te7317090234206586261]); (try rewrite [PySem.W.Fast.te7369524293546568484]); (try rewrite [PySem.W.Fast.te2412676222886940526]); (try rewrite [PySem.W.Fast.te8147203006132636578]); (try rewrite [PySem.W.Fast.te9304005743775784946]); (try rewrite [PySem.W.Fast.te17827276104080341361]); (try rewrite [PySem.W.Fast.te14979626087600564940]); (try rewrite [PySem.W.Fast.te16622002244238032055]); kernel_rfl
theorem lk_2 (w : World) (os : OsState) : (sE w os).heap.bltView = bltViewBooted := by
  (try rewrite [PySem.W.Fast.te5160383126252970620]); (try rewrite [PySem.W.R.mapR_eq]); (try rewrite [PySem.W.Fast.te3399658132070893891]); (try rewrite [PySem.W.Fast.te5991557255702980513]); (try rewrite [PySem.W.Fast.te10880121769531294198]); (try rewrite [PySem.W.Fast.te821141287760084731]); (try rewrite [PySem.W.Fast.te7409074990110511671]); (try rewrite [PySem.W.Fast.te13664370479719496447]); (try rewrite [PySem.W.Fast.te14722251495701143533]); (try rewrite [PySem.W.Fast.te10994771534591457954]); (try rewrite [PySem.W.Fast.te2368527892694137696]); (try rewrite [PySem.W.Fast.te479339242167458305]); (try rewrite [PySem.W.Fast.te16090120013241838585]); (try rewrite [PySem.W.Fast.te3247288618530077131]); (try rewrite [PySem.W.Fast.te2386780881361962483]); (try rewrite [PySem.W.Fast.te11698064438423848299]); (try rewrite [PySem.W.Fast.te7317090234206586261]); (try rewrite [PySem.W.Fast.te7369524293546568484]); (try rewrite [PySem.W.Fast.te2412676222886940526]); (try rewrite [PySem.W.Fast.te8147203006132636578]); (try rewrite [PySem.W.Fast.te9304005743775784946]); (try rewrite [PySem.W.Fast.te17827276104080341361]); (try rewrite [PySem.W.Fast.te14979626087600564940]); (try rewrite [PySem.W.Fast.te16622002244238032055]); kernel_rfl
theorem lk_3 (w : World) (os : OsState) : ((sE w os).heap.keysOk (looseW view_39 loose_39) ((recsOf view_39).map (·.name)) ((litsOf view_39).map (·.1)) ((clssOf view_39 (looseW view_39 loose_39)).map (·.name)) && (sE w os).heap.accountedOkI mods && (sE w os).heap.isNs mainGlobals && (sE w os).heap.isNs builtinsNs && tablesOk view_39 (sE w os).heap && (xlAt view_39 [] (sE w os) && recOk PySem.Challenge.rw_db5021_01.row.records (sE w os)) && (if true then (sE w os).gens.size == 0 else !leftWithCleanup (sE w os).gens)) = true := by
  (try rewrite [PySem.W.Fast.te5160383126252970620]); (try rewrite [PySem.W.R.mapR_eq]); (try rewrite [PySem.W.Fast.te3399658132070893891]); (try rewrite [PySem.W.Fast.te5991557255702980513]); (try rewrite [PySem.W.Fast.te10880121769531294198]); (try rewrite [PySem.W.Fast.te821141287760084731]); (try rewrite [PySem.W.Fast.te7409074990110511671]); (try rewrite [PySem.W.Fast.te13664370479719496447]); (try rewrite [PySem.W.Fast.te14722251495701143533]); (try rewrite [PySem.W.Fast.te10994771534591457954]); (try rewrite [PySem.W.Fast.te2368527892694137696]); (try rewrite [PySem.W.Fast.te479339242167458305]); (try rewrite [PySem.W.Fast.te16090120013241838585]); (try rewrite [PySem.W.Fast.te3247288618530077131]); (try rewrite [PySem.W.Fast.te2386780881361962483]); (try rewrite [PySem.W.Fast.te11698064438423848299]); (try rewrite [PySem.W.Fast.te7317090234206586261]); (try rewrite [PySem.W.Fast.te7369524293546568484]); (try rewrite [PySem.W.Fast.te2412676222886940526]); (try rewrite [PySem.W.Fast.te8147203006132636578]); (try rewrite [PySem.W.Fast.te9304005743775784946]); (try rewrite [PySem.W.Fast.te17827276104080341361]); (try rewrite [PySem.W.Fast.te14979626087600564940]); (try rewrite [PySem.W.Fast.te16622002244238032055]); kernel_rfl
theorem lk_4 (w : World) (os : OsState) : tabsOk view_39 (sE w os) = true := by
  (try rewrite [PySem.W.Fast.te5160383126252970620]); (try rewrite [PySem.W.R.mapR_eq]); (try rewrite [PySem.W.Fast.te3399658132070893891]); (try rewrite [PySem.W.Fast.te5991557255702980513]); (try rewrite [PySem.W.Fast.te10880121769531294198]); (try rewrite [PySem.W.Fast.te821141287760084731]); (try rewrite [PySem.W.Fast.te7409074990110511671]); (try rewrite [PySem.W.Fast.te13664370479719496447]); (try rewrite [PySem.W.Fast.te14722251495701143533]); (try rewrite [PySem.W.Fast.te10994771534591457954]); (try rewrite [PySem.W.Fast.te2368527892694137696]); (try rewrite [PySem.W.Fast.te479339242167458305]); (try rewrite [PySem.W.Fast.te16090120013241838585]); (try rewrite [PySem.W.Fast.te3247288618530077131]); (try rewrite [PySem.W.Fast.te2386780881361962483]); (try rewrite [PySem.W.Fast.te11698064438423848299]); (try rewrite [PySem.W.Fast.te7317090234206586261]); (try rewrite [PySem.W.Fast.te7369524293546568484]); (try rewrite [PySem.W.Fast.te2412676222886940526]); (try rewrite [PySem.W.Fast.te8147203006132636578]); (try rewrite [PySem.W.Fast.te9304005743775784946]); (try rewrite [PySem.W.Fast.te17827276104080341361]); (try rewrite [PySem.W.Fast.te14979626087600564940]); (try rewrite [PySem.W.Fast.te16622002244238032055]); kernel_rfl
theorem lk_5 (w : World) (os : OsState) : pinSeenD view_39 (drecsOf view_39) (sE w os) = pinGoodD (drecsOf view_39) := by
  (try rewrite [PySem.W.Fast.te5160383126252970620]); (try rewrite [PySem.W.R.mapR_eq]); (try rewrite [PySem.W.Fast.te3399658132070893891]); (try rewrite [PySem.W.Fast.te5991557255702980513]); (try rewrite [PySem.W.Fast.te10880121769531294198]); (try rewrite [PySem.W.Fast.te821141287760084731]); (try rewrite [PySem.W.Fast.te7409074990110511671]); (try rewrite [PySem.W.Fast.te13664370479719496447]); (try rewrite [PySem.W.Fast.te14722251495701143533]); (try rewrite [PySem.W.Fast.te10994771534591457954]); (try rewrite [PySem.W.Fast.te2368527892694137696]); (try rewrite [PySem.W.Fast.te479339242167458305]); (try rewrite [PySem.W.Fast.te16090120013241838585]); (try rewrite [PySem.W.Fast.te3247288618530077131]); (try rewrite [PySem.W.Fast.te2386780881361962483]); (try rewrite [PySem.W.Fast.te11698064438423848299]); (try rewrite [PySem.W.Fast.te7317090234206586261]); (try rewrite [PySem.W.Fast.te7369524293546568484]); (try rewrite [PySem.W.Fast.te2412676222886940526]); (try rewrite [PySem.W.Fast.te8147203006132636578]); (try rewrite [PySem.W.Fast.te9304005743775784946]); (try rewrite [PySem.W.Fast.te17827276104080341361]); (try rewrite [PySem.W.Fast.te14979626087600564940]); (try rewrite [PySem.W.Fast.te16622002244238032055]); kernel_rfl
theorem lk_6 (w : World) (os : OsState) : plainSeenE view_39 (looseW view_39 loose_39) (sE w os) = plainGoodE view_39 (looseW view_39 loose_39) := by
  (try rewrite [PySem.W.Fast.te5160383126252970620]); (try rewrite [PySem.W.R.mapR_eq]); (try rewrite [PySem.W.Fast.te3399658132070893891]); (try rewrite [PySem.W.Fast.te5991557255702980513]); (try rewrite [PySem.W.Fast.te10880121769531294198]); (try rewrite [PySem.W.Fast.te821141287760084731]); (try rewrite [PySem.W.Fast.te7409074990110511671]); (try rewrite [PySem.W.Fast.te13664370479719496447]); (try rewrite [PySem.W.Fast.te14722251495701143533]); (try rewrite [PySem.W.Fast.te10994771534591457954]); (try rewrite [PySem.W.Fast.te2368527892694137696]); (try rewrite [PySem.W.Fast.te479339242167458305]); (try rewrite [PySem.W.Fast.te16090120013241838585]); (try rewrite [PySem.W.Fast.te3247288618530077131]); (try rewrite [PySem.W.Fast.te2386780881361962483]); (try rewrite [PySem.W.Fast.te11698064438423848299]); (try rewrite [PySem.W.Fast.te7317090234206586261]); (try rewrite [PySem.W.Fast.te7369524293546568484]); (try rewrite [PySem.W.Fast.te2412676222886940526]); (try rewrite [PySem.W.Fast.te8147203006132636578]); (try rewrite [PySem.W.Fast.te9304005743775784946]); (try rewrite [PySem.W.Fast.te17827276104080341361]); (try rewrite [PySem.W.Fast.te14979626087600564940]); (try rewrite [PySem.W.Fast.te16622002244238032055]); kernel_rfl
theorem lk_7 (w : World) (os : OsState) : plainSeenD view_39 loose_39 (sE w os) = plainGoodD view_39 loose_39 := by
  (try rewrite [PySem.W.Fast.te5160383126252970620]); (try rewrite [PySem.W.R.mapR_eq]); (try rewrite [PySem.W.Fast.te3399658132070893891]); (try rewrite [PySem.W.Fast.te5991557255702980513]); (try rewrite [PySem.W.Fast.te10880121769531294198]); (try rewrite [PySem.W.Fast.te821141287760084731]); (try rewrite [PySem.W.Fast.te7409074990110511671]); (try rewrite [PySem.W.Fast.te13664370479719496447]); (try rewrite [PySem.W.Fast.te14722251495701143533]); (try rewrite [PySem.W.Fast.te10994771534591457954]); (try rewrite [PySem.W.Fast.te2368527892694137696]); (try rewrite [PySem.W.Fast.te479339242167458305]); (try rewrite [PySem.W.Fast.te16090120013241838585]); (try rewrite [PySem.W.Fast.te3247288618530077131]); (try rewrite [PySem.W.Fast.te2386780881361962483]); (try rewrite [PySem.W.Fast.te11698064438423848299]); (try rewrite [PySem.W.Fast.te7317090234206586261]); (try rewrite [PySem.W.Fast.te7369524293546568484]); (try rewrite [PySem.W.Fast.te2412676222886940526]); (try rewrite [PySem.W.Fast.te8147203006132636578]); (try rewrite [PySem.W.Fast.te9304005743775784946]); (try rewrite [PySem.W.Fast.te17827276104080341361]); (try rewrite [PySem.W.Fast.te14979626087600564940]); (try rewrite [PySem.W.Fast.te16622002244238032055]); kernel_rfl
theorem lk_8 (w : World) (os : OsState) : wideSeen view_39 (sE w os) = wideGood view_39 := by
  (try rewrite [PySem.W.Fast.te5160383126252970620]); (try rewrite [PySem.W.R.mapR_eq]); (try rewrite [PySem.W.Fast.te3399658132070893891]); (try rewrite [PySem.W.Fast.te5991557255702980513]); (try rewrite [PySem.W.Fast.te10880121769531294198]); (try rewrite [PySem.W.Fast.te821141287760084731]); (try rewrite [PySem.W.Fast.te7409074990110511671]); (try rewrite [PySem.W.Fast.te13664370479719496447]); (try rewrite [PySem.W.Fast.te14722251495701143533]); (try rewrite [PySem.W.Fast.te10994771534591457954]); (try rewrite [PySem.W.Fast.te2368527892694137696]); (try rewrite [PySem.W.Fast.te479339242167458305]); (try rewrite [PySem.W.Fast.te16090120013241838585]); (try rewrite [PySem.W.Fast.te3247288618530077131]); (try rewrite [PySem.W.Fast.te2386780881361962483]); (try rewrite [PySem.W.Fast.te11698064438423848299]); (try rewrite [PySem.W.Fast.te7317090234206586261]); (try rewrite [PySem.W.Fast.te7369524293546568484]); (try rewrite [PySem.W.Fast.te2412676222886940526]); (try rewrite [PySem.W.Fast.te8147203006132636578]); (try rewrite [PySem.W.Fast.te9304005743775784946]); (try rewrite [PySem.W.Fast.te17827276104080341361]); (try rewrite [PySem.W.Fast.te14979626087600564940]); (try rewrite [PySem.W.Fast.te16622002244238032055]); kernel_rfl
theorem lk_9 (w : World) (os : OsState) : clsSeenW view_39 loose_39 (sE w os) = clsGoodW view_39 loose_39 := by
  (try rewrite [PySem.W.Fast.te5160383126252970620]); (try rewrite [PySem.W.R.mapR_eq]); (try rewrite [PySem.W.Fast.te3399658132070893891]); (try rewrite [PySem.W.Fast.te5991557255702980513]); (try rewrite [PySem.W.Fast.te10880121769531294198]); (try rewrite [PySem.W.Fast.te821141287760084731]); (try rewrite [PySem.W.Fast.te7409074990110511671]); (try rewrite [PySem.W.Fast.te13664370479719496447]); (try rewrite [PySem.W.Fast.te14722251495701143533]); (try rewrite [PySem.W.Fast.te10994771534591457954]); (try rewrite [PySem.W.Fast.te2368527892694137696]); (try rewrite [PySem.W.Fast.te479339242167458305]); (try rewrite [PySem.W.Fast.te16090120013241838585]); (try rewrite [PySem.W.Fast.te3247288618530077131]); (try rewrite [PySem.W.Fast.te2386780881361962483]); (try rewrite [PySem.W.Fast.te11698064438423848299]); (try rewrite [PySem.W.Fast.te7317090234206586261]); (try rewrite [PySem.W.Fast.te7369524293546568484]); (try rewrite [PySem.W.Fast.te2412676222886940526]); (try rewrite [PySem.W.Fast.te8147203006132636578]); (try rewrite [PySem.W.Fast.te9304005743775784946]); (try rewrite [PySem.W.Fast.te17827276104080341361]); (try rewrite [PySem.W.Fast.te14979626087600564940]); (try rewrite [PySem.W.Fast.te16622002244238032055]); kernel_rfl
theorem end_eq (w : World) (os : OsState) : (⟨tree_27 w.params, nat_lit 846, ⟨[], [], [], (0:Nat), [], [], .false, #[], [], (0:Nat), .false, .false, .false, (0:Int), [(2000:Int), (10:Int), (10:Int)], .false, (0:Nat), .true, [], [], (0:Nat), .false⟩, Array.mk [], ⟨(0:Nat), (0:Nat), (0:Nat), (0:Nat)⟩, nat_lit 1441, os⟩ : SharedT).abs = sE w os := by kernel_rfl
def getsT (T : BT) (n : Nat) (as : List Addr) : List (Option Obj) := as.map fun a => match Nat.blt a n with | true => (T.get a).bind alive | false => none
theorem gets_of {T : BT} {n : Nat} {life : Life} {r : List (Option Obj)} (as : List Addr) (full : ∀ a ∈ as, (T.get a).isSome = true) (h : getsT T n as = r) : as.map (absHeap T n life).get? = r := by
  subst h
  refine List.map_congr_left fun a ha => ?_
  cases e : Nat.blt a n with
  | true =>
    obtain ⟨o, ho⟩ := Option.isSome_iff_exists.mp (full a ha)
    rw [abs_get (Nat.le_of_ble_eq_true e) ho, ho]; rfl
  | false =>
    rw [abs_get_none (fun q => by rw [show Nat.blt a n = true from Nat.ble_eq_true_of_le q] at e; cases e)]
theorem full_39 (P : Params) : as_39.all (fun a => ((tree_27 P).get a).isSome) = true := by kernel_rfl
theorem gets_eq (w : World) : getsT (tree_27 w.params) (nat_lit 846) as_39 = (heap_39 w.params).map fun p => some p.2 := by kernel_rfl
theorem yfs (w : World) (os : OsState) : as_39.map (sE w os).heap.get? = (heap_39 w.params).map fun p => some p.2 :=
  (congrArg (fun s : Shared => as_39.map s.heap.get?) (end_eq w os)).symm.trans (gets_of as_39 (List.all_eq_true.mp (full_39 w.params)) (gets_eq w))
theorem opens : ∀ w : World, (fencedOpening treeTable PySem.Challenge.pw_db5021_01 w 19740).map (fun s => (s.heap, s.gens, s.drawn, s.toks)) = some (boot_heap w.params, Array.mk [], boot_drawn, boot_toks) :=
  boot_open (by kernel_rfl) (by decide) (fun s => by kernel_rfl)
theorem size (w : World) : ((boot_heap w.params).isNs mainGlobals && (Array.mk [] : Array GenState).size == 0, (boot_heap w.params).objs.size, (boot_heap w.params).nsMap mainGlobals "__annotations__") = (true, (nat_lit 11), (some (.ref (6:Nat)))) := by kernel_rfl
theorem run_e (w : World) (os : OsState) : topRun treeTable PySem.Challenge.pw_db5021_01 w (nat_lit 11) (some (.ref (6:Nat))) ((nat_lit 12) + ((nat_lit 1) + ((nat_lit 2546) + ((nat_lit 2440) + ((nat_lit 3192) + ((nat_lit 1633) + (nat_lit 2))))))) ⟨boot_heap w.params, Array.mk [], boot_drawn, boot_toks, os⟩ (topStub PySem.Challenge.pw_db5021_01) = some (sE w os) :=
  (run w os).trans (congrArg some (end_eq w os))
noncomputable abbrev Hk : Hook := kHook heap_39 as_39 (fun _ => by kernel_rfl)
theorem looks (w : World) : (fun os => ((staticsOk mods (boot_heap w.params) (heap_e w.params) && namesBound PySem.Challenge.pw_db5021_01 (heap_e w.params) && gensDone (sE w os) && laidKept (boot_heap w.params) (heap_e w.params)), openSeen view_39 loose_39 mods (fun s => xlAt view_39 [] s && recOk PySem.Challenge.rw_db5021_01.row.records s) true (sE w os), Hk.obs (sE w os))) = fun _ => (true, openGood view_39 loose_39, Hk.val w) := by
  funext os
  exact looks_pair (lk_a w os) (looks_pair (looks_pair (lk_1 w os) (looks_pair (lk_2 w os) (looks_pair (lk_3 w os) (looks_pair (lk_4 w os) (looks_pair (lk_5 w os) (looks_pair (lk_6 w os) (looks_pair (lk_7 w os) (looks_pair (lk_8 w os) (lk_9 w os))))))))) (yfs w os))
theorem left : LeftO PySem.Challenge.pw_db5021_01 view_39 loose_39 (fun s => xlAt view_39 [] s && recOk PySem.Challenge.rw_db5021_01.row.records s) Hk.obs Hk.val 19740 true :=
  LeftO.of_pieces opens size run_e (by decide) looks
end Mine.hd
namespace Mine
theorem hd {d : DefRec} {kwd : List (Str × Expr)} (hdef : defOf Mine.hd.view_39 PySem.Challenge.rw_db5021_01.row.name = some (d, kwd)) (hp : PySem.Challenge.rw_db5021_01.row.prog.theDef PySem.Challenge.rw_db5021_01.row.name = some (d.params, d.body, d.scope)) (hk : kwWritten? d.params.kwonlyargs d.params.kw_defaults = some kwd)
    (walk : WalkO Mine.hd.view_39 [.ofString "mappingproxy", .ofString "_MEMBERS_VIEW", .ofString "EnumType", .ofString "Enum", .ofString "DistanceAlgorithm", .ofString "Levenshtein", .ofString "DamerauOsa"] (XL Mine.hd.view_39 []) (Hook.says Mine.hd.Hk) PySem.Challenge.rw_db5021_01.row.toRowW d kwd fun f vs => PySem.call f vs) : PySem.Challenge.rw_db5021_01.Holds := by
  w_on; o_law
  exact holds_open (q := Mine.hd.view_39) (loose := [.ofString "mappingproxy", .ofString "_MEMBERS_VIEW", .ofString "EnumType", .ofString "Enum", .ofString "DistanceAlgorithm", .ofString "Levenshtein", .ofString "DamerauOsa"]) (Xt := fun s => xlAt Mine.hd.view_39 [] s && recOk PySem.Challenge.rw_db5021_01.row.records s) (XP := XL Mine.hd.view_39 []) (Yf := Hook.obs Mine.hd.Hk) (Ya := Hook.val Mine.hd.Hk) (YP := Hook.says Mine.hd.Hk) (N := 19740) Mine.hd.left (Hook.of Mine.hd.Hk) (Hook.keeps Mine.hd.Hk) (fun s e => xl_of s (Bool.and_eq_true_iff.mp e).1) XL.keeps hdef hp hk (fun s e => recFacts_of (Bool.and_eq_true_iff.mp e).2) (by rfl) (by first | assumption | decide +kernel) (by decide +kernel) ⟨rfl, rfl, rfl, rfl, rfl, by decide +kernel⟩ (by w_witness2) walk
end Mine
end
namespace Mine
theorem top_off_P1 : True := by
 w_top off
 trivial
end Mine
section
open PySem PySem.W PyProof.Rows
namespace Mine

abbrev Pr : Program := PySem.Challenge.rw_db5021_01.row.prog
noncomputable abbrev loose : List Str := looseW hd.view_39 [Str.ofString "mappingproxy", Str.ofString "_MEMBERS_VIEW", Str.ofString "EnumType", Str.ofString "Enum", Str.ofString "DistanceAlgorithm", Str.ofString "Levenshtein", Str.ofString "DamerauOsa"]

theorem filled : (PySem.Challenge.rw_db5021_01, hd.heap_39) = (PySem.Challenge.rw_db5021_01, hd.heap_39) := by k_fill; rfl

set_option maxRecDepth 100000 in
set_option maxHeartbeats 8000000 in
theorem at_c {w : World} {mean : ExcName → Option Value} {mg mb : Str → Option Value} {news : List (Addr × Obj)} {l : Addr} {vs : List Value} {ns : List Int} {i : Int} {t : Tok}
   {dp un : Nat} {gd : Option (List Code)} {cn : Str} {cs : Scope} {a : Addr} {ccd : Value} {cl : List (Str × Addr)} {outer : List Env} {A₀ : Around} {base h₀ : Heap} {L : Addr} {m : Str → Option Value} {s : Shared} {Q E : Value → Shared → Prop}
    (B : Below A₀ base outer h₀) (F : Fr h₀ L s.heap m) (X : (hd.heap_39 w.params).In h₀) (N : News h₀ L s.heap news) (T : Top hd.view_39 loose mean mg mb h₀) (hk : cs.kind = .function)
    (hl : base.IsList l vs.toArray) (hi : IntsAre vs ns) (hn : ns.length ≤ 63) (h0 : 0 ≤ i) (h1 : i < 2 ^ 40) (hdp : dp + 1 < recursionLimit) (hu : un + 8 < cLine)
    (hret : ∀ (x : Int) (t : Tok) (h' : Heap) (tk' : Nat), 0 ≤ x → x < 1000 → Fr h₀ L h' m → News h₀ L h' news → Q (.int x t) { s with heap := h', toks := tk' }) :
      wpAny (model PySem.Challenge.rw_db5021_01.row.prog w) (ktrTop dp un gd cn cs L a ccd cl outer) (call (.ref 819) [.ref l, .int i t]) Q E s := by
  refine wpAny_call ?_
  k_dflt cell_enter
  rename_i gx Lx hx FGx Fx Nx Bx Xx Tx
  replace Fx := fr_to Fx (m' := fun y => List.lookup y [(Str.ofString "at", Value.int i t), (Str.ofString "script", Value.ref l)]) (by with_unfolding_all rfl)
  k_steps
  · refine hret _ _ _ _ ?_ ?_ (by assumption) (by assumption)
    · rw [Int.fmod_eq_emod_of_nonneg _ (by decide)]; exact Int.emod_nonneg _ (by decide)
    · rw [Int.fmod_eq_emod_of_nonneg _ (by decide)]; exact Int.emod_lt_of_pos _ (by decide)
  · refine hret _ _ _ _ ?_ ?_ (by assumption) (by assumption)
    · rw [Int.fmod_eq_emod_of_nonneg _ (by decide)]; exact Int.emod_nonneg _ (by decide)
    · rw [Int.fmod_eq_emod_of_nonneg _ (by decide)]; exact Int.emod_lt_of_pos _ (by decide)
end Mine
end
namespace Mine
theorem top_off_P2 : True := by
 w_top off
 trivial
end Mine
section
open PySem PySem.W PyProof.Rows
namespace Mine

theorem len_item (x : Str) (i : Int) : (Txt.item x i).length = 1 := rfl
theorem len_sum_ones : ∀ {ys : List Str}, (∀ x ∈ ys, x.length = 1) → (ys.map (·.length)).sum = ys.length
  | [], _ => rfl
  | y :: r, h => by
    have := len_sum_ones (ys := r) fun x hx => h x (.tail _ hx)
    simp only [List.map_cons, List.sum_cons, List.length_cons, h y (.head _), this]; omega
theorem len_append (a b : Str) : (a ++ b).length = a.length + b.length := Array.size_append
theorem len_join_ones : ∀ {ys : List Str}, (∀ x ∈ ys, x.length = 1) → (Str.join (Str.ofString "") ys).length = ys.length
  | [], _ => rfl
  | [y], h => h y (.head _)
  | y :: z :: r, h => by
    have := len_join_ones (ys := z :: r) fun x hx => h x (.tail _ hx)
    show (y ++ Str.ofString "" ++ Str.join (Str.ofString "") (z :: r)).length = _
    rw [len_append, len_append, this, h y (.head _)]
    simp only [List.length_cons]
    show 1 + 0 + (r.length + 1) = r.length + 1 + 1
    omega
theorem len_glued_ones {ys : List Str} (h : ∀ x ∈ ys, x.length = 1) : (Txt.join (Str.ofString "") ys).length = ys.length := by
  show (PySem.Builtin.Str.glued (Str.ofString "") ys).length = ys.length
  rw [StrLaws.glued_eq_join]; exact len_join_ones h
theorem state_text {v : Int} {signs : List Str} {y : Str} {pre : List Int} {k : Int} (h0 : 0 ≤ v) (h2 : signs.length = pre.length) (h3 : ∀ x ∈ signs, x.length = 1) (hy : y.length = 1) :
    0 ≤ v ∧ (signs ++ [y]).length = (pre ++ [k]).length ∧ ∀ x ∈ signs ++ [y], x.length = 1 := by
  refine ⟨h0, by simp [h2], fun x hx => ?_⟩
  rcases List.mem_append.mp hx with h | h
  · exact h3 x h
  · rw [List.mem_singleton.mp h]; exact hy

local macro_rules | `(tactic| walk_at "call builtin:str.join") => `(tactic| (k_here; (with_reducible show wpAny _ _ (call (Value.builtin _) [Value.str _ _, Value.ref _]) _ _ _); k_dflt (refine join_listW (by is_list) (by assumption) (by decide +kernel) (by (rw [len_sum_ones (by assumption)]; simp only [rangeKs_length] at *; omega)) ?_; intro _ _)))
local macro_rules | `(tactic| walk_at "call ref") => `(tactic| (k_here; (with_reducible show wpAny _ _ (call (Value.ref 819) [Value.ref _, Value.int _ _]) _ _ _); k_dflt (refine' at_c (B := ?k1) (F := ?k2) (X := ?k3) (N := ?k4) (T := ?k5) (hk := ?k6) (hl := ?k7) (hi := ?k8) (hn := ?k9) (h0 := ?ka) (h1 := ?kb) (hdp := ?kc) (hu := ?kd) (hret := ?_); (case k1 => k_asm); (case k2 => k_asm); (case k3 => k_asm); (case k4 => k_asm); (case k5 => k_asm); (case k6 => first | exact rfl | assumption); (case k7 => k_asm); (case k8 => k_asm); (case k9 => assumption); (case ka => first | omega | (k_fmods; omega) | l_fact); (case kb => first | omega | (k_fmods; omega) | l_fact); (case kc => ktr_room); (case kd => ktr_units); intro x9 t9 h9 tk9 lo9 hi9 F9 N9; (try dsimp only); (try k_fold))))

local macro_rules | `(tactic| walk_at "eval Call") => `(tactic| (k_here; (with_reducible show wpAny _ _ (eval (Expr.Call (Expr.Name _ _) _ [] _) _) _ _ _); k_dflt (refine Call_ ?_)))

set_option maxRecDepth 100000 in
set_option maxHeartbeats 8000000 in
theorem text_c {w : World} {mean : ExcName → Option Value} {mg mb : Str → Option Value} {news : List (Addr × Obj)} {l : Addr} {vs : List Value} {ns : List Int} {i z : Int} {t tz : Tok}
   {dp un : Nat} {gd : Option (List Code)} {cn : Str} {cs : Scope} {a : Addr} {ccd : Value} {cl : List (Str × Addr)} {outer : List Env} {A₀ : Around} {base h₀ : Heap} {L : Addr} {m : Str → Option Value} {s : Shared} {Q E : Value → Shared → Prop}
    (B : Below A₀ base outer h₀) (F : Fr h₀ L s.heap m) (X : (hd.heap_39 w.params).In h₀) (N : News h₀ L s.heap news) (T : Top hd.view_39 loose mean mg mb h₀) (hk : cs.kind = .function)
    (hl : base.IsList l vs.toArray) (hi : IntsAre vs ns) (hn : ns.length ≤ 63) (h0 : 0 ≤ i) (h1 : i < 2 ^ 30) (hz0 : 0 ≤ z) (hz1 : z < 2 ^ 10) (hdp : dp + 5 < recursionLimit) (hu : un + 50 < cLine)
    (hret : ∀ (x : Str) (t : Tok) (h' : Heap) (tk' : Nat), (x.length : Int) = z → Fr h₀ L h' m → News h₀ L h' news → Q (.str x t) { s with heap := h', toks := tk' }) :
      wpAny (model PySem.Challenge.rw_db5021_01.row.prog w) (ktrTop dp un gd cn cs L a ccd cl outer) (call (.ref 826) [.ref l, .int i t, .int z tz]) Q E s := by
  refine wpAny_call ?_
  k_dflt cell_enter
  rename_i gx Lx hx FGx Fx Nx Bx Xx Tx
  replace Fx := fr_to Fx (m' := fun y => List.lookup y [(Str.ofString "size", Value.int z tz), (Str.ofString "at", Value.int i t), (Str.ofString "script", Value.ref l)]) (by with_unfolding_all rfl)
  k_with "state" => exact state_text (fmod_lo _ (by decide)) (by assumption) (by assumption) rfl
  k_with "pyIter ref" => k_state (fun pre walk signs => 0 ≤ walk ∧ signs.length = pre.length ∧ ∀ x ∈ signs, x.length = 1) "walk" "signs$"
  k_steps
  refine hret _ _ _ _ (by rw [len_glued_ones (by assumption)]; simp only [rangeKs_length] at *; omega) (by assumption) (cb_drop (by assumption) (by kcj_all))
end Mine
end
namespace Mine
theorem top_off_P3 : True := by
 w_top off
 trivial
end Mine
section
open PySem PySem.W PyProof.Rows PySem.Builtin.Str
namespace Mine

theorem sl_len (x : Str) (l u : Option Int) : (Txt.slice x l u).length = (strSliceIndices l u 1 x.length).length := by
  unfold Txt.slice
  split
  · rename_i h; simp only [beq_self_eq_true, Bool.true_and, beq_iff_eq] at h; exact h.symm
  · show (((strSliceIndices l u 1 x.length).filterMap (x.cps[·]?)).toArray).size = _
    rw [List.size_toArray]
    have hb : ∀ i ∈ strSliceIndices l u 1 x.length, i < x.cps.size := by
      intro i hi
      unfold strSliceIndices sliceRange at hi
      simp only [show (1 : Int) > 0 by decide, if_true, List.mem_map, List.mem_range] at hi
      obtain ⟨k, hk, rfl⟩ := hi
      have e : (x.length : Nat) = x.cps.size := rfl
      cases l <;> cases u <;> simp only at hk ⊢ <;> (split at hk <;> (try split) <;> (try simp only [Int.ediv_one] at hk) <;> omega)
    generalize strSliceIndices l u 1 x.length = is at hb
    induction is with
    | nil => rfl
    | cons i r ih =>
      rw [List.filterMap_cons, Array.getElem?_eq_getElem (hb i (.head _))]
      simp only [List.length_cons]
      rw [ih fun j hj => hb j (.tail _ hj)]
theorem sl_to {x : Str} {k : Int} (h0 : 0 ≤ k) (h1 : k ≤ x.length) : (Txt.slice x none (some k)).length = k.toNat := by
  rw [sl_len]; unfold strSliceIndices sliceRange
  simp only [show (1 : Int) > 0 by decide, if_true, List.length_map, List.length_range, Int.ediv_one]
  (repeat' split) <;> omega
theorem sl_from {x : Str} {k : Int} (h0 : 0 ≤ k) : (Txt.slice x (some k) none).length = x.length - k.toNat := by
  rw [sl_len]; unfold strSliceIndices sliceRange
  simp only [show (1 : Int) > 0 by decide, if_true, List.length_map, List.length_range, Int.ediv_one]
  (repeat' split) <;> omega
theorem sl_mid {x : Str} {k n : Int} (h0 : 0 ≤ k) (h1 : n = k + 1) : (Txt.slice x (some k) (some n)).length ≤ 1 := by
  rw [sl_len]; unfold strSliceIndices sliceRange
  simp only [show (1 : Int) > 0 by decide, if_true, List.length_map, List.length_range, Int.ediv_one]
  (repeat' split) <;> omega

theorem k_in01 (q : Int) (n : Nat) : 0 ≤ q.fmod ((n : Int) + 1) ∧ q.fmod ((n : Int) + 1) ≤ n :=
  ⟨fmod_lo _ (by omega), Int.le_of_lt_add_one (fmod_hi _ (by omega))⟩
theorem tu0 {x y : Str} {q n : Int} {pre : List Int} (hb : x.length ≤ 40 + 2 * pre.length) (hy : y.length = 1) :
    (Txt.slice x none (some (q.fmod ((x.length : Int) + 1))) ++ y ++ Txt.slice x (some (q.fmod ((x.length : Int) + 1))) none).length ≤ 40 + 2 * (pre ++ [n]).length := by
  obtain ⟨h0, h1⟩ := k_in01 q x.length
  rw [len_append, len_append, sl_to h0 h1, sl_from h0, hy, List.length_append, List.length_singleton]; omega
theorem tu1 {x : Str} {q n : Int} {pre : List Int} (hb : x.length ≤ 40 + 2 * pre.length) :
    (Txt.slice x none (some (q.fmod ((x.length : Int) + 1))) ++ Txt.slice x (some (q.fmod ((x.length : Int) + 1) + 1)) none).length ≤ 40 + 2 * (pre ++ [n]).length := by
  obtain ⟨h0, h1⟩ := k_in01 q x.length
  rw [len_append, sl_to h0 h1, sl_from (by omega), List.length_append, List.length_singleton]; omega
theorem tu2 {x y : Str} {q n : Int} {pre : List Int} (hb : x.length ≤ 40 + 2 * pre.length) (hy : y.length = 1) :
    (Txt.slice x none (some (q.fmod ((x.length : Int) + 1))) ++ y ++ Txt.slice x (some (q.fmod ((x.length : Int) + 1) + 1)) none).length ≤ 40 + 2 * (pre ++ [n]).length := by
  obtain ⟨h0, h1⟩ := k_in01 q x.length
  rw [len_append, len_append, sl_to h0 h1, sl_from (by omega), hy, List.length_append, List.length_singleton]; omega
theorem tu3 {x : Str} {q n : Int} {pre : List Int} (hb : x.length ≤ 40 + 2 * pre.length) :
    (Txt.slice x none (some (q.fmod ((x.length : Int) + 1))) ++ Txt.slice x (some (q.fmod ((x.length : Int) + 1) + 1)) (some (q.fmod ((x.length : Int) + 1) + 2)) ++
      Txt.slice x (some (q.fmod ((x.length : Int) + 1))) (some (q.fmod ((x.length : Int) + 1) + 1)) ++ Txt.slice x (some (q.fmod ((x.length : Int) + 1) + 2)) none).length ≤ 40 + 2 * (pre ++ [n]).length := by
  obtain ⟨h0, h1⟩ := k_in01 q x.length
  have a := sl_mid (x := x) (k := q.fmod ((x.length : Int) + 1) + 1) (n := q.fmod ((x.length : Int) + 1) + 2) (by omega) (by omega)
  have b := sl_mid (x := x) (k := q.fmod ((x.length : Int) + 1)) (n := q.fmod ((x.length : Int) + 1) + 1) (by omega) (by omega)
  rw [len_append, len_append, len_append, sl_to h0 h1, sl_from (by omega), List.length_append, List.length_singleton]; omega
theorem tu4 {x : Str} {q n : Int} {pre : List Int} (hb : x.length ≤ 40 + 2 * pre.length) :
    (Txt.slice x (some (q.fmod ((x.length : Int) + 1))) none ++ Txt.slice x none (some (q.fmod ((x.length : Int) + 1)))).length ≤ 40 + 2 * (pre ++ [n]).length := by
  obtain ⟨h0, h1⟩ := k_in01 q x.length
  rw [len_append, sl_to h0 h1, sl_from (by omega), List.length_append, List.length_singleton]; omega

local macro_rules | `(tactic| walk_at "no such key P30") => `(tactic| skip)
local macro_rules | `(tactic| walk_at "eval Call") => `(tactic| (k_here; (with_reducible show wpAny _ _ (eval (Expr.Call (Expr.Name _ _) _ [] _) _) _ _ _); k_dflt (refine Call_ ?_)))
local macro_rules | `(tactic| walk_at "call ref") => `(tactic| (k_here; (with_reducible show wpAny _ _ (call (Value.ref 819) [Value.ref _, Value.int _ _]) _ _ _); k_dflt (refine' at_c (B := ?k1) (F := ?k2) (X := ?k3) (N := ?k4) (T := ?k5) (hk := ?k6) (hl := ?k7) (hi := ?k8) (hn := ?k9) (h0 := ?ka) (h1 := ?kb) (hdp := ?kc) (hu := ?kd) (hret := ?_); (case k1 => k_asm); (case k2 => k_asm); (case k3 => k_asm); (case k4 => k_asm); (case k5 => k_asm); (case k6 => first | exact rfl | assumption); (case k7 => k_asm); (case k8 => k_asm); (case k9 => assumption); (case ka => first | omega | (k_fmods; omega) | l_fact); (case kb => first | omega | (k_fmods; omega) | l_fact); (case kc => ktr_room); (case kd => ktr_units); intro x9 t9 h9 tk9 lo9 hi9 F9 N9; (try dsimp only); (try k_fold))))

local macro_rules | `(tactic| walk_at "InvPostN") => `(tactic| k_dflt ((dsimp only [InvPostN]); (rename News _ _ _ _ => nE'); (try simp only [List.push_toArray] at nE'); (refine' kst_end ⟨_, _⟩ ?a1 nE' ?a2 ?a3 ?a4 ?a5 ?a6 ?a7 ?a8); (case a1 => assumption); (case a6 => kst_all); (case a2 => first | kst_in | kst_inAny); (case a3 => first | (intro p hp; kst_mem) | kst_anyIn); (case a4 => rfl); (case a5 => kst_facts); (case a7 => kst_same); (case a8 => ((try dsimp only); k_extra "state"))))
set_option maxRecDepth 100000 in
set_option maxHeartbeats 800000 in
theorem turned_c {w : World} {mean : ExcName → Option Value} {mg mb : Str → Option Value} {news : List (Addr × Obj)} {l : Addr} {vs : List Value} {ns : List Int} {x : Str} {i z : Int} {tx t tz : Tok}
   {dp un : Nat} {gd : Option (List Code)} {cn : Str} {cs : Scope} {a : Addr} {ccd : Value} {cl : List (Str × Addr)} {outer : List Env} {A₀ : Around} {base h₀ : Heap} {L : Addr} {m : Str → Option Value} {s : Shared} {Q E : Value → Shared → Prop}
    (B : Below A₀ base outer h₀) (F : Fr h₀ L s.heap m) (X : (hd.heap_39 w.params).In h₀) (N : News h₀ L s.heap news) (T : Top hd.view_39 loose mean mg mb h₀) (hk : cs.kind = .function)
    (hl : base.IsList l vs.toArray) (hi : IntsAre vs ns) (hn : ns.length ≤ 63) (hx : x.length ≤ 40) (h0 : 0 ≤ i) (h1 : i < 2 ^ 30) (hz0 : 0 ≤ z) (hz1 : z < 9) (hdp : dp + 5 < recursionLimit) (hu : un + 50 < cLine)
    (hret : ∀ (y : Str) (t : Tok) (h' : Heap) (tk' : Nat), y.length ≤ 60 → Fr h₀ L h' m → News h₀ L h' news → Q (.str y t) { s with heap := h', toks := tk' }) :
      wpAny (model PySem.Challenge.rw_db5021_01.row.prog w) (ktrTop dp un gd cn cs L a ccd cl outer) (call (.ref 833) [.str x tx, .ref l, .int i t, .int z tz]) Q E s := by
  refine wpAny_call ?_
  k_dflt cell_enter
  rename_i gx Lx hx FGx Fx Nx Bx Xx Tx
  replace Fx := fr_to Fx (m' := fun y => List.lookup y [(Str.ofString "many", Value.int z tz), (Str.ofString "at", Value.int i t), (Str.ofString "script", Value.ref l), (Str.ofString "text", Value.str x tx)]) (by with_unfolding_all rfl)
  k_with "state" => with_reducible (first | exact tu0 (by assumption) (len_item _ _) | exact tu1 (by assumption) | exact tu2 (by assumption) (len_item _ _) | exact tu3 (by assumption) | exact tu4 (by assumption))
  k_with "pyIter ref" => k_state (fun pre text => text.length ≤ 40 + 2 * pre.length) "text"
  k_steps
  refine hret _ _ _ _ ?_ (by assumption) (cb_drop (by assumption) (by kcj_all))
  simp only [rangeKs_length] at *
  omega
end Mine
end
namespace Mine
theorem top_off_P4 : True := by
 w_top off
 trivial
end Mine
section
open PySem PySem.W PyProof.Rows PySem.Builtin.Str
namespace Mine
def rowT (b : Bool) (x y : Str) (i : Nat) : List Int := (List.range (y.length + 1)).map fun q => ((T b (ca x) (ca y) i q : Nat) : Int)
theorem row0 (b : Bool) (x y : Str) : List.map (fun k' => k') (rangeKs 0 ((y.length : Int) + 1 - 0).toNat) = rowT b x y 0 := by
  unfold rangeKs rowT
  have e : ((y.length : Int) + 1 - 0).toNat = y.length + 1 := by omega
  rw [e, List.map_map]
  refine List.map_congr_left fun q _ => ?_
  show (0 : Int) + (q : Int) = _
  rw [T_zero]; omega

def refsL (rs : List (Addr × Obj)) : List Value := rs.map fun p => Value.ref p.1
theorem refsL_get {rs : List (Addr × Obj)} {n : Nat} {p : Addr × Obj} (h : rs[n]? = some p) : (refsL rs)[n]? = some (.ref p.1) := by
  unfold refsL; rw [List.getElem?_map, h]; rfl
theorem refsL_snoc (rs : List (Addr × Obj)) (a : Addr) (o : Obj) : refsL (rs ++ [(a, o)]) = refsL rs ++ [.ref a] := by
  unfold refsL; rw [List.map_append]; rfl
theorem rowT_get {b : Bool} {x y : Str} {i : Nat} {q : Int} (h0 : 0 ≤ q) (h1 : q ≤ y.length) : (rowT b x y i)[q.toNat]? = some ((T b (ca x) (ca y) i q.toNat : Nat) : Int) := by
  unfold rowT
  rw [List.getElem?_map, List.getElem?_range (by omega)]; rfl
local macro_rules | `(tactic| walk_at "subscriptTail Name BinOp ref int") => `(tactic| k_dflt (refine' sub_any ?kN ?km ?k0 ?k1 ?kx ?_; (case kN => k_asm); (case km => k_mem); (case kx => assumption); (case k0 => omega); (case k1 => omega)))
local macro_rules | `(tactic| walk_at "subscriptTail Name Call") => `(tactic| k_dflt (refine' sub_any ?kN ?km ?k0 ?k1 ?kx ?_; (case kN => k_asm); (case km => k_mem); (case kx => assumption); (case k0 => omega); (case k1 => omega)))
local macro_rules | `(tactic| walk_at "subscriptTail Subscript") => `(tactic| k_dflt (refine' sub_row ?kN ?km ?ko ?k0 ?k1 ?kx ?_; (case kN => k_asm); (case km => (first | exact List.Mem.tail _ (List.Mem.tail _ (by assumption)) | exact List.Mem.tail _ (by assumption))); (case ko => assumption); (case k0 => omega); (case k1 => omega); (case kx => (exact rowT_get (by omega) (by omega))); intro t9))
local macro_rules | `(tactic| walk_at "call builtin:min") => `(tactic| k_dflt (first | (refine' min3_N ?hh ?kF ?kN ?_; (case hh => rfl); (case kF => k_asm); (case kN => k_asm); intro t9 h9 tk9 F9 N9; (try k_sweep)) | (refine' min2_N ?hh ?kF ?kN ?_; (case hh => rfl); (case kF => k_asm); (case kN => k_asm); intro t9 h9 tk9 F9 N9; (try k_sweep))))
local macro_rules | `(tactic| walk_at "execs cons") => `(tactic| (k_here; dsimp only; walk_at "execs cons"))
local macro_rules | `(tactic| walk_at "execs nil") => `(tactic| (k_here; dsimp only; walk_at "execs nil"))
local macro_rules | `(tactic| walk_at "InvPostG") => `(tactic| refine hold ?_)
local macro_rules | `(tactic| k_all) => `(tactic| assumption)
local macro_rules | `(tactic| size_fits) => `(tactic| ((simp only [List.size_toArray, PySem.sizeLine_eq]); omega))
local macro_rules | `(tactic| walk_at "ite") => `(tactic| with_reducible ((show (if _ = true then wpAny _ _ (eval (Expr.Constant (Const.int _) _ _) _) _ _ _ else wpAny _ _ (eval (Expr.Constant (Const.int _) _ _) _) _ _ _)); refine ite_consts ?_))
local macro_rules | `(tactic| walk_at "InvPostN") => `(tactic| refine hold ?_)
local macro_rules | `(tactic| walk_at "pyIter ref") => `(tactic| k_dflt (refine hold ?_))
set_option maxRecDepth 100000 in
set_option maxHeartbeats 1000000 in
theorem table_c {w : World} {mean : ExcName → Option Value} {mg mb : Str → Option Value} {news : List (Addr × Obj)} {x y : Str} {b : Bool} {tx ty : Tok}
   {dp un : Nat} {gd : Option (List Code)} {cn : Str} {cs : Scope} {a : Addr} {ccd : Value} {cl : List (Str × Addr)} {outer : List Env} {A₀ : Around} {base h₀ : Heap} {L : Addr} {m : Str → Option Value} {s : Shared} {Q E : Value → Shared → Prop}
    (B : Below A₀ base outer h₀) (F : Fr h₀ L s.heap m) (X : (hd.heap_39 w.params).In h₀) (N : News h₀ L s.heap news) (T₀ : Top hd.view_39 loose mean mg mb h₀) (hk : cs.kind = .function)
    (hx : x.length ≤ 64) (hy : y.length ≤ 64) (hdp : dp + 5 < recursionLimit) (hu : un + 50 < cLine)
    (hret : ∀ (t : Tok) (h' : Heap) (tk' : Nat), Fr h₀ L h' m → News h₀ L h' news → Q (.int (T b (ca x) (ca y) x.length y.length : Nat) t) { s with heap := h', toks := tk' }) :
      wpAny (model PySem.Challenge.rw_db5021_01.row.prog w) (ktrTop dp un gd cn cs L a ccd cl outer) (call (.ref 838) [.str x tx, .str y ty, .bool b]) Q E s := by
  refine wpAny_call ?_
  k_dflt cell_enter
  rename_i gx Lx hx FGx Fx Nx Bx Xx Tx
  replace Fx := fr_to Fx (m' := fun z => List.lookup z [(Str.ofString "swapped", Value.bool b), (Str.ofString "two", Value.str y ty), (Str.ofString "one", Value.str x tx)]) (by with_unfolding_all rfl)
  k_steps
  unfold Hold
  rename IsRange _ _ _ _ 1 _ _ _ => rgX
  rename Fr gx Lx _ _ => FF
  rename News gx Lx _ _ => NN
  rename_i D _ _ o1 R _ l1 _ _ _ _ _ _ _ _ _
  rename IntsAre ys _ => hI8
  rw [row0 b x y] at hI8
  have hDR : ∀ p ∈ [(D, LCg.lst ys)] ++ news, p.1 ≠ R := fun p hp => by
    rcases List.mem_cons.mp hp with rfl | hp
    · exact Nat.ne_of_lt l1.1
    · exact Nat.ne_of_lt (kst_ltOf l1.2 p hp)
  with_unfolding_all refine' kst_rangeG (σ := List (Addr × Obj) × Nat) (fun c => (R, W.listOf (refsL c.1).toArray c.2) :: (c.1 ++ news)) (fun _ => []) (fun _ => True) [Str.ofString "row", Str.ofString "j", Str.ofString "least"] (fun pre c => c.1.length = pre.length + 1 ∧ (∀ k p, c.1[k]? = some p → RowIs p.2 (rowT b x y k)) ∧ (∀ p ∈ c.1 ++ news, p.1 ≠ R)) ([(D, LCg.lst ys)], 0) (by rfl) rgX (small_one (by omega) (by omega) (by omega) (by omega)) (rangeSize_nat _ _) FF NN trivial (fun _ h => nomatch h) ⟨rfl, ?start1, hDR⟩ ?turn ?done
  case start1 =>
    intro k p hp
    cases k with
    | zero => cases hp; exact ⟨ys, _, rfl, hI8⟩
    | succ k => simp at hp
  case turn =>
    clear NN FF rgX hDR l1 o1 hI8
    rintro ⟨rs, nR⟩ pre k t u h tk own hkk hlt hoff - ⟨hlen, hrow, hne⟩ F2 N2
    dsimp only at hoff hlen hrow hne N2 F2
    dsimp only [kstB] at F2
    obtain ⟨rest, hrest⟩ : ∃ rest, rest = rs ++ news ++ own := ⟨_, rfl⟩
    replace N2 : News gx Lx h ((R, W.listOf (refsL rs).toArray nR) :: rest) := by rw [hrest]; exact N2
    have hR : ∀ p ∈ rest, p.1 ≠ R := fun p hp => by
      rw [hrest] at hp
      rcases List.mem_append.mp hp with hp | hp
      · exact hne p hp
      · exact hoff p hp R (by simp)
    obtain ⟨p1, hp1⟩ : ∃ p, rs[(k - 1).toNat]? = some p := ⟨_, List.getElem?_eq_getElem (by omega)⟩
    obtain ⟨p2, hp2⟩ : ∃ p, rs[(k - 2).toNat]? = some p := ⟨_, List.getElem?_eq_getElem (by omega)⟩
    have hm1 : p1 ∈ rest := by rw [hrest]; exact List.mem_append_left _ (List.mem_append_left _ (List.mem_of_getElem? hp1))
    have hm2 : p2 ∈ rest := by rw [hrest]; exact List.mem_append_left _ (List.mem_append_left _ (List.mem_of_getElem? hp2))
    have hr1 := hrow _ _ hp1
    have hr2 := hrow _ _ hp2
    have hv1 : (refsL rs)[(k - 1).toNat]? = some (.ref p1.1) := refsL_get hp1
    have hv2 : (refsL rs)[(k - 2).toNat]? = some (.ref p2.1) := refsL_get hp2
    have hrl : (refsL rs).length = pre.length + 1 := by unfold refsL; rw [List.length_map, hlen]
    obtain ⟨a1, o1⟩ := p1
    obtain ⟨a2, o2⟩ := p2
    dsimp only at hv1 hv2 hr1 hr2
    show wpAny _ _ _ _ _ _
    k_fold
    k_steps
    unfold Hold
    rename IsRange _ _ _ _ 1 _ _ _ => rgX
    rename Fr gx Lx _ _ => FF
    rename News gx Lx _ _ => NN
    rename_i rw _ _ _ l1 _ _ _ _ _ _ _ _ _
    have hrw : ∀ p ∈ (R, W.listOf (refsL rs).toArray nR) :: rest, p.1 ≠ rw := fun p hp => by
      rcases List.mem_cons.mp hp with rfl | hp
      · exact Nat.ne_of_lt l1.1
      · exact Nat.ne_of_lt (kst_ltOf l1.2 p hp)
    with_unfolding_all refine' kst_range (σ := List Value × List Int × Nat) (fun c => (rw, W.listOf c.1.toArray c.2.2) :: (R, W.listOf (refsL rs).toArray nR) :: rest) (fun _ => []) (fun c => IntsAre c.1 c.2.1) [Str.ofString "least"] (fun pre c => c.2.1 = (List.range (pre.length + 1)).map fun q => ((T b (ca x) (ca y) k.toNat q : Nat) : Int)) ([.int k t], [k], 0) (by rfl) rgX (small_one (by omega) (by omega) (by omega) (by omega)) (rangeSize_nat _ _) FF NN (.cons _ _ .nil) (fun _ h => nomatch h) ?jstart ?jturn ?jdone
    case jstart =>
      show [k] = [((T b (ca x) (ca y) k.toNat 0 : Nat) : Int)]
      rw [T_col, Int.toNat_of_nonneg (by omega)]
    case jturn =>
      clear NN FF rgX
      rintro ⟨vs, ns, nv⟩ preJ j tj uj hj tkj ownJ hjj hltj hoffJ hvs hns F3 N3
      dsimp only at hvs hns N3 F3
      dsimp only [kstB] at F3
      obtain ⟨rest2, hrest2⟩ : ∃ rest2, rest2 = rest ++ ownJ := ⟨_, rfl⟩
      replace N3 : News gx Lx hj ((rw, W.listOf vs.toArray nv) :: (R, W.listOf (refsL rs).toArray nR) :: rest2) := by rw [hrest2]; exact N3
      replace hm1 : (a1, o1) ∈ rest2 := by rw [hrest2]; exact List.mem_append_left _ hm1
      replace hm2 : (a2, o2) ∈ rest2 := by rw [hrest2]; exact List.mem_append_left _ hm2
      have hrw2 : ∀ p ∈ (R, W.listOf (refsL rs).toArray nR) :: rest2, p.1 ≠ rw := fun p hp => by
        rcases List.mem_cons.mp hp with rfl | hp
        · exact hrw _ (.head _)
        · rw [hrest2] at hp
          rcases List.mem_append.mp hp with hp | hp
          · exact hrw _ (.tail _ hp)
          · exact hoffJ p hp rw (by simp)
      have hlen3 : ns.length = preJ.length + 1 := by rw [hns, List.length_map, List.length_range]
      show wpAny _ _ _ _ _ _
      k_fold
      have hvl : vs.length = preJ.length + 1 := by rw [hvs.length, hlen3]
      k_steps
      all_goals unfold Hold
      all_goals dsimp only [InvPostN]
      all_goals rename News _ _ _ _ => nE'
      all_goals try simp only [List.push_toArray] at nE'
      all_goals refine' kst_end ⟨_, _, _⟩ (by assumption) nE' (in_two hrest2) (in_two' hrest2) rfl (IntsAre.append hvs (.cons _ _ .nil)) (fun _ h => nomatch h) ?_ ?_
      all_goals first
        | kst_same
        | (show ns ++ [_] = _
           refine row_next hns ?_
           first
           | with_reducible exact tab_swap hkk hjj hns rfl (by assumption) (by assumption) (by assumption) (by assumption) (by assumption)
           | (with_reducible refine tab_base hkk hjj hns rfl ?_
              rintro ⟨h1, h2, h3, h4, h5⟩
              first
                | omega
                | (have h6 := item_beq (show (Txt.item x (k - 1) == Txt.item y (j - 2)) = false by assumption) (by omega) (by omega)
                   exact absurd h4 (of_decide_eq_false h6))
                | (have h6 := item_beq (show (Txt.item x (k - 2) == Txt.item y (j - 1)) = false by assumption) (by omega) (by omega)
                   exact absurd h5 (of_decide_eq_false h6))
                | (rw [show b = false by assumption] at h1; cases h1)))
    case jdone =>
      rintro ⟨vs, ns, nv⟩ uj hj tkj hvs hns F3 N3
      dsimp only at hvs hns N3 F3
      dsimp only [kstB] at F3
      show wpAny _ _ _ _ _ _
      (try k_fold)
      k_steps
      unfold Hold
      dsimp only [InvPostG]
      rename News _ _ _ _ => nE'
      simp only [List.push_toArray] at nE'
      have hlr : (rangeKs 1 ((y.length : Int) + 1 - 1).toNat).length = y.length := by rw [rangeKs_length]; omega
      have hki : k.toNat = rs.length := by omega
      refine' kstG_end (rs ++ [(rw, W.listOf vs.toArray nv)], nR + 1) (by assumption) nE' ?hn ?ho ?ha trivial (fun _ h => nomatch h) ?hr ?hp
      case hn =>
        intro p hp
        dsimp only at hp
        rw [refsL_snoc] at hp
        rcases List.mem_cons.mp hp with rfl | hp
        · exact .tail _ (.head _)
        · rcases List.mem_append.mp hp with hp | hp
          · rcases List.mem_append.mp hp with hp | hp
            · exact .tail _ (.tail _ (by rw [hrest]; exact List.mem_append_left _ (List.mem_append_left _ hp)))
            · rw [List.mem_singleton.mp hp]; exact .head _
          · exact .tail _ (.tail _ (by rw [hrest]; exact List.mem_append_left _ (List.mem_append_right _ hp)))
      case ho => exact fun p hp => .tail _ (.tail _ (by rw [hrest]; exact List.mem_append_right _ hp))
      case ha =>
        intro p hp q hq e
        simp only [List.map_cons, List.map_append, List.map_nil, List.mem_cons, List.mem_append, List.not_mem_nil, or_false] at hq
        have h1 : q ∈ (List.map (fun x => x.fst) ((R, W.listOf (refsL rs).toArray nR) :: (rs ++ news))) ∨ q = rw := by
          simp only [List.map_cons, List.map_append, List.mem_cons, List.mem_append]
          rcases hq with h | ((h | h) | h)
          · exact .inl (.inl h)
          · exact .inl (.inr (.inl h))
          · exact .inr h
          · exact .inl (.inr (.inr h))
        rcases h1 with h | rfl
        · exact hoff p hp q h e
        · exact hrw p (.tail _ (by rw [hrest]; exact List.mem_append_right _ hp)) e
      case hr => kst_same
      case hp =>
        refine ⟨by simp [hlen], fun i p hp => ?_, fun p hp => ?_⟩
        · dsimp only at hp
          by_cases hi : i < rs.length
          · rw [List.getElem?_append_left hi] at hp; exact hrow i p hp
          · rw [List.getElem?_append_right (by omega)] at hp
            have hi' : i = rs.length := by
              by_cases e : i - rs.length = 0
              · omega
              · rw [List.getElem?_eq_none (by simp only [List.length_singleton]; omega)] at hp; cases hp
            subst hi'
            simp only [Nat.sub_self, List.getElem?_cons_zero, Option.some.injEq] at hp
            subst hp
            refine ⟨vs, nv, rfl, ?_⟩
            have e : ns = rowT b x y rs.length := by rw [hns, hki, hlr]; rfl
            exact e ▸ hvs
        · dsimp only at hp
          rcases List.mem_append.mp hp with hp | hp
          · rcases List.mem_append.mp hp with hp | hp
            · exact hne p (List.mem_append_left _ hp)
            · rw [List.mem_singleton.mp hp]; exact fun e => hrw _ (.head _) e.symm
          · exact hne p (List.mem_append_right _ hp)
  case done =>
    rintro ⟨rs, nR⟩ u h tk - ⟨hlen, hrow, hne⟩ F2 N2
    dsimp only at hlen hrow hne N2 F2
    dsimp only [kstB] at F2
    rw [rangeKs_length] at hlen
    obtain ⟨p1, hp1⟩ : ∃ p, rs[x.length]? = some p := ⟨_, List.getElem?_eq_getElem (by omega)⟩
    have hm1 : p1 ∈ rs ++ news := List.mem_append_left _ (List.mem_of_getElem? hp1)
    have hr1 := hrow _ _ hp1
    have hv1 : (refsL rs)[((x.length : Int)).toNat]? = some (.ref p1.1) := by rw [Int.toNat_natCast]; exact refsL_get hp1
    obtain ⟨a1, o1⟩ := p1
    dsimp only at hv1 hr1
    show wpAny _ _ _ _ _ _
    (try k_fold)
    k_steps
    rw [Int.toNat_natCast]
    exact hret _ _ _ (by assumption) (cb_drop (by assumption) fun p hp => .tail _ (List.mem_append_right _ hp))
end Mine
end
namespace Mine
theorem top_off_P5 : True := by
 w_top off
 trivial
end Mine
section
open PySem PySem.W PyProof.Rows PySem.Builtin.Str
namespace Mine

local macro_rules | `(tactic| walk_at "execs cons") => `(tactic| (k_here; dsimp only; walk_at "execs cons"))
local macro_rules | `(tactic| walk_at "execs nil") => `(tactic| (k_here; dsimp only; walk_at "execs nil"))
local macro_rules | `(tactic| walk_at "exec While") => `(tactic| k_dflt (refine hold ?_))
local macro_rules | `(tactic| walk_at "exec While BoolOp cons nil") => `(tactic| k_dflt (refine hold ?_))
local macro_rules | `(tactic| walk_at "KswPost") => `(tactic| refine hold ?_)
set_option maxRecDepth 100000 in
set_option maxHeartbeats 1000000 in
theorem prep_c {w : World} {mean : ExcName → Option Value} {mg mb : Str → Option Value} {news : List (Addr × Obj)} {x y : Str} {tx ty : Tok}
   {dp un : Nat} {gd : Option (List Code)} {cn : Str} {cs : Scope} {a : Addr} {ccd : Value} {cl : List (Str × Addr)} {outer : List Env} {A₀ : Around} {base h₀ : Heap} {L : Addr} {m : Str → Option Value} {s : Shared} {Q E : Value → Shared → Prop}
    (B : Below A₀ base outer h₀) (F : Fr h₀ L s.heap m) (X : (hd.heap_39 w.params).In h₀) (N : News h₀ L s.heap news) (T₀ : Top hd.view_39 loose mean mg mb h₀) (hk : cs.kind = .function)
    (hx : x.length ≤ 64) (hy : y.length ≤ 64) (hxy : x.length ≤ y.length) (hdp : dp + 5 < recursionLimit) (hu : un + 50 < cLine)
    (hret : ∀ (l1 l2 st : Nat) (q : Addr) (t1 t2 t3 : Tok) (h' : Heap) (tk' : Nat), Trim x y l1 l2 st → Fr h₀ L h' m → News h₀ L h' ((q, { cls := .type "tuple", data := .seq #[.int l1 t1, .int l2 t2, .int st t3] }) :: news) → (∀ p ∈ news, p.1 < q) → Q (.ref q) { s with heap := h', toks := tk' }) :
      wpAny (model PySem.Challenge.rw_db5021_01.row.prog w) (ktrTop dp un gd cn cs L a ccd cl outer) (call (.ref 35) [.str x tx, .str y ty]) Q E s := by
  have hret' : ∀ (v1 v2 v3 : Int) (q : Addr) (t1 t2 t3 : Tok) (h' : Heap) (tk' : Nat), (∃ l1 l2 st : Nat, v1 = l1 ∧ v2 = l2 ∧ v3 = st ∧ Trim x y l1 l2 st) → Fr h₀ L h' m → News h₀ L h' ((q, { cls := .type "tuple", data := .seq #[.int v1 t1, .int v2 t2, .int v3 t3] }) :: news) → (∀ p ∈ news, p.1 < q) → Q (.ref q) { s with heap := h', toks := tk' } := by
    rintro _ _ _ q t1 t2 t3 h' tk' ⟨l1, l2, st, rfl, rfl, rfl, tr⟩ F' N' lt
    exact hret l1 l2 st q t1 t2 t3 h' tk' tr F' N' lt
  refine wpAny_call ?_
  k_dflt cell_enter
  rename_i gx Lx hx FGx Fx Nx Bx Xx Tx
  replace Fx := fr_to Fx (m' := fun z => List.lookup z [(Str.ofString "string_2", Value.str y ty), (Str.ofString "string_1", Value.str x tx)]) (by with_unfolding_all rfl)
  k_steps
  unfold Hold
  rename Fr gx Lx _ _ => FF
  rename News gx Lx _ _ => NN
  with_unfolding_all refine' ksw_while (σ := Int × Tok × Int × Tok) (fun _ => news) (fun c => [(Str.ofString "len_1", Value.int c.1 c.2.1), (Str.ofString "len_2", Value.int c.2.2.1 c.2.2.2)]) (fun _ => True) [] (fun c => ∃ d : Nat, c.1 = ((x.length - d : Nat) : Int) ∧ c.2.2.1 = ((y.length - d : Nat) : Int) ∧ d ≤ x.length ∧ ∀ k, k < d → ca x (x.length - d + k) = ca y (y.length - d + k)) (fun c => c.1.toNat) ((x.length : Int), _, (y.length : Int), _) FF NN trivial ?wk ⟨0, rfl, rfl, Nat.zero_le _, fun k h => absurd h (Nat.not_lt_zero _)⟩ ?wt
  case wk => kst_all
  case wt =>
    clear NN FF
    rintro ⟨c1, t1, c2, t2⟩ u h tk - ⟨d, hc1, hc2, hd, hsuf⟩ F2 N2
    dsimp only at hc1 hc2 F2
    dsimp only [kstB] at F2
    show wpAny _ _ _ _ _ _
    k_fold
    k_steps
    · unfold Hold
      dsimp only [KswPost]
      have hd' : d < x.length := by omega
      have e := of_decide_eq_true (item_beq (show (Txt.item x (c1 - 1) == Txt.item y (c2 - 1)) = true by assumption) (by omega) (by omega))
      rw [show (c1 - 1).toNat = x.length - (d + 1) by omega, show (c2 - 1).toNat = y.length - (d + 1) by omega] at e
      refine' ksw_end ⟨_, _, _, _⟩ (by assumption) (by assumption) (fun p hp => hp) trivial ?k1 ?k2 ?k3 ?k4
      case k1 => kst_all
      case k2 => ksw_same
      case k3 => exact ⟨d + 1, by dsimp only; omega, by dsimp only; omega, by omega, suf_step hd' hxy hsuf e⟩
      case k4 => dsimp only; omega
    · unfold Hold
      rename Fr gx Lx _ _ => FF
      rename News gx Lx _ _ => NN
      with_unfolding_all refine' ksw_while (σ := Int × Tok) (fun _ => news) (fun c => [(Str.ofString "start", Value.int c.1 c.2)]) (fun _ => True) [] (fun c => ∃ n : Nat, c.1 = (n : Int) ∧ n ≤ x.length - d ∧ ∀ k, k < n → ca x k = ca y k) (fun c => (c1 - c.1).toNat) (0, _) FF NN trivial ?wka ⟨0, rfl, Nat.zero_le _, fun k h => absurd h (Nat.not_lt_zero _)⟩ ?wta
      case wka => kst_all
      clear NN FF
      rintro ⟨c3, t3⟩ u3 h3 tk3 - ⟨n, hc3, hn, hpre⟩ F3 N3
      dsimp only at hc3 F3
      dsimp only [kstB] at F3
      show wpAny _ _ _ _ _ _
      k_fold
      k_steps
      · unfold Hold
        dsimp only [KswPost]
        have e := of_decide_eq_true (item_beq (show (Txt.item x c3 == Txt.item y c3) = true by assumption) (by omega) (by omega))
        rw [show c3.toNat = n by omega] at e
        refine' ksw_end ⟨_, _⟩ (by assumption) (by assumption) (fun p hp => hp) trivial ?ka5 ?ka6 ?ka7 ?ka8
        case ka5 => kst_all
        case ka6 => ksw_same
        case ka7 => exact ⟨n + 1, by dsimp only; omega, by omega, pre_step hpre e⟩
        case ka8 => dsimp only; omega
      all_goals
        refine hret' _ _ _ _ _ _ _ _ _ ?_ (by assumption) (by assumption) (by assumption)
        refine ⟨x.length - d - n, y.length - d - n, n, by omega, by omega, by omega, trim_of hxy hd hsuf hn hpre rfl rfl ?_⟩
        first
        | (left; omega)
        | (right
           have e := of_decide_eq_false (item_beq (show (Txt.item x c3 == Txt.item y c3) = false by assumption) (by omega) (by omega))
           rw [show c3.toNat = n by omega] at e
           exact e)
    · unfold Hold
      rename Fr gx Lx _ _ => FF
      rename News gx Lx _ _ => NN
      with_unfolding_all refine' ksw_while (σ := Int × Tok) (fun _ => news) (fun c => [(Str.ofString "start", Value.int c.1 c.2)]) (fun _ => True) [] (fun c => ∃ n : Nat, c.1 = (n : Int) ∧ n ≤ x.length - d ∧ ∀ k, k < n → ca x k = ca y k) (fun c => (c1 - c.1).toNat) (0, _) FF NN trivial ?wkb ⟨0, rfl, Nat.zero_le _, fun k h => absurd h (Nat.not_lt_zero _)⟩ ?wtb
      case wkb => kst_all
      clear NN FF
      rintro ⟨c3, t3⟩ u3 h3 tk3 - ⟨n, hc3, hn, hpre⟩ F3 N3
      dsimp only at hc3 F3
      dsimp only [kstB] at F3
      show wpAny _ _ _ _ _ _
      k_fold
      k_steps
      · exfalso; omega
      all_goals
        refine hret' _ _ _ _ _ _ _ _ _ ?_ (by assumption) (by assumption) (by assumption)
        refine ⟨x.length - d - n, y.length - d - n, n, by omega, by omega, by omega, trim_of hxy hd hsuf hn hpre rfl rfl ?_⟩
        first
        | (left; omega)
        | (right
           have e := of_decide_eq_false (item_beq (show (Txt.item x c3 == Txt.item y c3) = false by assumption) (by omega) (by omega))
           rw [show c3.toNat = n by omega] at e
           exact e)
end Mine
end
namespace Mine
theorem top_off_P6 : True := by
 w_top off
 trivial
end Mine
section
open PySem PySem.W PyProof.Rows PySem.Builtin.Str
namespace Mine
local macro_rules | `(tactic| walk_at "execs cons") => `(tactic| (k_here; dsimp only; walk_at "execs cons"))
local macro_rules | `(tactic| walk_at "execs nil") => `(tactic| (k_here; dsimp only; walk_at "execs nil"))
local macro_rules | `(tactic| k_all) => `(tactic| assumption)
local macro_rules | `(tactic| walk_at "pyIter ref") => `(tactic| k_dflt (refine hold ?_))
local macro_rules | `(tactic| walk_at "InvPostN") => `(tactic| refine hold ?_)
set_option maxRecDepth 100000 in
set_option maxHeartbeats 1000000 in
theorem lev_c {w : World} {mean : ExcName → Option Value} {mg mb : Str → Option Value} {news : List (Addr × Obj)} {x y : Str} {l1 l2 st : Nat} {cc : Addr} {tx ty u1 u2 u3 : Tok}
   {dp un : Nat} {gd : Option (List Code)} {cn : Str} {cs : Scope} {a : Addr} {ccd : Value} {cl : List (Str × Addr)} {outer : List Env} {A₀ : Around} {base h₀ : Heap} {L : Addr} {m : Str → Option Value} {s : Shared} {Q E : Value → Shared → Prop}
    (B : Below A₀ base outer h₀) (F : Fr h₀ L s.heap m) (X : (hd.heap_39 w.params).In h₀) (N : News h₀ L s.heap news) (T₀ : Top hd.view_39 loose mean mg mb h₀) (hk : cs.kind = .function)
    (hx : x.length ≤ 64) (hy : y.length ≤ 64) (hl1 : st + l1 ≤ x.length) (hl2 : st + l2 ≤ y.length) (p1 : 1 ≤ l1) (p2 : 1 ≤ l2) (hdp : dp + 5 < recursionLimit) (hu : un + 50 < cLine)
    (hret : ∀ (t : Tok) (h' : Heap) (tk' : Nat), Fr h₀ L h' m → News h₀ L h' news → Q (.int (T false (sh x st) (sh y st) l1 l2 : Nat) t) { s with heap := h', toks := tk' }) :
      wpAny (model PySem.Challenge.rw_db5021_01.row.prog w) (ktrTop dp un gd cn cs L a ccd cl outer) (call (.ref 756) [.str x tx, .str y ty, .int l1 u1, .int l2 u2, .int st u3, .ref cc]) Q E s := by
  refine wpAny_call ?_
  k_dflt cell_enter
  rename_i gx Lx hx FGx Fx Nx Bx Xx Tx
  replace Fx := fr_to Fx (m' := fun z => List.lookup z [(Str.ofString "char_1_costs", Value.ref cc), (Str.ofString "start", Value.int st u3), (Str.ofString "len_2", Value.int l2 u2), (Str.ofString "len_1", Value.int l1 u1), (Str.ofString "string_2", Value.str y ty), (Str.ofString "string_1", Value.str x tx)]) (by with_unfolding_all rfl)
  k_steps
  unfold Hold
  rename IsRange _ _ _ _ 1 _ _ _ => rgX
  rename Fr gx Lx _ _ => FF
  rename News gx Lx _ _ => NN
  rename_i D _ _ o1 _ _ _ _ _ _ _ _ _
  rename IntsAre ys _ => hI8
  rw [first_row] at hI8
  with_unfolding_all refine' kst_range (σ := Int × Tok × List Value × List Int × Nat) (fun c => (D, W.listOf c.2.2.1.toArray c.2.2.2.2) :: news) (fun c => [(Str.ofString "current_cost", Value.int c.1 c.2.1)]) (fun c => IntsAre c.2.2.1 c.2.2.2.1) [Str.ofString "left_char_cost", Str.ofString "above_char_cost", Str.ofString "char_1", Str.ofString "j"] (fun pre c => c.2.2.2.1 = rowL false x y st l2 pre.length ∧ (0 < pre.length → c.1 = ((T false (sh x st) (sh y st) pre.length l2 : Nat) : Int))) (0, _, ys, _, ys.length) (by rfl) rgX (small_one (by omega) (by omega) (by omega) (by omega)) (rangeSize_nat _ _) FF NN hI8 ?wk ⟨row_first, fun h => absurd h (Nat.lt_irrefl _)⟩ ?wt ?wd
  case wk => kst_all
  case wt =>
    clear NN FF rgX hI8
    rintro ⟨cur, tcur, vs, ns, nv⟩ pre i ti u h tk own hii hlt hoff hvs ⟨hns, hcur⟩ F2 N2
    dsimp only at hoff hvs hns hcur N2 F2
    dsimp only [kstB] at F2
    obtain ⟨rest, hrest⟩ : ∃ rest, rest = news ++ own := ⟨_, rfl⟩
    replace N2 : News gx Lx h ((D, W.listOf vs.toArray nv) :: rest) := by rw [hrest]; exact N2
    have hD : ∀ p ∈ rest, p.1 ≠ D := fun p hp => by
      rw [hrest] at hp
      rcases List.mem_append.mp hp with hp | hp
      · exact off1_all o1 p hp
      · exact hoff p hp D (by simp)
    show wpAny _ _ _ _ _ _
    k_fold
    k_steps
    unfold Hold
    rename IsRange _ _ _ _ 1 _ _ _ => rgX
    rename Fr gx Lx _ _ => FF
    rename News gx Lx _ _ => NN
    with_unfolding_all refine' kst_range (σ := Int × Tok × Int × Tok × Int × Tok × List Value × List Int × Nat) (fun c => (D, W.listOf c.2.2.2.2.2.2.1.toArray c.2.2.2.2.2.2.2.2) :: rest) (fun c => [(Str.ofString "current_cost", Value.int c.1 c.2.1), (Str.ofString "left_char_cost", Value.int c.2.2.1 c.2.2.2.1), (Str.ofString "above_char_cost", Value.int c.2.2.2.2.1 c.2.2.2.2.2.1)]) (fun c => IntsAre c.2.2.2.2.2.2.1 c.2.2.2.2.2.2.2.1) [] (fun preJ c => InnerL x y st l2 pre.length preJ.length c.1 c.2.2.1 c.2.2.2.2.1 c.2.2.2.2.2.2.2.1) (cur, _, i, _, i, _, vs, ns, nv) (by rfl) rgX (small_one (by omega) (by omega) (by omega) (by omega)) (rangeSize_nat _ _) FF NN hvs ?jk ?jp ?jt ?jd
    case jk => kst_all
    case jp => exact innerL_0 (i := i) (n := pre.length) hns (by omega)
    case jt =>
      clear NN FF rgX
      rintro ⟨cu, tcu, le, tle, ab, tab, vs', ns', nv'⟩ preJ j tj uj hj tkj ownJ hjj hltj hoffJ hvs' hinn F3 N3
      dsimp only at hvs' hinn N3 F3
      dsimp only [kstB] at F3
      obtain ⟨rest2, hrest2⟩ : ∃ rest2, rest2 = rest ++ ownJ := ⟨_, rfl⟩
      replace N3 : News gx Lx hj ((D, W.listOf vs'.toArray nv') :: rest2) := by rw [hrest2]; exact N3
      have hD2 : ∀ p ∈ rest2, p.1 ≠ D := fun p hp => by
        rw [hrest2] at hp
        rcases List.mem_append.mp hp with hp | hp
        · exact hD p hp
        · exact hoffJ p hp D (by simp)
      have hlen3 : ns'.length = l2 := by rw [hinn.1, mix_len]
      show wpAny _ _ _ _ _ _
      k_fold
      k_steps
      all_goals unfold Hold
      all_goals dsimp only [InvPostN]
      all_goals rename News _ _ _ _ => nE'
      all_goals
        refine' kst_end ⟨_, _, _, _, _, _, _, _, _⟩ (by assumption) nE' (in_one hrest2) (in_one' hrest2) rfl (by assumption) ?_ ?_ ?_
        · kst_all
        · kst_same
        · dsimp only
          refine innerL_step hinn (by omega) (show j = ((preJ.length : Nat) : Int) by omega) (show i = ((pre.length : Nat) : Int) by omega) ?_ rfl
          first
          | (left; refine ⟨by assumption, ?_⟩; omega)
          | (right; exact ⟨by assumption, rfl⟩)
    case jd =>
      rintro ⟨cu, tcu, le, tle, ab, tab, vs', ns', nv'⟩ uj hj tkj hvs' hinn F3 N3
      dsimp only at hvs' hinn N3 F3
      dsimp only [kstB] at F3
      show wpAny _ _ _ _ _ _
      (try k_fold)
      k_steps
      unfold Hold
      dsimp only [InvPostN]
      rename News _ _ _ _ => nE'
      refine' kst_end ⟨_, _, _, _, _⟩ (by assumption) nE' (in_one hrest) (in_one' hrest) rfl (by assumption) ?_ ?_ ?_
      · kst_all
      · kst_same
      · dsimp only
        exact innerL_end hinn (by rw [rangeKs_length]; omega) p2 rfl
  case wd =>
    rintro ⟨cur, tcur, vs, ns, nv⟩ u h tk hvs ⟨hns, hcur⟩ F2 N2
    dsimp only at hvs hns hcur N2 F2
    dsimp only [kstB] at F2
    have hlen : (rangeKs 0 ((l1 : Int) - 0).toNat).length = l1 := by rw [rangeKs_length]; omega
    rw [hlen] at hcur
    have hc := hcur p1
    show wpAny _ _ _ _ _ _
    (try k_fold)
    k_steps
    subst hc
    exact hret _ _ _ (by assumption) (cb_drop (by assumption) fun p hp => .tail _ hp)
end Mine
end
namespace Mine
theorem top_off_P7 : True := by
 w_top off
 trivial
end Mine
section
open PySem PySem.W PyProof.Rows PySem.Builtin.Str
namespace Mine

theorem unhold {P : Prop} (h : P) : Hold P := h
local macro_rules | `(tactic| walk_at "execs cons") => `(tactic| (k_here; dsimp only; walk_at "execs cons"))
local macro_rules | `(tactic| walk_at "execs nil") => `(tactic| (k_here; dsimp only; walk_at "execs nil"))
local macro_rules | `(tactic| k_all) => `(tactic| assumption)
local macro_rules | `(tactic| walk_at "ite") => `(tactic| with_reducible ((show (if _ then wpAny _ _ (eval (Expr.Constant (Const.int _) _ _) _) _ _ _ else wpAny _ _ (eval (Expr.Constant (Const.int _) _ _) _) _ _ _)); refine ite_constsP ?_))
local macro_rules | `(tactic| walk_at "pyIter ref") => `(tactic| k_dflt (refine hold ?_))
local macro_rules | `(tactic| walk_at "InvPostN") => `(tactic| first | ((with_reducible show InvPostN _ _ _ _ _ _ _ (Flow.ret _) _); dsimp only [InvPostN]) | refine hold ?_)
set_option maxRecDepth 100000 in
set_option maxHeartbeats 1000000 in
theorem levm_c {w : World} {mean : ExcName → Option Value} {mg mb : Str → Option Value} {news : List (Addr × Obj)} {x y : Str} {l1 l2 st M off diff : Nat} {cc : Addr} {tx ty u1 u2 u3 u4 : Tok}
   {dp un : Nat} {gd : Option (List Code)} {cn : Str} {cs : Scope} {a : Addr} {ccd : Value} {cl : List (Str × Addr)} {outer : List Env} {A₀ : Around} {base h₀ : Heap} {L : Addr} {m : Str → Option Value} {s : Shared} {Q E : Value → Shared → Prop}
    (B : Below A₀ base outer h₀) (F : Fr h₀ L s.heap m) (X : (hd.heap_39 w.params).In h₀) (N : News h₀ L s.heap news) (T₀ : Top hd.view_39 loose mean mg mb h₀) (hk : cs.kind = .function)
    (hx : x.length ≤ 64) (hy : y.length ≤ 64) (hl1 : st + l1 ≤ x.length) (hl2 : st + l2 ≤ y.length) (p1 : 1 ≤ l1) (hd2 : l2 = l1 + diff) (hM : M = off + diff) (pM : 1 ≤ M) (hMl : M < l2) (hne : ca x st ≠ ca y st) (hdp : dp + 5 < recursionLimit) (hu : un + 50 < cLine)
    (hret : ∀ (t : Tok) (h' : Heap) (tk' : Nat), Fr h₀ L h' m → News h₀ L h' news → Q (.int (if T false (sh x st) (sh y st) l1 l2 ≤ M then ((T false (sh x st) (sh y st) l1 l2 : Nat) : Int) else -1) t) { s with heap := h', toks := tk' }) :
      wpAny (model PySem.Challenge.rw_db5021_01.row.prog w) (ktrTop dp un gd cn cs L a ccd cl outer) (call (.ref 764) [.str x tx, .str y ty, .int l1 u1, .int l2 u2, .int st u3, .int M u4, .ref cc]) Q E s := by
  refine wpAny_call ?_
  k_dflt (refine' code_defC ?k1 ?k2 ?k3 ?k4 ?k5 ?kA ?kF ?kK ?k6 ?k7 ?k8 ?k9 ?kB ?kD ?_ ?c2 ?c3 ?c4; (case kA => exact rfl); (case kF => exact rfl); (case kK => assumption); (case k1 => k_asm); (case k2 => k_asm); (case k3 => k_asm); (case k4 => k_asm); (case k5 => k_asm); (case k6 => k_is); (case k7 => k_is); (case k8 => ktr_room); (case k9 => exact BindsTo.of_eq rfl); (case kB => exact rfl); (case kD => decide +kernel); (case c2 => exact rfl); (case c3 => exact rfl); (case c4 => exact rfl); k_whole; intro gx Lx hx tkx cellsx FGx Fx Nx Yx Bx Xx Tx lx; k_cells Yx; (try simp only [List.cons_append, List.nil_append] at Nx); (try dsimp only); (try k_fold))
  rename_i oM dM
  replace Fx := fr_to Fx (m' := fun z => if z = Str.ofString "char_1_costs" then some (Value.ref cc) else if z = Str.ofString "start" then some (Value.int st u3) else if z = Str.ofString "len_2" then some (Value.int l2 u2) else if z = Str.ofString "len_1" then some (Value.int l1 u1) else if z = Str.ofString "string_2" then some (Value.str y ty) else if z = Str.ofString "string_1" then some (Value.str x tx) else none) (by with_unfolding_all rfl)
  replace dM : oM.data = .cell (some (.int M u4)) := by rw [dM]; with_unfolding_all rfl
  k_steps
  unfold Hold
  rename IsRange _ _ _ _ 1 _ _ _ => rgX
  rename Fr gx Lx _ _ => FF
  rename News gx Lx _ _ => NN
  rename _ ∧ LCg.Off1 _ news => o1
  rename IntsAre ys _ => hI8
  rename_i D _ _ _ _ _ _ _ _ _ _ _ _ _ _ _ _ _ _ _
  rw [firstM] at hI8
  have hD0 : ∀ p ∈ (Lx + 1, oM) :: news, p.1 ≠ D := fun p hp => by
    rcases List.mem_cons.mp hp with rfl | hp
    · exact o1.1
    · exact off1_all o1.2 p hp
  with_unfolding_all refine' kst_range (σ := Int × Tok × Int × Tok × Int × Tok × List Value × List Int × Nat) (fun c => (D, W.listOf c.2.2.2.2.2.2.1.toArray c.2.2.2.2.2.2.2.2) :: (Lx + 1, oM) :: news) (fun c => [(Str.ofString "current_cost", Value.int c.1 c.2.1), (Str.ofString "j_start", Value.int c.2.2.1 c.2.2.2.1), (Str.ofString "j_end", Value.int c.2.2.2.2.1 c.2.2.2.2.2.1)]) (fun c => IntsAre c.2.2.2.2.2.2.1 c.2.2.2.2.2.2.2.1) [Str.ofString "char_1", Str.ofString "prev_char_1_cost", Str.ofString "above_char_cost", Str.ofString "j"] (fun pre c => OuterM false x y st l1 l2 M off pre.length c.1 c.2.2.1 c.2.2.2.2.1 c.2.2.2.2.2.2.2.1) (0, _, 0, _, M, _, ys, _, ys.length) (by rfl) rgX (small_one (by omega) (by omega) (by omega) (by omega)) (rangeSize_nat _ _) FF NN hI8 ?wk (outerM_0 hMl) ?wt ?wd
  case wk => kst_all
  case wt =>
    clear NN FF rgX hI8
    rintro ⟨cur, tcur, js, tjs, je, tje, vs, ns, nv⟩ pre i ti u h tk own hii hlt hoff hvs hout F2 N2
    dsimp only at hoff hvs hout N2 F2
    dsimp only [kstB] at F2
    obtain ⟨rest, hrest⟩ : ∃ rest, rest = news ++ own := ⟨_, rfl⟩
    replace N2 : News gx Lx h ((D, W.listOf vs.toArray nv) :: (Lx + 1, oM) :: rest) := by rw [hrest]; exact N2
    have hD : ∀ p ∈ (Lx + 1, oM) :: rest, p.1 ≠ D := fun p hp => by
      rcases List.mem_cons.mp hp with rfl | hp
      · exact o1.1
      · rw [hrest] at hp
        rcases List.mem_append.mp hp with hp | hp
        · exact hD0 p (.tail _ hp)
        · exact hoff p hp D (by simp)
    have hi : i = (pre.length : Int) := by omega
    subst hi
    have hjs := hout.js
    have hje := hout.je
    show wpAny _ _ _ _ _ _
    k_fold
    k_steps
    unfold Hold
    rename IsRange _ _ _ _ 1 _ _ _ => rgX
    rename Fr gx Lx _ _ => FF
    rename News gx Lx _ _ => NN
    have ejs : (js + if decide ((M : Int) - ((l2 : Int) - (l1 : Int)) < (pre.length : Int)) = true then 1 else 0) = ((pre.length - off : Nat) : Int) := by
      simp only [decide_eq_true_eq]; split <;> omega
    have eje : (je + if decide (je < (l2 : Int)) = true then 1 else 0) = ((min (M + pre.length + 1) l2 : Nat) : Int) := by
      simp only [decide_eq_true_eq]; split <;> omega
    rw [ejs, eje] at rgX FF
    have hJ : pre.length - off < min (M + pre.length + 1) l2 := by omega
    generalize hJs : pre.length - off = J0 at *
    generalize hJe : min (M + pre.length + 1) l2 = J1 at *
    with_unfolding_all refine' kst_range (σ := Int × Tok × Int × Tok × Int × Tok × List Value × List Int × Nat) (fun c => (D, W.listOf c.2.2.2.2.2.2.1.toArray c.2.2.2.2.2.2.2.2) :: (Lx + 1, oM) :: rest) (fun c => [(Str.ofString "current_cost", Value.int c.1 c.2.1), (Str.ofString "prev_char_1_cost", Value.int c.2.2.1 c.2.2.2.1), (Str.ofString "above_char_cost", Value.int c.2.2.2.2.1 c.2.2.2.2.2.1)]) (fun c => IntsAre c.2.2.2.2.2.2.1 c.2.2.2.2.2.2.2.1) [] (fun preJ c => InnerM false x y st l1 l2 M off pre.length (J0 + preJ.length) c.1 c.2.2.1 c.2.2.2.2.1 c.2.2.2.2.2.2.2.1) (cur, _, (pre.length : Int), _, (pre.length : Int), _, vs, ns, nv) (by rfl) rgX (small_one (by omega) (by omega) (by omega) (by omega)) (rangeSize_nat _ _) FF NN hvs ?jk ?jp ?jt ?jd
    case jk => kst_all
    case jp =>
      have := innerM_0 hout hne hd2 hM
      rw [hJs] at this
      exact this
    case jt =>
      clear NN FF rgX
      rintro ⟨cu, tcu, le, tle, ab, tab, vs', ns', nv'⟩ preJ j tj uj hj tkj ownJ hjj hltj hoffJ hvs' hinn F3 N3
      dsimp only at hvs' hinn N3 F3
      dsimp only [kstB] at F3
      obtain ⟨rest2, hrest2⟩ : ∃ rest2, rest2 = rest ++ ownJ := ⟨_, rfl⟩
      replace N3 : News gx Lx hj ((D, W.listOf vs'.toArray nv') :: (Lx + 1, oM) :: rest2) := by rw [hrest2]; exact N3
      have hD2 : ∀ p ∈ (Lx + 1, oM) :: rest2, p.1 ≠ D := fun p hp => by
        rcases List.mem_cons.mp hp with rfl | hp
        · exact o1.1
        · rw [hrest2] at hp
          rcases List.mem_append.mp hp with hp | hp
          · exact hD p (.tail _ hp)
          · exact hoffJ p hp D (by simp)
      have hlen3 : ns'.length = l2 := hinn.len
      show wpAny _ _ _ _ _ _
      k_fold
      k_steps
      all_goals unfold Hold
      all_goals dsimp only [InvPostN]
      all_goals rename News _ _ _ _ => nE'
      all_goals
        refine' kst_end ⟨_, _, _, _, _, _, _, _, _⟩ (by assumption) nE' (in_two hrest2) (in_two' hrest2) rfl (by assumption) ?_ ?_ ?_
        · kst_all
        · kst_same
        · dsimp only
          refine innerM_stepL hinn (by omega) (by omega) (by omega) (show j = ((J0 + preJ.length : Nat) : Int) by omega) rfl ?_ rfl
          first
          | (left; refine ⟨by assumption, ?_⟩; omega)
          | (right; exact ⟨by assumption, rfl⟩)
        all_goals exact nv'
    case jd =>
      clear NN FF rgX
      rintro ⟨cu, tcu, le, tle, ab, tab, vs', ns', nv'⟩ uj hj tkj hvs' hinn F3 N3
      dsimp only at hvs' hinn N3 F3
      dsimp only [kstB] at F3
      have hlenR : (rangeKs (J0 : Int) ((J1 : Int) - (J0 : Int)).toNat).length = J1 - J0 := by rw [rangeKs_length]; omega
      rw [hlenR, show J0 + (J1 - J0) = J1 by omega] at hinn
      have hlen3 : ns'.length = l2 := hinn.len
      have hO := innerM_end hinn hJe.symm (by omega) (js := ((J0 : Nat) : Int)) (je := ((J1 : Nat) : Int)) (by omega) rfl
      show wpAny _ _ _ _ _ _
      (try k_fold)
      k_steps
      · have hE := outerM_early hO hd2 hM (by omega) (show (M : Int) < ns'.getD (pre.length + diff) 0 by
          rw [show pre.length + diff = ((pre.length : Int) + ((l2 : Int) - (l1 : Int))).toNat by omega]; assumption)
        rw [if_neg hE] at hret
        refine hret _ _ _ ?_ ?_
        · assumption
        · refine cb_drop (by assumption) fun p hp => List.Mem.tail _ (List.Mem.tail _ ?_)
          rw [hrest]; exact List.mem_append_left _ hp
      · unfold Hold
        dsimp only [InvPostN]
        rename News _ _ _ _ => nE'
        refine' kst_end ⟨_, _, _, _, _, _, _, _, _⟩ (by assumption) nE' (in_two hrest) (in_two' hrest) rfl (by assumption) ?_ ?_ ?_
        · kst_all
        · kst_same
        · dsimp only
          rw [List.length_append, List.length_singleton]
          exact hO
        all_goals exact nv'
  case wd =>
    rintro ⟨cur, tcur, js, tjs, je, tje, vs, ns, nv⟩ u h tk hvs hout F2 N2
    dsimp only at hvs hout N2 F2
    dsimp only [kstB] at F2
    have hlen : (rangeKs 0 ((l1 : Int) - 0).toNat).length = l1 := by rw [rangeKs_length]; omega
    rw [hlen] at hout
    have hf := outerM_fin hout hd2 hM p1
    rw [← hf] at hret
    show wpAny _ _ _ _ _ _
    (try k_fold)
    k_steps
    · rw [if_pos (by assumption)] at hret
      refine hret _ _ _ ?_ ?_
      · assumption
      · exact cb_drop (by assumption) fun p hp => List.Mem.tail _ (List.Mem.tail _ hp)
    · rw [if_neg (by assumption)] at hret
      refine hret _ _ _ ?_ ?_
      · assumption
      · exact cb_drop (by assumption) fun p hp => List.Mem.tail _ (List.Mem.tail _ hp)
end Mine
end
namespace Mine
theorem top_off_P8 : True := by
 w_top off
 trivial
end Mine
section
open PySem PySem.W PyProof.Rows PySem.Builtin.Str
namespace Mine

local macro_rules | `(tactic| walk_at "no such key P80") => `(tactic| skip)
local macro_rules | `(tactic| walk_at "execs cons") => `(tactic| (k_here; dsimp only; walk_at "execs cons"))
local macro_rules | `(tactic| walk_at "execs nil") => `(tactic| (k_here; dsimp only; walk_at "execs nil"))
local macro_rules | `(tactic| k_all) => `(tactic| assumption)
local macro_rules | `(tactic| walk_at "exec If") => `(tactic| k_dflt ((with_reducible show wpAny _ _ (exec (Stmt.If (Expr.Compare (Expr.Name _ _) [CmpOp.Lt] [Expr.Name _ _] _) [Stmt.Assign [Expr.Name _ _] (Expr.Name _ _) _] [] _) _) _ _ _); (refine' if_min ?kF ?kN ?kx ?ky ?_; (case kF => k_asm); (case kN => k_asm); (case kx => rfl); (case ky => rfl); k_whole; intro t9 h9 tk9 F9 N9; (try k_sweep))))
local macro_rules | `(tactic| walk_at "pyIter ref") => `(tactic| k_dflt (refine hold ?_))
local macro_rules | `(tactic| walk_at "InvPostN") => `(tactic| refine hold ?_)
set_option maxRecDepth 100000 in
set_option maxHeartbeats 1000000 in
theorem osa_c {w : World} {mean : ExcName → Option Value} {mg mb : Str → Option Value} {news : List (Addr × Obj)} {x y : Str} {l1 l2 st pn : Nat} {cc pp : Addr} {pvs : List Value} {pns : List Int} {tx ty u1 u2 u3 : Tok}
   {dp un : Nat} {gd : Option (List Code)} {cn : Str} {cs : Scope} {a : Addr} {ccd : Value} {cl : List (Str × Addr)} {outer : List Env} {A₀ : Around} {base h₀ : Heap} {L : Addr} {m : Str → Option Value} {s : Shared} {Q E : Value → Shared → Prop}
    (B : Below A₀ base outer h₀) (F : Fr h₀ L s.heap m) (X : (hd.heap_39 w.params).In h₀) (N : News h₀ L s.heap ((pp, W.listOf pvs.toArray pn) :: news)) (hpp : ∀ p ∈ news, p.1 ≠ pp) (hpi : IntsAre pvs pns) (hpl : l2 ≤ pns.length) (hpl2 : pns.length ≤ 64) (T₀ : Top hd.view_39 loose mean mg mb h₀) (hk : cs.kind = .function)
    (hx : x.length ≤ 64) (hy : y.length ≤ 64) (hl1 : st + l1 ≤ x.length) (hl2 : st + l2 ≤ y.length) (p1 : 1 ≤ l1) (p2 : 1 ≤ l2) (hdp : dp + 5 < recursionLimit) (hu : un + 50 < cLine)
    (hret : ∀ (t : Tok) (h' : Heap) (tk' : Nat) (pvs' : List Value) (pns' : List Int), IntsAre pvs' pns' → pns'.length = pns.length → Fr h₀ L h' m → News h₀ L h' ((pp, W.listOf pvs'.toArray pn) :: news) → Q (.int (T true (sh x st) (sh y st) l1 l2 : Nat) t) { s with heap := h', toks := tk' }) :
      wpAny (model PySem.Challenge.rw_db5021_01.row.prog w) (ktrTop dp un gd cn cs L a ccd cl outer) (call (.ref 796) [.str x tx, .str y ty, .int l1 u1, .int l2 u2, .int st u3, .ref cc, .ref pp]) Q E s := by
  refine wpAny_call ?_
  k_dflt cell_enter
  rename_i gx Lx hx FGx Fx Nx Bx Xx Tx
  replace Fx := fr_to Fx (m' := fun z => List.lookup z [(Str.ofString "prev_char_1_costs", Value.ref pp), (Str.ofString "char_1_costs", Value.ref cc), (Str.ofString "start", Value.int st u3), (Str.ofString "len_2", Value.int l2 u2), (Str.ofString "len_1", Value.int l1 u1), (Str.ofString "string_2", Value.str y ty), (Str.ofString "string_1", Value.str x tx)]) (by with_unfolding_all rfl)
  k_steps
  unfold Hold
  rename IsRange _ _ _ _ 1 _ _ _ => rgX
  rename Fr gx Lx _ _ => FF
  rename News gx Lx _ _ => NN
  rename IntsAre _ (List.map _ _) => hI8
  rw [first_row] at hI8
  rename _ ∧ LCg.Off1 _ news => o1
  rename_i D _ _ _ _ _ _ _ _ _ _ _ _ _
  have hD0 : ∀ p ∈ news, p.1 ≠ D := off1_all o1.2
  with_unfolding_all refine' kst_range (σ := Int × Tok × Str × Tok × List Value × List Int × Nat × List Value × List Int) (fun c => (D, W.listOf c.2.2.2.2.1.toArray c.2.2.2.2.2.2.1) :: (pp, W.listOf c.2.2.2.2.2.2.2.1.toArray pn) :: news) (fun c => [(Str.ofString "current_cost", Value.int c.1 c.2.1), (Str.ofString "char_1", Value.str c.2.2.1 c.2.2.2.1)]) (fun c => IntsAre c.2.2.2.2.1 c.2.2.2.2.2.1 ∧ IntsAre c.2.2.2.2.2.2.2.1 c.2.2.2.2.2.2.2.2) [Str.ofString "prev_char_1", Str.ofString "char_2", Str.ofString "left_char_cost", Str.ofString "above_char_cost", Str.ofString "next_trans_cost", Str.ofString "j", Str.ofString "this_trans_cost", Str.ofString "prev_char_2"] (fun pre c => OuterO x y st l2 pre.length pns.length c.1 c.2.2.1 c.2.2.2.2.2.1 c.2.2.2.2.2.2.2.2) (0, _, _, _, ys, _, ys.length, pvs, pns) (by rfl) rgX (small_one (by omega) (by omega) (by omega) (by omega)) (rangeSize_nat _ _) FF NN ⟨hI8, hpi⟩ ?wk (outerO_0 rfl) ?wt ?wd
  case wk => kst_all
  case wt =>
    clear NN FF rgX hI8
    rintro ⟨cur, tcur, c1, tc1, vs, ns, nv, qvs, qns⟩ pre i ti u h tk own hii hlt hoff ⟨hvs, hqs⟩ hout F2 N2
    dsimp only at hoff hvs hqs hout N2 F2
    dsimp only [kstB] at F2
    obtain ⟨rest, hrest⟩ : ∃ rest, rest = news ++ own := ⟨_, rfl⟩
    replace N2 : News gx Lx h ((D, W.listOf vs.toArray nv) :: (pp, W.listOf qvs.toArray pn) :: rest) := by rw [hrest]; exact N2
    have hD : ∀ p ∈ rest, p.1 ≠ D := fun p hp => by
      rw [hrest] at hp
      rcases List.mem_append.mp hp with hp | hp
      · exact hD0 p hp
      · exact hoff p hp D (by simp)
    have hP : ∀ p ∈ rest, p.1 ≠ pp := fun p hp => by
      rw [hrest] at hp
      rcases List.mem_append.mp hp with hp | hp
      · exact hpp p hp
      · exact hoff p hp pp (by simp)
    have hi : i = (pre.length : Int) := by omega
    subst hi
    show wpAny _ _ _ _ _ _
    k_fold
    have hne1 : @Ne Nat pp D := o1.1
    k_steps
    unfold Hold
    rename IsRange _ _ _ _ 1 _ _ _ => rgX
    rename Fr gx Lx _ _ => FF
    rename News gx Lx _ _ => NN
    with_unfolding_all refine' kst_range (σ := Int × Tok × Int × Tok × Int × Tok × Int × Tok × Str × Tok × List Value × List Int × Nat × List Value × List Int) (fun c => (D, W.listOf c.2.2.2.2.2.2.2.2.2.2.1.toArray c.2.2.2.2.2.2.2.2.2.2.2.2.1) :: (pp, W.listOf c.2.2.2.2.2.2.2.2.2.2.2.2.2.1.toArray pn) :: rest) (fun c => [(Str.ofString "current_cost", Value.int c.1 c.2.1), (Str.ofString "left_char_cost", Value.int c.2.2.1 c.2.2.2.1), (Str.ofString "above_char_cost", Value.int c.2.2.2.2.1 c.2.2.2.2.2.1), (Str.ofString "next_trans_cost", Value.int c.2.2.2.2.2.2.1 c.2.2.2.2.2.2.2.1), (Str.ofString "char_2", Value.str c.2.2.2.2.2.2.2.2.1 c.2.2.2.2.2.2.2.2.2.1)]) (fun c => IntsAre c.2.2.2.2.2.2.2.2.2.2.1 c.2.2.2.2.2.2.2.2.2.2.2.1 ∧ IntsAre c.2.2.2.2.2.2.2.2.2.2.2.2.2.1 c.2.2.2.2.2.2.2.2.2.2.2.2.2.2) [Str.ofString "this_trans_cost", Str.ofString "prev_char_2"] (fun preJ c => InnerO x y st l2 pre.length preJ.length c.1 c.2.2.1 c.2.2.2.2.1 c.2.2.2.2.2.2.1 c.2.2.2.2.2.2.2.2.1 c.2.2.2.2.2.2.2.2.2.2.2.1 c.2.2.2.2.2.2.2.2.2.2.2.2.2.2 ∧ c.2.2.2.2.2.2.2.2.2.2.2.2.2.2.length = pns.length) (cur, _, (pre.length : Int), _, (pre.length : Int), _, 0, _, _, _, vs, ns, nv, qvs, qns) (by rfl) rgX (small_one (by omega) (by omega) (by omega) (by omega)) (rangeSize_nat _ _) FF NN ⟨hvs, hqs⟩ ?jk ⟨innerO_0 hout hpl, hout.plen⟩ ?jt ?jd
    case jk => kst_all
    case jt =>
      clear NN FF rgX
      rintro ⟨cu, tcu, le, tle, ab, tab, nx, tnx, c2, tc2, vs', ns', nv', qvs', qns'⟩ preJ j tj uj hj tkj ownJ hjj hltj hoffJ ⟨hvs', hqs'⟩ ⟨hinn, hql⟩ F3 N3
      dsimp only at hvs' hqs' hinn hql N3 F3
      dsimp only [kstB] at F3
      obtain ⟨rest2, hrest2⟩ : ∃ rest2, rest2 = rest ++ ownJ := ⟨_, rfl⟩
      replace N3 : News gx Lx hj ((D, W.listOf vs'.toArray nv') :: (pp, W.listOf qvs'.toArray pn) :: rest2) := by rw [hrest2]; exact N3
      have hD2 : ∀ p ∈ rest2, p.1 ≠ D := fun p hp => by
        rw [hrest2] at hp
        rcases List.mem_append.mp hp with hp | hp
        · exact hD p hp
        · exact hoffJ p hp D (by simp)
      have hP2 : ∀ p ∈ rest2, p.1 ≠ pp := fun p hp => by
        rw [hrest2] at hp
        rcases List.mem_append.mp hp with hp | hp
        · exact hP p hp
        · exact hoffJ p hp pp (by simp)
      have hlen3 : ns'.length = l2 := by rw [hinn.row, mix_len]
      show wpAny _ _ _ _ _ _
      k_fold
      k_steps
      all_goals unfold Hold
      all_goals dsimp only [InvPostN]
      all_goals rename News _ _ _ _ => nE'
      all_goals
        refine' kst_end ⟨_, _, _, _, _, _, _, _, _, _, _, _, _, _, _⟩ (by assumption) nE' (in_two hrest2) (in_two' hrest2) rfl ⟨by assumption, by assumption⟩ ?_ ?_ ?_
        · kst_all
        · kst_same
        · dsimp only
          refine ⟨innerO_step (c1 := Txt.item x ((st : Int) + (pre.length : Int))) (pc1 := c1) hinn (by omega) (show j = ((preJ.length : Nat) : Int) by omega) rfl rfl hout.hc1 ?_ rfl, by rw [List.length_set]; exact hql⟩
          first
          | (left; exact ⟨by assumption, rfl⟩)
          | (right; refine ⟨by assumption, .inl ⟨⟨by assumption, by assumption, by assumption, by assumption⟩, ?_⟩⟩; omega)
          | (right
             refine ⟨by assumption, .inr ⟨?_, rfl⟩⟩
             rintro ⟨g1, g2, g3, g4⟩
             first
             | contradiction
             | (rw [show (Txt.item x ((st : Int) + (pre.length : Int)) == c2) = false by assumption] at g3; cases g3)
             | (rw [show (c1 == Txt.item y ((st : Int) + j)) = false by assumption] at g4; cases g4))
        all_goals exact nv'
    case jd =>
      rintro ⟨cu, tcu, le, tle, ab, tab, nx, tnx, c2, tc2, vs', ns', nv', qvs', qns'⟩ uj hj tkj ⟨hvs', hqs'⟩ ⟨hinn, hql⟩ F3 N3
      dsimp only at hvs' hqs' hinn hql N3 F3
      dsimp only [kstB] at F3
      show wpAny _ _ _ _ _ _
      (try k_fold)
      k_steps
      unfold Hold
      dsimp only [InvPostN]
      rename News _ _ _ _ => nE'
      refine' kst_end ⟨_, _, _, _, _, _, _, _, _⟩ (by assumption) nE' (in_two hrest) (in_two' hrest) rfl ⟨by assumption, by assumption⟩ ?_ ?_ ?_
      · kst_all
      · kst_same
      · dsimp only
        exact innerO_end hinn (by rw [rangeKs_length]; omega) p2 hql rfl rfl
      all_goals exact nv'
  case wd =>
    rintro ⟨cur, tcur, c1, tc1, vs, ns, nv, qvs, qns⟩ u h tk ⟨hvs, hqs⟩ hout F2 N2
    dsimp only at hvs hqs hout N2 F2
    dsimp only [kstB] at F2
    have hlen : (rangeKs 0 ((l1 : Int) - 0).toNat).length = l1 := by rw [rangeKs_length]; omega
    rw [hlen] at hout
    have hc := hout.hcur p1
    show wpAny _ _ _ _ _ _
    (try k_fold)
    k_steps
    subst hc
    refine hret _ _ _ _ _ hqs hout.plen ?_ ?_
    · assumption
    · exact cb_drop (by assumption) fun p hp => .tail _ hp
end Mine
end
namespace Mine
theorem top_off_P9 : True := by
 w_top off
 trivial
end Mine
section
open PySem PySem.W PyProof.Rows PySem.Builtin.Str
namespace Mine

theorem in_three {α : Type} {p q o : α} {r s t : List α} (h : t = r ++ s) : ∀ z ∈ p :: q :: o :: r, z ∈ p :: q :: o :: t := fun z hz => by
  rcases List.mem_cons.mp hz with rfl | hz
  · exact .head _
  · exact .tail _ (in_two h z hz)
theorem in_three' {α : Type} {p q o : α} {r s t : List α} (h : t = r ++ s) : ∀ z ∈ s, z ∈ p :: q :: o :: t := fun z hz => .tail _ (in_two' h z hz)
local macro_rules | `(tactic| walk_at "no such key P90") => `(tactic| skip)
local macro_rules | `(tactic| walk_at "execs cons") => `(tactic| (k_here; dsimp only; walk_at "execs cons"))
local macro_rules | `(tactic| walk_at "execs nil") => `(tactic| (k_here; dsimp only; walk_at "execs nil"))
local macro_rules | `(tactic| k_all) => `(tactic| assumption)
local macro_rules | `(tactic| walk_at "exec If") => `(tactic| k_dflt ((with_reducible show wpAny _ _ (exec (Stmt.If (Expr.Compare (Expr.Name _ _) [CmpOp.Lt] [Expr.Name _ _] _) [Stmt.Assign [Expr.Name _ _] (Expr.Name _ _) _] [] _) _) _ _ _); (refine' if_min ?kF ?kN ?kx ?ky ?_; (case kF => k_asm); (case kN => k_asm); (case kx => rfl); (case ky => rfl); k_whole; intro t9 h9 tk9 F9 N9; (try k_sweep))))
local macro_rules | `(tactic| walk_at "ite") => `(tactic| with_reducible ((show (if _ then wpAny _ _ (eval (Expr.Constant (Const.int _) _ _) _) _ _ _ else wpAny _ _ (eval (Expr.Constant (Const.int _) _ _) _) _ _ _)); refine ite_constsP ?_))
local macro_rules | `(tactic| walk_at "pyIter ref") => `(tactic| k_dflt (refine hold ?_))
local macro_rules | `(tactic| walk_at "InvPostN") => `(tactic| first | ((with_reducible show InvPostN _ _ _ _ _ _ _ (Flow.ret _) _); dsimp only [InvPostN]) | refine hold ?_)
set_option maxRecDepth 100000 in
set_option maxHeartbeats 1000000 in
theorem osam_c {w : World} {mean : ExcName → Option Value} {mg mb : Str → Option Value} {news : List (Addr × Obj)} {x y : Str} {l1 l2 st M off diff : Nat} {pn : Nat} {cc pp : Addr} {pvs : List Value} {pns : List Int} {tx ty u1 u2 u3 u4 : Tok}
   {dp un : Nat} {gd : Option (List Code)} {cn : Str} {cs : Scope} {a : Addr} {ccd : Value} {cl : List (Str × Addr)} {outer : List Env} {A₀ : Around} {base h₀ : Heap} {L : Addr} {m : Str → Option Value} {s : Shared} {Q E : Value → Shared → Prop}
    (B : Below A₀ base outer h₀) (F : Fr h₀ L s.heap m) (X : (hd.heap_39 w.params).In h₀) (N : News h₀ L s.heap ((pp, W.listOf pvs.toArray pn) :: news)) (hpp : ∀ p ∈ news, p.1 ≠ pp) (hpi : IntsAre pvs pns) (hpl : l2 ≤ pns.length) (hpl2 : pns.length ≤ 64) (T₀ : Top hd.view_39 loose mean mg mb h₀) (hk : cs.kind = .function)
    (hx : x.length ≤ 64) (hy : y.length ≤ 64) (hl1 : st + l1 ≤ x.length) (hl2 : st + l2 ≤ y.length) (p1 : 1 ≤ l1) (hd2 : l2 = l1 + diff) (hM : M = off + diff) (pM : 1 ≤ M) (hMl : M < l2) (hne : ca x st ≠ ca y st) (hdp : dp + 5 < recursionLimit) (hu : un + 50 < cLine)
    (hret : ∀ (t : Tok) (h' : Heap) (tk' : Nat) (pvs' : List Value) (pns' : List Int), IntsAre pvs' pns' → pns'.length = pns.length → Fr h₀ L h' m → News h₀ L h' ((pp, W.listOf pvs'.toArray pn) :: news) → Q (.int (if T true (sh x st) (sh y st) l1 l2 ≤ M then ((T true (sh x st) (sh y st) l1 l2 : Nat) : Int) else -1) t) { s with heap := h', toks := tk' }) :
      wpAny (model PySem.Challenge.rw_db5021_01.row.prog w) (ktrTop dp un gd cn cs L a ccd cl outer) (call (.ref 804) [.str x tx, .str y ty, .int l1 u1, .int l2 u2, .int st u3, .int M u4, .ref cc, .ref pp]) Q E s := by
  refine wpAny_call ?_
  k_dflt (refine' code_defC ?k1 ?k2 ?k3 ?k4 ?k5 ?kA ?kF ?kK ?k6 ?k7 ?k8 ?k9 ?kB ?kD ?_ ?c2 ?c3 ?c4; (case kA => exact rfl); (case kF => exact rfl); (case kK => assumption); (case k1 => k_asm); (case k2 => k_asm); (case k3 => k_asm); (case k4 => k_asm); (case k5 => k_asm); (case k6 => k_is); (case k7 => k_is); (case k8 => ktr_room); (case k9 => exact BindsTo.of_eq rfl); (case kB => exact rfl); (case kD => decide +kernel); (case c2 => exact rfl); (case c3 => exact rfl); (case c4 => exact rfl); k_whole; intro gx Lx hx tkx cellsx FGx Fx Nx Yx Bx Xx Tx lx; k_cells Yx; (try simp only [List.cons_append, List.nil_append] at Nx); (try dsimp only); (try k_fold))
  rename_i oM dM
  replace Fx := fr_to Fx (m' := fun z => if z = Str.ofString "prev_char_1_costs" then some (Value.ref pp) else if z = Str.ofString "char_1_costs" then some (Value.ref cc) else if z = Str.ofString "start" then some (Value.int st u3) else if z = Str.ofString "len_2" then some (Value.int l2 u2) else if z = Str.ofString "len_1" then some (Value.int l1 u1) else if z = Str.ofString "string_2" then some (Value.str y ty) else if z = Str.ofString "string_1" then some (Value.str x tx) else none) (by with_unfolding_all rfl)
  replace dM : oM.data = .cell (some (.int M u4)) := by rw [dM]; with_unfolding_all rfl
  k_steps
  unfold Hold
  rename IsRange _ _ _ _ 1 _ _ _ => rgX
  rename Fr gx Lx _ _ => FF
  rename News gx Lx _ _ => NN
  rename _ ∧ _ ∧ LCg.Off1 _ news => o1
  rename IntsAre ys _ => hI8
  rename_i D _ _ _ _ _ _ _ _ _ _ _ _ _ _ _ _ _ _ _ _ _
  rw [firstM] at hI8
  have hD0 : ∀ p ∈ news, p.1 ≠ D := off1_all o1.2.2
  have hneD : @Ne Nat pp D := o1.2.1
  have hneM : @Ne Nat (Lx + 1) D := o1.1
  have hltP : @LT.lt Nat _ pp Lx := lx _ (.head _)
  with_unfolding_all refine' kst_range (σ := Int × Tok × Int × Tok × Int × Tok × Str × Tok × List Value × List Int × Nat × List Value × List Int) (fun c => (D, W.listOf c.2.2.2.2.2.2.2.2.1.toArray c.2.2.2.2.2.2.2.2.2.2.1) :: (Lx + 1, oM) :: (pp, W.listOf c.2.2.2.2.2.2.2.2.2.2.2.1.toArray pn) :: news) (fun c => [(Str.ofString "current_cost", Value.int c.1 c.2.1), (Str.ofString "j_start", Value.int c.2.2.1 c.2.2.2.1), (Str.ofString "j_end", Value.int c.2.2.2.2.1 c.2.2.2.2.2.1), (Str.ofString "char_1", Value.str c.2.2.2.2.2.2.1 c.2.2.2.2.2.2.2.1)]) (fun c => IntsAre c.2.2.2.2.2.2.2.2.1 c.2.2.2.2.2.2.2.2.2.1 ∧ IntsAre c.2.2.2.2.2.2.2.2.2.2.2.1 c.2.2.2.2.2.2.2.2.2.2.2.2) [Str.ofString "prev_char_1", Str.ofString "char_2", Str.ofString "left_char_cost", Str.ofString "above_char_cost", Str.ofString "next_trans_cost", Str.ofString "j", Str.ofString "this_trans_cost", Str.ofString "prev_char_2"] (fun pre c => OuterMO x y st l1 l2 M off pre.length pns.length c.1 c.2.2.1 c.2.2.2.2.1 c.2.2.2.2.2.2.1 c.2.2.2.2.2.2.2.2.2.1 c.2.2.2.2.2.2.2.2.2.2.2.2) (0, _, 0, _, M, _, _, _, ys, _, ys.length, pvs, pns) (by rfl) rgX (small_one (by omega) (by omega) (by omega) (by omega)) (rangeSize_nat _ _) FF NN ⟨hI8, hpi⟩ ?wk (outerMO_0 hMl rfl) ?wt ?wd
  case wk => kst_all
  case wt =>
    clear NN FF rgX hI8
    rintro ⟨cur, tcur, js, tjs, je, tje, c1, tc1, vs, ns, nv, qvs, qns⟩ pre i ti u h tk own hii hlt hoff ⟨hvs, hqs⟩ hout F2 N2
    dsimp only at hoff hvs hqs hout N2 F2
    dsimp only [kstB] at F2
    obtain ⟨rest, hrest⟩ : ∃ rest, rest = news ++ own := ⟨_, rfl⟩
    replace N2 : News gx Lx h ((D, W.listOf vs.toArray nv) :: (Lx + 1, oM) :: (pp, W.listOf qvs.toArray pn) :: rest) := by rw [hrest]; exact N2
    have hD : ∀ p ∈ rest, p.1 ≠ D := fun p hp => by
      rw [hrest] at hp
      rcases List.mem_append.mp hp with hp | hp
      · exact hD0 p hp
      · exact hoff p hp D (by simp)
    have hP : ∀ p ∈ rest, p.1 ≠ pp := fun p hp => by
      rw [hrest] at hp
      rcases List.mem_append.mp hp with hp | hp
      · exact hpp p hp
      · exact hoff p hp pp (by simp)
    have hi : i = (pre.length : Int) := by omega
    subst hi
    have hjs := hout.base.js
    have hje := hout.base.je
    show wpAny _ _ _ _ _ _
    k_fold
    k_steps
    unfold Hold
    rename IsRange _ _ _ _ 1 _ _ _ => rgX
    rename Fr gx Lx _ _ => FF
    rename News gx Lx _ _ => NN
    have ejs : (js + if decide ((M : Int) - ((l2 : Int) - (l1 : Int)) < (pre.length : Int)) = true then 1 else 0) = ((pre.length - off : Nat) : Int) := by
      simp only [decide_eq_true_eq]; split <;> omega
    have eje : (je + if decide (je < (l2 : Int)) = true then 1 else 0) = ((min (M + pre.length + 1) l2 : Nat) : Int) := by
      simp only [decide_eq_true_eq]; split <;> omega
    rw [ejs, eje] at rgX FF
    have hJ : pre.length - off < min (M + pre.length + 1) l2 := by omega
    generalize hJs : pre.length - off = J0 at *
    generalize hJe : min (M + pre.length + 1) l2 = J1 at *
    have hin0 := innerMO_0 (c2 := Str.ofString " ") hout hpl hne hd2 hM
    rw [hJs] at hin0
    with_unfolding_all refine' kst_range (σ := Int × Tok × Int × Tok × Int × Tok × Int × Tok × Str × Tok × List Value × List Int × Nat × List Value × List Int) (fun c => (D, W.listOf c.2.2.2.2.2.2.2.2.2.2.1.toArray c.2.2.2.2.2.2.2.2.2.2.2.2.1) :: (Lx + 1, oM) :: (pp, W.listOf c.2.2.2.2.2.2.2.2.2.2.2.2.2.1.toArray pn) :: rest) (fun c => [(Str.ofString "current_cost", Value.int c.1 c.2.1), (Str.ofString "left_char_cost", Value.int c.2.2.1 c.2.2.2.1), (Str.ofString "above_char_cost", Value.int c.2.2.2.2.1 c.2.2.2.2.2.1), (Str.ofString "next_trans_cost", Value.int c.2.2.2.2.2.2.1 c.2.2.2.2.2.2.2.1), (Str.ofString "char_2", Value.str c.2.2.2.2.2.2.2.2.1 c.2.2.2.2.2.2.2.2.2.1)]) (fun c => IntsAre c.2.2.2.2.2.2.2.2.2.2.1 c.2.2.2.2.2.2.2.2.2.2.2.1 ∧ IntsAre c.2.2.2.2.2.2.2.2.2.2.2.2.2.1 c.2.2.2.2.2.2.2.2.2.2.2.2.2.2) [Str.ofString "this_trans_cost", Str.ofString "prev_char_2"] (fun preJ c => InnerMO x y st l1 l2 M off pre.length (J0 + preJ.length) c.1 c.2.2.1 c.2.2.2.2.1 c.2.2.2.2.2.2.1 c.2.2.2.2.2.2.2.2.1 c.2.2.2.2.2.2.2.2.2.2.2.1 c.2.2.2.2.2.2.2.2.2.2.2.2.2.2 ∧ c.2.2.2.2.2.2.2.2.2.2.2.2.2.2.length = pns.length) (cur, _, (pre.length : Int), _, (pre.length : Int), _, 0, _, Str.ofString " ", _, vs, ns, nv, qvs, qns) (by rfl) rgX (small_one (by omega) (by omega) (by omega) (by omega)) (rangeSize_nat _ _) FF NN ⟨hvs, hqs⟩ ?jk ⟨hin0, hout.plen⟩ ?jt ?jd
    case jk => kst_all
    case jt =>
      clear NN FF rgX
      rintro ⟨cu, tcu, le, tle, ab, tab, nx, tnx, c2, tc2, vs', ns', nv', qvs', qns'⟩ preJ j tj uj hj tkj ownJ hjj hltj hoffJ ⟨hvs', hqs'⟩ ⟨hinn, hql⟩ F3 N3
      dsimp only at hvs' hqs' hinn hql N3 F3
      dsimp only [kstB] at F3
      obtain ⟨rest2, hrest2⟩ : ∃ rest2, rest2 = rest ++ ownJ := ⟨_, rfl⟩
      replace N3 : News gx Lx hj ((D, W.listOf vs'.toArray nv') :: (Lx + 1, oM) :: (pp, W.listOf qvs'.toArray pn) :: rest2) := by rw [hrest2]; exact N3
      have hD2 : ∀ p ∈ rest2, p.1 ≠ D := fun p hp => by
        rw [hrest2] at hp
        rcases List.mem_append.mp hp with hp | hp
        · exact hD p hp
        · exact hoffJ p hp D (by simp)
      have hP2 : ∀ p ∈ rest2, p.1 ≠ pp := fun p hp => by
        rw [hrest2] at hp
        rcases List.mem_append.mp hp with hp | hp
        · exact hP p hp
        · exact hoffJ p hp pp (by simp)
      have hlen3 : ns'.length = l2 := hinn.base.len
      show wpAny _ _ _ _ _ _
      k_fold
      k_steps
      all_goals unfold Hold
      all_goals dsimp only [InvPostN]
      all_goals rename News _ _ _ _ => nE'
      all_goals
        refine' kst_end ⟨_, _, _, _, _, _, _, _, _, _, _, _, _, _, _⟩ (by assumption) nE' (in_three hrest2) (in_three' hrest2) rfl ⟨by assumption, by assumption⟩ ?_ ?_ ?_
        · kst_all
        · kst_same
        · dsimp only
          refine ⟨innerMO_step (c1 := Txt.item x ((st : Int) + (pre.length : Int))) (pc1 := c1) hinn hne hd2 hM pM (by omega) (by omega) (by omega) (show j = ((J0 + preJ.length : Nat) : Int) by omega) rfl rfl hout.hc1 ?_ rfl, by rw [List.length_set]; exact hql⟩
          first
          | (left; exact ⟨by assumption, rfl⟩)
          | (right; refine ⟨by assumption, .inl ⟨⟨by assumption, by assumption, by assumption, by assumption⟩, ?_⟩⟩; omega)
          | (right
             refine ⟨by assumption, .inr ⟨?_, rfl⟩⟩
             rintro ⟨g1, g2, g3, g4⟩
             first
             | contradiction
             | (rw [show (Txt.item x ((st : Int) + (pre.length : Int)) == c2) = false by assumption] at g3; cases g3)
             | (rw [show (c1 == Txt.item y ((st : Int) + j)) = false by assumption] at g4; cases g4))
        all_goals exact nv'
    case jd =>
      clear NN FF rgX
      rintro ⟨cu, tcu, le, tle, ab, tab, nx, tnx, c2, tc2, vs', ns', nv', qvs', qns'⟩ uj hj tkj ⟨hvs', hqs'⟩ ⟨hinn, hql⟩ F3 N3
      dsimp only at hvs' hqs' hinn hql N3 F3
      dsimp only [kstB] at F3
      have hlenR : (rangeKs (J0 : Int) ((J1 : Int) - (J0 : Int)).toNat).length = J1 - J0 := by rw [rangeKs_length]; omega
      rw [hlenR, show J0 + (J1 - J0) = J1 by omega] at hinn
      have hlen3 : ns'.length = l2 := hinn.base.len
      have hO := innerMO_end (c1 := Txt.item x ((st : Int) + (pre.length : Int))) (n := pns.length) hinn hJe.symm (by omega) (js := ((J0 : Nat) : Int)) (je := ((J1 : Nat) : Int)) (by omega) rfl hql rfl
      show wpAny _ _ _ _ _ _
      (try k_fold)
      k_steps
      · have hE := outerM_early hO.base hd2 hM (by omega) (show (M : Int) < ns'.getD (pre.length + diff) 0 by
          rw [show pre.length + diff = ((pre.length : Int) + ((l2 : Int) - (l1 : Int))).toNat by omega]; assumption)
        rw [if_neg hE] at hret
        refine hret _ _ _ _ _ hqs' hql ?_ ?_
        · assumption
        · refine cb_drop (by assumption) fun p hp => List.Mem.tail _ (List.Mem.tail _ ?_)
          rcases List.mem_cons.mp hp with rfl | hp
          · exact .head _
          · rw [hrest]; exact .tail _ (List.mem_append_left _ hp)
      · unfold Hold
        dsimp only [InvPostN]
        rename News _ _ _ _ => nE'
        refine' kst_end ⟨_, _, _, _, _, _, _, _, _, _, _, _, _⟩ (by assumption) nE' (in_three hrest) (in_three' hrest) rfl ⟨by assumption, by assumption⟩ ?_ ?_ ?_
        · kst_all
        · kst_same
        · dsimp only
          rw [List.length_append, List.length_singleton]
          exact hO
        all_goals exact nv'
  case wd =>
    rintro ⟨cur, tcur, js, tjs, je, tje, c1, tc1, vs, ns, nv, qvs, qns⟩ u h tk ⟨hvs, hqs⟩ hout F2 N2
    dsimp only at hvs hqs hout N2 F2
    dsimp only [kstB] at F2
    have hlen : (rangeKs 0 ((l1 : Int) - 0).toNat).length = l1 := by rw [rangeKs_length]; omega
    rw [hlen] at hout
    have hf := outerM_fin hout.base hd2 hM p1
    rw [← hf] at hret
    show wpAny _ _ _ _ _ _
    (try k_fold)
    k_steps
    · rw [if_pos (by assumption)] at hret
      refine hret _ _ _ _ _ hqs hout.plen ?_ ?_
      · assumption
      · exact cb_drop (by assumption) fun p hp => List.Mem.tail _ (List.Mem.tail _ hp)
    · rw [if_neg (by assumption)] at hret
      refine hret _ _ _ _ _ hqs hout.plen ?_ ?_
      · assumption
      · exact cb_drop (by assumption) fun p hp => List.Mem.tail _ (List.Mem.tail _ hp)
end Mine
end
namespace Mine
theorem top_off_P10 : True := by
 w_top off
 trivial
end Mine
section
open PySem PySem.W PyProof.Rows PySem.Builtin.Str
namespace Mine

theorem in_new {α : Type} {d q a b x : α} {r : List α} : ∀ p ∈ a :: b :: d :: r, p ∈ d :: q :: a :: b :: x :: r := fun p hp => by
  simp only [List.mem_cons] at hp ⊢
  rcases hp with h | h | h | h
  · exact .inr (.inr (.inl h))
  · exact .inr (.inr (.inr (.inl h)))
  · exact .inl h
  · exact .inr (.inr (.inr (.inr (.inr h))))
abbrev costsK (w : World) (kT : Tok) (cc : Addr) : List DictEntry := [⟨PyData.keyHash w.params (Str.ofString "_base_char_1_costs"), .str (Str.ofString "_base_char_1_costs") kT, .ref cc⟩]

local macro_rules | `(tactic| walk_at "execs cons") => `(tactic| (k_here; dsimp only; walk_at "execs cons"))
local macro_rules | `(tactic| walk_at "execs nil") => `(tactic| (k_here; dsimp only; walk_at "execs nil"))
local macro_rules | `(tactic| k_all) => `(tactic| assumption)
local macro_rules | `(tactic| walk_at "exec If") => `(tactic| k_dflt ((first | (with_reducible show wpAny _ _ (exec (Stmt.If (Expr.Compare (Expr.Call _ _ _ _) [CmpOp.Gt] _ _) _ _ _) _) _ _ _) | (with_reducible show wpAny _ _ (exec (Stmt.If (Expr.Compare (Expr.Name _ _) [CmpOp.Gt] _ _) _ _ _) _) _ _ _)); refine hold ?_))
local macro_rules | `(tactic| walk_at "eval ListComp") => `(tactic| (k_here; k_dflt (refine LCg.ListComp_U (F₀ := by k_asm) (by with_unfolding_all rfl) (by decide) (by rfl) (by decide) (by rfl) ?_)))
local macro_rules | `(tactic| walk_at "JoinPost") => `(tactic| refine hold ?_)
local macro_rules | `(tactic| walk_at "call ref") => `(tactic| (k_here; (with_reducible show wpAny _ _ (call (Value.ref 35) _ _) _ _ _); k_dflt (refine' prep_c (B := ?k1) (F := ?k2) (X := ?k3) (N := ?k4) (T₀ := ?k5) (hk := ?k6) (hx := ?k7) (hy := ?k8) (hxy := ?k9) (hdp := ?ka) (hu := ?kb) (hret := ?_); (case k1 => k_asm); (case k2 => k_asm); (case k3 => k_asm); (case k4 => k_asm); (case k5 => k_asm); (case k6 => first | exact rfl | assumption); (case k7 => assumption); (case k8 => assumption); (case k9 => omega); (case ka => ktr_room); (case kb => ktr_units); intro l1 l2 st q9 t91 t92 t93 h9 tk9 tr9 F9 N9 q9lt; (replace q9lt := allLt_of q9lt); (try dsimp only [AllLt] at q9lt); (try dsimp only); (try k_fold))))
local macro_rules | `(tactic| walk_at "call ref") => `(tactic| (k_here; (with_reducible show wpAny _ _ (call (Value.ref 756) _ _) _ _ _); k_dflt (refine hold ?_)))
local macro_rules | `(tactic| walk_at "call ref") => `(tactic| (k_here; (with_reducible show wpAny _ _ (call (Value.ref 764) _ _) _ _ _); k_dflt (refine hold ?_)))
set_option maxRecDepth 100000 in
set_option maxHeartbeats 2000000 in
theorem ldist_c {w : World} {mean : ExcName → Option Value} {mg mb : Str → Option Value} {news : List (Addr × Obj)} {x y : Str} {bd : Int} {R Dd cc : Addr} {cvs : List Value} {cns : List Int} {cn : Nat} {kT tx ty tb : Tok}
   {dp un : Nat} {gd : Option (List Code)} {cn' : Str} {cs : Scope} {a : Addr} {ccd : Value} {cl : List (Str × Addr)} {outer : List Env} {A₀ : Around} {base h₀ : Heap} {L : Addr} {m : Str → Option Value} {s : Shared} {Q E : Value → Shared → Prop}
    (B : Below A₀ base outer h₀) (F : Fr h₀ L s.heap m) (X : (hd.heap_39 w.params).In h₀) (N : News h₀ L s.heap ((R, instObj 770 Dd) :: (Dd, dictOf (costsK w kT cc) 1) :: (cc, W.listOf cvs.toArray cn) :: news)) (T₀ : Top hd.view_39 loose mean mg mb h₀) (hk : cs.kind = .function)
    (hci : IntsAre cvs cns) (hcl : cns.length ≤ 64) (hnD : ∀ p ∈ news, p.1 ≠ Dd) (hRD : @Ne Nat R Dd) (hcD : @Ne Nat cc Dd) (hcN : ∀ p ∈ news, p.1 ≠ cc)
    (hx : x.length ≤ 64) (hy : y.length ≤ 64) (hdp : dp + 10 < recursionLimit) (hu : un + 100 < cLine)
    (hret : ∀ (t : Tok) (h' : Heap) (tk' : Nat) (cc' : Addr) (cvs' : List Value) (cns' : List Int) (cn' : Nat), IntsAre cvs' cns' → cns'.length ≤ 64 → @Ne Nat cc' Dd → (∀ p ∈ news, p.1 ≠ cc') → Fr h₀ L h' m → News h₀ L h' ((R, instObj 770 Dd) :: (Dd, dictOf (costsK w kT cc') 1) :: (cc', W.listOf cvs'.toArray cn') :: news) → Q (.int (due (T false (ca x) (ca y) x.length y.length) bd) t) { s with heap := h', toks := tk' }) :
      wpAny (model PySem.Challenge.rw_db5021_01.row.prog w) (ktrTop dp un gd cn' cs L a ccd cl outer) (call (.ref 751) [.ref R, .str x tx, .str y ty, .int bd tb]) Q E s := by
  have hcn : cvs.length = cns.length := hci.length
  refine wpAny_call ?_
  k_dflt cell_enter
  rename_i gx Lx hpx FGx Fx Nx Bx Xx Tx
  replace Fx := fr_to Fx (m' := fun z => List.lookup z [(Str.ofString "max_distance", Value.int bd tb), (Str.ofString "string_2", Value.str y ty), (Str.ofString "string_1", Value.str x tx), (Str.ofString "self", Value.ref R)]) (by with_unfolding_all rfl)
  k_steps
  · rw [due_eq (sw := false) (bd := bd) (show (x == y) = true by assumption)] at hret
    refine hret _ _ _ cc cvs cns cn hci hcl hcD hcN ?_ ?_
    · assumption
    · exact cb_drop (by assumption) fun p hp => hp
  · rw [due_ne (sw := false) (bd := bd) (show (x == y) = false by assumption) (by assumption)] at hret
    refine hret _ _ _ cc cvs cns cn hci hcl hcD hcN ?_ ?_
    · assumption
    · exact cb_drop (by assumption) fun p hp => hp
  unfold Hold
  rename ¬ bd ≤ 0 => hb
  rename Fr gx Lx _ _ => FF
  rename News gx Lx _ _ => NN
  have e31 : (2 : Int) ^ Int.toNat 31 - 1 = 2147483647 := by rfl
  simp only [e31] at FF
  obtain ⟨M, hM⟩ : ∃ M : Nat, (if bd < 2147483647 then bd else 2147483647) = (M : Int) := ⟨(if bd < 2147483647 then bd else 2147483647).toNat, by split <;> omega⟩
  rw [hM] at FF
  have hM' : min 2147483647 bd = (M : Int) := by rw [← hM]; split <;> omega
  clear hM
  generalize (if bd < 2147483647 then tb else _ : Tok) = tM at FF
  refine' join_if (σ := Str × Tok × Str × Tok) (fun _ => (R, instObj 770 Dd) :: (Dd, dictOf (costsK w kT cc) 1) :: (cc, W.listOf cvs.toArray cn) :: news) (fun c => [(Str.ofString "string_1", Value.str c.1 c.2.1), (Str.ofString "string_2", Value.str c.2.2.1 c.2.2.2)]) (fun c => c.1.length ≤ c.2.2.1.length ∧ c.1.length ≤ 64 ∧ c.2.2.1.length ≤ 64 ∧ due (T false (ca x) (ca y) x.length y.length) bd = due (T false (ca c.1) (ca c.2.2.1) c.1.length c.2.2.1.length) bd) [] FF ?j1 ?j2
  case j1 =>
    refine wpAny_If ?_
    k_steps
    all_goals unfold Hold
    all_goals dsimp only [JoinPost]
    · refine join_end (y, ty, x, tx) (by assumption) (by assumption) (fun p hp => .tail _ hp) ⟨by (try dsimp only); omega, hy, hx, due_symm (sw := false)⟩ ?_ ?_
      · kst_all
      · ksw_same
    · refine join_end (x, tx, y, ty) (by assumption) (by assumption) (fun p hp => hp) ⟨by (try dsimp only); omega, hx, hy, rfl⟩ ?_ ?_
      · kst_all
      · ksw_same
  case j2 =>
    clear FF NN
    rintro ⟨x', tx', y', ty'⟩ u h2 tk2 ⟨hxy', hx', hy', hdue⟩ F2 N2
    dsimp only at hxy' hx' hy' hdue F2 N2
    dsimp only [kstB] at F2
    rw [hdue] at hret
    clear hdue
    show wpAny _ _ _ _ _ _
    (try k_fold)
    k_steps
    · rw [due_far (sw := false) (x := x') (y := y') (bd := bd) (by omega) hx' hy' (by rw [hM']; omega)] at hret
      refine hret _ _ _ cc cvs cns cn hci hcl hcD hcN ?_ ?_
      · assumption
      · exact cb_drop (by assumption) fun p hp => hp
    · rename Trim _ _ _ _ _ => tr
      have tf := tr.fit
      have tl := tr.len
      rw [due_trim0 (sw := false) (bd := bd) tr hxy' (by omega), due_le (by omega)] at hret
      refine hret _ _ _ cc cvs cns cn hci hcl hcD hcN ?_ ?_
      · assumption
      · exact cb_drop (by assumption) fun p hp => .tail _ hp
    · rename Trim _ _ _ _ _ => tr
      have tf := tr.fit
      have tl := tr.len
      rw [due_trim0 (sw := false) (bd := bd) tr hxy' (by omega), due_gt (by omega) (by omega)] at hret
      refine hret _ _ _ cc cvs cns cn hci hcl hcD hcN ?_ ?_
      · assumption
      · exact cb_drop (by assumption) fun p hp => .tail _ hp
    unfold Hold
    rename Trim _ _ _ _ _ => tr
    rename Fr gx Lx _ _ => FF
    rename News gx Lx _ _ => NN
    rename_i l1 l2 st q9 t91 t92 t93 h9 tk9 q9lt _ _ _ _ _ ha
    have tf := tr.fit
    have tl := tr.len
    refine' join_if (σ := Addr × List Value × List Int × Nat) (fun c => (R, instObj 770 Dd) :: (Dd, dictOf (costsK w kT c.1) 1) :: (c.1, W.listOf c.2.1.toArray c.2.2.2) :: news) (fun _ => []) (fun c => IntsAre c.2.1 c.2.2.1 ∧ c.2.2.1.length ≤ 64 ∧ @Ne Nat c.1 Dd ∧ ∀ p ∈ news, p.1 ≠ c.1) [] FF ?j3 ?j4
    case j3 =>
      refine wpAny_If ?_
      k_steps
      all_goals unfold Hold
      all_goals dsimp only [JoinPost]
      · rename IntsAre ys _ => hI8
        rename _ ∧ _ ∧ _ ∧ _ ∧ LCg.Off1 _ news => o1
        rename News gx Lx _ _ => NN1
        refine join_end (_, ys, _, ys.length) (by assumption) NN1 in_new ⟨hI8, ?_, Ne.symm o1.2.2.1, off1_all o1.2.2.2.2⟩ ?_ ?_
        · rw [List.length_map, rangeKs_length]; omega
        · kst_all
        · ksw_same
      · refine join_end (cc, cvs, cns, cn) (by assumption) (by assumption) (fun p hp => .tail _ hp) ⟨hci, hcl, hcD, hcN⟩ ?_ ?_
        · kst_all
        · ksw_same
    case j4 =>
      clear FF NN
      rintro ⟨cc', cvs', cns', cn''⟩ u3 h3 tk3 ⟨hci', hcl', hcD', hcN'⟩ F3 N3
      dsimp only at hci' hcl' hcD' hcN' F3 N3
      dsimp only [kstB] at F3
      show wpAny _ _ _ _ _ _
      (try k_fold)
      k_steps
      · unfold Hold
        refine levm_c (off := M - (l2 - l1)) (diff := l2 - l1) (B := by k_asm) (F := F3) (X := by k_asm) (N := N3) (T₀ := by k_asm) (hk := rfl) hx' hy' tf (by omega) (by omega) (by omega) (by omega) (by omega) (by omega) (tr.ne.resolve_left (by omega)) (by ktr_room) (by ktr_units) ?_
        intro t9 h9 tk9 F9 N9
        rw [due_max (bd := bd) tr hxy' hx' hy' (by omega) hM']
        (try dsimp only)
        k_steps
        refine hret _ _ _ cc' cvs' cns' cn'' hci' hcl' hcD' hcN' ?_ ?_
        · assumption
        · exact cb_drop (by assumption) fun p hp => hp
      · unfold Hold
        refine lev_c (B := by k_asm) (F := F3) (X := by k_asm) (N := N3) (T₀ := by k_asm) (hk := rfl) hx' hy' tf (by omega) (by omega) (by omega) (by ktr_room) (by ktr_units) ?_
        intro t9 h9 tk9 F9 N9
        rw [due_all (bd := bd) tr hxy' hx' hy' (by omega) (by rw [hM']; omega)]
        (try dsimp only)
        k_steps
        refine hret _ _ _ cc' cvs' cns' cn'' hci' hcl' hcD' hcN' ?_ ?_
        · assumption
        · exact cb_drop (by assumption) fun p hp => hp
end Mine
end
namespace Mine
theorem top_off_P11 : True := by
 w_top off
 trivial
end Mine
section
open PySem PySem.W PyProof.Rows PySem.Builtin.Str
namespace Mine

theorem in_newO {α : Type} {d e q a b x y : α} {r : List α} : ∀ p ∈ a :: b :: d :: e :: r, p ∈ e :: d :: q :: a :: b :: x :: y :: r := fun p hp => by
  simp only [List.mem_cons] at hp ⊢
  rcases hp with h | h | h | h | h
  · exact .inr (.inr (.inr (.inl h)))
  · exact .inr (.inr (.inr (.inr (.inl h))))
  · exact .inr (.inl h)
  · exact .inl h
  · exact .inr (.inr (.inr (.inr (.inr (.inr (.inr h))))))
theorem in_rot {α : Type} {e a b d : α} {r : List α} : ∀ p ∈ e :: a :: b :: d :: r, p ∈ a :: b :: d :: e :: r := fun p hp => by
  simp only [List.mem_cons] at hp ⊢
  rcases hp with h | h | h | h | h
  · exact .inr (.inr (.inr (.inl h)))
  · exact .inl h
  · exact .inr (.inl h)
  · exact .inr (.inr (.inl h))
  · exact .inr (.inr (.inr (.inr h)))
theorem in_rot' {α : Type} {e a b d : α} {r : List α} : ∀ p ∈ a :: b :: d :: e :: r, p ∈ e :: a :: b :: d :: r := fun p hp => by
  simp only [List.mem_cons] at hp ⊢
  rcases hp with h | h | h | h | h
  · exact .inr (.inl h)
  · exact .inr (.inr (.inl h))
  · exact .inr (.inr (.inr (.inl h)))
  · exact .inl h
  · exact .inr (.inr (.inr (.inr h)))
abbrev costs2K (w : World) (kT kU : Tok) (cc pp : Addr) : List DictEntry := [⟨PyData.keyHash w.params (Str.ofString "_base_char_1_costs"), .str (Str.ofString "_base_char_1_costs") kT, .ref cc⟩, ⟨PyData.keyHash w.params (Str.ofString "_base_prev_char_1_costs"), .str (Str.ofString "_base_prev_char_1_costs") kU, .ref pp⟩]
structure OsaOk (news : List (Addr × Obj)) (R Dd cc pp : Addr) (cvs : List Value) (cns : List Int) (pvs : List Value) (pns : List Int) : Prop where
  ci : IntsAre cvs cns
  pi : IntsAre pvs pns
  len : pns.length = cns.length
  le : pns.length ≤ 64
  cD : @Ne Nat cc Dd
  pD : @Ne Nat pp Dd
  cp : @Ne Nat cc pp
  rp : @Ne Nat R pp
  np : ∀ p ∈ news, p.1 ≠ pp
  nc : ∀ p ∈ news, p.1 ≠ cc

local macro_rules | `(tactic| walk_at "no such key P110") => `(tactic| skip)
local macro_rules | `(tactic| walk_at "execs cons") => `(tactic| (k_here; dsimp only; walk_at "execs cons"))
local macro_rules | `(tactic| walk_at "execs nil") => `(tactic| (k_here; dsimp only; walk_at "execs nil"))
local macro_rules | `(tactic| k_all) => `(tactic| assumption)
local macro_rules | `(tactic| walk_at "exec If") => `(tactic| k_dflt ((first | (with_reducible show wpAny _ _ (exec (Stmt.If (Expr.Compare (Expr.Call _ _ _ _) [CmpOp.Gt] _ _) _ _ _) _) _ _ _) | (with_reducible show wpAny _ _ (exec (Stmt.If (Expr.Compare (Expr.Name _ _) [CmpOp.Gt] _ _) _ _ _) _) _ _ _)); refine hold ?_))
local macro_rules | `(tactic| walk_at "eval ListComp") => `(tactic| (k_here; k_dflt (refine LCg.ListComp_U (F₀ := by k_asm) (by with_unfolding_all rfl) (by decide) (by rfl) (by decide) (by rfl) ?_)))
local macro_rules | `(tactic| walk_at "JoinPost") => `(tactic| refine hold ?_)
local macro_rules | `(tactic| walk_at "call ref") => `(tactic| (k_here; (with_reducible show wpAny _ _ (call (Value.ref 35) _ _) _ _ _); k_dflt (refine' prep_c (B := ?k1) (F := ?k2) (X := ?k3) (N := ?k4) (T₀ := ?k5) (hk := ?k6) (hx := ?k7) (hy := ?k8) (hxy := ?k9) (hdp := ?ka) (hu := ?kb) (hret := ?_); (case k1 => k_asm); (case k2 => k_asm); (case k3 => k_asm); (case k4 => k_asm); (case k5 => k_asm); (case k6 => first | exact rfl | assumption); (case k7 => assumption); (case k8 => assumption); (case k9 => omega); (case ka => ktr_room); (case kb => ktr_units); intro l1 l2 st q9 t91 t92 t93 h9 tk9 tr9 F9 N9 q9lt; (replace q9lt := allLt_of q9lt); (try dsimp only [AllLt] at q9lt); (try dsimp only); (try k_fold))))
local macro_rules | `(tactic| walk_at "call ref") => `(tactic| (k_here; (with_reducible show wpAny _ _ (call (Value.ref 796) _ _) _ _ _); k_dflt (refine hold ?_)))
local macro_rules | `(tactic| walk_at "call ref") => `(tactic| (k_here; (with_reducible show wpAny _ _ (call (Value.ref 804) _ _) _ _ _); k_dflt (refine hold ?_)))
set_option maxRecDepth 100000 in
set_option maxHeartbeats 2000000 in
theorem odist_c {w : World} {mean : ExcName → Option Value} {mg mb : Str → Option Value} {news : List (Addr × Obj)} {x y : Str} {bd : Int} {R Dd cc pp : Addr} {cvs pvs : List Value} {cns pns : List Int} {cn pn : Nat} {kT kU tx ty tb : Tok}
   {dp un : Nat} {gd : Option (List Code)} {cn' : Str} {cs : Scope} {a : Addr} {ccd : Value} {cl : List (Str × Addr)} {outer : List Env} {A₀ : Around} {base h₀ : Heap} {L : Addr} {m : Str → Option Value} {s : Shared} {Q E : Value → Shared → Prop}
    (B : Below A₀ base outer h₀) (F : Fr h₀ L s.heap m) (X : (hd.heap_39 w.params).In h₀) (N : News h₀ L s.heap ((R, instObj 810 Dd) :: (Dd, dictOf (costs2K w kT kU cc pp) 2) :: (cc, W.listOf cvs.toArray cn) :: (pp, W.listOf pvs.toArray pn) :: news)) (T₀ : Top hd.view_39 loose mean mg mb h₀) (hk : cs.kind = .function)
    (ok : OsaOk news R Dd cc pp cvs cns pvs pns) (hnD : ∀ p ∈ news, p.1 ≠ Dd) (hRD : @Ne Nat R Dd)
    (hx : x.length ≤ 64) (hy : y.length ≤ 64) (hdp : dp + 10 < recursionLimit) (hu : un + 100 < cLine)
    (hret : ∀ (t : Tok) (h' : Heap) (tk' : Nat) (cc' : Addr) (cvs' : List Value) (cns' : List Int) (cn' : Nat) (pp' : Addr) (pvs' : List Value) (pns' : List Int) (pn' : Nat), OsaOk news R Dd cc' pp' cvs' cns' pvs' pns' → Fr h₀ L h' m → News h₀ L h' ((R, instObj 810 Dd) :: (Dd, dictOf (costs2K w kT kU cc' pp') 2) :: (cc', W.listOf cvs'.toArray cn') :: (pp', W.listOf pvs'.toArray pn') :: news) → Q (.int (due (T true (ca x) (ca y) x.length y.length) bd) t) { s with heap := h', toks := tk' }) :
      wpAny (model PySem.Challenge.rw_db5021_01.row.prog w) (ktrTop dp un gd cn' cs L a ccd cl outer) (call (.ref 791) [.ref R, .str x tx, .str y ty, .int bd tb]) Q E s := by
  obtain ⟨hci, hpi, hpl, hcl, hcD, hpD, hcp, hrp, hnp, hnc⟩ := id ok
  have hcn : cvs.length = cns.length := hci.length
  refine wpAny_call ?_
  k_dflt cell_enter
  rename_i gx Lx hpx FGx Fx Nx Bx Xx Tx
  replace Fx := fr_to Fx (m' := fun z => List.lookup z [(Str.ofString "max_distance", Value.int bd tb), (Str.ofString "string_2", Value.str y ty), (Str.ofString "string_1", Value.str x tx), (Str.ofString "self", Value.ref R)]) (by with_unfolding_all rfl)
  k_steps
  · rw [due_eq (sw := true) (bd := bd) (show (x == y) = true by assumption)] at hret
    refine hret _ _ _ cc cvs cns cn pp pvs pns pn ok ?_ ?_
    · assumption
    · exact cb_drop (by assumption) fun p hp => hp
  · rw [due_ne (sw := true) (bd := bd) (show (x == y) = false by assumption) (by assumption)] at hret
    refine hret _ _ _ cc cvs cns cn pp pvs pns pn ok ?_ ?_
    · assumption
    · exact cb_drop (by assumption) fun p hp => hp
  unfold Hold
  rename ¬ bd ≤ 0 => hb
  rename Fr gx Lx _ _ => FF
  rename News gx Lx _ _ => NN
  have e31 : (2 : Int) ^ Int.toNat 31 - 1 = 2147483647 := by rfl
  simp only [e31] at FF
  obtain ⟨M, hM⟩ : ∃ M : Nat, (if bd < 2147483647 then bd else 2147483647) = (M : Int) := ⟨(if bd < 2147483647 then bd else 2147483647).toNat, by split <;> omega⟩
  rw [hM] at FF
  have hM' : min 2147483647 bd = (M : Int) := by rw [← hM]; split <;> omega
  clear hM
  generalize (if bd < 2147483647 then tb else _ : Tok) = tM at FF
  refine' join_if (σ := Str × Tok × Str × Tok) (fun _ => (R, instObj 810 Dd) :: (Dd, dictOf (costs2K w kT kU cc pp) 2) :: (cc, W.listOf cvs.toArray cn) :: (pp, W.listOf pvs.toArray pn) :: news) (fun c => [(Str.ofString "string_1", Value.str c.1 c.2.1), (Str.ofString "string_2", Value.str c.2.2.1 c.2.2.2)]) (fun c => c.1.length ≤ c.2.2.1.length ∧ c.1.length ≤ 64 ∧ c.2.2.1.length ≤ 64 ∧ due (T true (ca x) (ca y) x.length y.length) bd = due (T true (ca c.1) (ca c.2.2.1) c.1.length c.2.2.1.length) bd) [] FF ?j1 ?j2
  case j1 =>
    refine wpAny_If ?_
    k_steps
    all_goals unfold Hold
    all_goals dsimp only [JoinPost]
    · refine join_end (y, ty, x, tx) (by assumption) (by assumption) (fun p hp => .tail _ hp) ⟨by (try dsimp only); omega, hy, hx, due_symm (sw := true)⟩ ?_ ?_
      · kst_all
      · ksw_same
    · refine join_end (x, tx, y, ty) (by assumption) (by assumption) (fun p hp => hp) ⟨by (try dsimp only); omega, hx, hy, rfl⟩ ?_ ?_
      · kst_all
      · ksw_same
  case j2 =>
    clear FF NN
    rintro ⟨x', tx', y', ty'⟩ u h2 tk2 ⟨hxy', hx', hy', hdue⟩ F2 N2
    dsimp only at hxy' hx' hy' hdue F2 N2
    dsimp only [kstB] at F2
    rw [hdue] at hret
    clear hdue
    show wpAny _ _ _ _ _ _
    (try k_fold)
    k_steps
    · rw [due_far (sw := true) (x := x') (y := y') (bd := bd) (by omega) hx' hy' (by rw [hM']; omega)] at hret
      refine hret _ _ _ cc cvs cns cn pp pvs pns pn ok ?_ ?_
      · assumption
      · exact cb_drop (by assumption) fun p hp => hp
    · rename Trim _ _ _ _ _ => tr
      have tf := tr.fit
      have tl := tr.len
      rw [due_trim0 (sw := true) (bd := bd) tr hxy' (by omega), due_le (by omega)] at hret
      refine hret _ _ _ cc cvs cns cn pp pvs pns pn ok ?_ ?_
      · assumption
      · exact cb_drop (by assumption) fun p hp => .tail _ hp
    · rename Trim _ _ _ _ _ => tr
      have tf := tr.fit
      have tl := tr.len
      rw [due_trim0 (sw := true) (bd := bd) tr hxy' (by omega), due_gt (by omega) (by omega)] at hret
      refine hret _ _ _ cc cvs cns cn pp pvs pns pn ok ?_ ?_
      · assumption
      · exact cb_drop (by assumption) fun p hp => .tail _ hp
    unfold Hold
    rename Trim _ _ _ _ _ => tr
    rename Fr gx Lx _ _ => FF
    rename News gx Lx _ _ => NN
    rename_i l1 l2 st q9 t91 t92 t93 h9 tk9 q9lt _ _ _ _ _ ha
    have tf := tr.fit
    have tl := tr.len
    refine' join_if (σ := Addr × List Value × List Int × Nat × Addr × List Value × List Int × Nat) (fun c => (R, instObj 810 Dd) :: (Dd, dictOf (costs2K w kT kU c.1 c.2.2.2.2.1) 2) :: (c.1, W.listOf c.2.1.toArray c.2.2.2.1) :: (c.2.2.2.2.1, W.listOf c.2.2.2.2.2.1.toArray c.2.2.2.2.2.2.2) :: news) (fun _ => []) (fun c => OsaOk news R Dd c.1 c.2.2.2.2.1 c.2.1 c.2.2.1 c.2.2.2.2.2.1 c.2.2.2.2.2.2.1 ∧ l2 ≤ c.2.2.2.2.2.2.1.length) [] FF ?j3 ?j4
    case j3 =>
      refine wpAny_If ?_
      k_steps
      all_goals unfold Hold
      all_goals dsimp only [JoinPost]
      · rename _ ∧ _ ∧ _ ∧ _ ∧ _ ∧ _ ∧ LCg.Off1 _ news => o2
        rename _ ∧ _ ∧ _ ∧ _ ∧ _ ∧ LCg.Off1 _ news => o1
        rename News gx Lx _ _ => NN1
        refine' join_end (_, _, _, _, _, _, _, _) (by assumption) NN1 in_newO ⟨⟨?ia, ?ib, ?ic, ?id, Ne.symm o1.2.2.1, Ne.symm o2.2.2.2.1, o2.1, o2.2.2.1, off1_all o2.2.2.2.2.2.2, off1_all o1.2.2.2.2.2⟩, ?ie⟩ ?_ ?_
        case ia => assumption
        case ib => assumption
        case ic => simp only [List.length_map]
        case id => dsimp only; rw [List.length_map, rangeKs_length]; omega
        case ie => dsimp only; rw [List.length_map, rangeKs_length]; omega
        · kst_all
        · ksw_same
      · refine join_end (cc, cvs, cns, cn, pp, pvs, pns, pn) (by assumption) (by assumption) (fun p hp => .tail _ hp) ⟨ok, by dsimp only; omega⟩ ?_ ?_
        · kst_all
        · ksw_same
    case j4 =>
      clear FF NN ok hci hpi hpl hcl hcD hpD hcp hrp hnp hnc
      rintro ⟨cc', cvs', cns', cn'', pp', pvs', pns', pn''⟩ u3 h3 tk3 ⟨ok', hl2p⟩ F3 N3
      dsimp only at ok' hl2p F3 N3
      dsimp only [kstB] at F3
      obtain ⟨hci', hpi', hpl', hcl', hcD', hpD', hcp', hrp', hnp', hnc'⟩ := id ok'
      have hnp3 : ∀ p ∈ (R, instObj 810 Dd) :: (Dd, dictOf (costs2K w kT kU cc' pp') 2) :: (cc', W.listOf cvs'.toArray cn'') :: news, p.1 ≠ pp' := by
        refine List.forall_mem_cons.mpr ⟨hrp', List.forall_mem_cons.mpr ⟨Ne.symm hpD', List.forall_mem_cons.mpr ⟨hcp', hnp'⟩⟩⟩
      show wpAny _ _ _ _ _ _
      (try k_fold)
      k_steps
      · unfold Hold
        refine osam_c (off := M - (l2 - l1)) (diff := l2 - l1) (B := by k_asm) (F := F3) (X := by k_asm) (N := N3.perm in_rot) hnp3 hpi' hl2p hcl' (T₀ := by k_asm) (hk := rfl) hx' hy' tf (by omega) (by omega) (by omega) (by omega) (by omega) (by omega) (tr.ne.resolve_left (by omega)) (by ktr_room) (by ktr_units) ?_
        intro t9 h9 tk9 pvs9 pns9 hpi9 hpl9 F9 N9
        rw [due_max (bd := bd) tr hxy' hx' hy' (by omega) hM']
        (try dsimp only)
        replace N9 := N9.perm in_rot'
        k_steps
        refine hret _ _ _ cc' cvs' cns' cn'' pp' pvs9 pns9 pn'' ⟨hci', hpi9, by omega, by omega, hcD', hpD', hcp', hrp', hnp', hnc'⟩ ?_ ?_
        · assumption
        · exact cb_drop (by assumption) fun p hp => hp
      · unfold Hold
        refine osa_c (B := by k_asm) (F := F3) (X := by k_asm) (N := N3.perm in_rot) hnp3 hpi' hl2p hcl' (T₀ := by k_asm) (hk := rfl) hx' hy' tf (by omega) (by omega) (by omega) (by ktr_room) (by ktr_units) ?_
        intro t9 h9 tk9 pvs9 pns9 hpi9 hpl9 F9 N9
        rw [due_all (bd := bd) tr hxy' hx' hy' (by omega) (by rw [hM']; omega)]
        (try dsimp only)
        replace N9 := N9.perm in_rot'
        k_steps
        refine hret _ _ _ cc' cvs' cns' cn'' pp' pvs9 pns9 pn'' ⟨hci', hpi9, by omega, by omega, hcD', hpD', hcp', hrp', hnp', hnc'⟩ ?_ ?_
        · assumption
        · exact cb_drop (by assumption) fun p hp => hp
end Mine
end
namespace Mine
theorem top_off_P12 : True := by
 w_top off
 trivial
end Mine
section
open PySem PySem.W PyProof.Rows PySem.Builtin.Str
namespace Mine

abbrev edK (w : World) (kV kW : Tok) (al : Value) (R : Addr) : List DictEntry := [⟨PyData.keyHash w.params (Str.ofString "_algorithm"), .str (Str.ofString "_algorithm") kV, al⟩, ⟨PyData.keyHash w.params (Str.ofString "_distance_comparer"), .str (Str.ofString "_distance_comparer") kW, .ref R⟩]
/-- the comparer's own objects, plain or with swaps -/
def Comp (w : World) (R : Addr) (cs : List (Addr × Obj)) : Bool → Prop
  | false => ∃ (Dd : Addr) (kT : Tok) (cc : Addr) (cvs : List Value) (cns : List Int) (cn : Nat), cs = [(R, instObj 770 Dd), (Dd, dictOf (costsK w kT cc) 1), (cc, W.listOf cvs.toArray cn)] ∧ IntsAre cvs cns ∧ cns.length ≤ 64 ∧ @Ne Nat cc Dd ∧ @Ne Nat R Dd
  | true => ∃ (Dd pp : Addr) (kT kU : Tok) (cc : Addr) (cvs : List Value) (cns : List Int) (cn : Nat) (pvs : List Value) (pns : List Int) (pn : Nat), cs = [(R, instObj 810 Dd), (Dd, dictOf (costs2K w kT kU cc pp) 2), (cc, W.listOf cvs.toArray cn), (pp, W.listOf pvs.toArray pn)] ∧ OsaOk [] R Dd cc pp cvs cns pvs pns ∧ @Ne Nat R Dd
theorem in1 {α : Type} {a : α} {r : List α} : a ∈ a :: r := .head _
theorem in2 {α : Type} {a b : α} {r : List α} : a ∈ b :: a :: r := .tail _ (.head _)
theorem in3 {α : Type} {a b c : α} {r : List α} : a ∈ b :: c :: a :: r := .tail _ (.tail _ (.head _))
theorem in4 {α : Type} {a b c d : α} {r : List α} : a ∈ b :: c :: d :: a :: r := .tail _ (.tail _ (.tail _ (.head _)))
theorem in_down {α : Type} {a b c d e : α} {r : List α} : ∀ p ∈ c :: d :: e :: a :: b :: r, p ∈ a :: b :: c :: d :: e :: r := fun p hp => by
  simp only [List.mem_cons] at hp ⊢
  rcases hp with h | h | h | h | h | h <;> simp [h]
theorem in_down' {α : Type} {a b c d e : α} {r : List α} : ∀ p ∈ a :: b :: c :: d :: e :: r, p ∈ c :: d :: e :: a :: b :: r := fun p hp => by
  simp only [List.mem_cons] at hp ⊢
  rcases hp with h | h | h | h | h | h <;> simp [h]
theorem in_downO {α : Type} {a b c d e f : α} {r : List α} : ∀ p ∈ c :: d :: e :: f :: a :: b :: r, p ∈ a :: b :: c :: d :: e :: f :: r := fun p hp => by
  simp only [List.mem_cons] at hp ⊢
  rcases hp with h | h | h | h | h | h | h <;> simp [h]
theorem in_downO' {α : Type} {a b c d e f : α} {r : List α} : ∀ p ∈ a :: b :: c :: d :: e :: f :: r, p ∈ c :: d :: e :: f :: a :: b :: r := fun p hp => by
  simp only [List.mem_cons] at hp ⊢
  rcases hp with h | h | h | h | h | h | h <;> simp [h]

local macro_rules | `(tactic| walk_at "execs cons") => `(tactic| (k_here; dsimp only; walk_at "execs cons"))
local macro_rules | `(tactic| walk_at "execs nil") => `(tactic| (k_here; dsimp only; walk_at "execs nil"))
local macro_rules | `(tactic| walk_at "call ref") => `(tactic| (k_here; (with_reducible show wpAny _ _ (call (Value.ref 751) _ _) _ _ _); k_dflt (refine hold ?_)))
local macro_rules | `(tactic| walk_at "call ref") => `(tactic| (k_here; (with_reducible show wpAny _ _ (call (Value.ref 791) _ _) _ _ _); k_dflt (refine hold ?_)))
set_option maxRecDepth 100000 in
set_option maxHeartbeats 2000000 in
theorem cmp_c {w : World} {mean : ExcName → Option Value} {mg mb : Str → Option Value} {rest cs : List (Addr × Obj)} {sw : Bool} {x y : Str} {bd : Int} {K0 Kd R : Addr} {al : Value} {kV kW tx ty tb : Tok}
   {dp un : Nat} {gd : Option (List Code)} {cn' : Str} {sc : Scope} {a : Addr} {ccd : Value} {cl : List (Str × Addr)} {outer : List Env} {A₀ : Around} {base h₀ : Heap} {L : Addr} {m : Str → Option Value} {s : Shared} {Q E : Value → Shared → Prop}
    (B : Below A₀ base outer h₀) (F : Fr h₀ L s.heap m) (X : (hd.heap_39 w.params).In h₀) (N : News h₀ L s.heap ((K0, instObj 728 Kd) :: (Kd, dictOf (edK w kV kW al R) 2) :: (cs ++ rest))) (T₀ : Top hd.view_39 loose mean mg mb h₀) (hk : sc.kind = .function)
    (C : Comp w R cs sw) (hap : ∀ p ∈ (K0, instObj 728 Kd) :: (Kd, dictOf (edK w kV kW al R) 2) :: rest, ∀ q ∈ cs, p.1 ≠ q.1)
    (hx : x.length ≤ 64) (hy : y.length ≤ 64) (hdp : dp + 12 < recursionLimit) (hu : un + 150 < cLine)
    (hret : ∀ (t : Tok) (h' : Heap) (tk' : Nat) (cs' : List (Addr × Obj)), Comp w R cs' sw → (∀ p ∈ (K0, instObj 728 Kd) :: (Kd, dictOf (edK w kV kW al R) 2) :: rest, ∀ q ∈ cs', p.1 ≠ q.1) → Fr h₀ L h' m → News h₀ L h' ((K0, instObj 728 Kd) :: (Kd, dictOf (edK w kV kW al R) 2) :: (cs' ++ rest)) → Q (.int (due (T sw (ca x) (ca y) x.length y.length) bd) t) { s with heap := h', toks := tk' }) :
      wpAny (model PySem.Challenge.rw_db5021_01.row.prog w) (ktrTop dp un gd cn' sc L a ccd cl outer) (call (.ref 725) [.ref K0, .str x tx, .str y ty, .int bd tb]) Q E s := by
  cases sw with
  | false =>
    obtain ⟨Dd, kT, cc, cvs, cns, cn, rfl, hci, hcl, hcD, hRD⟩ := C
    simp only [List.cons_append, List.nil_append] at N
    have hapD : ∀ p ∈ (K0, instObj 728 Kd) :: (Kd, dictOf (edK w kV kW al R) 2) :: rest, p.1 ≠ Dd := fun p hp => hap p hp (Dd, dictOf (costsK w kT cc) 1) in2
    refine wpAny_call ?_
    k_dflt cell_enter
    rename_i gx Lx hpx FGx Fx Nx Bx Xx Tx
    replace Fx := fr_to Fx (m' := fun z => List.lookup z [(Str.ofString "max_distance", Value.int bd tb), (Str.ofString "string_2", Value.str y ty), (Str.ofString "string_1", Value.str x tx), (Str.ofString "self", Value.ref K0)]) (by with_unfolding_all rfl)
    k_steps
    unfold Hold
    refine ldist_c (B := by k_asm) (F := Fx) (X := by k_asm) (N := Nx.perm in_down) (T₀ := by k_asm) (hk := rfl) hci hcl (fun p hp => hap p hp _ in2) hRD hcD (fun p hp => hap p hp _ in3) hx hy (by ktr_room) (by ktr_units) ?_
    intro t9 h9 tk9 cc9 cvs9 cns9 cn9 hci9 hcl9 hcD9 hcN9 F9 N9
    (try dsimp only)
    k_steps
    refine hret _ _ _ _ ⟨Dd, kT, cc9, cvs9, cns9, cn9, rfl, hci9, hcl9, hcD9, hRD⟩ (fun p hp => List.forall_mem_cons.mpr ⟨hap p hp _ in1, List.forall_mem_cons.mpr ⟨hapD p hp, List.forall_mem_cons.mpr ⟨hcN9 p hp, fun _ h => nomatch h⟩⟩⟩) ?_ ?_
    · assumption
    · exact cb_drop (by assumption) in_down'
  | true =>
    obtain ⟨Dd, pp, kT, kU, cc, cvs, cns, cn, pvs, pns, pn, rfl, ok, hRD⟩ := C
    simp only [List.cons_append, List.nil_append] at N
    have hapD : ∀ p ∈ (K0, instObj 728 Kd) :: (Kd, dictOf (edK w kV kW al R) 2) :: rest, p.1 ≠ Dd := fun p hp => hap p hp (Dd, dictOf (costs2K w kT kU cc pp) 2) in2
    refine wpAny_call ?_
    k_dflt cell_enter
    rename_i gx Lx hpx FGx Fx Nx Bx Xx Tx
    replace Fx := fr_to Fx (m' := fun z => List.lookup z [(Str.ofString "max_distance", Value.int bd tb), (Str.ofString "string_2", Value.str y ty), (Str.ofString "string_1", Value.str x tx), (Str.ofString "self", Value.ref K0)]) (by with_unfolding_all rfl)
    k_steps
    unfold Hold
    refine odist_c (B := by k_asm) (F := Fx) (X := by k_asm) (N := Nx.perm in_downO) (T₀ := by k_asm) (hk := rfl) ⟨ok.ci, ok.pi, ok.len, ok.le, ok.cD, ok.pD, ok.cp, ok.rp, fun p hp => hap p hp _ in4, fun p hp => hap p hp _ in3⟩ (fun p hp => hap p hp _ in2) hRD hx hy (by ktr_room) (by ktr_units) ?_
    intro t9 h9 tk9 cc9 cvs9 cns9 cn9 pp9 pvs9 pns9 pn9 ok9 F9 N9
    (try dsimp only)
    k_steps
    refine hret _ _ _ _ ⟨Dd, pp9, kT, kU, cc9, cvs9, cns9, cn9, pvs9, pns9, pn9, rfl, ⟨ok9.ci, ok9.pi, ok9.len, ok9.le, ok9.cD, ok9.pD, ok9.cp, ok9.rp, (fun p hp => nomatch hp), fun p hp => nomatch hp⟩, hRD⟩ (fun p hp => List.forall_mem_cons.mpr ⟨hap p hp _ in1, List.forall_mem_cons.mpr ⟨hapD p hp, List.forall_mem_cons.mpr ⟨ok9.nc p hp, List.forall_mem_cons.mpr ⟨ok9.np p hp, fun _ h => nomatch h⟩⟩⟩⟩) ?_ ?_
    · assumption
    · exact cb_drop (by assumption) in_downO'
/-- the comparer at the end of the law's ledger -/
def CompX (w : World) (R : Addr) (b : Bool) (own : List (Addr × Obj)) (ads : List Addr) (X : List (Addr × Obj)) : Prop :=
  ∃ cs, X = cs ++ own ∧ Comp w R cs b ∧ (∀ q ∈ cs, ∀ p ∈ own, p.1 ≠ q.1) ∧ (∀ q ∈ cs, ∀ a ∈ ads, a ≠ q.1)
theorem CompX.ne {w : World} {R : Addr} {b : Bool} {own X : List (Addr × Obj)} {ads : List Addr} (h : CompX w R b own ads X) {a : Addr} (ha : a ∈ ads) (ho : ∀ p ∈ own, p.1 ≠ a) : ∀ p ∈ X, p.1 ≠ a := by
  obtain ⟨cs, rfl, _, _, h2⟩ := h
  intro p hp
  rcases List.mem_append.mp hp with hp | hp
  · exact Ne.symm (h2 p hp a ha)
  · exact ho p hp
set_option maxHeartbeats 1000000 in
theorem cmp_l {w : World} {mean : ExcName → Option Value} {mg mb : Str → Option Value} {led own Y : List (Addr × Obj)} {sw : Bool} {x y : Str} {bd : Int} {d1 t1 z1 K0 Kd R : Addr} {D T1 Z : Obj} {al : Value} {kV kW tx ty tb : Tok}
   {dp un : Nat} {gd : Option (List Code)} {cn' : Str} {sc : Scope} {a : Addr} {ccd : Value} {cl : List (Str × Addr)} {outer : List Env} {A₀ : Around} {base h₀ : Heap} {L : Addr} {m : Str → Option Value} {s : Shared} {Q E : Value → Shared → Prop}
    (B : Below A₀ base outer h₀) (F : Fr h₀ L s.heap m) (X : (hd.heap_39 w.params).In h₀) (N : News h₀ L s.heap led) (T₀ : Top hd.view_39 loose mean mg mb h₀) (hk : sc.kind = .function)
    (hled : ∀ p ∈ (d1, D) :: (t1, T1) :: (z1, Z) :: (K0, instObj 728 Kd) :: (Kd, dictOf (edK w kV kW al R) 2) :: Y, p ∈ led)
    (CX : CompX w R sw own [d1, t1, z1, K0, Kd] Y)
    (hx : x.length ≤ 64) (hy : y.length ≤ 64) (hdp : dp + 12 < recursionLimit) (hu : un + 150 < cLine)
    (hret : ∀ (t : Tok) (h' : Heap) (tk' : Nat) (Y' : List (Addr × Obj)), CompX w R sw own [d1, t1, z1, K0, Kd] Y' → Fr h₀ L h' m → News h₀ L h' ((d1, D) :: (t1, T1) :: (z1, Z) :: (K0, instObj 728 Kd) :: (Kd, dictOf (edK w kV kW al R) 2) :: Y') → Q (.int (due (T sw (ca x) (ca y) x.length y.length) bd) t) { s with heap := h', toks := tk' }) :
      wpAny (model PySem.Challenge.rw_db5021_01.row.prog w) (ktrTop dp un gd cn' sc L a ccd cl outer) (call (.ref 725) [.ref K0, .str x tx, .str y ty, .int bd tb]) Q E s := by
  obtain ⟨cs, rfl, C, h1, h2⟩ := CX
  refine cmp_c (rest := (d1, D) :: (t1, T1) :: (z1, Z) :: own) (Kd := Kd) (kV := kV) (kW := kW) (al := al) B F X (N.perm fun p hp => hled p ?_) T₀ hk C ?_ hx hy hdp hu ?_
  · simp only [List.mem_cons, List.mem_append] at hp ⊢
    rcases hp with h | h | h | h | h | h | h <;> simp [h]
  · intro p hp q hq
    simp only [List.mem_cons] at hp
    rcases hp with rfl | rfl | rfl | rfl | rfl | hp
    · exact h2 q hq _ (by simp)
    · exact h2 q hq _ (by simp)
    · exact h2 q hq _ (by simp)
    · exact h2 q hq _ (by simp)
    · exact h2 q hq _ (by simp)
    · exact h1 q hq p hp
  · intro t h' tk' cs' C' hap' F' N'
    refine hret t h' tk' (cs' ++ own) ⟨cs', rfl, C', fun q hq p hp => hap' p (by simp [hp]) q hq, fun q hq a ha => ?_⟩ F' (N'.perm fun p hp => ?_)
    · simp only [List.mem_cons, List.not_mem_nil, or_false] at ha
      rcases ha with rfl | rfl | rfl | rfl | rfl
      · exact hap' (_, D) (by simp) q hq
      · exact hap' (_, T1) (by simp) q hq
      · exact hap' (_, Z) (by simp) q hq
      · exact hap' (_, instObj 728 Kd) (by simp) q hq
      · exact hap' (_, dictOf (edK w kV kW al R) 2) (by simp) q hq
    · simp only [List.mem_cons, List.mem_append] at hp ⊢
      rcases hp with h | h | h | h | h | h | h <;> simp [h]
end Mine
end
namespace Mine
theorem top_off_P13 : True := by
 w_top off
 trivial
end Mine
section
open PySem PySem.W PyProof.Rows PySem.Builtin.Str
namespace Mine

local macro_rules | `(tactic| walk_at "execs cons") => `(tactic| (k_here; dsimp only; walk_at "execs cons"))
local macro_rules | `(tactic| walk_at "execs nil") => `(tactic| (k_here; dsimp only; walk_at "execs nil"))
local macro_rules | `(tactic| walk_at "call ref") => `(tactic| (k_here; (with_reducible show wpAny _ _ (call (Value.ref 819) [Value.ref _, Value.int _ _]) _ _ _); k_dflt (refine' at_c (B := ?k1) (F := ?k2) (X := ?k3) (N := ?k4) (T := ?k5) (hk := ?k6) (hl := ?k7) (hi := ?k8) (hn := ?k9) (h0 := ?ka) (h1 := ?kb) (hdp := ?kc) (hu := ?kd) (hret := ?_); (case k1 => k_asm); (case k2 => k_asm); (case k3 => k_asm); (case k4 => k_asm); (case k5 => k_asm); (case k6 => first | exact rfl | assumption); (case k7 => k_asm); (case k8 => k_asm); (case k9 => first | assumption | omega); (case ka => first | omega | (k_fmods; omega) | l_fact); (case kb => first | omega | (k_fmods; omega) | l_fact); (case kc => ktr_room); (case kd => ktr_units); intro x9 t9 h9 tk9 lo9 hi9 F9 N9; (try dsimp only); (try k_fold))))
local macro_rules | `(tactic| walk_at "eval Call") => `(tactic| (k_here; (with_reducible show wpAny _ _ (eval (Expr.Call (Expr.Name _ _) _ [] _) _) _ _ _); k_dflt (refine Call_ ?_)))
local macro_rules | `(tactic| walk_at "pyIter ref") => `(tactic| k_dflt (refine hold ?_))
local macro_rules | `(tactic| walk_at "JoinPost") => `(tactic| refine hold ?_)
local macro_rules | `(tactic| walk_at "exec Assign") => `(tactic| k_dflt ((with_reducible show wpAny _ _ (exec (Stmt.Assign _ (Expr.Call (Expr.Name _ _) [Expr.IfExp _ _ _ _] [] _) _) _) _ _ _); refine hold ?_))
local macro_rules | `(tactic| walk_at "compareOp Eq ref ref") => `(tactic| (k_here; (with_reducible show wpAny _ _ (compareOp CmpOp.Eq (Value.ref _) (Value.ref _)) _ _ _); k_dflt (first
  | (refine' eq_same ?k1 ?k2 ?k3 ?k4 ?k5 ?_; (case k1 => k_units); (case k2 => exact Frag.In.keeps (by k_asm) (Fr.keep (by k_asm))); (case k3 => k_inst); (case k4 => k_is); (case k5 => k_is); k_whole)
  | (refine' eq_other ?k1 ?k2 ?k3 ?k6 ?k7 ?k4 ?k5 ?_; (case k1 => k_units); (case k2 => exact Frag.In.keeps (by k_asm) (Fr.keep (by k_asm))); (case k3 => k_inst); (case k6 => k_inst); (case k7 => decide); (case k4 => k_is); (case k5 => k_is); k_whole))))
/-- the comparer that the law keeps -/
structure Kept where
  K0 : Addr
  Kd : Addr
  kV : Tok
  kW : Tok
  al : Value
  R : Addr
  cs : List (Addr × Obj)
structure Kept.Ok (w : World) (b : Bool) (c : Kept) : Prop where
  comp : Comp w c.R c.cs b
  apart : ∀ q ∈ c.cs, c.K0 ≠ q.1 ∧ c.Kd ≠ q.1
section
variable {w : World} {h₀ : Heap} {L : Addr} {s : Shared} {m₀ m' : Str → Option Value} {h' : Heap} {tk : Nat} {l2 l1 R Dd K0 Kd : Addr} {kT kU kV kW : Tok} {al : Value}
theorem kept_true (F : Fr h₀ L h' m') (N : News h₀ L h' [(l2, W.listOf #[] 0), (l1, W.listOf #[] 0), (R, instObj 810 Dd), (Dd, dictOf (costs2K w kT kU l1 l2) 2), (K0, instObj 728 Kd), (Kd, dictOf (edK w kV kW al R) 2)])
    (c1 : @Ne Nat R Dd) (c2 : @Ne Nat l1 Dd) (c3 : @Ne Nat l2 Dd) (c4 : @Ne Nat l1 l2) (c5 : @Ne Nat R l2) (hK : ∀ q ∈ [R, Dd, l1, l2], @Ne Nat K0 q ∧ @Ne Nat Kd q)
    (hk : ∀ p ∈ [(Str.ofString "kept", Value.ref K0)], m' p.1 = some p.2) (hr : ∀ z, (∀ p ∈ [(Str.ofString "kept", Value.ref K0)], z ≠ p.1) → ([] : List Str).contains z = false → m' z = m₀ z) :
    JoinEnd h₀ L s (fun c => (c.K0, instObj 728 c.Kd) :: (c.Kd, dictOf (edK w c.kV c.kW c.al c.R) 2) :: c.cs) (fun c => [(Str.ofString "kept", Value.ref c.K0)]) (fun c => Kept.Ok w true c) [] m₀ { s with heap := h', toks := tk } := by
  refine join_end ⟨K0, Kd, kV, kW, al, R, [(R, instObj 810 Dd), (Dd, dictOf (costs2K w kT kU l1 l2) 2), (l1, W.listOf #[] 0), (l2, W.listOf #[] 0)]⟩ F N ?_ ⟨⟨Dd, l2, kT, kU, l1, [], [], 0, [], [], 0, rfl, ⟨.nil, .nil, rfl, Nat.zero_le _, c2, c3, c4, c5, (fun p hp => nomatch hp), fun p hp => nomatch hp⟩, c1⟩, ?_⟩ hk hr
  · intro p hp
    simp only [List.mem_cons, List.not_mem_nil, or_false] at hp ⊢
    rcases hp with h | h | h | h | h | h <;> simp [h]
  · intro q hq
    exact hK q.1 (List.mem_map.mpr ⟨q, hq, rfl⟩)
theorem kept_false (F : Fr h₀ L h' m') (N : News h₀ L h' [(l1, W.listOf #[] 0), (R, instObj 770 Dd), (Dd, dictOf (costsK w kT l1) 1), (K0, instObj 728 Kd), (Kd, dictOf (edK w kV kW al R) 2)])
    (c1 : @Ne Nat R Dd) (c2 : @Ne Nat l1 Dd) (hK : ∀ q ∈ [R, Dd, l1], @Ne Nat K0 q ∧ @Ne Nat Kd q)
    (hk : ∀ p ∈ [(Str.ofString "kept", Value.ref K0)], m' p.1 = some p.2) (hr : ∀ z, (∀ p ∈ [(Str.ofString "kept", Value.ref K0)], z ≠ p.1) → ([] : List Str).contains z = false → m' z = m₀ z) :
    JoinEnd h₀ L s (fun c => (c.K0, instObj 728 c.Kd) :: (c.Kd, dictOf (edK w c.kV c.kW c.al c.R) 2) :: c.cs) (fun c => [(Str.ofString "kept", Value.ref c.K0)]) (fun c => Kept.Ok w false c) [] m₀ { s with heap := h', toks := tk } := by
  refine join_end ⟨K0, Kd, kV, kW, al, R, [(R, instObj 770 Dd), (Dd, dictOf (costsK w kT l1) 1), (l1, W.listOf #[] 0)]⟩ F N ?_ ⟨⟨Dd, kT, l1, [], [], 0, rfl, .nil, Nat.zero_le _, c2, c1⟩, ?_⟩ hk hr
  · intro p hp
    simp only [List.mem_cons, List.not_mem_nil, or_false] at hp ⊢
    rcases hp with h | h | h | h | h <;> simp [h]
  · intro q hq
    exact hK q.1 (List.mem_map.mpr ⟨q, hq, rfl⟩)
theorem in_led {α : Type} {a b c d e : α} {l o : List α} : ∀ p ∈ a :: b :: c :: d :: e :: l, p ∈ a :: b :: c :: d :: e :: (l ++ o) := fun p hp => by
  simp only [List.mem_cons, List.mem_append] at hp ⊢
  rcases hp with h | h | h | h | h | h <;> simp [h]
theorem in_own {α : Type} {a b c d e : α} {l o : List α} : ∀ p ∈ o, p ∈ a :: b :: c :: d :: e :: (l ++ o) := fun p hp => by
  simp only [List.mem_cons, List.mem_append]
  simp [hp]
theorem own_off {own cs cs' : List (Addr × Obj)} {d1 t1 z1 K0 Kd : Addr} {a b c d e a' b' c' d' e' : Obj} (h : OwnOff own (((d1, a) :: (t1, b) :: (z1, c) :: (K0, d) :: (Kd, e) :: cs).map (·.1))) (h2 : ∀ q ∈ cs', ∀ p ∈ own, p.1 ≠ q.1) :
    OwnOff own (((d1, a') :: (t1, b') :: (z1, c') :: (K0, d') :: (Kd, e') :: cs').map (·.1)) := by
  intro p hp q hq
  simp only [List.map_cons, List.mem_cons, List.mem_map] at hq
  rcases hq with rfl | rfl | rfl | rfl | rfl | ⟨r, hr, rfl⟩
  · exact h p hp _ (by simp)
  · exact h p hp _ (by simp)
  · exact h p hp _ (by simp)
  · exact h p hp _ (by simp)
  · exact h p hp _ (by simp)
  · exact h2 r hr p hp
theorem slice_le {x : Str} {q : Int} : (Txt.slice x none (some (q.fmod ((x.length : Int) + 1)))).length ≤ x.length := by
  obtain ⟨h0, h1⟩ := k_in01 q x.length
  rw [sl_to h0 h1]; omega
theorem apart_new {cs : List (Addr × Obj)} {d : Addr} (h : AllLt d cs) : ∀ q ∈ cs, d ≠ q.1 := fun q hq => Nat.ne_of_gt (kst_ltOf h q hq)
end
local macro_rules | `(tactic| walk_at "call ref") => `(tactic| (k_here; (with_reducible show wpAny _ _ (call (Value.ref 826) _ _) _ _ _); k_dflt (refine' text_c (B := ?k1) (F := ?k2) (X := ?k3) (N := ?k4) (T := ?k5) (hk := ?k6) (hl := ?k7) (hi := ?k8) (hn := ?k9) (h0 := ?ka) (h1 := ?kb) (hz0 := ?ke) (hz1 := ?kf) (hdp := ?kc) (hu := ?kd) (hret := ?_); (case k1 => k_asm); (case k2 => k_asm); (case k3 => k_asm); (case k4 => k_asm); (case k5 => k_asm); (case k6 => first | exact rfl | assumption); (case k7 => k_asm); (case k8 => k_asm); (case k9 => first | assumption | omega); (case ka => omega); (case kb => omega); (case ke => omega); (case kf => omega); (case kc => ktr_room); (case kd => ktr_units); intro s9 t9 h9 tk9 sl9 F9 N9; (try dsimp only); (try k_fold))))
local macro_rules | `(tactic| walk_at "call ref") => `(tactic| (k_here; (with_reducible show wpAny _ _ (call (Value.ref 833) _ _) _ _ _); k_dflt (refine' turned_c (B := ?k1) (F := ?k2) (X := ?k3) (N := ?k4) (T := ?k5) (hk := ?k6) (hl := ?k7) (hi := ?k8) (hn := ?k9) (hx := ?kg) (h0 := ?ka) (h1 := ?kb) (hz0 := ?ke) (hz1 := ?kf) (hdp := ?kc) (hu := ?kd) (hret := ?_); (case k1 => k_asm); (case k2 => k_asm); (case k3 => k_asm); (case k4 => k_asm); (case k5 => k_asm); (case k6 => first | exact rfl | assumption); (case k7 => k_asm); (case k8 => k_asm); (case k9 => first | assumption | omega); (case kg => omega); (case ka => omega); (case kb => omega); (case ke => exact fmod_lo _ (by decide)); (case kf => exact fmod_hi _ (by decide)); (case kc => ktr_room); (case kd => ktr_units); intro s9 t9 h9 tk9 sl9 F9 N9; (try dsimp only); (try k_fold))))
local macro_rules | `(tactic| walk_at "call ref") => `(tactic| (k_here; (with_reducible show wpAny _ _ (call (Value.ref 838) _ _) _ _ _); k_dflt (refine' table_c (B := ?k1) (F := ?k2) (X := ?k3) (N := ?k4) (T₀ := ?k5) (hk := ?k6) (hx := ?k7) (hy := ?k8) (hdp := ?kc) (hu := ?kd) (hret := ?_); (case k1 => k_asm); (case k2 => k_asm); (case k3 => k_asm); (case k4 => k_asm); (case k5 => k_asm); (case k6 => first | exact rfl | assumption); (case k7 => omega); (case k8 => omega); (case kc => ktr_room); (case kd => ktr_units); intro t9 h9 tk9 F9 N9; (try dsimp only); (try k_fold))))
local macro_rules | `(tactic| walk_at "call ref") => `(tactic| (k_here; (with_reducible show wpAny _ _ (call (Value.ref 725) _ _) _ _ _); k_dflt (refine hold ?_)))
local macro_rules | `(tactic| walk_at "subscriptTail Name BinOp") => `(tactic| k_dflt (refine' menuZ ?kN ?km ?kZ ?k0 ?k1 ?_; (case kN => k_asm); (case km => k_mem); (case kZ => assumption); (case k0 => exact fmod_lo _ (by decide)); (case k1 => exact fmod_hi _ (by decide)); intro v9 t9 lo9 hi9))
local macro_rules | `(tactic| walk_at "subscriptTail List") => `(tactic| k_dflt (refine' menu3 ?kN ?km ?k0 ?k1 ?_; (case kN => k_asm); (case km => k_mem); (case k0 => exact fmod_lo _ (by decide)); (case k1 => exact fmod_hi _ (by decide)); intro v9 t9 or9))
local macro_rules | `(tactic| walk_at "exec If") => `(tactic| k_dflt ((with_reducible show wpAny _ _ (exec (Stmt.If (Expr.Compare (Expr.BinOp _ _ _ _) [CmpOp.Eq] _ _) _ _ _) _) _ _ _); refine hold ?_))
local macro_rules | `(tactic| walk_at "eval IfExp") => `(tactic| k_dflt ((first | (with_reducible show wpAny _ _ (eval (Expr.IfExp (Expr.Compare _ _ _ _) _ _ _) _) _ _ _) | (with_reducible show wpAny _ _ (eval (Expr.IfExp (Expr.BoolOp _ _ _) _ _ _) _) _ _ _) | (with_reducible show wpAny _ _ (eval (Expr.IfExp (Expr.Name _ _) (Expr.Subscript _ _ _) _ _) _) _ _ _)); refine hold ?_))
local macro_rules | `(tactic| walk_at "InvPostG") => `(tactic| refine hold ?_)
local macro_rules | `(tactic| walk_at "ValPost") => `(tactic| refine hold ?_)
local macro_rules | `(tactic| k_all) => `(tactic| assumption)
local macro_rules | `(tactic| size_fits) => `(tactic| ((simp only [List.size_toArray, PySem.sizeLine_eq]); omega))
set_option maxRecDepth 100000 in
set_option maxHeartbeats 4000000 in
theorem law1 : PySem.Challenge.rw_db5021_01.Holds := by
  refine hd (by rfl) (by rfl) (by rfl) ?_
  k_go0
  all_goals (try k_fold)
  k_steps
  unfold Hold
  rename Fr _ _ _ _ => FF
  rename World => w
  rename Int => x9
  obtain ⟨b, hb⟩ : ∃ b, (x9.fmod 2 == 0) = b := ⟨_, rfl⟩
  rw [hb] at FF
  refine' join_if (σ := Kept) (fun c => (c.K0, instObj 728 c.Kd) :: (c.Kd, dictOf (edK w c.kV c.kW c.al c.R) 2) :: c.cs) (fun c => [(Str.ofString "kept", Value.ref c.K0)]) (fun c => c.Ok w b) [] FF ?j1 ?j2
  case j1 =>
    refine wpAny_Assign_Name ?_
    k_steps
    all_goals unfold Hold
    all_goals dsimp only [JoinPost]
    · rename News _ _ _ _ => NN
      rename b = true => hbt
      subst hbt
      refine kept_true (by assumption) NN (by omega) (by omega) (by omega) (by omega) (by omega) (List.forall_mem_cons.mpr ⟨⟨by omega, by omega⟩, List.forall_mem_cons.mpr ⟨⟨by omega, by omega⟩, List.forall_mem_cons.mpr ⟨⟨by omega, by omega⟩, List.forall_mem_cons.mpr ⟨⟨by omega, by omega⟩, fun _ h => nomatch h⟩⟩⟩⟩) ?_ ?_
      · kst_all
      · ksw_same
    · rename News _ _ _ _ => NN
      rename b = false => hbf
      subst hbf
      refine kept_false (by assumption) NN (by omega) (by omega) (List.forall_mem_cons.mpr ⟨⟨by omega, by omega⟩, List.forall_mem_cons.mpr ⟨⟨by omega, by omega⟩, List.forall_mem_cons.mpr ⟨⟨by omega, by omega⟩, fun _ h => nomatch h⟩⟩⟩) ?_ ?_
      · kst_all
      · ksw_same
  case j2 =>
    clear FF
    rintro ⟨K0, Kd, kV, kW, al, R, cs⟩ u h2 tk2 ⟨hC, hA⟩ F2 N2
    dsimp only at hC hA F2 N2
    dsimp only [kstB] at F2
    show wpAny _ _ _ _ _ _
    (try k_fold)
    k_steps
    unfold Hold
    rename IsRange _ _ _ _ 1 _ _ _ => rgX
    rename Fr _ _ _ _ => FF
    rename News _ _ _ _ => NN
    rename_i z1 _ lz _ _ xT _ _ _ loT hiT _ _ t1 _ lt d1 _ ld Dt _ lD _ _ _ _ _ _ _ _ _ _ _
    obtain ⟨Z, hZ, NZ⟩ : ∃ Z, SizesIs Z ∧ News _ _ _ ((d1, W.listOf ([] : List Value).toArray 0) :: (t1, W.listOf ([] : List Value).toArray 0) :: (z1, Z) :: (K0, instObj 728 Kd) :: (Kd, dictOf (edK w kV kW al R) 2) :: cs) :=
      ⟨_, ⟨_, _, _, _, _, _, _, rfl, by k_fmods; omega, by k_fmods; omega, by k_fmods; omega⟩, NN.perm fun p hp => .tail _ hp⟩
    clear NN
    generalize hxt : xT.fmod 3 = turn at FF
    have ht0 : 0 ≤ turn := by rw [← hxt]; exact fmod_lo _ (by decide)
    have ht3 : turn < 3 := by rw [← hxt]; exact fmod_hi _ (by decide)
    have hads : ∀ q ∈ cs, ∀ a ∈ [d1, t1, z1, K0, Kd], a ≠ q.1 := fun q hq => List.forall_mem_cons.mpr ⟨apart_new ld.2.2.2.2 q hq, List.forall_mem_cons.mpr ⟨apart_new lt.2.2.2 q hq, List.forall_mem_cons.mpr ⟨apart_new lz.2.2 q hq, List.forall_mem_cons.mpr ⟨(hA q hq).1, List.forall_mem_cons.mpr ⟨(hA q hq).2, fun _ h => nomatch h⟩⟩⟩⟩⟩
    with_unfolding_all refine' kst_rangeG (σ := List Value × List Value × List Int × Nat × Nat × List (Addr × Obj)) (fun c => (d1, W.listOf c.2.1.toArray c.2.2.2.2.1) :: (t1, W.listOf c.1.toArray c.2.2.2.1) :: (z1, Z) :: (K0, instObj 728 Kd) :: (Kd, dictOf (edK w kV kW al R) 2) :: c.2.2.2.2.2) (fun _ => []) (fun c => IntsAre c.1 c.2.2.1 ∧ IntsAre c.2.1 c.2.2.1 ∧ Comp w R c.2.2.2.2.2 b ∧ ∀ q ∈ c.2.2.2.2.2, ∀ a ∈ [d1, t1, z1, K0, Kd], a ≠ q.1) [Str.ofString "at", Str.ofString "size", Str.ofString "one", Str.ofString "two", Str.ofString "far", Str.ofString "bound", Str.ofString "raw"] (fun pre c => c.2.2.1.length ≤ 3 * pre.length) ([], [], [], 0, 0, cs) (by rfl) rgX (by decide) (rangeSize_nat _ _) FF NZ ⟨.nil, .nil, hC, hads⟩ (fun _ h => nomatch h) (Nat.zero_le _) ?wt ?wd
    case wt =>
      have hord : @LT.lt Nat _ t1 d1 ∧ @LT.lt Nat _ z1 d1 ∧ @LT.lt Nat _ K0 d1 ∧ @LT.lt Nat _ Kd d1 ∧ @LT.lt Nat _ z1 t1 ∧ @LT.lt Nat _ K0 t1 ∧ @LT.lt Nat _ Kd t1 := ⟨ld.1, ld.2.1, ld.2.2.1, ld.2.2.2.1, lt.1, lt.2.1, lt.2.2.1⟩
      clear NZ FF rgX hads hC hA lz lt ld lD
      rintro ⟨tvs, dvs, ns, tn, dn, cs⟩ pre i ti u h tk own hii hlt hoff ⟨htv, hdv, hC, hads⟩ hlen F2 N2
      dsimp only at htv hdv hC hads hlen hoff N2 F2
      dsimp only [kstB] at F2
      obtain ⟨Y, hY⟩ : ∃ Y, Y = cs ++ own := ⟨_, rfl⟩
      have hCX : CompX w R b own [d1, t1, z1, K0, Kd] Y := ⟨cs, hY, hC, fun q hq p hp => hoff p hp q.1 (List.mem_map.mpr ⟨q, by simp [hq], rfl⟩), hads⟩
      simp only [List.cons_append] at N2
      rw [← hY] at N2
      clear hY hC hads
      have hod : ∀ p ∈ own, p.1 ≠ d1 := fun p hp => hoff p hp d1 (by simp)
      have hot : ∀ p ∈ own, p.1 ≠ t1 := fun p hp => hoff p hp t1 (by simp)
      have hYd := hCX.ne (a := d1) (by simp) hod
      have hYt := hCX.ne (a := t1) (by simp) hot
      have hi3 : pre.length < 3 := hlt
      have htl : tvs.length = ns.length := htv.length
      have hdl : dvs.length = ns.length := hdv.length
      show wpAny _ _ _ _ _ _
      (try k_fold)
      k_steps
      unfold Hold
      rename Fr _ _ _ _ => FF
      rename News _ _ _ _ => NN
      rename_i _ _ one tone _ _ slone _ _ _ _ _ _ _ _ _ _ _ _ two ttwo _ _ sltwo _
      refine' join_if (σ := Str × Tok) (fun _ => (d1, W.listOf dvs.toArray dn) :: (t1, W.listOf tvs.toArray tn) :: (z1, Z) :: (K0, instObj 728 Kd) :: (Kd, dictOf (edK w kV kW al R) 2) :: Y) (fun c => [(Str.ofString "two", Value.str c.1 c.2)]) (fun c => c.1.length ≤ 60) [] FF ?ji ?jo
      case ji =>
        refine wpAny_If ?_
        k_steps
        all_goals unfold Hold
        all_goals dsimp only [JoinPost]
        · refine' join_end (_, _) (by assumption) (by assumption) (fun p hp => hp) ?hf ?hk ?hr
          case hk => kst_all
          case hr => ksw_same
          case hf => exact Nat.le_trans slice_le sltwo
        · refine' join_end (_, _) (by assumption) (by assumption) (fun p hp => hp) ?hf ?hk ?hr
          case hk => kst_all
          case hr => ksw_same
          case hf => exact sltwo
      case jo =>
        clear FF NN
        rintro ⟨two', ttwo'⟩ u3 h3 tk3 hl2 F3 N3
        dsimp only at hl2 F3 N3
        dsimp only [kstB] at F3
        show wpAny _ _ _ _ _ _
        (try k_fold)
        k_steps
        unfold Hold
        rename Fr _ _ _ _ => FF
        rename News _ _ _ _ => NN
        rename _ ∨ _ ∨ _ => or9
        have e30 : (10 : Int) ^ Int.toNat 30 = 1000000000000000000000000000000 := by rfl
        rw [e30] at or9
        have hT64 : T b (ca one) (ca two') one.length two'.length ≤ 64 := Nat.le_trans (T_max _ _) (by omega)
        obtain ⟨D, hD⟩ : ∃ D, T b (ca one) (ca two') one.length two'.length = D := ⟨_, rfl⟩
        rw [hD] at or9 FF hT64
        refine cmp_l (B := by k_asm) (F := FF) (X := by k_asm) (N := NN) (T₀ := by k_asm) (hk := rfl) (hled := fun p hp => .tail _ hp) (CX := hCX) (hx := by omega) (hy := by omega) (hdp := by ktr_room) (hu := by ktr_units) ?_
        clear NN FF
        intro t9 h9 tk9 Y1 CX1 F9 N9
        have hY1d := CX1.ne (a := d1) (by simp) hod
        have hY1t := CX1.ne (a := t1) (by simp) hot
        rw [hD, due_le (by omega)]
        clear or9 hYd hYt hCX
        (try dsimp only)
        k_steps
        unfold Hold
        rename Fr _ _ _ _ => FF
        rename News _ _ _ _ => NN
        refine cmp_l (B := by k_asm) (F := FF) (X := by k_asm) (N := NN) (T₀ := by k_asm) (hk := rfl) (hled := fun p hp => hp) (CX := CX1) (hx := by omega) (hy := by omega) (hdp := by ktr_room) (hu := by ktr_units) ?_
        clear NN FF
        intro t9 h9 tk9 Y2 CX2 F9 N9
        have hY2d := CX2.ne (a := d1) (by simp) hod
        have hY2t := CX2.ne (a := t1) (by simp) hot
        rw [due_symm, hD]
        clear hY1d hY1t CX1
        (try dsimp only)
        k_steps
        unfold Hold
        rename Fr _ _ _ _ => FF
        rename News _ _ _ _ => NN
        refine' join_val (fun v => v = due D ((D : Int) - 1)) FF NN ?iv ?io
        case iv =>
          refine IfExp_ ?_
          k_steps
          all_goals unfold Hold
          all_goals refine val_end (by assumption) (by assumption) ?_
          · unfold due; rw [if_pos (by omega)]; omega
          · unfold due; rw [if_neg (by omega)]
        case io =>
          clear FF NN
          intro v4 t4 h4 tk4 hv4 F4 N4
          subst hv4
          (try dsimp only)
          k_steps
          · unfold Hold
            rename Fr _ _ _ _ => FF
            rename News _ _ _ _ => NN
            (try simp only [List.push_toArray] at NN)
            refine' join_val (fun _ => True) FF NN ?rv ?ro
            case rv =>
              refine IfExp_ ?_
              k_steps
              all_goals unfold Hold
              all_goals exact val_end (by assumption) (by assumption) trivial
            case ro =>
              clear FF NN
              intro raw traw h5 tk5 _ F5 N5
              (try dsimp only)
              k_steps
              unfold Hold
              rename Fr _ _ _ _ => FF
              rename News _ _ _ _ => NN
              refine cmp_l (B := by k_asm) (F := FF) (X := by k_asm) (N := NN) (T₀ := by k_asm) (hk := rfl) (hled := fun p hp => hp) (CX := CX2) (hx := by omega) (hy := by omega) (hdp := by ktr_room) (hu := by ktr_units) ?_
              clear NN FF
              intro t9 h9 tk9 Y3 CX3 F9 N9
              have hY3d := CX3.ne (a := d1) (by simp) hod
              have hY3t := CX3.ne (a := t1) (by simp) hot
              rw [hD]
              clear hY2d hY2t CX2
              (try dsimp only)
              k_steps
              unfold Hold
              rename Fr _ _ _ _ => FF
              rename News _ _ _ _ => NN
              (try simp only [List.push_toArray] at NN)
              refine' join_val (fun v => v = due D raw) FF NN ?qv ?qo
              case qv =>
                refine IfExp_ ?_
                k_steps
                all_goals unfold Hold
                all_goals refine val_end (by assumption) (by assumption) ?_
                all_goals unfold due
                all_goals first
                  | (rw [if_pos (by omega)]; done)
                  | rw [if_neg (by omega)]
              case qo =>
                clear FF NN
                intro v6 t6 h6 tk6 hv6 F6 N6
                subst hv6
                (try dsimp only)
                k_steps
                unfold Hold
                dsimp only [InvPostG]
                rename News _ _ _ _ => nE'
                simp only [List.push_toArray] at nE'
                obtain ⟨cs3, rfl, C3, ho3, ha3⟩ := CX3
                refine' kstG_end (_, _, ns ++ [(D : Int)] ++ [due D ((D : Int) - 1)] ++ [due D raw], _, _, cs3) (by assumption) nE' ?hn ?ho ?ha ?hf ?hk ?hr ?hp
                case hn => exact in_led
                case ho => exact in_own
                case ha => exact own_off hoff ho3
                case hf => exact ⟨IntsAre.append (IntsAre.append (IntsAre.append htv (.cons _ _ .nil)) (.cons _ _ .nil)) (.cons _ _ .nil), IntsAre.append (IntsAre.append (IntsAre.append hdv (.cons _ _ .nil)) (.cons _ _ .nil)) (.cons _ _ .nil), C3, ha3⟩
                case hk => exact fun _ h => nomatch h
                case hr => kst_same
                case hp => simp only [List.length_append, List.length_singleton]; omega
          · unfold Hold
            dsimp only [InvPostG]
            rename News _ _ _ _ => nE'
            simp only [List.push_toArray] at nE'
            obtain ⟨cs3, rfl, C3, ho3, ha3⟩ := CX2
            refine' kstG_end (_, _, ns ++ [(D : Int)] ++ [due D ((D : Int) - 1)], _, _, cs3) (by assumption) nE' ?hn ?ho ?ha ?hf ?hk ?hr ?hp
            case hn => exact in_led
            case ho => exact in_own
            case ha => exact own_off hoff ho3
            case hf => exact ⟨IntsAre.append (IntsAre.append htv (.cons _ _ .nil)) (.cons _ _ .nil), IntsAre.append (IntsAre.append hdv (.cons _ _ .nil)) (.cons _ _ .nil), C3, ha3⟩
            case hk => exact fun _ h => nomatch h
            case hr => kst_same
            case hp => simp only [List.length_append, List.length_singleton]; omega
    case wd =>
      rintro ⟨tvs, dvs, ns, tn, dn, cs⟩ u h tk ⟨htv, hdv, hC, hads⟩ hlen F2 N2
      dsimp only at htv hdv hC hads hlen N2 F2
      dsimp only [kstB] at F2
      have htl : tvs.length = ns.length := htv.length
      have hdl : dvs.length = ns.length := hdv.length
      rw [rangeKs_length] at hlen
      show wpAny _ _ _ _ _ _
      (try k_fold)
      k_steps
end Mine
end
theorem PySem.Challenge.cw_db5021_01_holds : PySem.Challenge.rw_db5021_01.Holds := by
  exact Mine.law1
