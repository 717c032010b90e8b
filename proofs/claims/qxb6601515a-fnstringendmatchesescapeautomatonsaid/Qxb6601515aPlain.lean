/-
  THE PLAIN MATHEMATICS OF SEAT b6601515a: lists of bytes (as integers), no Go in sight.
  'qf': where a string ends, read with an escape flag.
-/
namespace Go.Proofs.Qxb6601515a.Pl

/-- The place just behind the first quote that no backslash escapes (e: the head is escaped). -/
def qf : Bool → List Int → Option Nat
  | _, [] => none
  | true, _ :: t => (qf false t).map (· + 1)
  | false, c :: t => if c = 92 then (qf true t).map (· + 1) else if c = 34 then some 1 else (qf false t).map (· + 1)

/-- The escape flag behind a text without quotes. -/
def st : Bool → List Int → Bool
  | e, [] => e
  | e, c :: t => st (!e && c == 92) t

theorem st_append : ∀ (A : List Int) (e : Bool) (c : Int), st e (A ++ [c]) = (!(st e A) && c == 92)
  | [], e, c => rfl
  | a :: t, e, c => by simp only [List.cons_append, st]; exact st_append t _ c

theorem qf_none : ∀ (l : List Int) (e : Bool), (∀ c ∈ l, c ≠ 34) → qf e l = none
  | [], e, _ => by cases e <;> rfl
  | c :: t, true, h => by simp only [qf]; rw [qf_none t false fun x hx => h x (by simp [hx])]; rfl
  | c :: t, false, h => by
    simp only [qf]
    rw [if_neg (h c (by simp)), qf_none t true fun x hx => h x (by simp [hx]), qf_none t false fun x hx => h x (by simp [hx])]
    simp

theorem map_add (o : Option Nat) (a b : Nat) : (o.map (· + a)).map (· + b) = o.map (· + (a + b)) := by cases o <;> simp [Nat.add_assoc]

theorem qf_skip (R : List Int) : ∀ (A : List Int) (e : Bool), (∀ c ∈ A, c ≠ 34) → qf e (A ++ R) = (qf (st e A) R).map (· + A.length)
  | [], e, _ => by simp [st]
  | c :: t, true, h => by
    have ih := qf_skip R t false fun x hx => h x (by simp [hx])
    simp only [List.cons_append, qf, st, Bool.not_true, Bool.false_and, ih, List.length_cons]
    rw [map_add]
  | c :: t, false, h => by
    have i1 := qf_skip R t true fun x hx => h x (by simp [hx])
    have i2 := qf_skip R t false fun x hx => h x (by simp [hx])
    simp only [List.cons_append, qf, st, Bool.not_false, Bool.true_and, List.length_cons]
    by_cases hc : c = 92
    · rw [if_pos hc, i1, map_add, hc]; rfl
    · have hb : (c == 92) = false := by simpa using hc
      rw [if_neg hc, if_neg (h c (by simp)), i2, map_add, hb]

/-- The flag behind A is the parity of the run of backslashes at its end. -/
theorem st_run : ∀ (b : Nat) (A : List Int), b ≤ A.length → (∀ t, A.length - b ≤ t → t < A.length → A.getD t 0 = 92) → (b = A.length ∨ A.getD (A.length - b - 1) 0 ≠ 92) → st false A = decide (b % 2 = 1)
  | 0, A, _, _, h => by
    rcases h with h | h
    · have : A = [] := List.eq_nil_of_length_eq_zero h.symm
      subst this; rfl
    · by_cases hA : A = []
      · subst hA; rfl
      · obtain ⟨A', c, rfl⟩ : ∃ A' c, A = A' ++ [c] := ⟨A.dropLast, A.getLast hA, (List.dropLast_concat_getLast hA).symm⟩
        rw [st_append]
        have hc : c ≠ 92 := by simpa [List.getD] using h
        simp [hc]
  | b + 1, A, hb, hall, h => by
    have hA : A ≠ [] := by intro e; subst e; simp at hb
    obtain ⟨A', c, rfl⟩ : ∃ A' c, A = A' ++ [c] := ⟨A.dropLast, A.getLast hA, (List.dropLast_concat_getLast hA).symm⟩
    have hl : (A' ++ [c]).length = A'.length + 1 := by simp
    rw [hl] at hb hall h
    have hget : ∀ t, t < A'.length → (A' ++ [c]).getD t 0 = A'.getD t 0 := fun t ht => by simp [List.getD, List.getElem?_append_left ht]
    have hc : c = 92 := by
      have := hall A'.length (by omega) (by omega)
      simpa [List.getD] using this
    have ih := st_run b A' (by omega) (fun t h1 h2 => by rw [← hget t h2]; exact hall t (by omega) (by omega)) (by
      rcases h with h | h
      · exact .inl (by omega)
      · by_cases hbA : b = A'.length
        · exact .inl hbA
        · right
          rw [← hget _ (by omega)]
          rw [show A'.length - b - 1 = A'.length + 1 - (b + 1) - 1 by omega]
          exact h)
    rw [st_append, ih, hc]
    simp only [beq_self_eq_true, Bool.and_true]
    rcases Nat.mod_two_eq_zero_or_one b with h0 | h0
    · have h1 : (b + 1) % 2 = 1 := by omega
      simp [h0, h1]
    · have h1 : ¬ (b + 1) % 2 = 1 := by omega
      simp [h0, h1]

/-! ### At places of a row zs -/

/-- A quote at place p, no quote in [i, p): the string that is read from i ends at p if the run of backslashes ahead of p is even; else it is read on behind p. -/
theorem qf_at (zs : List Int) (i p b : Nat) (hip : i ≤ p) (hp : p < zs.length) (hq : zs.getD p 0 = 34) (hno : ∀ t, i ≤ t → t < p → zs.getD t 0 ≠ 34) (hb : b ≤ p - i)
    (hall : ∀ t, p - b ≤ t → t < p → zs.getD t 0 = 92) (hend : p - b = i ∨ zs.getD (p - b - 1) 0 ≠ 92) :
    qf false (zs.drop i) = if b % 2 = 0 then some (p + 1 - i) else (qf false (zs.drop (p + 1))).map (· + (p + 1 - i)) := by
  have hA : zs.drop i = (zs.drop i).take (p - i) ++ (34 :: zs.drop (p + 1)) := by
    have h1 : zs.drop p = 34 :: zs.drop (p + 1) := by
      rw [List.drop_eq_getElem_cons hp]
      congr 1
      simpa [List.getD, hp] using hq
    rw [← h1]
    have h2 := (List.take_append_drop (p - i) (zs.drop i)).symm
    rw [List.drop_drop, show i + (p - i) = p by omega] at h2
    exact h2
  have hl : ((zs.drop i).take (p - i)).length = p - i := by simp; omega
  have hget : ∀ t, t < p - i → ((zs.drop i).take (p - i)).getD t 0 = zs.getD (i + t) 0 := fun t ht => by simp [List.getD, ht]
  have hnoA : ∀ c ∈ (zs.drop i).take (p - i), c ≠ 34 := by
    intro c hc
    obtain ⟨t, ht, rfl⟩ := List.getElem_of_mem hc
    rw [hl] at ht
    have := hno (i + t) (by omega) (by omega)
    rw [← hget t ht] at this
    simpa [List.getD, hl, ht] using this
  have hst := st_run b ((zs.drop i).take (p - i)) (by omega) (fun t h1 h2 => by
      rw [hl] at h1 h2
      rw [hget t h2]; exact hall (i + t) (by omega) (by omega)) (by
    rw [hl]
    rcases hend with h | h
    · exact .inl (by omega)
    · by_cases hbb : b = p - i
      · exact .inl hbb
      · right
        rw [hget _ (by omega), show i + (p - i - b - 1) = p - b - 1 by omega]
        exact h)
  rw [hA, qf_skip _ _ _ hnoA, hst, hl]
  rcases Nat.mod_two_eq_zero_or_one b with h0 | h0
  · rw [if_pos h0]
    simp [h0, qf]
    omega
  · rw [if_neg (by omega)]
    have hd : decide (b % 2 = 1) = true := by simp [h0]
    rw [hd]
    simp only [qf]
    rw [map_add, show 1 + (p - i) = p + 1 - i by omega]

theorem qf_no (zs : List Int) (i : Nat) (hno : ∀ t, i ≤ t → t < zs.length → zs.getD t 0 ≠ 34) : qf false (zs.drop i) = none := by
  refine qf_none _ _ fun c hc => ?_
  obtain ⟨t, ht, rfl⟩ := List.getElem_of_mem hc
  have h1 : i + t < zs.length := by simp at ht; omega
  have := hno (i + t) (by omega) h1
  simpa [List.getD, h1] using this

theorem qf_le : ∀ (l : List Int) (e : Bool) (m : Nat), qf e l = some m → 1 ≤ m ∧ m ≤ l.length
  | [], e, m, h => by cases e <;> simp [qf] at h
  | c :: t, true, m, h => by
    simp only [qf, Option.map_eq_some_iff] at h
    obtain ⟨j, hj, rfl⟩ := h
    have := qf_le t _ _ hj
    simp; omega
  | c :: t, false, m, h => by
    simp only [qf] at h
    split at h
    · simp only [Option.map_eq_some_iff] at h
      obtain ⟨j, hj, rfl⟩ := h
      have := qf_le t _ _ hj
      simp; omega
    · split at h
      · simp at h; subst h; simp
      · simp only [Option.map_eq_some_iff] at h
        obtain ⟨j, hj, rfl⟩ := h
        have := qf_le t _ _ hj
        simp; omega

end Go.Proofs.Qxb6601515a.Pl
