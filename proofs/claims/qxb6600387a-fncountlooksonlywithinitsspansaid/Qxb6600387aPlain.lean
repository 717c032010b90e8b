/-
  THE PLAIN MATHEMATICS OF SEAT b6600387a: lists of bytes (as integers), no Go in sight.
  'qf': where a string ends, read with an escape flag · 'cnt': the one-pass scanner of an array's text.
-/
namespace Go.Proofs.Qxb6600387a.Pl

/-- The place just behind the first quote that no backslash escapes (e: the head is escaped). -/
def qf : Bool → List Int → Option Nat
  | _, [] => none
  | true, _ :: t => (qf false t).map (· + 1)
  | false, c :: t => if c = 92 then (qf true t).map (· + 1) else if c = 34 then some 1 else (qf false t).map (· + 1)

/-- The escape flag behind a text without quotes. -/
def st : Bool → List Int → Bool
  | e, [] => e
  | e, c :: t => st (!e && c == 92) t

theorem st_append : ∀ (A : List Int) (e : Bool) (c : Int), st e (A ++ [c]) = (!(st e A) && c == 92)
  | [], e, c => rfl
  | a :: t, e, c => by simp only [List.cons_append, st]; exact st_append t _ c

theorem qf_none : ∀ (l : List Int) (e : Bool), (∀ c ∈ l, c ≠ 34) → qf e l = none
  | [], e, _ => by cases e <;> rfl
  | c :: t, true, h => by simp only [qf]; rw [qf_none t false fun x hx => h x (by simp [hx])]; rfl
  | c :: t, false, h => by
    simp only [qf]
    rw [if_neg (h c (by simp)), qf_none t true fun x hx => h x (by simp [hx]), qf_none t false fun x hx => h x (by simp [hx])]
    simp

theorem map_add (o : Option Nat) (a b : Nat) : (o.map (· + a)).map (· + b) = o.map (· + (a + b)) := by cases o <;> simp [Nat.add_assoc]

theorem qf_skip (R : List Int) : ∀ (A : List Int) (e : Bool), (∀ c ∈ A, c ≠ 34) → qf e (A ++ R) = (qf (st e A) R).map (· + A.length)
  | [], e, _ => by simp [st]
  | c :: t, true, h => by
    have ih := qf_skip R t false fun x hx => h x (by simp [hx])
    simp only [List.cons_append, qf, st, Bool.not_true, Bool.false_and, ih, List.length_cons]
    rw [map_add]
  | c :: t, false, h => by
    have i1 := qf_skip R t true fun x hx => h x (by simp [hx])
    have i2 := qf_skip R t false fun x hx => h x (by simp [hx])
    simp only [List.cons_append, qf, st, Bool.not_false, Bool.true_and, List.length_cons]
    by_cases hc : c = 92
    · rw [if_pos hc, i1, map_add, hc]; rfl
    · have hb : (c == 92) = false := by simpa using hc
      rw [if_neg hc, if_neg (h c (by simp)), i2, map_add, hb]

/-- The flag behind A is the parity of the run of backslashes at its end. -/
theorem st_run : ∀ (b : Nat) (A : List Int), b ≤ A.length → (∀ t, A.length - b ≤ t → t < A.length → A.getD t 0 = 92) → (b = A.length ∨ A.getD (A.length - b - 1) 0 ≠ 92) → st false A = decide (b % 2 = 1)
  | 0, A, _, _, h => by
    rcases h with h | h
    · have : A = [] := List.eq_nil_of_length_eq_zero h.symm
      subst this; rfl
    · by_cases hA : A = []
      · subst hA; rfl
      · obtain ⟨A', c, rfl⟩ : ∃ A' c, A = A' ++ [c] := ⟨A.dropLast, A.getLast hA, (List.dropLast_concat_getLast hA).symm⟩
        rw [st_append]
        have hc : c ≠ 92 := by simpa [List.getD] using h
        simp [hc]
  | b + 1, A, hb, hall, h => by
    have hA : A ≠ [] := by intro e; subst e; simp at hb
    obtain ⟨A', c, rfl⟩ : ∃ A' c, A = A' ++ [c] := ⟨A.dropLast, A.getLast hA, (List.dropLast_concat_getLast hA).symm⟩
    have hl : (A' ++ [c]).length = A'.length + 1 := by simp
    rw [hl] at hb hall h
    have hget : ∀ t, t < A'.length → (A' ++ [c]).getD t 0 = A'.getD t 0 := fun t ht => by simp [List.getD, List.getElem?_append_left ht]
    have hc : c = 92 := by
      have := hall A'.length (by omega) (by omega)
      simpa [List.getD] using this
    have ih := st_run b A' (by omega) (fun t h1 h2 => by rw [← hget t h2]; exact hall t (by omega) (by omega)) (by
      rcases h with h | h
      · exact .inl (by omega)
      · by_cases hbA : b = A'.length
        · exact .inl hbA
        · right
          rw [← hget _ (by omega)]
          rw [show A'.length - b - 1 = A'.length + 1 - (b + 1) - 1 by omega]
          exact h)
    rw [st_append, ih, hc]
    simp only [beq_self_eq_true, Bool.and_true]
    rcases Nat.mod_two_eq_zero_or_one b with h0 | h0
    · have h1 : (b + 1) % 2 = 1 := by omega
      simp [h0, h1]
    · have h1 : ¬ (b + 1) % 2 = 1 := by omega
      simp [h0, h1]

/-! ### At places of a row zs -/

/-- A quote at place p, no quote in [i, p): the string that is read from i ends at p if the run of backslashes ahead of p is even; else it is read on behind p. -/
theorem qf_at (zs : List Int) (i p b : Nat) (hip : i ≤ p) (hp : p < zs.length) (hq : zs.getD p 0 = 34) (hno : ∀ t, i ≤ t → t < p → zs.getD t 0 ≠ 34) (hb : b ≤ p - i)
    (hall : ∀ t, p - b ≤ t → t < p → zs.getD t 0 = 92) (hend : p - b = i ∨ zs.getD (p - b - 1) 0 ≠ 92) :
    qf false (zs.drop i) = if b % 2 = 0 then some (p + 1 - i) else (qf false (zs.drop (p + 1))).map (· + (p + 1 - i)) := by
  have hA : zs.drop i = (zs.drop i).take (p - i) ++ (34 :: zs.drop (p + 1)) := by
    have h1 : zs.drop p = 34 :: zs.drop (p + 1) := by
      rw [List.drop_eq_getElem_cons hp]
      congr 1
      simpa [List.getD, hp] using hq
    rw [← h1]
    have h2 := (List.take_append_drop (p - i) (zs.drop i)).symm
    rw [List.drop_drop, show i + (p - i) = p by omega] at h2
    exact h2
  have hl : ((zs.drop i).take (p - i)).length = p - i := by simp; omega
  have hget : ∀ t, t < p - i → ((zs.drop i).take (p - i)).getD t 0 = zs.getD (i + t) 0 := fun t ht => by simp [List.getD, ht]
  have hnoA : ∀ c ∈ (zs.drop i).take (p - i), c ≠ 34 := by
    intro c hc
    obtain ⟨t, ht, rfl⟩ := List.getElem_of_mem hc
    rw [hl] at ht
    have := hno (i + t) (by omega) (by omega)
    rw [← hget t ht] at this
    simpa [List.getD, hl, ht] using this
  have hst := st_run b ((zs.drop i).take (p - i)) (by omega) (fun t h1 h2 => by
      rw [hl] at h1 h2
      rw [hget t h2]; exact hall (i + t) (by omega) (by omega)) (by
    rw [hl]
    rcases hend with h | h
    · exact .inl (by omega)
    · by_cases hbb : b = p - i
      · exact .inl hbb
      · right
        rw [hget _ (by omega), show i + (p - i - b - 1) = p - b - 1 by omega]
        exact h)
  rw [hA, qf_skip _ _ _ hnoA, hst, hl]
  rcases Nat.mod_two_eq_zero_or_one b with h0 | h0
  · rw [if_pos h0]
    simp [h0, qf]
    omega
  · rw [if_neg (by omega)]
    have hd : decide (b % 2 = 1) = true := by simp [h0]
    rw [hd]
    simp only [qf]
    rw [map_add, show 1 + (p - i) = p + 1 - i by omega]

theorem qf_no (zs : List Int) (i : Nat) (hno : ∀ t, i ≤ t → t < zs.length → zs.getD t 0 ≠ 34) : qf false (zs.drop i) = none := by
  refine qf_none _ _ fun c hc => ?_
  obtain ⟨t, ht, rfl⟩ := List.getElem_of_mem hc
  have h1 : i + t < zs.length := by simp at ht; omega
  have := hno (i + t) (by omega) h1
  simpa [List.getD, h1] using this

theorem qf_le : ∀ (l : List Int) (e : Bool) (m : Nat), qf e l = some m → 1 ≤ m ∧ m ≤ l.length
  | [], e, m, h => by cases e <;> simp [qf] at h
  | c :: t, true, m, h => by
    simp only [qf, Option.map_eq_some_iff] at h
    obtain ⟨j, hj, rfl⟩ := h
    have := qf_le t _ _ hj
    simp; omega
  | c :: t, false, m, h => by
    simp only [qf] at h
    split at h
    · simp only [Option.map_eq_some_iff] at h
      obtain ⟨j, hj, rfl⟩ := h
      have := qf_le t _ _ hj
      simp; omega
    · split at h
      · simp at h; subst h; simp
      · simp only [Option.map_eq_some_iff] at h
        obtain ⟨j, hj, rfl⟩ := h
        have := qf_le t _ _ hj
        simp; omega

/-! ### The scanner -/

def total (s : Bool) (c : Nat) : Nat := if s then c + 1 else 0
def bump (k : Nat) (r : Nat × Nat) : Nat × Nat := (r.1, r.2 + k)
def isSp (c : Int) : Bool := c == 32 || c == 9 || c == 10 || c == 13

/-- (the count, the span) from the head of the text on. q = 0: outside a string; 1: inside; 2: inside, the head escaped. -/
def cnt : Nat → Nat → Int → Bool → List Int → Nat × Nat
  | _, c, _, s, [] => (total s c, 0)
  | 0, c, d, s, x :: t =>
    if isSp x = true then bump 1 (cnt 0 c d s t)
    else if (x = 93 ∨ x = 125) ∧ d = 0 then (total s c, 1)
    else if x = 34 then bump 1 (cnt 1 c d true t)
    else if x = 91 ∨ x = 123 then bump 1 (cnt 0 c (d + 1) true t)
    else if x = 93 ∨ x = 125 then bump 1 (cnt 0 c (d - 1) true t)
    else if x = 44 ∧ d = 0 then bump 1 (cnt 0 (c + 1) d true t)
    else bump 1 (cnt 0 c d true t)
  | 1, c, d, s, x :: t => if x = 92 then bump 1 (cnt 2 c d s t) else if x = 34 then bump 1 (cnt 0 c d s t) else bump 1 (cnt 1 c d s t)
  | _ + 2, c, d, s, _ :: t => bump 1 (cnt 1 c d s t)

theorem bump_bump (a b : Nat) (r : Nat × Nat) : bump a (bump b r) = bump (a + b) r := by simp only [bump, Prod.mk.injEq, true_and]; omega
theorem bump_zero (r : Nat × Nat) : bump 0 r = r := rfl

/-- A string is jumped over. -/
theorem cnt_str (c : Nat) (d : Int) (s : Bool) : ∀ (l : List Int) (e : Bool), cnt (if e then 2 else 1) c d s l = match qf e l with
    | some m => bump m (cnt 0 c d s (l.drop m))
    | none => (total s c, l.length)
  | [], e => by cases e <;> rfl
  | x :: t, true => by
    have ih := cnt_str c d s t false
    simp only [if_true, Bool.false_eq_true, if_false, cnt, qf] at ih ⊢
    rw [ih]
    cases qf false t with
    | none => simp [bump]
    | some m => simp [bump_bump, Nat.add_comm]
  | x :: t, false => by
    have i1 := cnt_str c d s t true
    have i2 := cnt_str c d s t false
    simp only [if_true, Bool.false_eq_true, if_false, cnt, qf] at i1 i2 ⊢
    by_cases h1 : x = 92
    · rw [if_pos h1, if_pos h1, i1]
      cases qf true t with
      | none => simp [bump]
      | some m => simp [bump_bump, Nat.add_comm]
    · rw [if_neg h1, if_neg h1]
      by_cases h2 : x = 34
      · rw [if_pos h2, if_pos h2]; simp
      · rw [if_neg h2, if_neg h2, i2]
        cases qf false t with
        | none => simp [bump]
        | some m => simp [bump_bump, Nat.add_comm]

theorem cnt_le : ∀ (l : List Int) (q c : Nat) (d : Int) (s : Bool), (cnt q c d s l).2 ≤ l.length ∧ (cnt q c d s l).1 ≤ c + l.length + 1
  | [], q, c, d, s => by
    match q with
    | 0 => cases s <;> simp [cnt, total]
    | 1 => cases s <;> simp [cnt, total]
    | q + 2 => cases s <;> simp [cnt, total]
  | x :: t, q, c, d, s => by
    have ih := cnt_le t
    match q with
    | 0 =>
      simp only [cnt]
      split
      · have := ih 0 c d s; simp [bump]; omega
      split
      · cases s <;> simp [total] <;> omega
      split
      · have := ih 1 c d true; simp [bump]; omega
      split
      · have := ih 0 c (d + 1) true; simp [bump]; omega
      split
      · have := ih 0 c (d - 1) true; simp [bump]; omega
      split
      · have := ih 0 (c + 1) d true; simp [bump]; omega
      · have := ih 0 c d true; simp [bump]; omega
    | 1 =>
      simp only [cnt]
      split
      · have := ih 2 c d s; simp [bump]; omega
      split
      · have := ih 0 c d s; simp [bump]; omega
      · have := ih 1 c d s; simp [bump]; omega
    | q + 2 =>
      simp only [cnt]
      have := ih 1 c d s; simp [bump]; omega

theorem cnt_few : ∀ (l : List Int) (q c : Nat) (d : Int) (s : Bool), (cnt q c d s l).1 ≤ c + (cnt q c d s l).2 + 1
  | [], q, c, d, s => by
    match q with
    | 0 => cases s <;> simp [cnt, total]
    | 1 => cases s <;> simp [cnt, total]
    | q + 2 => cases s <;> simp [cnt, total]
  | x :: t, q, c, d, s => by
    have ih := cnt_few t
    match q with
    | 0 =>
      simp only [cnt]
      split
      · have := ih 0 c d s; simp [bump]; omega
      split
      · cases s <;> simp [total]
      split
      · have := ih 1 c d true; simp [bump]; omega
      split
      · have := ih 0 c (d + 1) true; simp [bump]; omega
      split
      · have := ih 0 c (d - 1) true; simp [bump]; omega
      split
      · have := ih 0 (c + 1) d true; simp [bump]; omega
      · have := ih 0 c d true; simp [bump]; omega
    | 1 =>
      simp only [cnt]
      split
      · have := ih 2 c d s; simp [bump]; omega
      split
      · have := ih 0 c d s; simp [bump]; omega
      · have := ih 1 c d s; simp [bump]; omega
    | q + 2 =>
      simp only [cnt]
      have := ih 1 c d s; simp [bump]; omega

/-- A scan that ends ahead of the text's end has closed on a bracket, and looks at nothing behind it. -/
def Closed (q c : Nat) (d : Int) (s : Bool) (l : List Int) : Prop :=
  1 ≤ (cnt q c d s l).2 ∧ (l.getD ((cnt q c d s l).2 - 1) 0 = 93 ∨ l.getD ((cnt q c d s l).2 - 1) 0 = 125) ∧ ∀ tl, cnt q c d s (l.take (cnt q c d s l).2 ++ tl) = cnt q c d s l

theorem closed_step {q c q' c' : Nat} {d d' : Int} {s s' : Bool} {x : Int} {t : List Int} (h : ∀ u, cnt q c d s (x :: u) = bump 1 (cnt q' c' d' s' u)) (ih : Closed q' c' d' s' t) : Closed q c d s (x :: t) := by
  obtain ⟨h1, h2, h3⟩ := ih
  unfold Closed
  rw [h t]
  simp only [bump]
  refine ⟨by omega, ?_, fun tl => ?_⟩
  · have e : (x :: t).getD ((cnt q' c' d' s' t).2 + 1 - 1) 0 = t.getD ((cnt q' c' d' s' t).2 - 1) 0 := by
      rw [show (cnt q' c' d' s' t).2 + 1 - 1 = ((cnt q' c' d' s' t).2 - 1) + 1 by omega, List.getD_cons_succ]
    rw [e]; exact h2
  · rw [List.take_succ_cons, List.cons_append, h, h3 tl]; rfl

theorem cnt_closed : ∀ (l : List Int) (q c : Nat) (d : Int) (s : Bool), (cnt q c d s l).2 < l.length → Closed q c d s l
  | [], q, c, d, s, h => by simp at h
  | x :: t, q, c, d, s, h => by
    have ih := cnt_closed t
    have step : ∀ (q' c' : Nat) (d' : Int) (s' : Bool), (∀ u, cnt q c d s (x :: u) = bump 1 (cnt q' c' d' s' u)) → Closed q c d s (x :: t) := fun q' c' d' s' hu =>
      closed_step hu (ih q' c' d' s' (by rw [hu t] at h; simp [bump] at h; exact h))
    match q, step with
    | 0, step =>
      by_cases h1 : isSp x = true
      · exact step 0 (c) (d) s fun u => by simp only [cnt]; rw [if_pos h1]
      by_cases h2 : (x = 93 ∨ x = 125) ∧ d = 0
      · have e : ∀ u, cnt 0 c d s (x :: u) = (total s c, 1) := fun u => by simp only [cnt]; rw [if_neg h1, if_pos h2]
        unfold Closed
        rw [e t]
        exact ⟨Nat.le_refl _, by simpa using h2.1, fun tl => e _⟩
      by_cases h3 : x = 34
      · exact step 1 (c) (d) true fun u => by simp only [cnt]; rw [if_neg h1, if_neg h2, if_pos h3]
      by_cases h4 : x = 91 ∨ x = 123
      · exact step 0 (c) (d + 1) true fun u => by simp only [cnt]; rw [if_neg h1, if_neg h2, if_neg h3, if_pos h4]
      by_cases h5 : x = 93 ∨ x = 125
      · exact step 0 (c) (d - 1) true fun u => by simp only [cnt]; rw [if_neg h1, if_neg h2, if_neg h3, if_neg h4, if_pos h5]
      by_cases h6 : x = 44 ∧ d = 0
      · exact step 0 (c + 1) (d) true fun u => by simp only [cnt]; rw [if_neg h1, if_neg h2, if_neg h3, if_neg h4, if_neg h5, if_pos h6]
      · exact step 0 (c) (d) true fun u => by simp only [cnt]; rw [if_neg h1, if_neg h2, if_neg h3, if_neg h4, if_neg h5, if_neg h6]
    | 1, step =>
      by_cases h1 : x = 92
      · exact step 2 (c) (d) s fun u => by simp only [cnt]; rw [if_pos h1]
      by_cases h2 : x = 34
      · exact step 0 (c) (d) s fun u => by simp only [cnt]; rw [if_neg h1, if_pos h2]
      · exact step 1 (c) (d) s fun u => by simp only [cnt]; rw [if_neg h1, if_neg h2]
    | q + 2, step => exact step 1 (c) (d) s fun u => by simp only [cnt]
end Go.Proofs.Qxb6600387a.Pl
