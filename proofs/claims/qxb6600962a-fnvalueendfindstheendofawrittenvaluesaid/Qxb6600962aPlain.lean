/-
  THE PLAIN MATHEMATICS OF SEAT b6600962a: lists of bytes (as integers), no Go in sight.
  'QEnd': where a string ends · 'Ends': where brackets come back to depth 0 · 'SEnd': where a scalar ends · 'VEnd': where a value ends · 'qf', 'st': the same end of a string, found with an escape flag.
-/
namespace Go.Proofs.Qxb6600962a.Pl

/-- From the head of l on (esc: the head is escaped) the first quote that no backslash escapes is byte number m, counted from 1. -/
def QEnd : Bool → List Int → Nat → Prop
  | _, [], _ => False
  | _, _ :: _, 0 => False
  | true, _ :: t, m + 1 => QEnd false t m
  | false, c :: t, m + 1 => if c = 34 then m = 0 else if c = 92 then QEnd true t m else QEnd false t m

/-- From the head of l on, at depth d (q = 0: outside a string; 1: inside; 2: inside, the head escaped) the bracket that brings the depth to 0 is byte number m, counted from 1. -/
def Ends : Nat → Int → List Int → Nat → Prop
  | _, _, [], _ => False
  | _, _, _ :: _, 0 => False
  | 0, d, c :: t, m + 1 =>
    if c = 34 then Ends 1 d t m
    else if c = 123 ∨ c = 91 then Ends 0 (d + 1) t m
    else if c = 125 ∨ c = 93 then (if d = 1 then m = 0 else Ends 0 (d - 1) t m)
    else Ends 0 d t m
  | 1, d, c :: t, m + 1 => if c = 34 then Ends 0 d t m else if c = 92 then Ends 2 d t m else Ends 1 d t m
  | _ + 2, d, _ :: t, m + 1 => Ends 1 d t m

def isDel (c : Int) : Bool := c == 44 || c == 58 || c == 93 || c == 125 || c == 32 || c == 9 || c == 10 || c == 13

/-- A scalar: m bytes that are no delimiters, then a delimiter or the end. -/
def SEnd : List Int → Nat → Prop
  | [], m => m = 0
  | c :: t, m => if isDel c = true then m = 0 else ∃ j, m = j + 1 ∧ SEnd t j

def VEnd : List Int → Nat → Prop
  | [], _ => False
  | c :: t, m => if c = 34 then (∃ j, m = j + 1 ∧ QEnd false t j) else if c = 123 ∨ c = 91 then Ends 0 0 (c :: t) m else SEnd (c :: t) m

theorem qend_le : ∀ (l : List Int) (e : Bool) (m : Nat), QEnd e l m → m ≤ l.length := by
  intro l
  induction l with
  | nil => intro e m h; simp [QEnd] at h
  | cons c t ih =>
    intro e m h
    cases m with
    | zero => omega
    | succ m =>
      cases e with
      | true => have := ih _ _ (by simpa [QEnd] using h); simp; omega
      | false =>
        simp only [QEnd] at h
        split at h
        · simp; omega
        · split at h
          · have := ih _ _ h; simp; omega
          · have := ih _ _ h; simp; omega

theorem ends_le : ∀ (l : List Int) (q : Nat) (d : Int) (m : Nat), Ends q d l m → m ≤ l.length := by
  intro l
  induction l with
  | nil => intro q d m h; simp [Ends] at h
  | cons c t ih =>
    intro q d m h
    cases m with
    | zero => omega
    | succ m =>
      match q, h with
      | 0, h =>
        simp only [Ends] at h
        split at h
        · have := ih _ _ _ h; simp; omega
        · split at h
          · have := ih _ _ _ h; simp; omega
          · split at h
            · split at h
              · simp; omega
              · have := ih _ _ _ h; simp; omega
            · have := ih _ _ _ h; simp; omega
      | 1, h =>
        simp only [Ends] at h
        split at h
        · have := ih _ _ _ h; simp; omega
        · split at h
          · have := ih _ _ _ h; simp; omega
          · have := ih _ _ _ h; simp; omega
      | q + 2, h => have := ih _ _ _ (by simpa [Ends] using h); simp; omega

theorem send_le : ∀ (l : List Int) (m : Nat), SEnd l m → m ≤ l.length := by
  intro l
  induction l with
  | nil => intro m h; simp [SEnd] at h; omega
  | cons c t ih =>
    intro m h
    simp only [SEnd] at h
    split at h
    · omega
    · obtain ⟨j, rfl, hj⟩ := h; have := ih _ hj; simp; omega

theorem vend_le (l : List Int) (m : Nat) (h : VEnd l m) : m ≤ l.length := by
  cases l with
  | nil => simp [VEnd] at h
  | cons c t =>
    simp only [VEnd] at h
    split at h
    · obtain ⟨j, rfl, hj⟩ := h; have := qend_le _ _ _ hj; simp; omega
    · split at h
      · exact ends_le _ _ _ _ h
      · exact send_le _ _ h

/-- A string inside brackets is jumped over. -/
theorem ends_str : ∀ (l : List Int) (e : Bool) (d : Int) (m : Nat), Ends (if e then 2 else 1) d l m → ∃ j, QEnd e l j ∧ j ≤ m ∧ Ends 0 d (l.drop j) (m - j) := by
  intro l
  induction l with
  | nil => intro e d m h; simp [Ends] at h
  | cons c t ih =>
    intro e d m h
    cases m with
    | zero => cases e <;> simp [Ends] at h
    | succ m =>
      cases e with
      | true =>
        obtain ⟨j, hj, hle, he⟩ := ih false d m (by simpa [Ends] using h)
        exact ⟨j + 1, by simpa [QEnd] using hj, by omega, by simpa using he⟩
      | false =>
        simp only [Bool.false_eq_true, if_false, Ends] at h
        split at h
        · rename_i hc
          exact ⟨1, by simp [QEnd, hc], by omega, by simpa using h⟩
        · rename_i hc
          split at h
          · rename_i hb
            obtain ⟨j, hj, hle, he⟩ := ih true d m (by simpa using h)
            exact ⟨j + 1, by simp only [QEnd, if_neg hc, if_pos hb]; exact hj, by omega, by simpa using he⟩
          · rename_i hb
            obtain ⟨j, hj, hle, he⟩ := ih false d m (by simpa using h)
            exact ⟨j + 1, by simp only [QEnd, if_neg hc, if_neg hb]; exact hj, by omega, by simpa using he⟩

/-! ### One step, at place k of a row -/

theorem drop_at (zs : List Int) (k : Nat) (c : Int) (h : zs[k]? = some c) : zs.drop k = c :: zs.drop (k + 1) := by
  obtain ⟨hk, rfl⟩ := List.getElem?_eq_some_iff.1 h
  exact List.drop_eq_getElem_cons hk

theorem drop_lt {zs : List Int} {k : Nat} (h : zs.drop k = [] → False) : k < zs.length := by
  rcases Nat.lt_or_ge k zs.length with h1 | h1
  · exact h1
  · exact absurd (List.drop_eq_nil_of_le h1) h

/-- A step in a string: it ends here; or a backslash takes the next byte with it; or the byte is passed. -/
theorem qend_step (zs : List Int) (k m : Nat) (h : QEnd false (zs.drop k) m) : k < zs.length ∧ 1 ≤ m ∧
    ((zs.getD k 0 = 34 ∧ m = 1) ∨ (zs.getD k 0 = 92 ∧ k + 1 < zs.length ∧ 2 ≤ m ∧ QEnd false (zs.drop (k + 2)) (m - 2)) ∨
     (zs.getD k 0 ≠ 34 ∧ zs.getD k 0 ≠ 92 ∧ QEnd false (zs.drop (k + 1)) (m - 1))) := by
  have hk : k < zs.length := drop_lt fun e => by simp [e, QEnd] at h
  have hg : zs.getD k 0 = zs[k] := by simp [List.getD, hk]
  rw [List.drop_eq_getElem_cons hk] at h
  cases m with
  | zero => simp [QEnd] at h
  | succ m =>
    refine ⟨hk, by omega, ?_⟩
    rw [hg]
    simp only [QEnd] at h
    split at h
    · rename_i hc; exact .inl ⟨hc, by omega⟩
    · rename_i hc
      split at h
      · rename_i hb
        right; left
        have hk1 : k + 1 < zs.length := drop_lt fun e => by simp [e, QEnd] at h
        rw [List.drop_eq_getElem_cons hk1] at h
        cases m with
        | zero => simp [QEnd] at h
        | succ m => exact ⟨hb, hk1, by omega, by simpa [QEnd] using h⟩
      · rename_i hb
        exact .inr (.inr ⟨hc, hb, by simpa using h⟩)

/-- A step between brackets. -/
theorem ends_step (zs : List Int) (k m : Nat) (d : Int) (h : Ends 0 d (zs.drop k) m) : k < zs.length ∧ 1 ≤ m ∧
    ((zs.getD k 0 = 34 ∧ ∃ j, QEnd false (zs.drop (k + 1)) j ∧ j + 1 ≤ m ∧ Ends 0 d (zs.drop (k + 1 + j)) (m - 1 - j)) ∨
     ((zs.getD k 0 = 123 ∨ zs.getD k 0 = 91) ∧ Ends 0 (d + 1) (zs.drop (k + 1)) (m - 1)) ∨
     ((zs.getD k 0 = 125 ∨ zs.getD k 0 = 93) ∧ d = 1 ∧ m = 1) ∨
     ((zs.getD k 0 = 125 ∨ zs.getD k 0 = 93) ∧ d ≠ 1 ∧ Ends 0 (d - 1) (zs.drop (k + 1)) (m - 1)) ∨
     (zs.getD k 0 ≠ 34 ∧ zs.getD k 0 ≠ 123 ∧ zs.getD k 0 ≠ 91 ∧ zs.getD k 0 ≠ 125 ∧ zs.getD k 0 ≠ 93 ∧ Ends 0 d (zs.drop (k + 1)) (m - 1))) := by
  have hk : k < zs.length := drop_lt fun e => by simp [e, Ends] at h
  have hg : zs.getD k 0 = zs[k] := by simp [List.getD, hk]
  rw [List.drop_eq_getElem_cons hk] at h
  cases m with
  | zero => simp [Ends] at h
  | succ m =>
    refine ⟨hk, by omega, ?_⟩
    rw [hg]
    simp only [Ends] at h
    split at h
    · rename_i hc
      obtain ⟨j, hj, hle, he⟩ := ends_str _ false d m (by simpa using h)
      refine .inl ⟨hc, j, hj, by omega, ?_⟩
      rw [List.drop_drop] at he
      simpa using he
    · rename_i h1
      split at h
      · rename_i h2; exact .inr (.inl ⟨h2, by simpa using h⟩)
      · rename_i h2
        split at h
        · rename_i h3
          split at h
          · rename_i h4; exact .inr (.inr (.inl ⟨h3, h4, by omega⟩))
          · rename_i h4; exact .inr (.inr (.inr (.inl ⟨h3, h4, by simpa using h⟩)))
        · rename_i h3
          exact .inr (.inr (.inr (.inr ⟨h1, fun e => h2 (.inl e), fun e => h2 (.inr e), fun e => h3 (.inl e), fun e => h3 (.inr e), by simpa using h⟩)))

theorem send_step (zs : List Int) (k m : Nat) (h : SEnd (zs.drop k) m) (hk : k ≤ zs.length) :
    (k = zs.length ∧ m = 0) ∨ (k < zs.length ∧ isDel (zs.getD k 0) = true ∧ m = 0) ∨ (k < zs.length ∧ isDel (zs.getD k 0) = false ∧ 1 ≤ m ∧ SEnd (zs.drop (k + 1)) (m - 1)) := by
  rcases Nat.lt_or_ge k zs.length with h1 | h1
  · have hg : zs.getD k 0 = zs[k] := by simp [List.getD, h1]
    rw [List.drop_eq_getElem_cons h1] at h
    rw [hg]
    simp only [SEnd] at h
    split at h
    · rename_i h2; exact .inr (.inl ⟨h1, h2, h⟩)
    · rename_i h2
      obtain ⟨j, rfl, hj⟩ := h
      exact .inr (.inr ⟨h1, by simpa using h2, by omega, by simpa using hj⟩)
  · rw [List.drop_eq_nil_of_le h1] at h
    exact .inl ⟨by omega, by simpa [SEnd] using h⟩

/-! ### The escape flag and runs of backslashes -/

/-- The place just behind the first quote that no backslash escapes (e: the head is escaped). -/
def qf : Bool → List Int → Option Nat
  | _, [] => none
  | true, _ :: t => (qf false t).map (· + 1)
  | false, c :: t => if c = 92 then (qf true t).map (· + 1) else if c = 34 then some 1 else (qf false t).map (· + 1)

/-- The escape flag behind a text without quotes. -/
def st : Bool → List Int → Bool
  | e, [] => e
  | e, c :: t => st (!e && c == 92) t

theorem st_append : ∀ (A : List Int) (e : Bool) (c : Int), st e (A ++ [c]) = (!(st e A) && c == 92)
  | [], e, c => rfl
  | a :: t, e, c => by simp only [List.cons_append, st]; exact st_append t _ c

theorem qf_none : ∀ (l : List Int) (e : Bool), (∀ c ∈ l, c ≠ 34) → qf e l = none
  | [], e, _ => by cases e <;> rfl
  | c :: t, true, h => by simp only [qf]; rw [qf_none t false fun x hx => h x (by simp [hx])]; rfl
  | c :: t, false, h => by
    simp only [qf]
    rw [if_neg (h c (by simp)), qf_none t true fun x hx => h x (by simp [hx]), qf_none t false fun x hx => h x (by simp [hx])]
    simp

theorem map_add (o : Option Nat) (a b : Nat) : (o.map (· + a)).map (· + b) = o.map (· + (a + b)) := by cases o <;> simp [Nat.add_assoc]

theorem qf_skip (R : List Int) : ∀ (A : List Int) (e : Bool), (∀ c ∈ A, c ≠ 34) → qf e (A ++ R) = (qf (st e A) R).map (· + A.length)
  | [], e, _ => by simp [st]
  | c :: t, true, h => by
    have ih := qf_skip R t false fun x hx => h x (by simp [hx])
    simp only [List.cons_append, qf, st, Bool.not_true, Bool.false_and, ih, List.length_cons]
    rw [map_add]
  | c :: t, false, h => by
    have i1 := qf_skip R t true fun x hx => h x (by simp [hx])
    have i2 := qf_skip R t false fun x hx => h x (by simp [hx])
    simp only [List.cons_append, qf, st, Bool.not_false, Bool.true_and, List.length_cons]
    by_cases hc : c = 92
    · rw [if_pos hc, i1, map_add, hc]; rfl
    · have hb : (c == 92) = false := by simpa using hc
      rw [if_neg hc, if_neg (h c (by simp)), i2, map_add, hb]

/-- The flag behind A is the parity of the run of backslashes at its end. -/
theorem st_run : ∀ (b : Nat) (A : List Int), b ≤ A.length → (∀ t, A.length - b ≤ t → t < A.length → A.getD t 0 = 92) → (b = A.length ∨ A.getD (A.length - b - 1) 0 ≠ 92) → st false A = decide (b % 2 = 1)
  | 0, A, _, _, h => by
    rcases h with h | h
    · have : A = [] := List.eq_nil_of_length_eq_zero h.symm
      subst this; rfl
    · by_cases hA : A = []
      · subst hA; rfl
      · obtain ⟨A', c, rfl⟩ : ∃ A' c, A = A' ++ [c] := ⟨A.dropLast, A.getLast hA, (List.dropLast_concat_getLast hA).symm⟩
        rw [st_append]
        have hc : c ≠ 92 := by simpa [List.getD] using h
        simp [hc]
  | b + 1, A, hb, hall, h => by
    have hA : A ≠ [] := by intro e; subst e; simp at hb
    obtain ⟨A', c, rfl⟩ : ∃ A' c, A = A' ++ [c] := ⟨A.dropLast, A.getLast hA, (List.dropLast_concat_getLast hA).symm⟩
    have hl : (A' ++ [c]).length = A'.length + 1 := by simp
    rw [hl] at hb hall h
    have hget : ∀ t, t < A'.length → (A' ++ [c]).getD t 0 = A'.getD t 0 := fun t ht => by simp [List.getD, List.getElem?_append_left ht]
    have hc : c = 92 := by
      have := hall A'.length (by omega) (by omega)
      simpa [List.getD] using this
    have ih := st_run b A' (by omega) (fun t h1 h2 => by rw [← hget t h2]; exact hall t (by omega) (by omega)) (by
      rcases h with h | h
      · exact .inl (by omega)
      · by_cases hbA : b = A'.length
        · exact .inl hbA
        · right
          rw [← hget _ (by omega)]
          rw [show A'.length - b - 1 = A'.length + 1 - (b + 1) - 1 by omega]
          exact h)
    rw [st_append, ih, hc]
    simp only [beq_self_eq_true, Bool.and_true]
    rcases Nat.mod_two_eq_zero_or_one b with h0 | h0
    · have h1 : (b + 1) % 2 = 1 := by omega
      simp [h0, h1]
    · have h1 : ¬ (b + 1) % 2 = 1 := by omega
      simp [h0, h1]

theorem qf_qend : ∀ (l : List Int) (e : Bool) (m : Nat), qf e l = some m → QEnd e l m
  | [], e, m, h => by cases e <;> simp [qf] at h
  | c :: t, true, m, h => by
    simp only [qf, Option.map_eq_some_iff] at h
    obtain ⟨j, hj, rfl⟩ := h
    simp only [QEnd]
    exact qf_qend t _ _ hj
  | c :: t, false, m, h => by
    simp only [qf] at h
    split at h
    · rename_i hc
      simp only [Option.map_eq_some_iff] at h
      obtain ⟨j, hj, rfl⟩ := h
      simp only [QEnd]
      rw [if_neg (by omega), if_pos hc]
      exact qf_qend t _ _ hj
    · rename_i hc
      split at h
      · rename_i h34
        simp at h; subst h
        simp [QEnd, h34]
      · rename_i h34
        simp only [Option.map_eq_some_iff] at h
        obtain ⟨j, hj, rfl⟩ := h
        simp only [QEnd]
        rw [if_neg h34, if_neg hc]
        exact qf_qend t _ _ hj

/-- One byte further in a string: no quote, or an escaped one. -/
theorem qf_step (zs : List Int) (s k : Nat) (hk : s + k < zs.length) (h : zs.getD (s + k) 0 ≠ 34 ∨ st false ((zs.drop s).take k) = true)
    (hq : qf false (zs.drop s) = (qf (st false ((zs.drop s).take k)) (zs.drop (s + k))).map (· + k)) :
    qf false (zs.drop s) = (qf (st false ((zs.drop s).take (k + 1))) (zs.drop (s + (k + 1)))).map (· + (k + 1)) := by
  have hg : zs.getD (s + k) 0 = zs[s + k] := by simp [List.getD, hk]
  have hl : k < (zs.drop s).length := by simp; omega
  have ht : (zs.drop s).take (k + 1) = (zs.drop s).take k ++ [zs[s + k]] := by
    rw [List.take_succ_eq_append_getElem hl]
    simp
  rw [ht, st_append]
  rw [List.drop_eq_getElem_cons hk] at hq
  rw [hg] at h
  rw [hq]
  cases hs : st false ((zs.drop s).take k) with
  | true => simp only [qf, Bool.not_true, Bool.false_and]; rw [map_add, Nat.add_comm 1 k]; rfl
  | false =>
    rw [hs] at h
    simp only [qf, Bool.not_false, Bool.true_and]
    have h34 : zs[s + k] ≠ 34 := by
      rcases h with h | h
      · exact h
      · simp at h
    by_cases h92 : zs[s + k] = 92
    · rw [if_pos h92, map_add, Nat.add_comm 1 k, h92]; rfl
    · have hb : (zs[s + k] == 92) = false := by simpa using h92
      rw [if_neg h92, if_neg h34, map_add, Nat.add_comm 1 k, hb]; rfl

/-- An unescaped quote at place s + k. -/
theorem qf_found (zs : List Int) (s k : Nat) (hk : s + k < zs.length) (h34 : zs.getD (s + k) 0 = 34) (hs : st false ((zs.drop s).take k) = false)
    (hq : qf false (zs.drop s) = (qf (st false ((zs.drop s).take k)) (zs.drop (s + k))).map (· + k)) : QEnd false (zs.drop s) (k + 1) := by
  apply qf_qend
  have hg : zs.getD (s + k) 0 = zs[s + k] := by simp [List.getD, hk]
  rw [hs, List.drop_eq_getElem_cons hk] at hq
  rw [hq]
  simp only [qf]
  rw [if_neg (by omega), if_pos (by omega)]
  simp [Nat.add_comm]

/-- The flag at place s + k by the run of b backslashes ahead of it. -/
theorem st_at (zs : List Int) (s k b : Nat) (hk : s + k ≤ zs.length) (hb : b ≤ k) (hall : ∀ t, s + k - b ≤ t → t < s + k → zs.getD t 0 = 92) (hend : b = k ∨ zs.getD (s + k - b - 1) 0 ≠ 92) :
    st false ((zs.drop s).take k) = decide (b % 2 = 1) := by
  have hl : ((zs.drop s).take k).length = k := by simp; omega
  have hget : ∀ t, t < k → ((zs.drop s).take k).getD t 0 = zs.getD (s + t) 0 := fun t ht => by simp [List.getD, ht]
  refine st_run b _ (by omega) (fun t h1 h2 => ?_) ?_
  · rw [hl] at h1 h2
    rw [hget t h2]
    exact hall (s + t) (by omega) (by omega)
  · rw [hl]
    rcases hend with h | h
    · exact .inl h
    · by_cases hbk : b = k
      · exact .inl hbk
      · right
        rw [hget _ (by omega), show s + (k - b - 1) = s + k - b - 1 by omega]
        exact h

/-! ### From steps to the end -/

theorem ends_str_mk : ∀ (l : List Int) (e : Bool) (d : Int) (j m : Nat), QEnd e l j → Ends 0 d (l.drop j) m → Ends (if e then 2 else 1) d l (j + m)
  | [], e, d, j, m, h, _ => by simp [QEnd] at h
  | c :: t, e, d, 0, m, h, _ => by cases e <;> simp [QEnd] at h
  | c :: t, true, d, j + 1, m, h, he => by
    have ih := ends_str_mk t false d j m (by simpa [QEnd] using h) (by simpa using he)
    rw [show j + 1 + m = j + m + 1 by omega]
    simpa [Ends] using ih
  | c :: t, false, d, j + 1, m, h, he => by
    simp only [QEnd] at h
    rw [show j + 1 + m = j + m + 1 by omega]
    simp only [Bool.false_eq_true, if_false, Ends]
    split at h
    · rename_i hc
      subst h
      rw [if_pos hc]
      simpa using he
    · rename_i hc
      rw [if_neg hc]
      split at h
      · rename_i hb
        rw [if_pos hb]
        simpa using ends_str_mk t true d j m h (by simpa using he)
      · rename_i hb
        rw [if_neg hb]
        simpa using ends_str_mk t false d j m h (by simpa using he)

theorem mk_open (zs : List Int) (p : Nat) (d : Int) (hp : p < zs.length) (h : zs.getD p 0 = 123 ∨ zs.getD p 0 = 91) (m : Nat) (he : Ends 0 (d + 1) (zs.drop (p + 1)) m) : Ends 0 d (zs.drop p) (m + 1) := by
  have hg : zs.getD p 0 = zs[p] := by simp [List.getD, hp]
  rw [hg] at h
  rw [List.drop_eq_getElem_cons hp]
  simp only [Ends]
  rw [if_neg (by omega), if_pos h]
  exact he
theorem mk_close (zs : List Int) (p : Nat) (d : Int) (hp : p < zs.length) (h : zs.getD p 0 = 125 ∨ zs.getD p 0 = 93) (hd : d ≠ 1) (m : Nat) (he : Ends 0 (d - 1) (zs.drop (p + 1)) m) : Ends 0 d (zs.drop p) (m + 1) := by
  have hg : zs.getD p 0 = zs[p] := by simp [List.getD, hp]
  rw [hg] at h
  rw [List.drop_eq_getElem_cons hp]
  simp only [Ends]
  rw [if_neg (by omega), if_neg (by omega), if_pos h, if_neg hd]
  exact he
theorem mk_last (zs : List Int) (p : Nat) (hp : p < zs.length) (h : zs.getD p 0 = 125 ∨ zs.getD p 0 = 93) : Ends 0 1 (zs.drop p) 1 := by
  have hg : zs.getD p 0 = zs[p] := by simp [List.getD, hp]
  rw [hg] at h
  rw [List.drop_eq_getElem_cons hp]
  simp only [Ends]
  rw [if_neg (by omega), if_neg (by omega), if_pos h, if_pos trivial]
  trivial
theorem mk_other (zs : List Int) (p : Nat) (d : Int) (hp : p < zs.length) (h1 : zs.getD p 0 ≠ 34) (h2 : zs.getD p 0 ≠ 123) (h3 : zs.getD p 0 ≠ 91) (h4 : zs.getD p 0 ≠ 125) (h5 : zs.getD p 0 ≠ 93) (m : Nat) (he : Ends 0 d (zs.drop (p + 1)) m) : Ends 0 d (zs.drop p) (m + 1) := by
  have hg : zs.getD p 0 = zs[p] := by simp [List.getD, hp]
  rw [hg] at h1 h2 h3 h4 h5
  rw [List.drop_eq_getElem_cons hp]
  simp only [Ends]
  rw [if_neg h1, if_neg (by omega), if_neg (by omega)]
  exact he
theorem mk_str (zs : List Int) (p : Nat) (d : Int) (hp : p < zs.length) (h1 : zs.getD p 0 = 34) (j m : Nat) (hq : QEnd false (zs.drop (p + 1)) j) (he : Ends 0 d (zs.drop (p + 1 + j)) m) : Ends 0 d (zs.drop p) (1 + j + m) := by
  have hg : zs.getD p 0 = zs[p] := by simp [List.getD, hp]
  rw [hg] at h1
  rw [List.drop_eq_getElem_cons hp, show 1 + j + m = (j + m) + 1 by omega]
  simp only [Ends]
  rw [if_pos h1]
  have := ends_str_mk (zs.drop (p + 1)) false d j m hq (by rw [List.drop_drop]; exact he)
  simpa using this
theorem mk_sdel (zs : List Int) (p : Nat) (hp : p < zs.length) (h1 : isDel (zs.getD p 0) = true) : SEnd (zs.drop p) 0 := by
  have hg : zs.getD p 0 = zs[p] := by simp [List.getD, hp]
  rw [hg] at h1
  rw [List.drop_eq_getElem_cons hp]
  simp [SEnd, h1]
theorem mk_sgo (zs : List Int) (p : Nat) (hp : p < zs.length) (h1 : isDel (zs.getD p 0) = false) (m : Nat) (he : SEnd (zs.drop (p + 1)) m) : SEnd (zs.drop p) (m + 1) := by
  have hg : zs.getD p 0 = zs[p] := by simp [List.getD, hp]
  rw [hg] at h1
  rw [List.drop_eq_getElem_cons hp]
  simp only [SEnd]
  rw [if_neg (by rw [h1]; decide)]
  exact ⟨m, rfl, he⟩
theorem mk_send (zs : List Int) (p : Nat) (hp : zs.length ≤ p) : SEnd (zs.drop p) 0 := by
  rw [List.drop_eq_nil_of_le hp]; simp [SEnd]
/-- The three kinds of value. -/
theorem mk_vstr (zs : List Int) (p : Nat) (hp : p < zs.length) (h : zs.getD p 0 = 34) (j : Nat) (hq : QEnd false (zs.drop (p + 1)) j) : VEnd (zs.drop p) (j + 1) := by
  have hg : zs.getD p 0 = zs[p] := by simp [List.getD, hp]
  rw [hg] at h
  rw [List.drop_eq_getElem_cons hp]
  simp only [VEnd]
  rw [if_pos h]
  exact ⟨j, rfl, hq⟩
theorem mk_vbox (zs : List Int) (p : Nat) (hp : p < zs.length) (h : zs.getD p 0 = 123 ∨ zs.getD p 0 = 91) (m : Nat) (he : Ends 0 0 (zs.drop p) m) : VEnd (zs.drop p) m := by
  have hg : zs.getD p 0 = zs[p] := by simp [List.getD, hp]
  rw [hg] at h
  rw [List.drop_eq_getElem_cons hp] at he ⊢
  simp only [VEnd]
  rw [if_neg (by omega), if_pos h]
  exact he
theorem mk_vnum (zs : List Int) (p : Nat) (hp : p < zs.length) (h1 : zs.getD p 0 ≠ 34) (h2 : zs.getD p 0 ≠ 123) (h3 : zs.getD p 0 ≠ 91) (m : Nat) (he : SEnd (zs.drop p) m) : VEnd (zs.drop p) m := by
  have hg : zs.getD p 0 = zs[p] := by simp [List.getD, hp]
  rw [hg] at h1 h2 h3
  rw [List.drop_eq_getElem_cons hp] at he ⊢
  simp only [VEnd]
  rw [if_neg h1, if_neg (by omega)]
  exact he
end Go.Proofs.Qxb6600962a.Pl
