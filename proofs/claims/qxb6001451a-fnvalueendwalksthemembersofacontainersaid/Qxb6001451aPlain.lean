/-
  THE PLAIN MATHEMATICS OF SEAT b6001451a: lists of bytes (as integers), no Go in sight.
  'QEnd': where a string ends · 'Ends': where brackets come back to depth 0 · 'SEnd': where a scalar ends · 'VEnd': where a value ends.
  'JT n': a JSON value of depth at most n · 'encV': its text · 'jvB': the count that the law's guard makes.
-/
namespace Go.Proofs.Qxb6001451a.Pl

/-- From the head of l on (esc: the head is escaped) the first quote that no backslash escapes is byte number m, counted from 1. -/
def QEnd : Bool → List Int → Nat → Prop
  | _, [], _ => False
  | _, _ :: _, 0 => False
  | true, _ :: t, m + 1 => QEnd false t m
  | false, c :: t, m + 1 => if c = 34 then m = 0 else if c = 92 then QEnd true t m else QEnd false t m

/-- From the head of l on, at depth d (q = 0: outside a string; 1: inside; 2: inside, the head escaped) the bracket that brings the depth to 0 is byte number m, counted from 1. -/
def Ends : Nat → Int → List Int → Nat → Prop
  | _, _, [], _ => False
  | _, _, _ :: _, 0 => False
  | 0, d, c :: t, m + 1 =>
    if c = 34 then Ends 1 d t m
    else if c = 123 ∨ c = 91 then Ends 0 (d + 1) t m
    else if c = 125 ∨ c = 93 then (if d = 1 then m = 0 else Ends 0 (d - 1) t m)
    else Ends 0 d t m
  | 1, d, c :: t, m + 1 => if c = 34 then Ends 0 d t m else if c = 92 then Ends 2 d t m else Ends 1 d t m
  | _ + 2, d, _ :: t, m + 1 => Ends 1 d t m

def isDel (c : Int) : Bool := c == 44 || c == 93 || c == 125 || c == 32 || c == 9 || c == 13 || c == 10

/-- A scalar: m bytes that are no delimiters, then a delimiter or the end. -/
def SEnd : List Int → Nat → Prop
  | [], m => m = 0
  | c :: t, m => if isDel c = true then m = 0 else ∃ j, m = j + 1 ∧ SEnd t j

def VEnd : List Int → Nat → Prop
  | [], _ => False
  | c :: t, m => if c = 34 then (∃ j, m = j + 1 ∧ QEnd false t j) else if c = 123 ∨ c = 91 then Ends 0 0 (c :: t) m else SEnd (c :: t) m

theorem qend_le : ∀ (l : List Int) (e : Bool) (m : Nat), QEnd e l m → m ≤ l.length := by
  intro l
  induction l with
  | nil => intro e m h; simp [QEnd] at h
  | cons c t ih =>
    intro e m h
    cases m with
    | zero => omega
    | succ m =>
      cases e with
      | true => have := ih _ _ (by simpa [QEnd] using h); simp; omega
      | false =>
        simp only [QEnd] at h
        split at h
        · simp; omega
        · split at h
          · have := ih _ _ h; simp; omega
          · have := ih _ _ h; simp; omega

theorem ends_le : ∀ (l : List Int) (q : Nat) (d : Int) (m : Nat), Ends q d l m → m ≤ l.length := by
  intro l
  induction l with
  | nil => intro q d m h; simp [Ends] at h
  | cons c t ih =>
    intro q d m h
    cases m with
    | zero => omega
    | succ m =>
      match q, h with
      | 0, h =>
        simp only [Ends] at h
        split at h
        · have := ih _ _ _ h; simp; omega
        · split at h
          · have := ih _ _ _ h; simp; omega
          · split at h
            · split at h
              · simp; omega
              · have := ih _ _ _ h; simp; omega
            · have := ih _ _ _ h; simp; omega
      | 1, h =>
        simp only [Ends] at h
        split at h
        · have := ih _ _ _ h; simp; omega
        · split at h
          · have := ih _ _ _ h; simp; omega
          · have := ih _ _ _ h; simp; omega
      | q + 2, h => have := ih _ _ _ (by simpa [Ends] using h); simp; omega

theorem send_le : ∀ (l : List Int) (m : Nat), SEnd l m → m ≤ l.length := by
  intro l
  induction l with
  | nil => intro m h; simp [SEnd] at h; omega
  | cons c t ih =>
    intro m h
    simp only [SEnd] at h
    split at h
    · omega
    · obtain ⟨j, rfl, hj⟩ := h; have := ih _ hj; simp; omega

theorem vend_le (l : List Int) (m : Nat) (h : VEnd l m) : m ≤ l.length := by
  cases l with
  | nil => simp [VEnd] at h
  | cons c t =>
    simp only [VEnd] at h
    split at h
    · obtain ⟨j, rfl, hj⟩ := h; have := qend_le _ _ _ hj; simp; omega
    · split at h
      · exact ends_le _ _ _ _ h
      · exact send_le _ _ h

/-- A string inside brackets is jumped over. -/
theorem ends_str : ∀ (l : List Int) (e : Bool) (d : Int) (m : Nat), Ends (if e then 2 else 1) d l m → ∃ j, QEnd e l j ∧ j ≤ m ∧ Ends 0 d (l.drop j) (m - j) := by
  intro l
  induction l with
  | nil => intro e d m h; simp [Ends] at h
  | cons c t ih =>
    intro e d m h
    cases m with
    | zero => cases e <;> simp [Ends] at h
    | succ m =>
      cases e with
      | true =>
        obtain ⟨j, hj, hle, he⟩ := ih false d m (by simpa [Ends] using h)
        exact ⟨j + 1, by simpa [QEnd] using hj, by omega, by simpa using he⟩
      | false =>
        simp only [Bool.false_eq_true, if_false, Ends] at h
        split at h
        · rename_i hc
          exact ⟨1, by simp [QEnd, hc], by omega, by simpa using h⟩
        · rename_i hc
          split at h
          · rename_i hb
            obtain ⟨j, hj, hle, he⟩ := ih true d m (by simpa using h)
            exact ⟨j + 1, by simp only [QEnd, if_neg hc, if_pos hb]; exact hj, by omega, by simpa using he⟩
          · rename_i hb
            obtain ⟨j, hj, hle, he⟩ := ih false d m (by simpa using h)
            exact ⟨j + 1, by simp only [QEnd, if_neg hc, if_neg hb]; exact hj, by omega, by simpa using he⟩

/-! ### One step, at place k of a row -/

theorem drop_at (zs : List Int) (k : Nat) (c : Int) (h : zs[k]? = some c) : zs.drop k = c :: zs.drop (k + 1) := by
  obtain ⟨hk, rfl⟩ := List.getElem?_eq_some_iff.1 h
  exact List.drop_eq_getElem_cons hk

theorem drop_lt {zs : List Int} {k : Nat} (h : zs.drop k = [] → False) : k < zs.length := by
  rcases Nat.lt_or_ge k zs.length with h1 | h1
  · exact h1
  · exact absurd (List.drop_eq_nil_of_le h1) h

/-- A step in a string: it ends here; or a backslash takes the next byte with it; or the byte is passed. -/
theorem qend_step (zs : List Int) (k m : Nat) (h : QEnd false (zs.drop k) m) : k < zs.length ∧ 1 ≤ m ∧
    ((zs.getD k 0 = 34 ∧ m = 1) ∨ (zs.getD k 0 = 92 ∧ k + 1 < zs.length ∧ 2 ≤ m ∧ QEnd false (zs.drop (k + 2)) (m - 2)) ∨
     (zs.getD k 0 ≠ 34 ∧ zs.getD k 0 ≠ 92 ∧ QEnd false (zs.drop (k + 1)) (m - 1))) := by
  have hk : k < zs.length := drop_lt fun e => by simp [e, QEnd] at h
  have hg : zs.getD k 0 = zs[k] := by simp [List.getD, hk]
  rw [List.drop_eq_getElem_cons hk] at h
  cases m with
  | zero => simp [QEnd] at h
  | succ m =>
    refine ⟨hk, by omega, ?_⟩
    rw [hg]
    simp only [QEnd] at h
    split at h
    · rename_i hc; exact .inl ⟨hc, by omega⟩
    · rename_i hc
      split at h
      · rename_i hb
        right; left
        have hk1 : k + 1 < zs.length := drop_lt fun e => by simp [e, QEnd] at h
        rw [List.drop_eq_getElem_cons hk1] at h
        cases m with
        | zero => simp [QEnd] at h
        | succ m => exact ⟨hb, hk1, by omega, by simpa [QEnd] using h⟩
      · rename_i hb
        exact .inr (.inr ⟨hc, hb, by simpa using h⟩)

/-- A step between brackets. -/
theorem ends_step (zs : List Int) (k m : Nat) (d : Int) (h : Ends 0 d (zs.drop k) m) : k < zs.length ∧ 1 ≤ m ∧
    ((zs.getD k 0 = 34 ∧ ∃ j, QEnd false (zs.drop (k + 1)) j ∧ j + 1 ≤ m ∧ Ends 0 d (zs.drop (k + 1 + j)) (m - 1 - j)) ∨
     ((zs.getD k 0 = 123 ∨ zs.getD k 0 = 91) ∧ Ends 0 (d + 1) (zs.drop (k + 1)) (m - 1)) ∨
     ((zs.getD k 0 = 125 ∨ zs.getD k 0 = 93) ∧ d = 1 ∧ m = 1) ∨
     ((zs.getD k 0 = 125 ∨ zs.getD k 0 = 93) ∧ d ≠ 1 ∧ Ends 0 (d - 1) (zs.drop (k + 1)) (m - 1)) ∨
     (zs.getD k 0 ≠ 34 ∧ zs.getD k 0 ≠ 123 ∧ zs.getD k 0 ≠ 91 ∧ zs.getD k 0 ≠ 125 ∧ zs.getD k 0 ≠ 93 ∧ Ends 0 d (zs.drop (k + 1)) (m - 1))) := by
  have hk : k < zs.length := drop_lt fun e => by simp [e, Ends] at h
  have hg : zs.getD k 0 = zs[k] := by simp [List.getD, hk]
  rw [List.drop_eq_getElem_cons hk] at h
  cases m with
  | zero => simp [Ends] at h
  | succ m =>
    refine ⟨hk, by omega, ?_⟩
    rw [hg]
    simp only [Ends] at h
    split at h
    · rename_i hc
      obtain ⟨j, hj, hle, he⟩ := ends_str _ false d m (by simpa using h)
      refine .inl ⟨hc, j, hj, by omega, ?_⟩
      rw [List.drop_drop] at he
      simpa using he
    · rename_i h1
      split at h
      · rename_i h2; exact .inr (.inl ⟨h2, by simpa using h⟩)
      · rename_i h2
        split at h
        · rename_i h3
          split at h
          · rename_i h4; exact .inr (.inr (.inl ⟨h3, h4, by omega⟩))
          · rename_i h4; exact .inr (.inr (.inr (.inl ⟨h3, h4, by simpa using h⟩)))
        · rename_i h3
          exact .inr (.inr (.inr (.inr ⟨h1, fun e => h2 (.inl e), fun e => h2 (.inr e), fun e => h3 (.inl e), fun e => h3 (.inr e), by simpa using h⟩)))

theorem send_step (zs : List Int) (k m : Nat) (h : SEnd (zs.drop k) m) (hk : k ≤ zs.length) :
    (k = zs.length ∧ m = 0) ∨ (k < zs.length ∧ isDel (zs.getD k 0) = true ∧ m = 0) ∨ (k < zs.length ∧ isDel (zs.getD k 0) = false ∧ 1 ≤ m ∧ SEnd (zs.drop (k + 1)) (m - 1)) := by
  rcases Nat.lt_or_ge k zs.length with h1 | h1
  · have hg : zs.getD k 0 = zs[k] := by simp [List.getD, h1]
    rw [List.drop_eq_getElem_cons h1] at h
    rw [hg]
    simp only [SEnd] at h
    split at h
    · rename_i h2; exact .inr (.inl ⟨h1, h2, h⟩)
    · rename_i h2
      obtain ⟨j, rfl, hj⟩ := h
      exact .inr (.inr ⟨h1, by simpa using h2, by omega, by simpa using hj⟩)
  · rw [List.drop_eq_nil_of_le h1] at h
    exact .inl ⟨by omega, by simpa [SEnd] using h⟩

/-! ### The writer -/

def escS (l : List Int) : List Int := l.flatMap fun c => if c = 34 ∨ c = 92 then [92, c] else [c]
def encS (l : List Int) : List Int := 34 :: (escS l ++ [34])
def keepC (c : Int) : Bool := !(isDel c || c == 34 || c == 123 || c == 91 || c == 58)
def kept (l : List Int) : List Int := l.filter keepC
def encN (l : List Int) : List Int := if (kept l).length = 0 then [48] else kept l

theorem escS_snoc (l : List Int) (c : Int) : escS (l ++ [c]) = escS l ++ (if c = 34 ∨ c = 92 then [92, c] else [c]) := by simp [escS]
theorem escS_len (l : List Int) : (escS l).length ≤ 2 * l.length := by
  induction l with
  | nil => simp [escS]
  | cons c t ih =>
    have : escS (c :: t) = (if c = 34 ∨ c = 92 then [92, c] else [c]) ++ escS t := by simp [escS]
    rw [this, List.length_append, List.length_cons]
    split <;> simp <;> omega

/-- The members, a comma ahead of each but the first ('first': none has been written yet). -/
def joinA {α : Type} (f : α → List Int) : Bool → List α → List Int
  | _, [] => []
  | first, x :: t => (if first then [] else [44]) ++ f x ++ joinA f false t

theorem joinA_append {α : Type} (f : α → List Int) (l : List α) (x : α) : ∀ first : Bool, joinA f first (l ++ [x]) = joinA f first l ++ (if first && l.isEmpty then [] else [44]) ++ f x := by
  induction l with
  | nil => intro first; cases first <;> simp [joinA]
  | cons y t ih =>
    intro first
    have e := ih false
    rw [List.cons_append]
    simp only [joinA, e]
    simp

/-- The bytes of a string. -/
def byt (s : ByteArray) : List Int := s.data.toList.map fun c => (c.toNat : Int)
theorem byt_len (s : ByteArray) : (byt s).length = s.size := by simp [byt]

structure Jn (α : Type) where
  kind : Int
  key : ByteArray
  text : ByteArray
  items : List α

/-- A JSON value of depth at most n. -/
def JT : Nat → Type
  | 0 => Empty
  | n + 1 => Jn (JT n)

def nodeOf {n : Nat} (t : JT (n + 1)) : Jn (JT n) := t
def keyOf : (n : Nat) → JT n → ByteArray
  | 0, t => nomatch t
  | _ + 1, t => (nodeOf t).key

/-- A member of an array, of an object. -/
def memA (n : Nat) (enc : JT n → List Int) (obj : Bool) (x : JT n) : List Int := if obj then encS (byt (keyOf n x)) ++ [58] ++ enc x else enc x

def encJ (n : Nat) (enc : JT n → List Int) (t : Jn (JT n)) : List Int :=
  if t.kind = 1 then encS (byt t.text)
  else if t.kind = 2 then 91 :: (joinA (memA n enc false) true t.items ++ [93])
  else if t.kind = 3 then 123 :: (joinA (memA n enc true) true t.items ++ [125])
  else encN (byt t.text)

def encV : (n : Nat) → JT n → List Int
  | 0, t => nomatch t
  | n + 1, t => encJ n (encV n) (nodeOf t)

/-! ### What is written is passed -/

/-- The text l, wherever it stands between brackets at depth d, is passed whole, and the depth behind it is d again. -/
def Pass (d : Int) (l : List Int) : Prop := ∀ rest m, Ends 0 d rest m → Ends 0 d (l ++ rest) (l.length + m)

theorem pass_nil (d : Int) : Pass d [] := fun rest m h => by simpa using h
theorem pass_append {d : Int} {a b : List Int} (ha : Pass d a) (hb : Pass d b) : Pass d (a ++ b) := fun rest m h => by
  have := ha _ _ (hb _ _ h)
  rw [List.append_assoc, List.length_append, Nat.add_assoc]
  exact this
theorem pass_one {d : Int} {c : Int} (h1 : c ≠ 34) (h2 : c ≠ 123) (h3 : c ≠ 91) (h4 : c ≠ 125) (h5 : c ≠ 93) : Pass d [c] := fun rest m h => by
  show Ends 0 d (c :: rest) (1 + m)
  rw [Nat.add_comm]
  simp only [Ends, if_neg h1]
  rw [if_neg (by omega), if_neg (by omega)]
  exact h
theorem pass_all {d : Int} : ∀ l : List Int, (∀ c ∈ l, c ≠ 34 ∧ c ≠ 123 ∧ c ≠ 91 ∧ c ≠ 125 ∧ c ≠ 93) → Pass d l
  | [], _ => pass_nil d
  | c :: t, h => by
    have hc := h c (by simp)
    exact pass_append (a := [c]) (pass_one hc.1 hc.2.1 hc.2.2.1 hc.2.2.2.1 hc.2.2.2.2) (pass_all t fun x hx => h x (by simp [hx]))

theorem esc_qend (rest : List Int) : ∀ l : List Int, QEnd false (escS l ++ 34 :: rest) ((escS l).length + 1)
  | [] => by simp [escS, QEnd]
  | c :: t => by
    have e : escS (c :: t) = (if c = 34 ∨ c = 92 then [92, c] else [c]) ++ escS t := by simp [escS]
    rw [e]
    have ih := esc_qend rest t
    split
    · simp only [List.cons_append, List.nil_append, List.length_cons]
      rw [show (escS t).length + 1 + 1 + 1 = ((escS t).length + 1) + 1 + 1 from rfl]
      simp only [QEnd]
      rw [if_neg (by decide), if_pos trivial]
      exact ih
    · rename_i hc
      simp only [List.cons_append, List.nil_append, List.length_cons]
      simp only [QEnd]
      rw [if_neg (fun h => hc (.inl h)), if_neg (fun h => hc (.inr h))]
      exact ih

theorem esc_pass (d : Int) (rest : List Int) (m : Nat) (h : Ends 1 d rest m) : ∀ l : List Int, Ends 1 d (escS l ++ rest) ((escS l).length + m)
  | [] => by simpa [escS] using h
  | c :: t => by
    have e : escS (c :: t) = (if c = 34 ∨ c = 92 then [92, c] else [c]) ++ escS t := by simp [escS]
    rw [e]
    have ih := esc_pass d rest m h t
    split
    · simp only [List.cons_append, List.nil_append, List.length_cons]
      rw [show (escS t).length + 1 + 1 + m = ((escS t).length + m) + 1 + 1 by omega]
      simp only [Ends]
      rw [if_neg (by decide), if_pos trivial]
      exact ih
    · rename_i hc
      simp only [List.cons_append, List.nil_append, List.length_cons]
      rw [show (escS t).length + 1 + m = ((escS t).length + m) + 1 by omega]
      simp only [Ends]
      rw [if_neg (fun h => hc (.inl h)), if_neg (fun h => hc (.inr h))]
      exact ih

theorem pass_encS (d : Int) (l : List Int) : Pass d (encS l) := fun rest m h => by
  have h1 : Ends 1 d ([34] ++ rest) (1 + m) := by
    rw [Nat.add_comm]
    simp only [List.cons_append, List.nil_append, Ends, if_true]
    exact h
  have h2 := esc_pass d ([34] ++ rest) (1 + m) h1 l
  unfold encS
  simp only [List.cons_append, List.append_assoc, List.nil_append, List.length_cons, List.length_append, List.length_nil] at h2 ⊢
  rw [show (escS l).length + (0 + 1) + 1 + m = ((escS l).length + (1 + m)) + 1 by omega]
  simp only [Ends, if_true]
  exact h2

theorem isDel_false {c : Int} (h : isDel c = false) : c ≠ 44 ∧ c ≠ 93 ∧ c ≠ 125 ∧ c ≠ 32 ∧ c ≠ 9 ∧ c ≠ 13 ∧ c ≠ 10 := by
  simp [isDel] at h
  omega
theorem keepC_true {c : Int} (h : keepC c = true) : isDel c = false ∧ c ≠ 34 ∧ c ≠ 123 ∧ c ≠ 91 ∧ c ≠ 58 := by
  simp [keepC] at h
  exact ⟨h.1.1.1.1, h.1.1.1.2, h.1.1.2, h.1.2, h.2⟩

theorem encN_keep (l : List Int) : ∀ c ∈ encN l, isDel c = false ∧ c ≠ 34 ∧ c ≠ 123 ∧ c ≠ 91 := by
  intro c hc
  unfold encN at hc
  split at hc
  · simp at hc; subst hc; decide
  · have := keepC_true (List.mem_filter.1 hc).2
    exact ⟨this.1, this.2.1, this.2.2.1, this.2.2.2.1⟩
theorem encN_ne (l : List Int) : encN l ≠ [] := by
  unfold encN
  split
  · simp
  · rename_i h; intro e; rw [e] at h; simp at h

theorem pass_encN (d : Int) (l : List Int) : Pass d (encN l) := pass_all _ fun c hc => by
  have h := encN_keep l c hc
  have h' := isDel_false h.1
  exact ⟨h.2.1, h.2.2.1, h.2.2.2, h'.2.2.1, h'.2.1⟩

theorem pass_joinA {α : Type} {d : Int} (f : α → List Int) : ∀ (l : List α) (first : Bool), (∀ x ∈ l, Pass d (f x)) → Pass d (joinA f first l)
  | [], first, _ => by simpa [joinA] using pass_nil d
  | x :: t, first, h => by
    have h2 := pass_joinA f t false fun y hy => h y (by simp [hy])
    have h1 : Pass d (if first then [] else [44]) := by
      split
      · exact pass_nil d
      · exact pass_one (by decide) (by decide) (by decide) (by decide) (by decide)
    exact pass_append (pass_append h1 (h x (by simp))) h2

theorem pass_box {d : Int} (hd : 1 ≤ d) (o c : Int) (ho : o = 123 ∨ o = 91) (hc : c = 125 ∨ c = 93) (l : List Int) (h : Pass (d + 1) l) : Pass d (o :: (l ++ [c])) := fun rest m hr => by
  have h1 : Ends 0 (d + 1) ([c] ++ rest) (1 + m) := by
    rw [Nat.add_comm]
    simp only [List.cons_append, List.nil_append, Ends]
    rw [if_neg (by omega), if_neg (by omega), if_pos hc, if_neg (by omega), show d + 1 - 1 = d by omega]
    exact hr
  have h2 := h _ _ h1
  simp only [List.cons_append, List.append_assoc, List.nil_append, List.length_cons, List.length_append, List.length_nil] at h2 ⊢
  rw [show l.length + (0 + 1) + 1 + m = (l.length + (1 + m)) + 1 by omega]
  simp only [Ends]
  rw [if_neg (by omega), if_pos ho]
  exact h2

theorem pass_memA {d : Int} (n : Nat) (enc : JT n → List Int) (obj : Bool) (x : JT n) (h : Pass d (enc x)) : Pass d (memA n enc obj x) := by
  unfold memA
  split
  · exact pass_append (pass_append (pass_encS d _) (pass_one (by decide) (by decide) (by decide) (by decide) (by decide))) h
  · exact h

theorem pass_encV : ∀ (n : Nat) (t : JT n) (d : Int), 1 ≤ d → Pass d (encV n t)
  | 0, t, _, _ => nomatch t
  | n + 1, t, d, hd => by
    show Pass d (encJ n (encV n) (nodeOf t))
    unfold encJ
    split
    · exact pass_encS d _
    · split
      · exact pass_box hd 91 93 (.inr rfl) (.inr rfl) _ (pass_joinA _ _ _ fun x _ => pass_memA n _ _ x (pass_encV n x (d + 1) (by omega)))
      · split
        · exact pass_box hd 123 125 (.inl rfl) (.inl rfl) _ (pass_joinA _ _ _ fun x _ => pass_memA n _ _ x (pass_encV n x (d + 1) (by omega)))
        · exact pass_encN d _

theorem ends_box (o c : Int) (ho : o = 123 ∨ o = 91) (hc : c = 125 ∨ c = 93) (l rest : List Int) (h : Pass 1 l) : Ends 0 0 (o :: (l ++ [c]) ++ rest) (o :: (l ++ [c])).length := by
  have h1 : Ends 0 1 ([c] ++ rest) 1 := by
    simp only [List.cons_append, List.nil_append, Ends]
    rw [if_neg (by omega), if_neg (by omega), if_pos hc, if_pos trivial]
    trivial
  have h2 := h _ _ h1
  simp only [List.cons_append, List.append_assoc, List.nil_append, List.length_cons, List.length_append, List.length_nil] at h2 ⊢
  rw [show l.length + (0 + 1) + 1 = (l.length + 1) + 1 by omega]
  simp only [Ends]
  rw [if_neg (by omega), if_pos ho]
  simpa using h2

theorem send_all (rest : List Int) (hr : rest = [] ∨ ∃ c t, rest = c :: t ∧ isDel c = true) : ∀ l : List Int, (∀ c ∈ l, isDel c = false) → SEnd (l ++ rest) l.length
  | [], _ => by
    rcases hr with rfl | ⟨c, t, rfl, hc⟩
    · simp [SEnd]
    · simp [SEnd, hc]
  | c :: t, h => by
    have ih := send_all rest hr t fun x hx => h x (by simp [hx])
    simp only [List.cons_append, List.length_cons, SEnd]
    rw [if_neg (by rw [h c (by simp)]; decide)]
    exact ⟨_, rfl, ih⟩

theorem vend_encS (l rest : List Int) : VEnd (encS l ++ rest) (encS l).length := by
  have := esc_qend rest l
  unfold encS
  simp only [List.cons_append, List.append_assoc, List.nil_append, List.length_cons, List.length_append, List.length_nil, VEnd, if_true]
  exact ⟨_, rfl, this⟩

theorem vend_box (o c : Int) (ho : o = 123 ∨ o = 91) (hc : c = 125 ∨ c = 93) (l rest : List Int) (h : Pass 1 l) : VEnd (o :: (l ++ [c]) ++ rest) (o :: (l ++ [c])).length := by
  have := ends_box o c ho hc l rest h
  rw [List.cons_append] at this ⊢
  simp only [VEnd]
  rw [if_neg (by omega), if_pos ho]
  exact this

/-- THE LAW: behind the text of a value the value ends, whatever follows a string, an array, an object; where it is a scalar a delimiter, or nothing, follows. -/
theorem vend_encV (n : Nat) (t : JT (n + 1)) (rest : List Int) (hr : (nodeOf t).kind = 1 ∨ (nodeOf t).kind = 2 ∨ (nodeOf t).kind = 3 ∨ rest = [] ∨ ∃ c u, rest = c :: u ∧ isDel c = true) : VEnd (encV (n + 1) t ++ rest) (encV (n + 1) t).length := by
  have hp : ∀ obj, Pass 1 (joinA (memA n (encV n) obj) true (nodeOf t).items) := fun obj => pass_joinA _ _ _ fun x _ => pass_memA n _ _ x (pass_encV n x 1 (by omega))
  show VEnd (encJ n (encV n) (nodeOf t) ++ rest) (encJ n (encV n) (nodeOf t)).length
  unfold encJ
  split
  · exact vend_encS _ _
  · split
    · exact vend_box 91 93 (.inr rfl) (.inr rfl) _ _ (hp false)
    · split
      · exact vend_box 123 125 (.inl rfl) (.inl rfl) _ _ (hp true)
      · rename_i h1 h2 h3
        have hr' : rest = [] ∨ ∃ c u, rest = c :: u ∧ isDel c = true := by
          rcases hr with h | h | h | h
          · exact absurd h h1
          · exact absurd h h2
          · exact absurd h h3
          · exact h
        have hs := send_all rest hr' (encN (byt (nodeOf t).text)) fun c hc => (encN_keep _ c hc).1
        cases he : encN (byt (nodeOf t).text) with
        | nil => exact absurd he (encN_ne _)
        | cons c u =>
          have hk := encN_keep (byt (nodeOf t).text) c (by rw [he]; simp)
          rw [he] at hs
          rw [List.cons_append] at hs ⊢
          simp only [VEnd]
          rw [if_neg hk.2.1, if_neg (by omega)]
          exact hs

/-! ### The count that the guard makes -/

def jvL {α : Type} (f : α → Int → Int) : List α → Int → Int → Int
  | [], acc, _ => acc
  | x :: t, acc, b => if f x (b - acc) < 0 then -1 else jvL f t (acc + f x (b - acc)) b

def jvJ (n : Nat) (f : JT n → Int → Int) (t : Jn (JT n)) (b : Int) : Int :=
  if b < 0 ∨ b < t.key.size then -1
  else if b - t.key.size < t.text.size then -1
  else if (b - (t.key.size + t.text.size)) / 64 < t.items.length then -1
  else jvL f t.items (t.key.size + t.text.size + 64 * t.items.length) b

def jvB : (n : Nat) → JT n → Int → Int
  | 0, t, _ => nomatch t
  | n + 1, t, b => jvJ n (jvB n) (nodeOf t) b

theorem jvL_ge {α : Type} (f : α → Int → Int) (g : α → Nat) (b : Int) : ∀ (l : List α) (acc : Int), (∀ x ∈ l, ∀ c, 0 ≤ f x c → (g x : Int) ≤ f x c ∧ f x c ≤ c) → 0 ≤ acc → acc ≤ b → 0 ≤ jvL f l acc b →
    acc + ((l.map g).sum : Nat) ≤ jvL f l acc b ∧ jvL f l acc b ≤ b
  | [], acc, _, _, hb, _ => by simp [jvL]; exact hb
  | x :: t, acc, h, ha, hb, h0 => by
    simp only [jvL] at h0 ⊢
    split at h0
    · omega
    · rename_i hx
      rw [if_neg hx]
      have h1 := h x (by simp) (b - acc) (by omega)
      have h2 := jvL_ge f g b t (acc + f x (b - acc)) (fun y hy => h y (by simp [hy])) (by omega) (by omega) h0
      simp only [List.map_cons, List.sum_cons]
      omega

theorem joinA_len {α : Type} (f : α → List Int) : ∀ (l : List α) (first : Bool), (joinA f first l).length ≤ (l.map fun x => (f x).length + 1).sum
  | [], _ => by simp [joinA]
  | x :: t, first => by
    have := joinA_len f t false
    simp only [joinA, List.length_append, List.map_cons, List.sum_cons]
    split <;> simp <;> omega

theorem encS_len (l : List Int) : (encS l).length ≤ 2 * l.length + 2 := by
  have := escS_len l
  simp [encS]; omega
theorem encN_len (l : List Int) : (encN l).length ≤ l.length + 1 := by
  unfold encN kept
  have := List.length_filter_le keepC l
  split <;> simp <;> omega

theorem sum_le {α : Type} (f g : α → Nat) : ∀ l : List α, (∀ x ∈ l, f x ≤ g x) → (l.map f).sum ≤ (l.map g).sum
  | [], _ => by simp
  | x :: t, h => by
    have := sum_le f g t fun y hy => h y (by simp [hy])
    have := h x (by simp)
    simp only [List.map_cons, List.sum_cons]; omega
theorem sum_half {α : Type} (f : α → Nat) : ∀ l : List α, (l.map fun x => 2 * f x + 6).sum = 2 * (l.map f).sum + 6 * l.length
  | [] => by simp
  | x :: t => by
    have := sum_half f t
    simp only [List.map_cons, List.sum_cons, List.length_cons]; omega

/-- What a value weighs. -/
def wt : (n : Nat) → JT n → Nat
  | 0, t => nomatch t
  | n + 1, t => (nodeOf t).key.size + (nodeOf t).text.size + 64 * (nodeOf t).items.length + ((nodeOf t).items.map (wt n)).sum

theorem encV_len : ∀ (n : Nat) (t : JT n), (encV n t).length + 2 * (keyOf n t).size ≤ 2 * wt n t + 2
  | 0, t => nomatch t
  | n + 1, t => by
    have hj : ∀ obj, (joinA (memA n (encV n) obj) true (nodeOf t).items).length ≤ 2 * ((nodeOf t).items.map (wt n)).sum + 6 * (nodeOf t).items.length := fun obj => by
      refine Nat.le_trans (joinA_len _ _ _) ?_
      rw [← sum_half]
      refine sum_le _ _ _ fun x _ => ?_
      have := encV_len n x
      have h2 := encS_len (byt (keyOf n x))
      rw [byt_len] at h2
      unfold memA
      split
      · simp only [List.length_append, List.length_cons, List.length_nil]; omega
      · omega
    have e : encV (n + 1) t = encJ n (encV n) (nodeOf t) := rfl
    have ek : keyOf (n + 1) t = (nodeOf t).key := rfl
    have ew : wt (n + 1) t = (nodeOf t).key.size + (nodeOf t).text.size + 64 * (nodeOf t).items.length + ((nodeOf t).items.map (wt n)).sum := rfl
    rw [e, ek, ew]
    have h1 := hj false
    have h2 := hj true
    have h3 := encS_len (byt (nodeOf t).text)
    have h4 := encN_len (byt (nodeOf t).text)
    rw [byt_len] at h3 h4
    unfold encJ
    split
    · omega
    · split
      · simp only [List.length_cons, List.length_append, List.length_nil]; omega
      · split
        · simp only [List.length_cons, List.length_append, List.length_nil]; omega
        · omega

theorem jvB_ge : ∀ (n : Nat) (t : JT n) (b : Int), 0 ≤ jvB n t b → (wt n t : Int) ≤ jvB n t b ∧ jvB n t b ≤ b
  | 0, t, _, _ => nomatch t
  | n + 1, t, b, h => by
    have e : jvB (n + 1) t b = jvJ n (jvB n) (nodeOf t) b := rfl
    have ew : wt (n + 1) t = (nodeOf t).key.size + (nodeOf t).text.size + 64 * (nodeOf t).items.length + ((nodeOf t).items.map (wt n)).sum := rfl
    rw [e] at h ⊢
    rw [ew]
    unfold jvJ at h ⊢
    split at h
    · omega
    · rename_i h1
      rw [if_neg h1]
      split at h
      · omega
      · rename_i h2
        rw [if_neg h2]
        split at h
        · omega
        · rename_i h3
          rw [if_neg h3]
          have := jvL_ge (jvB n) (wt n) b (nodeOf t).items _ (fun x _ c hc => jvB_ge n x c hc) (by omega) (by omega) h
          omega

end Go.Proofs.Qxb6001451a.Pl
