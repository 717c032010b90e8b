/-
  THE PLAIN MATHEMATICS OF LAW 6 (seat b6600962a): what a writer of values leaves behind, seen by the reader. Brackets' kinds do not matter to the reader, their depth does.
-/
import Derived.Test.Qxb6600962aPlain
namespace Go.Proofs.Qxb6600962a.Pl

/-- The text l takes the reader from depth d to depth e. -/
def Pas (l : List Int) (d e : Int) : Prop := ∀ rest m, Ends 0 e rest m → Ends 0 d (l ++ rest) (l.length + m)

theorem pas_nil (d : Int) : Pas [] d d := fun rest m h => by simpa using h
theorem pas_append {l l' : List Int} {d e f : Int} (h : Pas l d e) (h' : Pas l' e f) : Pas (l ++ l') d f := fun rest m hm => by
  have := h (l' ++ rest) _ (h' rest m hm)
  rw [List.append_assoc, List.length_append, Nat.add_assoc]
  exact this
theorem pas_open {c : Int} (hc : c = 123 ∨ c = 91) (d : Int) : Pas [c] d (d + 1) := fun rest m h => by
  have h34 : ¬ c = 34 := by omega
  simp only [List.singleton_append, List.length_singleton, Nat.add_comm 1 m, Ends]
  rw [if_neg h34, if_pos hc]
  exact h
theorem pas_close {c : Int} (hc : c = 125 ∨ c = 93) (d : Int) (hd : d ≠ 1) : Pas [c] d (d - 1) := fun rest m h => by
  have h34 : ¬ c = 34 := by omega
  have hb : ¬ (c = 123 ∨ c = 91) := by omega
  simp only [List.singleton_append, List.length_singleton, Nat.add_comm 1 m, Ends]
  rw [if_neg h34, if_neg hb, if_pos hc, if_neg hd]
  exact h
theorem pas_one {c : Int} (h1 : c ≠ 34) (h2 : c ≠ 123) (h3 : c ≠ 91) (h4 : c ≠ 125) (h5 : c ≠ 93) (d : Int) : Pas [c] d d := fun rest m h => by
  have hb : ¬ (c = 123 ∨ c = 91) := by omega
  have hb' : ¬ (c = 125 ∨ c = 93) := by omega
  simp only [List.singleton_append, List.length_singleton, Nat.add_comm 1 m, Ends]
  rw [if_neg h1, if_neg hb, if_neg hb']
  exact h
theorem pas_all (d : Int) : ∀ (l : List Int), (∀ c ∈ l, c ≠ 34 ∧ c ≠ 123 ∧ c ≠ 91 ∧ c ≠ 125 ∧ c ≠ 93) → Pas l d d
  | [], _ => pas_nil d
  | c :: t, h => by
    have h1 := h c (by simp)
    exact pas_append (l := [c]) (pas_one h1.1 h1.2.1 h1.2.2.1 h1.2.2.2.1 h1.2.2.2.2 d) (pas_all d t fun x hx => h x (by simp [hx]))

/-- A string that the writer wrote. -/
def Str (p : List Int) : Prop := (∀ d, Pas p d d) ∧ (∃ u, p = 34 :: u ∧ ∀ rest, QEnd false (u ++ rest) u.length) ∧ ∀ c ∈ p, 0 ≤ c ∧ c ≤ 255

theorem ends_of_qend : ∀ (l : List Int) (e : Bool) (j : Nat) (d : Int) (m : Nat), QEnd e l j → Ends 0 d (l.drop j) m → Ends (if e then 2 else 1) d l (j + m) := by
  intro l
  induction l with
  | nil => intro e j d m h; simp [QEnd] at h
  | cons c t ih =>
    intro e j d m h he
    cases j with
    | zero => simp [QEnd] at h
    | succ j =>
      rw [show j + 1 + m = (j + m) + 1 by omega]
      cases e with
      | true =>
        simp only [QEnd] at h
        simp only [if_true, Ends]
        have := ih false j d m h (by simpa using he)
        simpa using this
      | false =>
        simp only [QEnd] at h
        simp only [Bool.false_eq_true, if_false, Ends]
        split at h
        · rename_i hc
          rw [if_pos hc]
          subst h
          simpa using he
        · rename_i hc
          rw [if_neg hc]
          split at h
          · rename_i hb
            rw [if_pos hb]
            have := ih true j d m h (by simpa using he)
            simpa using this
          · rename_i hb
            rw [if_neg hb]
            have := ih false j d m h (by simpa using he)
            simpa using this

theorem str_of (u : List Int) (h : ∀ rest, QEnd false (u ++ rest) u.length) (hb : ∀ c ∈ u, 0 ≤ c ∧ c ≤ 255) : Str (34 :: u) := by
  refine ⟨fun d rest m hm => ?_, ⟨u, rfl, h⟩, fun c hc => ?_⟩
  · have := ends_of_qend (u ++ rest) false u.length d m (h rest) (by simpa using hm)
    simp only [List.cons_append, List.length_cons]
    rw [show u.length + 1 + m = (u.length + m) + 1 by omega]
    simp only [Ends, if_true]
    simpa using this
  · rcases List.mem_cons.1 hc with rfl | hc
    · omega
    · exact hb c hc

theorem str0 : Str [34, 34] := str_of [34] (fun rest => by simp [QEnd]) (by simp)
theorem str1 : Str [34, 97, 34] := str_of [97, 34] (fun rest => by simp [QEnd]) (by simp)
theorem str2 : Str [34, 92, 34, 34] := str_of [92, 34, 34] (fun rest => by simp [QEnd]) (by simp)
theorem str3 : Str [34, 92, 92, 34] := str_of [92, 92, 34] (fun rest => by simp [QEnd]) (by simp)
theorem str4 : Str [34, 123, 91, 34] := str_of [123, 91, 34] (fun rest => by simp [QEnd]) (by simp)
theorem str5 : Str [34, 93, 125, 34] := str_of [93, 125, 34] (fun rest => by simp [QEnd]) (by simp)
theorem str6 : Str [34, 92, 92, 92, 34, 120, 34] := str_of [92, 92, 92, 34, 120, 34] (fun rest => by simp [QEnd]) (by simp)
theorem str7 : Str [34, 44, 32, 58, 34] := str_of [44, 32, 58, 34] (fun rest => by simp [QEnd]) (by simp)

/-- The text V is a value; where t holds it is one only ahead of a delimiter. -/
def Good (V : List Int) (t : Bool) : Prop := ∀ rest, (t = true → ∃ c u, rest = c :: u ∧ isDel c = true) → VEnd (V ++ rest) V.length
/-- The text o begins with a bracket and has come to depth k. -/
def Box (o : List Int) (k : Nat) : Prop := (∃ c u, o = c :: u ∧ (c = 123 ∨ c = 91)) ∧ Pas o 0 (k : Int)

theorem Str.good {p : List Int} (h : Str p) : Good p false := by
  obtain ⟨_, ⟨u, rfl, hq⟩, _⟩ := h
  intro rest _
  simp only [List.cons_append, VEnd, if_true]
  exact ⟨u.length, rfl, hq rest⟩
theorem send_lit : ∀ (l : List Int) (rest : List Int), (∀ c ∈ l, isDel c = false) → (∃ c u, rest = c :: u ∧ isDel c = true) → SEnd (l ++ rest) l.length
  | [], rest, _, ⟨c, u, h, hd⟩ => by subst h; simp [SEnd, hd]
  | c :: t, rest, h, hr => by
    have h1 := h c (by simp)
    simp only [List.cons_append, SEnd]
    rw [if_neg (by simp [h1])]
    exact ⟨t.length, rfl, send_lit t rest (fun x hx => h x (by simp [hx])) hr⟩
theorem lit_good (c : Int) (t : List Int) (h1 : c ≠ 34) (h2 : c ≠ 123) (h3 : c ≠ 91) (h : ∀ x ∈ c :: t, isDel x = false) : Good (c :: t) true := by
  intro rest hr
  have := send_lit (c :: t) rest h (hr rfl)
  simp only [List.cons_append] at this ⊢
  simp only [VEnd]
  rw [if_neg h1, if_neg (by omega)]
  exact this
theorem good_num : Good [45, 49, 50, 46, 53, 101, 51] true := lit_good _ _ (by decide) (by decide) (by decide) (by decide)
theorem good_true : Good [116, 114, 117, 101] true := lit_good _ _ (by decide) (by decide) (by decide) (by decide)
theorem good_false : Good [102, 97, 108, 115, 101] true := lit_good _ _ (by decide) (by decide) (by decide) (by decide)
theorem good_null : Good [110, 117, 108, 108] true := lit_good _ _ (by decide) (by decide) (by decide) (by decide)

theorem box_new {c : Int} (hc : c = 123 ∨ c = 91) : Box [c] 1 := ⟨⟨c, [], rfl, hc⟩, pas_open hc 0⟩
theorem Box.add {o p : List Int} {k : Nat} (h : Box o k) (hp : Pas p (k : Int) (k : Int)) : Box (o ++ p) k := by
  obtain ⟨⟨c, u, rfl, hc⟩, h2⟩ := h
  exact ⟨⟨c, u ++ p, rfl, hc⟩, pas_append h2 hp⟩
theorem Box.opens {o : List Int} {k : Nat} (h : Box o k) {c : Int} (hc : c = 123 ∨ c = 91) : Box (o ++ [c]) (k + 1) := by
  obtain ⟨⟨c', u, rfl, hc'⟩, h2⟩ := h
  refine ⟨⟨c', u ++ [c], rfl, hc'⟩, pas_append h2 ?_⟩
  have := pas_open hc (k : Int)
  simpa using this
theorem Box.closes {o : List Int} {k : Nat} (h : Box o (k + 1)) {c : Int} (hc : c = 125 ∨ c = 93) (hk : 1 ≤ k) : Box (o ++ [c]) k := by
  obtain ⟨⟨c', u, rfl, hc'⟩, h2⟩ := h
  refine ⟨⟨c', u ++ [c], rfl, hc'⟩, pas_append h2 ?_⟩
  have := pas_close hc ((k + 1 : Nat) : Int) (by omega)
  rw [show ((k + 1 : Nat) : Int) - 1 = (k : Int) by omega] at this
  exact this
theorem Box.last {o : List Int} (h : Box o 1) {c : Int} (hc : c = 125 ∨ c = 93) : Good (o ++ [c]) false := by
  obtain ⟨⟨c', u, rfl, hc'⟩, h2⟩ := h
  intro rest _
  have h3 : Ends 0 (1 : Int) (c :: rest) 1 := by
    simp only [Ends]
    rw [if_neg (by omega), if_neg (by omega), if_pos hc]
    simp
  have := h2 (c :: rest) 1 (by simpa using h3)
  simp only [List.cons_append, List.append_assoc, List.nil_append, List.length_cons, List.length_append, List.length_nil] at this ⊢
  simp only [VEnd]
  rw [if_neg (by omega), if_pos hc']
  exact this

/-- What the writer's main loop keeps. -/
def Inv (o : List Int) (k : Nat) (s t : Bool) : Prop :=
  (s = false ∧ o = [] ∧ k = 0) ∨ (s = true ∧ 1 ≤ k ∧ t = false ∧ Box o k) ∨ (s = true ∧ k = 0 ∧ Good o t)

theorem Inv.close {o : List Int} {k : Nat} {s t : Bool} (h : Inv o (k + 1) s t) {c : Int} (hc : c = 125 ∨ c = 93) : Inv (o ++ [c]) k true false := by
  rcases h with ⟨_, _, h⟩ | ⟨_, _, _, h⟩ | ⟨_, h, _⟩
  · omega
  · cases k with
    | zero => exact .inr (.inr ⟨rfl, rfl, h.last hc⟩)
    | succ k => exact .inr (.inl ⟨rfl, by omega, rfl, h.closes hc (by omega)⟩)
  · omega
theorem Inv.flags {o : List Int} {k : Nat} {s t : Bool} (h : Inv o (k + 1) s t) : s = true ∧ t = false ∧ Box o (k + 1) := by
  rcases h with ⟨_, _, h⟩ | ⟨h1, _, h2, h⟩ | ⟨_, h, _⟩
  · omega
  · exact ⟨h1, h2, h⟩
  · omega
theorem pas_num (d : Int) : Pas [45, 49, 50, 46, 53, 101, 51] d d := pas_all d _ (by decide)
theorem pas_true (d : Int) : Pas [116, 114, 117, 101] d d := pas_all d _ (by decide)
theorem pas_false (d : Int) : Pas [102, 97, 108, 115, 101] d d := pas_all d _ (by decide)
theorem pas_null (d : Int) : Pas [110, 117, 108, 108] d d := pas_all d _ (by decide)
theorem pas_44 (d : Int) : Pas [44] d d := pas_all d _ (by decide)
theorem pas_58 (d : Int) : Pas [58] d d := pas_all d _ (by decide)
end Go.Proofs.Qxb6600962a.Pl
