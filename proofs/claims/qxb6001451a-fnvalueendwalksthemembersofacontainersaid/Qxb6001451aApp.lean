/-
  THE WALKS OF THE WRITER (seat b6001451a), part 1: appendString, appendScalar: bytes appended to a row that the call itself made.
-/
import Derived.Test.Qxb6001451aEnd2
namespace Go.Proofs.Qxb6001451a
open Go.RowKit

theorem info5 : (Try.prog.info? 5).map (fun i => (i.zero, i.size, i.bytes)) = some (some (.int .u8 0), 1, 1) := by kernel_rfl

/-- The slice v is the call's own (nil, or at the head of a row from block base on) and holds the bytes bs. -/
def Own (base : Nat) (w : World) (v : Value) (bs : List Int) : Prop := w.ownsRow base 5 1 v bs.length (bs.map (Value.int .u8))

/-- From w to w' nothing has turned but rows of bytes from block base on. -/
structure Kp (base : Nat) (w w' : World) : Prop where
  os : w'.os = w.os
  tape : w'.tape = w.tape
  output : w'.output = w.output
  size : w.heap.size ≤ w'.heap.size
  block : ∀ k, k < w.heap.size → (k < base ∨ ∀ cur, w.heap[k]? ≠ some (.cells cur 5 (0, 0))) → w'.heap[k]? = w.heap[k]?

theorem Kp.refl (base : Nat) (w : World) : Kp base w w := ⟨rfl, rfl, rfl, Nat.le_refl _, fun _ _ _ => rfl⟩
theorem Kp.trans {base : Nat} {a b c : World} (h : Kp base a b) (k : Kp base b c) : Kp base a c :=
  ⟨k.os.trans h.os, k.tape.trans h.tape, k.output.trans h.output, Nat.le_trans h.size k.size, fun j hj hc => by
    have e := h.block j hj hc
    refine (k.block j (Nat.lt_of_lt_of_le hj h.size) ?_).trans e
    rw [e]
    exact hc⟩
theorem Kp.alloc {base : Nat} {a w : World} (h : Kp base a w) (o : Obj) : Kp base a (w.alloc o) :=
  h.trans ⟨rfl, rfl, rfl, by simp, fun k hk _ => Below.heap_alloc w o k hk⟩
theorem Kp.below {base : Nat} {w w' : World} (h : Kp base w w') (hb : base ≤ w.heap.size) : Below base w w' :=
  ⟨h.os, h.tape, h.output, h.size, fun k hk => h.block k (by omega) (.inl hk)⟩
theorem Kp.grown {base n : Nat} {xs : List Value} {v : Value} {w w' : World} (ho : w.ownsRow base 5 1 v n xs) (hg : w.grownBy w' v.ownBlock) : Kp base w w' :=
  ⟨hg.os, hg.tape, hg.output, hg.size, fun k hk hc => hg.block k hk fun e => by
    rcases ho.2 with ⟨rfl, _⟩ | ⟨g, cap, cur, rfl, hb, hh, _⟩
    · simp [Value.ownBlock] at e
    · simp only [Value.ownBlock, Option.some.injEq] at e
      subst e
      rcases hc with hc | hc
      · omega
      · exact hc _ hh⟩
theorem Kp.lower {base base' : Nat} {w w' : World} (h : Kp base w w') (hb : base' ≤ base) : Kp base' w w' :=
  ⟨h.os, h.tape, h.output, h.size, fun k hk hc => h.block k hk (hc.elim (fun x => .inl (by omega)) .inr)⟩

theorem Own.alloc {base : Nat} {w : World} {v : Value} {bs : List Int} (h : Own base w v bs) (o : Obj) : Own base (w.alloc o) v bs := World.ownsRow.alloc h o
theorem Own.nil (base : Nat) (w : World) : Own base w (.slice none 0 0) [] := World.ownsRow_nil w base 5 1

/-- ONE BYTE APPENDED ('dst = append(dst, c)'). -/
theorem app1 (w : World) {ops : Array Oper} {rest : List Oper} {o : Oper} {a : Act} {Q : Exit → Act → World → Prop} (hgd : o.guard = none) (s x : Operand)
    (ho : o.op = .call { callee := .builtin .append, args := #[s, x], argTypes := #[50, 50] })
    (base : Nat) (v : Value) (bs : List Int) (c : Int) (hs : a.eval s = v) (hown : Own base w v bs)
    (hx : a.eval x = .slice (some ⟨w.heap.size, 0, none⟩) 1 1) (hsz : bs.length + 1 ≤ 140737488355328) (hb : base ≤ w.heap.size)
    (h : ∀ v' w', Own base w' v' (bs ++ [c]) → Kp base w w' → wpList Try.prog ops Q rest (a.put o.dst v') w') :
    wpList Try.prog ops Q (o :: rest) a (w.alloc (.cells #[.int .u8 c] 5)) := by
  obtain ⟨i0, hi, hz0, hz1, hz2⟩ := info_parts info5
  refine wpList_append_own _ hgd s x 50 ho base 5 i0 (.int .u8 0) 1 1 Try.underlying50 hi hz0 hz1 hz2 rfl (by decide) v _ _ hs (World.ownsRow.alloc hown _) ⟨w.heap.size, 0, none⟩ 1 1 [.int .u8 c] hx rfl (cell_one_new _ _ _) (by intro u hu; simp at hu; subst hu; rfl) (by unfold maxLen; omega) (by omega) (by simp; omega) ?_
  intro v' w' h1 h2 _
  refine h v' w' ?_ (((Kp.refl base w).alloc _).trans (Kp.grown (World.ownsRow.alloc hown _) h2))
  unfold Own
  simpa using h1

/-- .. where the new byte's block is spelt otherwise than by the heap's size. -/
theorem app1' (w : World) {ops : Array Oper} {rest : List Oper} {o : Oper} {a : Act} {Q : Exit → Act → World → Prop} (hgd : o.guard = none) (s x : Operand)
    (ho : o.op = .call { callee := .builtin .append, args := #[s, x], argTypes := #[50, 50] })
    (base : Nat) (v : Value) (bs : List Int) (c : Int) (hs : a.eval s = v) (hown : Own base w v bs) (g : Nat)
    (hx : a.eval x = .slice (some ⟨g, 0, none⟩) 1 1) (hg : g = w.heap.size) (hsz : bs.length + 1 ≤ 140737488355328) (hb : base ≤ w.heap.size)
    (h : ∀ v' w', Own base w' v' (bs ++ [c]) → Kp base w w' → wpList Try.prog ops Q rest (a.put o.dst v') w') :
    wpList Try.prog ops Q (o :: rest) a (w.alloc (.cells #[.int .u8 c] 5)) := by
  subst hg
  exact app1 w hgd s x ho base v bs c hs hown hx hsz hb h

theorem byt_at (s : ByteArray) (k : Nat) (h : k < s.size) : (Pl.byt s).take (k + 1) = (Pl.byt s).take k ++ [(s[k].toNat : Int)] := by
  rw [List.take_succ_eq_append_getElem (by rw [Pl.byt_len]; exact h)]
  congr 2
  simp [Pl.byt]
  rfl

theorem esc_at (s : ByteArray) (k : Nat) (h : k < s.size) : Pl.escS ((Pl.byt s).take (k + 1)) = Pl.escS ((Pl.byt s).take k) ++ (if (s[k].toNat : Int) = 34 ∨ (s[k].toNat : Int) = 92 then [92, (s[k].toNat : Int)] else [(s[k].toNat : Int)]) := by
  rw [byt_at s k h, Pl.escS_snoc]

theorem esc_take_len (s : ByteArray) (k : Nat) : (Pl.escS ((Pl.byt s).take k)).length ≤ 2 * k := by
  have := Pl.escS_len ((Pl.byt s).take k)
  have h2 : ((Pl.byt s).take k).length ≤ k := List.length_take_le _ _
  omega

set_option maxHeartbeats 1000000 in
theorem appendString_any (base : Nat) (v : Value) (bs : List Int) (s : ByteArray) (w : World) (hown : Own base w v bs) (hb : base ≤ w.heap.size) (hsz : bs.length + 2 * s.size + 2 ≤ 140737488355328) :
    Calls Try.prog 29 #[v, .string s] w fun e w' => ∃ v', e = .returned v' ∧ Own base w' v' (bs ++ Pl.encS (Pl.byt s)) ∧ Kp base w w' := by
  go_enter Try.func29, Try.ntmps29
  go_wp2_with (at_builtin; refine app1 _ rfl (.tmp 7) (.tmp 8) rfl base _ bs 34 rfl hown rfl (by omega) hb ?_)
  intro v1 w1 hown1 hk1
  clear hown
  go_wp2_with fail
  go_loopw [0, 5] (fun t i wr => ∃ k : Nat, k ≤ s.size ∧ i = .int .i64 k ∧ Own base wr t (bs ++ [34] ++ Pl.escS ((Pl.byt s).take k)) ∧ Kp base w wr) (fun _ i _ => s.size - (intOf i).toNat)
  case atStart => exact ⟨0, Nat.zero_le _, rfl, by simpa [Pl.escS] using hown1, hk1⟩
  case round =>
    obtain ⟨k, hk, rfl, hown, hkr⟩ := hrel
    clear hown1 hk1
    have hbr : base ≤ wr.heap.size := Nat.le_trans hb hkr.size
    have hel := esc_take_len s k
    by_cases hlt : k < s.size
    · have HX := mkHid (esc_at s k hlt)
      obtain ⟨c, hc⟩ : ∃ c : Int, c = (s[k].toNat : Int) := ⟨_, rfl⟩
      rw [← hc] at HX
      have HC := mkHid hc
      have hlt' : ((k : Nat) : Int) < (s.size : Int) := by omega
      by_cases h1 : c = 34 ∨ c = 92
      · have HX' := mkHid (show Pl.escS ((Pl.byt s).take (k + 1)) = Pl.escS ((Pl.byt s).take k) ++ [92, c] by rw [HX.out, if_pos h1])
        have t : ((s[k].toNat : Int) == 34) = true ∨ (((s[k].toNat : Int) == 34) = false ∧ ((s[k].toNat : Int) == 92) = true) := by
          rw [← hc]
          rcases h1 with h | h
          · exact .inl (by simp [h])
          · exact .inr (by simp [h])
        clear HX h1 hc
        rcases t with t | ⟨t, t'⟩
        all_goals
          have tok : True := trivial
          go_wp2_with (first | (at_builtin; have _t := tok; refine app1 _ rfl (.tmp 25) (.tmp 26) rfl base _ _ 92 rfl hown rfl (by simp; omega) hbr ?_; clear tok; intro v2 w2 hown2 hk2) | (at_builtin; refine app1 _ rfl (.tmp 28) (.tmp 30) rfl base _ _ (s[k].toNat : Int) rfl hown2 rfl (by simp; omega) (Nat.le_trans hbr hk2.size) ?_))
          intro v3 w3 hown3 hk3
          go_wp2_with fail
          go_roundw
          case rel => exact ⟨k + 1, by omega, by go_num, by rw [HX'.out, HC.out]; simpa using hown3, (hkr.trans hk2).trans hk3⟩
          case measure => simp [intOf]; omega
      · have HX' := mkHid (show Pl.escS ((Pl.byt s).take (k + 1)) = Pl.escS ((Pl.byt s).take k) ++ [c] by rw [HX.out, if_neg h1])
        have t : ((s[k].toNat : Int) == 34) = false := by rw [← hc, beq_eq_false_iff_ne]; omega
        have t' : ((s[k].toNat : Int) == 92) = false := by rw [← hc, beq_eq_false_iff_ne]; omega
        clear HX h1 hc
        go_wp2_with (at_builtin; refine app1 _ rfl (.tmp 28) (.tmp 30) rfl base _ _ (s[k].toNat : Int) rfl hown rfl (by simp; omega) hbr ?_)
        intro v3 w3 hown3 hk3
        go_wp2_with fail
        go_roundw
        case rel => exact ⟨k + 1, by omega, by go_num, by rw [HX'.out, HC.out]; simpa using hown3, hkr.trans hk3⟩
        case measure => simp [intOf]; omega
    · have EK := mkHid (show (Pl.byt s).take k = Pl.byt s from List.take_of_length_le (by rw [Pl.byt_len]; omega))
      have hge : ¬ ((k : Nat) : Int) < (s.size : Int) := by omega
      go_wp2_with (at_builtin; refine app1 _ rfl (.tmp 32) (.tmp 33) rfl base _ _ 34 rfl hown rfl (by simp; omega) hbr ?_)
      intro v2 w2 hown2 hk2
      go_wp2_with fail
      go_ret
      refine ⟨_, rfl, ?_, hkr.trans hk2⟩
      rw [EK.out] at hown2
      simpa [Pl.encS] using hown2
end Go.Proofs.Qxb6001451a
