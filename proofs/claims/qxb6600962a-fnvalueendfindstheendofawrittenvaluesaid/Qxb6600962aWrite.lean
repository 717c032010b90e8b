/-
  THE WRITER'S THREE ROWS (seat b6600962a, law 6): out, kinds, filled: three blocks that the call itself made, each with room for all that comes.
-/
import Derived.Test.Qxb6600962aEnd
import Derived.Test.Qxb6600962aPlain2
import Derived.WalkSmall
namespace Go.Proofs.Qxb6600962a
open Go.RowKit

theorem info4 : (Try.prog.info? 4).map (fun i => (i.zero, i.size, i.bytes)) = some (some (.bool false), 1, 1) := by kernel_rfl

/-- The three rows, in blocks g0 < g1 < g2, from block base on; below base all is as in w0. -/
structure St (base : Nat) (w0 w : World) (g0 g1 g2 C0 C1 : Nat) (o ks : List Int) (fs : List Bool) : Prop where
  out : w.ownsRow base 5 1 (.slice (some ⟨g0, 0, none⟩) o.length C0) o.length (o.map (Value.int .u8))
  knd : w.ownsRow base 5 1 (.slice (some ⟨g1, 0, none⟩) ks.length C1) ks.length (ks.map (Value.int .u8))
  fil : w.ownsRow base 4 1 (.slice (some ⟨g2, 0, none⟩) fs.length C1) fs.length (fs.map Value.bool)
  h01 : g0 < g1
  h12 : g1 < g2
  low : Below base w0 w

section
variable {base : Nat} {w0 w : World} {g0 g1 g2 C0 C1 : Nat} {o ks : List Int} {fs : List Bool}

theorem St.b0 (h : St base w0 w g0 g1 g2 C0 C1 o ks fs) : base ≤ g0 ∧ g0 < w.heap.size := World.ownsRow.lt h.out _ rfl
theorem St.b2 (h : St base w0 w g0 g1 g2 C0 C1 o ks fs) : base ≤ g2 ∧ g2 < w.heap.size := World.ownsRow.lt h.fil _ rfl
theorem St.bw (h : St base w0 w g0 g1 g2 C0 C1 o ks fs) : base ≤ w.heap.size := by have := h.b0; omega
theorem St.alloc (h : St base w0 w g0 g1 g2 C0 C1 o ks fs) (x : Obj) : St base w0 (w.alloc x) g0 g1 g2 C0 C1 o ks fs :=
  ⟨World.ownsRow.alloc h.out _, World.ownsRow.alloc h.knd _, World.ownsRow.alloc h.fil _, h.h01, h.h12, h.low.alloc h.bw _⟩
theorem St.kcell (h : St base w0 w g0 g1 g2 C0 C1 o ks fs) (j : Nat) (hj : j < ks.length) : w.cell? ⟨g1, j, none⟩ = some (.int .u8 (ks.getD j 0)) := by
  rw [World.ownsRow.cellAt h.knd j (by simpa using hj)]
  simp [List.getD, hj]
theorem St.fcell (h : St base w0 w g0 g1 g2 C0 C1 o ks fs) (j : Nat) (hj : j < fs.length) : w.cell? ⟨g2, j, none⟩ = some (.bool (fs.getD j false)) := by
  rw [World.ownsRow.cellAt h.fil j (by simpa using hj)]
  simp [List.getD, hj]
theorem St.ffroz (h : St base w0 w g0 g1 g2 C0 C1 o ks fs) (j : Nat) : w.frozen? ⟨g2, j, none⟩ = false := World.ownsRow.frozenAt h.fil j
theorem St.set (h : St base w0 w g0 g1 g2 C0 C1 o ks fs) (j : Nat) (b : Bool) : St base w0 (w.setCell ⟨g2, j, none⟩ (.bool b)) g0 g1 g2 C0 C1 o ks (fs.set j b) := by
  obtain ⟨s1, s2⟩ := World.ownsRow.stored h.fil j (.bool b)
  have h01 := h.h01
  have h12 := h.h12
  refine ⟨World.ownsRow.kept h.out s2 (.inr ?_), World.ownsRow.kept h.knd s2 (.inr ?_), ?_, h.h01, h.h12, h.low.setCell h.b2.1 _⟩
  · simp [Value.ownBlock]; omega
  · simp [Value.ownBlock]; omega
  · rw [List.length_set, List.map_set]; exact s1
theorem St.pop {x : Int} {y : Bool} (h : St base w0 w g0 g1 g2 C0 C1 o (ks ++ [x]) (fs ++ [y])) : St base w0 w g0 g1 g2 C0 C1 o ks fs := by
  have hk := h.knd
  have hf := h.fil
  rw [List.map_append, List.length_append] at hk hf
  exact ⟨h.out, ownsRow_pop (by simp) hk, ownsRow_pop (by simp) hf, h.h01, h.h12, h.low⟩
/-- Only kinds is cut back. -/
theorem St.popk {x : Int} (h : St base w0 w g0 g1 g2 C0 C1 o (ks ++ [x]) fs) : St base w0 w g0 g1 g2 C0 C1 o ks fs := by
  have hk := h.knd
  rw [List.map_append, List.length_append] at hk
  exact ⟨h.out, ownsRow_pop (by simp) hk, h.fil, h.h01, h.h12, h.low⟩
theorem St.grow0 (h : St base w0 w g0 g1 g2 C0 C1 o ks fs) {o' : List Int} {w' : World} (hg : w.grownBy w' (some g0)) (ho : w'.ownsRow base 5 1 (.slice (some ⟨g0, 0, none⟩) o'.length C0) o'.length (o'.map (Value.int .u8))) : St base w0 w' g0 g1 g2 C0 C1 o' ks fs := by
  have h01 := h.h01
  have h12 := h.h12
  refine ⟨ho, World.ownsRow.kept h.knd hg (.inr ?_), World.ownsRow.kept h.fil hg (.inr ?_), h.h01, h.h12, h.low.grown hg h.bw ?_⟩
  · simp [Value.ownBlock]; omega
  · simp [Value.ownBlock]; omega
  · intro k hk; obtain rfl := Option.some.inj hk; exact h.b0.1
theorem St.grow1 (h : St base w0 w g0 g1 g2 C0 C1 o ks fs) {ks' : List Int} {w' : World} (hg : w.grownBy w' (some g1)) (ho : w'.ownsRow base 5 1 (.slice (some ⟨g1, 0, none⟩) ks'.length C1) ks'.length (ks'.map (Value.int .u8))) : St base w0 w' g0 g1 g2 C0 C1 o ks' fs := by
  have h01 := h.h01
  have h12 := h.h12
  have hb := h.b0
  refine ⟨World.ownsRow.kept h.out hg (.inr ?_), ho, World.ownsRow.kept h.fil hg (.inr ?_), h.h01, h.h12, h.low.grown hg h.bw ?_⟩
  · simp [Value.ownBlock]; omega
  · simp [Value.ownBlock]; omega
  · intro k hk; obtain rfl := Option.some.inj hk; omega
theorem St.grow2 (h : St base w0 w g0 g1 g2 C0 C1 o ks fs) {fs' : List Bool} {w' : World} (hg : w.grownBy w' (some g2)) (ho : w'.ownsRow base 4 1 (.slice (some ⟨g2, 0, none⟩) fs'.length C1) fs'.length (fs'.map Value.bool)) : St base w0 w' g0 g1 g2 C0 C1 o ks fs' := by
  have h01 := h.h01
  have h12 := h.h12
  have hb := h.b0
  refine ⟨World.ownsRow.kept h.out hg (.inr ?_), World.ownsRow.kept h.knd hg (.inr ?_), ho, h.h01, h.h12, h.low.grown hg h.bw ?_⟩
  · simp [Value.ownBlock]; omega
  · simp [Value.ownBlock]; omega
  · intro k hk; obtain rfl := Option.some.inj hk; omega
end

/-- The list l has n elements. -/
def Len {α : Type} (n : Nat) (l : List α) : Prop := n = l.length
theorem Len.out {α : Type} {n : Nat} {l : List α} (h : Len n l) : n = l.length := h

/-- a is at most b. -/
def Bd (a b : Nat) : Prop := a ≤ b
theorem Bd.out {a b : Nat} (h : Bd a b) : a ≤ b := h
theorem Bd.add {a b a' m : Nat} (h : Bd a b) (e : a' = a + m) : Bd a' (b + m) := by have := h.out; show a' ≤ _; omega

/-- The bytes of a literal's cells. -/
def newsOf (cs : Array Value) : List Int := cs.toList.map intOf

theorem lit_cells (w : World) (cs : Array Value) (t : TypeId) (news : List Value) (h : cs.toList = news) : ∀ j u, news[j]? = some u → (w.alloc (.cells cs t)).cell? ((⟨w.heap.size, 0, none⟩ : Addr).add j) = some u := by
  intro j u hu
  rw [Addr.add_lit, Nat.zero_add, World.cell?_alloc_new, ← hu, ← h]
  simp

/-- A LITERAL's BYTES APPENDED TO out. -/
theorem appO (base : Nat) (w0 w : World) {ops : Array Oper} {rest : List Oper} {o : Oper} {a : Act} {Q : Exit → Act → World → Prop} (hgd : o.guard = none) (s x : Operand)
    (ho : o.op = .call { callee := .builtin .append, args := #[s, x], argTypes := #[22, 22] })
    (g0 g1 g2 C0 C1 n : Nat) (bs ks : List Int) (fs : List Bool) (hs : a.eval s = .slice (some ⟨g0, 0, none⟩) n C0) (HN : Len n bs) (HS : Hid (St base w0 w g0 g1 g2 C0 C1 bs ks fs))
    (cs : Array Value) (g m : Nat) (hx : a.eval x = .slice (some ⟨g, 0, none⟩) m m) (hg : g = w.heap.size) (hcs : cs.toList = (newsOf cs).map (Value.int .u8)) (hm : m = (newsOf cs).length) (b1 : n + m ≤ C0)
    (h : ∀ n' w', Hid (n' = n + m) → Len n' (bs ++ newsOf cs) → Hid (St base w0 w' g0 g1 g2 C0 C1 (bs ++ newsOf cs) ks fs) → wpList Try.prog ops Q rest (a.put o.dst (.slice (some ⟨g0, 0, none⟩) n' C0)) w') :
    wpList Try.prog ops Q (o :: rest) a (w.alloc (.cells cs 5)) := by
  subst hg
  obtain ⟨i0, hi, hz0, hz1, hz2⟩ := info_parts info5
  have hS := HS.out.alloc (.cells cs 5)
  have ho' := hS.out
  rw [← HN.out] at ho'
  refine wpList_append_fits _ hgd s x 22 ho base 5 i0 1 Try.underlying22 hi hz1 g0 n C0 _ hs ho' ⟨w.heap.size, 0, none⟩ m m ((newsOf cs).map (Value.int .u8)) hx (by simp [hm]) (lit_cells _ _ _ _ hcs) (ints_oneCell _ _) b1 ?_
  intro w' h1 h2
  refine h _ w' rfl (by show _ = _; rw [List.length_append, ← HN.out, ← hm]) (hS.grow0 h2 ?_)
  rw [List.length_append, List.map_append, ← HN.out, ← hm]
  exact h1

/-- .. to kinds. -/
theorem appK (base : Nat) (w0 w : World) {ops : Array Oper} {rest : List Oper} {o : Oper} {a : Act} {Q : Exit → Act → World → Prop} (hgd : o.guard = none) (s x : Operand)
    (ho : o.op = .call { callee := .builtin .append, args := #[s, x], argTypes := #[22, 22] })
    (g0 g1 g2 C0 C1 n : Nat) (bs ks : List Int) (fs : List Bool) (hs : a.eval s = .slice (some ⟨g1, 0, none⟩) n C1) (HN : Len n ks) (HS : Hid (St base w0 w g0 g1 g2 C0 C1 bs ks fs))
    (cs : Array Value) (g m : Nat) (hx : a.eval x = .slice (some ⟨g, 0, none⟩) m m) (hg : g = w.heap.size) (hcs : cs.toList = (newsOf cs).map (Value.int .u8)) (hm : m = (newsOf cs).length) (b1 : n + m ≤ C1)
    (h : ∀ w', Hid (St base w0 w' g0 g1 g2 C0 C1 bs (ks ++ newsOf cs) fs) → wpList Try.prog ops Q rest (a.put o.dst (.slice (some ⟨g1, 0, none⟩) (n + m) C1)) w') :
    wpList Try.prog ops Q (o :: rest) a (w.alloc (.cells cs 5)) := by
  subst hg
  obtain ⟨i0, hi, hz0, hz1, hz2⟩ := info_parts info5
  have hS := HS.out.alloc (.cells cs 5)
  have ho' := hS.knd
  rw [← HN.out] at ho'
  refine wpList_append_fits _ hgd s x 22 ho base 5 i0 1 Try.underlying22 hi hz1 g1 n C1 _ hs ho' ⟨w.heap.size, 0, none⟩ m m ((newsOf cs).map (Value.int .u8)) hx (by simp [hm]) (lit_cells _ _ _ _ hcs) (ints_oneCell _ _) b1 ?_
  intro w' h1 h2
  refine h w' (hS.grow1 h2 ?_)
  rw [List.length_append, List.map_append, ← HN.out, ← hm]
  exact h1

/-- 'filled = append(filled, false)'. -/
theorem appB (base : Nat) (w0 w : World) {ops : Array Oper} {rest : List Oper} {o : Oper} {a : Act} {Q : Exit → Act → World → Prop} (hgd : o.guard = none) (s x : Operand)
    (ho : o.op = .call { callee := .builtin .append, args := #[s, x], argTypes := #[36, 36] })
    (g0 g1 g2 C0 C1 n : Nat) (bs ks : List Int) (fs : List Bool) (hs : a.eval s = .slice (some ⟨g2, 0, none⟩) n C1) (HN : Len n fs) (HS : Hid (St base w0 w g0 g1 g2 C0 C1 bs ks fs))
    (b : Bool) (g : Nat) (hx : a.eval x = .slice (some ⟨g, 0, none⟩) 1 1) (hg : g = w.heap.size) (b1 : n + 1 ≤ C1)
    (h : ∀ w', Hid (St base w0 w' g0 g1 g2 C0 C1 bs ks (fs ++ [b])) → wpList Try.prog ops Q rest (a.put o.dst (.slice (some ⟨g2, 0, none⟩) (n + 1) C1)) w') :
    wpList Try.prog ops Q (o :: rest) a (w.alloc (.cells #[.bool b] 4)) := by
  subst hg
  obtain ⟨i0, hi, hz0, hz1, hz2⟩ := info_parts info4
  have hS := HS.out.alloc (.cells #[.bool b] 4)
  have ho' := hS.fil
  rw [← HN.out] at ho'
  refine wpList_append_fits _ hgd s x 36 ho base 4 i0 1 Try.underlying36 hi hz1 g2 n C1 _ hs ho' ⟨w.heap.size, 0, none⟩ 1 1 [.bool b] hx rfl (cell_one_new _ _ _) (by intro u hu; simp at hu; subst hu; rfl) b1 ?_
  intro w' h1 h2
  refine h w' (hS.grow2 h2 ?_)
  rw [List.length_append, List.map_append, ← HN.out]
  exact h1

/-- 'make([]byte, 0, n)', its block named. -/
theorem mkA (w : World) {ops : Array Oper} {rest : List Oper} {o : Oper} {a : Act} {Q : Exit → Act → World → Prop} (hgd : o.guard = none) (l c : Operand)
    (ho : o.op = Op.makeSlice 22 l c) (base : Nat) (C : Int) (n : Nat) (hl : a.eval l = .int .i64 0) (hc : a.eval c = .int .i64 C) (hC : C = (n : Int)) (hn : n ≤ 281474976710656) (hb : base ≤ w.heap.size)
    (h : ∀ g w', Hid (g = w.heap.size) → Hid (w'.ownsRow base 5 1 (.slice (some ⟨g, 0, none⟩) 0 n) 0 []) → Hid (w.grownBy w' none) → wpList Try.prog ops Q rest (a.put o.dst (.slice (some ⟨g, 0, none⟩) 0 n)) w') :
    wpList Try.prog ops Q (o :: rest) a w := by
  obtain ⟨i0, hi, hz0, hz1, hz2⟩ := info_parts info5
  refine wpList_make_own w hgd l c 22 ho base 5 i0 (.int .u8 0) 1 Try.underlying22 hi hz0 hz1 .i64 .i64 C n hl hc hC (by rw [hz2]; omega) (by unfold maxLen; omega) hb ?_
  intro w' h1 h2
  exact h _ w' rfl h1 h2
/-- 'make([]bool, 0, n)'. -/
theorem mkB (w : World) {ops : Array Oper} {rest : List Oper} {o : Oper} {a : Act} {Q : Exit → Act → World → Prop} (hgd : o.guard = none) (l c : Operand)
    (ho : o.op = Op.makeSlice 36 l c) (base : Nat) (C : Int) (n : Nat) (hl : a.eval l = .int .i64 0) (hc : a.eval c = .int .i64 C) (hC : C = (n : Int)) (hn : n ≤ 281474976710656) (hb : base ≤ w.heap.size)
    (h : ∀ g w', Hid (g = w.heap.size) → Hid (w'.ownsRow base 4 1 (.slice (some ⟨g, 0, none⟩) 0 n) 0 []) → Hid (w.grownBy w' none) → wpList Try.prog ops Q rest (a.put o.dst (.slice (some ⟨g, 0, none⟩) 0 n)) w') :
    wpList Try.prog ops Q (o :: rest) a w := by
  obtain ⟨i0, hi, hz0, hz1, hz2⟩ := info_parts info4
  refine wpList_make_own w hgd l c 36 ho base 4 i0 (.bool false) 1 Try.underlying36 hi hz0 hz1 .i64 .i64 C n hl hc hC (by rw [hz2]; omega) (by unfold maxLen; omega) hb ?_
  intro w' h1 h2
  exact h _ w' rfl h1 h2

/-- The three rows, just made. -/
theorem st_made (w0 w1 w2 w3 : World) (g0 g1 g2 C0 C1 : Nat) (h1 : Hid (g1 = w1.heap.size)) (h2 : Hid (g2 = w2.heap.size))
    (o0 : Hid (w1.ownsRow w0.heap.size 5 1 (.slice (some ⟨g0, 0, none⟩) 0 C0) 0 [])) (o1 : Hid (w2.ownsRow w0.heap.size 5 1 (.slice (some ⟨g1, 0, none⟩) 0 C1) 0 [])) (o2 : Hid (w3.ownsRow w0.heap.size 4 1 (.slice (some ⟨g2, 0, none⟩) 0 C1) 0 []))
    (k0 : Hid (w0.grownBy w1 none)) (k1 : Hid (w1.grownBy w2 none)) (k2 : Hid (w2.grownBy w3 none)) : Hid (St w0.heap.size w0 w3 g0 g1 g2 C0 C1 [] [] []) := by
  have a0 := World.ownsRow.kept (World.ownsRow.kept o0.out k1.out (.inr (by simp [Value.ownBlock]))) k2.out (.inr (by simp [Value.ownBlock]))
  have a1 := World.ownsRow.kept o1.out k2.out (.inr (by simp [Value.ownBlock]))
  have l0 : g0 < w1.heap.size := (World.ownsRow.lt o0.out _ rfl).2
  have l1 : g1 < w2.heap.size := (World.ownsRow.lt o1.out _ rfl).2
  have e1 := h1.out
  have e2 := h2.out
  have s0 := k0.out.size
  have s1 := k1.out.size
  refine ⟨a0, a1, o2.out, by omega, by omega, ?_⟩
  exact ((((Below.refl _ _).grown k0.out (Nat.le_refl _) (by simp)).grown k1.out (by omega) (by simp))).grown k2.out (by omega) (by simp)
end Go.Proofs.Qxb6600962a
