/-
  WHAT THIS b6600962a's WALKS SHARE (seat b6600962a): slices of bytes that came in, slices of bytes that the call itself makes.
-/
import Derived.Test.Qxb6600962aProg
import Derived.Test.Qxb6600962aPlain
import Derived.WalkKit
import Derived.WalkSpells
import Derived.WalkLawsBesides
import Derived.Lib.Bytealg
import Derived.Lib.BytesEntry
import Derived.Lib.SliceRun
import Derived.Laws.AppendOwnNone
namespace Go.Proofs.Qxb6600962a
open Go.RowKit

theorem mkHid {p : Prop} (h : p) : Hid p := h
theorem ret_int {k : IntKind} {a b : Int} (h : a = b) : Ending.returned (.int k a) = .returned (.int k b) := by rw [h]
theorem info5 : (Try.prog.info? 5).map (fun i => (i.zero, i.size, i.bytes)) = some (some (.int .u8 0), 1, 1) := by kernel_rfl

/-- The cells from ⟨b, off⟩ on hold the bytes zs. -/
def Row (w : World) (b off : Nat) (zs : List Int) : Prop := ∀ i, i < zs.length → w.cell? ⟨b, off + i, none⟩ = some (.int .u8 (zs.getD i 0))
theorem row_at {w : World} {b off : Nat} {zs : List Int} (h : Row w b off zs) {k : Nat} {c : Int} (hk : k < zs.length) (hc : c = zs.getD k 0) : w.cell? ⟨b, off + k, none⟩ = some (.int .u8 c) := by rw [hc]; exact h k hk
theorem Row.below {B : Nat} {w w' : World} {b off : Nat} {zs : List Int} (h : Row w b off zs) (hb : b < B) (hw : Below B w w') : Row w' b off zs := fun i hi => (hw.cell (p := ⟨b, off + i, none⟩) hb).trans (h i hi)
theorem Row.news {w : World} {b off : Nat} {zs : List Int} (h : Row w b off zs) : ∀ ad, some (⟨b, off, none⟩ : Addr) = some ad → ∀ j u, (zs.map (Value.int .u8))[j]? = some u → w.cell? (ad.add j) = some u := by
  intro ad had j u hu
  obtain rfl := Option.some.inj had
  have hj : j < zs.length := by simpa using (List.getElem?_eq_some_iff.1 hu).1
  rw [Addr.add_lit]
  have := h j hj
  rw [this, ← hu]
  simp [List.getD, hj]

/-- What a walk is told of a slice of bytes that came in: Z are its elements. -/
structure View (w : World) (a : Option Addr) (len cap : Nat) (Z : List Int) : Prop where
  hlen : len = Z.length
  hmax : len ≤ maxLen
  hcap : len ≤ cap
  hnil : a = none → len = 0 ∧ cap = 0
  hcell : ∀ ad, a = some ad → ∀ j u, (Z.map (Value.int .u8))[j]? = some u → w.cell? (ad.add j) = some u
  hbyte : ∀ c ∈ Z, 0 ≤ c ∧ c ≤ 255

theorem View.below {w w' : World} {a : Option Addr} {len cap : Nat} {Z : List Int} (h : View w a len cap Z) (hb : Below w.heap.size w w') : View w' a len cap Z :=
  ⟨h.hlen, h.hmax, h.hcap, h.hnil, fun ad ha j u hu => cell_later hb (h.hcell ad ha j u hu), h.hbyte⟩

/-- A slice that is not empty lies in memory. -/
theorem View.row {w : World} {a : Option Addr} {len cap : Nat} {Z : List Int} (h : View w a len cap Z) (hl : 0 < len) : ∃ b off, a = some ⟨b, off, none⟩ ∧ Row w b off Z := by
  cases a with
  | none => have := (h.hnil rfl).1; omega
  | some ad =>
    have hz : 0 < Z.length := by rw [← h.hlen]; exact hl
    have hc := h.hcell ad rfl 0 (.int .u8 (Z.getD 0 0)) (by simp [List.getD, hz])
    obtain ⟨b, off, spot⟩ := ad
    have hs : spot = none := by simpa [Addr.add] using World.cell?_spot hc
    subst hs
    refine ⟨b, off, rfl, fun i hi => ?_⟩
    have := h.hcell _ rfl i (.int .u8 (Z.getD i 0)) (by simp [List.getD, hi])
    rwa [Addr.add_lit] at this

/-- The slice v is the call's own (nil, or at the head of a row from block base on) and holds the bytes bs. -/
def Own (base : Nat) (w : World) (v : Value) (bs : List Int) : Prop := w.ownsRow base 5 1 v bs.length (bs.map (Value.int .u8))

theorem Own.alloc {base : Nat} {w : World} {v : Value} {bs : List Int} (h : Own base w v bs) (o : Obj) : Own base (w.alloc o) v bs := World.ownsRow.alloc h o
theorem Own.row {base : Nat} {w : World} {g k cap : Nat} {bs : List Int} (h : Own base w (.slice (some ⟨g, 0, none⟩) k cap) bs) (hk : k = bs.length) : Row w g 0 bs := by
  subst hk
  intro i hi
  have := World.ownsRow.cellAt h i (by simpa using hi)
  rw [Nat.zero_add, this]
  simp [List.getD, hi]
theorem Own.shape {base : Nat} {w : World} {v : Value} {bs : List Int} (h : Own base w v bs) (hne : bs ≠ []) : ∃ g cap, v = .slice (some ⟨g, 0, none⟩) bs.length cap ∧ base ≤ g ∧ g < w.heap.size ∧ bs.length ≤ cap ∧ cap ≤ maxLen ∧ Row w g 0 bs := by
  rcases h.2 with ⟨_, h0⟩ | ⟨g, cap, cur, rfl, hb, hh, hc, hm, _⟩
  · exact absurd (List.eq_nil_of_length_eq_zero h0) hne
  · refine ⟨g, cap, rfl, hb, lt_of_block hh, hc, hm, Own.row h rfl⟩
/-- The same where the slice is known not to be nil. -/
theorem Own.shape' {base : Nat} {w : World} {v : Value} {bs : List Int} (h : Own base w v bs) (hne : v ≠ .slice none 0 0) : ∃ g cap, v = .slice (some ⟨g, 0, none⟩) bs.length cap ∧ base ≤ g ∧ g < w.heap.size ∧ bs.length ≤ cap ∧ cap ≤ maxLen ∧ Row w g 0 bs := by
  rcases h.2 with ⟨h0, _⟩ | ⟨g, cap, cur, rfl, hb, hh, hc, hm, _⟩
  · exact absurd h0 hne
  · refine ⟨g, cap, rfl, hb, lt_of_block hh, hc, hm, Own.row h rfl⟩

/-- From w to w' nothing has turned but rows of bytes from block base on. -/
structure Kp (base : Nat) (w w' : World) : Prop where
  os : w'.os = w.os
  tape : w'.tape = w.tape
  output : w'.output = w.output
  size : w.heap.size ≤ w'.heap.size
  block : ∀ k, k < w.heap.size → (k < base ∨ ∀ cur, w.heap[k]? ≠ some (.cells cur 5 (0, 0))) → w'.heap[k]? = w.heap[k]?

theorem Kp.refl (base : Nat) (w : World) : Kp base w w := ⟨rfl, rfl, rfl, Nat.le_refl _, fun _ _ _ => rfl⟩
theorem Kp.trans {base : Nat} {a b c : World} (h : Kp base a b) (k : Kp base b c) : Kp base a c :=
  ⟨k.os.trans h.os, k.tape.trans h.tape, k.output.trans h.output, Nat.le_trans h.size k.size, fun j hj hc => by
    have e := h.block j hj hc
    refine (k.block j (Nat.lt_of_lt_of_le hj h.size) ?_).trans e
    rw [e]
    exact hc⟩
theorem Kp.alloc {base : Nat} {a w : World} (h : Kp base a w) (o : Obj) : Kp base a (w.alloc o) :=
  h.trans ⟨rfl, rfl, rfl, by simp, fun k hk _ => Below.heap_alloc w o k hk⟩
theorem Kp.below {base : Nat} {w w' : World} (h : Kp base w w') (hb : base ≤ w.heap.size) : Below base w w' :=
  ⟨h.os, h.tape, h.output, h.size, fun k hk => h.block k (by omega) (.inl hk)⟩
theorem Kp.grown {base n : Nat} {xs : List Value} {v : Value} {w w' : World} (ho : w.ownsRow base 5 1 v n xs) (hg : w.grownBy w' v.ownBlock) : Kp base w w' :=
  ⟨hg.os, hg.tape, hg.output, hg.size, fun k hk hc => hg.block k hk fun e => by
    rcases ho.2 with ⟨rfl, _⟩ | ⟨g, cap, cur, rfl, hb, hh, _⟩
    · simp [Value.ownBlock] at e
    · simp only [Value.ownBlock, Option.some.injEq] at e
      subst e
      rcases hc with hc | hc
      · omega
      · exact hc _ hh⟩

/-- ONE BYTE APPENDED ('dst = append(dst, c)'). -/
theorem app1 (w : World) {ops : Array Oper} {rest : List Oper} {o : Oper} {a : Act} {Q : Exit → Act → World → Prop} (hgd : o.guard = none) (s x : Operand)
    (ho : o.op = .call { callee := .builtin .append, args := #[s, x], argTypes := #[22, 22] })
    (base : Nat) (v : Value) (bs : List Int) (c : Int) (hs : a.eval s = v) (hown : Own base w v bs) (g : Nat)
    (hx : a.eval x = .slice (some ⟨g, 0, none⟩) 1 1) (hg : g = w.heap.size) (hsz : bs.length + 1 ≤ 140737488355328) (hb : base ≤ w.heap.size)
    (h : ∀ v' w', Own base w' v' (bs ++ [c]) → Kp base w w' → wpList Try.prog ops Q rest (a.put o.dst v') w') :
    wpList Try.prog ops Q (o :: rest) a (w.alloc (.cells #[.int .u8 c] 5)) := by
  subst hg
  obtain ⟨i0, hi, hz0, hz1, hz2⟩ := info_parts info5
  refine wpList_append_own _ hgd s x 22 ho base 5 i0 (.int .u8 0) 1 1 Try.underlying22 hi hz0 hz1 hz2 rfl (by decide) v _ _ hs (World.ownsRow.alloc hown _) ⟨w.heap.size, 0, none⟩ 1 1 [.int .u8 c] hx rfl (cell_one_new _ _ _) (by intro u hu; simp at hu; subst hu; rfl) (by unfold maxLen; omega) (by omega) (by simp; omega) ?_
  intro v' w' h1 h2 _
  refine h v' w' ?_ (((Kp.refl base w).alloc _).trans (Kp.grown (World.ownsRow.alloc hown _) h2))
  unfold Own
  simpa using h1

/-- BYTES APPENDED, FROM WHATEVER SLICE ('dst = append(dst, src...)'); dst is not nil. -/
theorem appG (w : World) {ops : Array Oper} {rest : List Oper} {o : Oper} {a : Act} {Q : Exit → Act → World → Prop} (hgd : o.guard = none) (s x : Operand)
    (ho : o.op = .call { callee := .builtin .append, args := #[s, x], argTypes := #[22, 22] })
    (base : Nat) (v : Value) (bs news : List Int) (hs : a.eval s = v) (hown : Own base w v bs) (hv : v ≠ .slice none 0 0) (ao : Option Addr) (m c : Nat)
    (hx : a.eval x = .slice ao m c) (hm : m = news.length) (hnone : ao = none → m = 0 ∧ c = 0)
    (hc : ∀ ad, ao = some ad → ∀ j u, (news.map (Value.int .u8))[j]? = some u → w.cell? (ad.add j) = some u) (hsz : bs.length + m ≤ 140737488355328) (hb : base ≤ w.heap.size)
    (h : ∀ v' w', Own base w' v' (bs ++ news) → v' ≠ .slice none 0 0 → Kp base w w' → wpList Try.prog ops Q rest (a.put o.dst v') w') :
    wpList Try.prog ops Q (o :: rest) a w := by
  obtain ⟨i0, hi, hz0, hz1, hz2⟩ := info_parts info5
  cases ao with
  | none =>
    obtain ⟨rfl, rfl⟩ := hnone rfl
    have hn : news = [] := List.eq_nil_of_length_eq_zero hm.symm
    subst hn
    refine wpList_append_own_none hgd s x 22 ho base 5 i0 1 Try.underlying22 hi v _ _ hs hown hx ?_
    have := h v w (by simpa using hown) hv (Kp.refl _ _)
    exact this
  | some ad =>
    refine wpList_append_own w hgd s x 22 ho base 5 i0 (.int .u8 0) 1 1 Try.underlying22 hi hz0 hz1 hz2 rfl (by decide) v _ _ hs hown ad m c (news.map (Value.int .u8)) hx (by simp [hm]) (hc ad rfl) (ints_oneCell _ _) (by unfold maxLen; omega) (by omega) hb ?_
    intro v' w' h1 h2 h3
    refine h v' w' ?_ (fun e => hv (h3.1 e).1) (Kp.grown hown h2)
    unfold Own
    rw [List.length_append, ← hm, List.map_append]
    exact h1

/-- 'make([]byte, 0, n)'. -/
theorem mk0 (w : World) {ops : Array Oper} {rest : List Oper} {o : Oper} {a : Act} {Q : Exit → Act → World → Prop} (hgd : o.guard = none) (l c : Operand)
    (ho : o.op = Op.makeSlice 22 l c) (C : Int) (n : Nat) (hl : a.eval l = .int .i64 0) (hc : a.eval c = .int .i64 C) (hC : C = (n : Int)) (hn : n ≤ 281474976710656)
    (h : ∀ w', Own w.heap.size w' (.slice (some ⟨w.heap.size, 0, none⟩) 0 n) [] → Below w.heap.size w w' → w.heap.size < w'.heap.size → wpList Try.prog ops Q rest (a.put o.dst (.slice (some ⟨w.heap.size, 0, none⟩) 0 n)) w') :
    wpList Try.prog ops Q (o :: rest) a w := by
  obtain ⟨i0, hi, hz0, hz1, hz2⟩ := info_parts info5
  refine wpList_make_own w hgd l c 22 ho w.heap.size 5 i0 (.int .u8 0) 1 Try.underlying22 hi hz0 hz1 .i64 .i64 C n hl hc hC (by rw [hz2]; omega) (by unfold maxLen; omega) (Nat.le_refl _) ?_
  intro w' h1 h2
  exact h w' h1 ((Below.refl _ _).grown h2 (Nat.le_refl _) (by simp)) (World.ownsRow.lt h1 _ rfl).2

/-- 'make([]byte, n)'. -/
theorem mkN (w : World) {ops : Array Oper} {rest : List Oper} {o : Oper} {a : Act} {Q : Exit → Act → World → Prop} (hgd : o.guard = none) (l c : Operand)
    (ho : o.op = Op.makeSlice 22 l c) (n : Nat) (hl : a.eval l = .int .i64 n) (hc : a.eval c = .int .i64 n) (hn : n ≤ 281474976710656)
    (h : ∀ w', Own w.heap.size w' (.slice (some ⟨w.heap.size, 0, none⟩) n n) (List.replicate n 0) → Below w.heap.size w w' → w.heap.size < w'.heap.size → wpList Try.prog ops Q rest (a.put o.dst (.slice (some ⟨w.heap.size, 0, none⟩) n n)) w') :
    wpList Try.prog ops Q (o :: rest) a w := by
  obtain ⟨i0, hi, hz0, hz1, hz2⟩ := info_parts info5
  refine wpList_make_full w hgd l c 22 ho w.heap.size 5 i0 (.int .u8 0) 1 Try.underlying22 hi hz0 hz1 .i64 .i64 _ _ n hl hc rfl rfl (by rw [hz2]; omega) (by unfold maxLen; omega) (Nat.le_refl _) ?_
  intro w' h1 h2
  refine h w' ?_ ((Below.refl _ _).grown h2 (Nat.le_refl _) (by simp)) (World.ownsRow.lt h1 _ rfl).2
  unfold Own
  have e : (madeCells (Value.int .u8 0).cells (n * 1)).toList = (List.replicate n (0 : Int)).map (Value.int .u8) := by
    rw [Nat.mul_one, List.map_replicate]
    exact toList_madeCells_one _ _
  rw [e] at h1
  simpa using h1

/-- One byte stored. -/
theorem Own.stored {base : Nat} {w : World} {g cap : Nat} {bs : List Int} {k : Nat} (hk : k = bs.length) (h : Own base w (.slice (some ⟨g, 0, none⟩) k cap) bs) (j : Nat) (c : Int) :
    Own base (w.setCell ⟨g, j, none⟩ (.int .u8 c)) (.slice (some ⟨g, 0, none⟩) k cap) (bs.set j c) ∧ w.frozen? ⟨g, j, none⟩ = false := by
  subst hk
  refine ⟨?_, World.ownsRow.frozenAt h j⟩
  have := (World.ownsRow.stored h j (.int .u8 c)).1
  unfold Own
  rw [List.length_set, List.map_set]
  exact this

/-- The copy, one byte further. -/
theorem copy_step (Z : List Int) (n k : Nat) (hn : n = Z.length) (h : k < n) : (Z.take k ++ List.replicate (n - k) 0).set k (Z.getD k 0) = Z.take (k + 1) ++ List.replicate (n - (k + 1)) 0 := by
  subst hn
  rw [List.set_append_right _ _ (by simp; omega)]
  rw [List.take_succ_eq_append_getElem h, List.append_assoc]
  congr 1
  have : Z.length - k = (Z.length - (k + 1)) + 1 := by omega
  rw [this, List.replicate_succ]
  simp [List.getD, h, Nat.min_eq_left (Nat.le_of_lt h)]

theorem eql_nil (w : World) (a : Option Addr) (n c n' c' : Nat) : (binOp .eql 22 (.slice a n c) (.slice none n' c')).run Try.prog w = .ok (.bool a.isNone) w := Lib.run_eql_slice_nil w _ _ a n c n' c' Try.underlying22
end Go.Proofs.Qxb6600962a
