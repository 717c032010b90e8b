/-
  The walk of FnStringEndMatchesEscapeAutomaton (seat b6601515a).
-/
import Derived.Test.Qxb6601515aStr
namespace Go.Proofs.Qxb6601515a
open Go.RowKit

theorem size5 : (Try.prog.info? 5).map (·.size) = some 1 := by kernel_rfl
theorem neq_nil (w : World) (a : Option Addr) (n c n' c' : Nat) : (binOp .neq 22 (.slice a n c) (.slice none n' c')).run Try.prog w = .ok (.bool (!a.isNone)) w := run_neq_slice_nil_any w _ _ a n c n' c' Try.underlying22

/-- 'copy(c, b)', c just made by 'make([]byte, len(b))'. -/
theorem cpy (w : World) {ops : Array Oper} {rest : List Oper} {o : Oper} {a : Act} {Q : Exit → Act → World → Prop} (hgd : o.guard = none) (d s : Operand)
    (ho : o.op = .call { callee := .builtin .copy, args := #[d, s], argTypes := #[22, 22] }) (base g n c : Nat) (ad : Addr) (Z bs : List Int)
    (hd : a.eval d = .slice (some ⟨g, 0, none⟩) n n) (hs : a.eval s = .slice (some ad) n c) (hZ : n = Z.length) (hbs : n = bs.length) (hown : Own base w (.slice (some ⟨g, 0, none⟩) n n) bs)
    (hc : ∀ j u, (Z.map (Value.int .u8))[j]? = some u → w.cell? (ad.add j) = some u)
    (h : ∀ w', Row w' g 0 Z → Below base w w' → w'.heap.size = w.heap.size → wpList Try.prog ops Q rest (a.put o.dst (goInt n)) w') :
    wpList Try.prog ops Q (o :: rest) a w := by
  unfold Own at hown
  rw [← hbs] at hown
  rcases hown.2 with ⟨h', _⟩ | ⟨g', cap, cur, h', hb, hh, _, _, hcs, _⟩
  · simp at h'
  simp only [Value.slice.injEq, Option.some.injEq, Addr.mk.injEq, and_true, true_and] at h'
  obtain ⟨rfl, rfl⟩ := h'
  have hl : (Z.map (Value.int .u8)).length = n := by simp [hZ]
  refine wpList_copy_own hgd d s 22 22 ho 5 Try.underlying22 size5 g 0 n n ad n c hd hs cur 5 hh (Z.map (Value.int .u8)) (by rw [hl]; simp) hc (by rw [hl, hcs]; omega) (ints_oneCell _ _) ?_
  rw [hl]
  refine h _ ?_ (below_setRow (Below.refl _ _) hb _) (by simp [World.setRow])
  intro i hi
  have hx := setRow_heap w g cur ((cur.toList.take 0 ++ (Z.map (Value.int .u8) ++ cur.toList.drop (0 + n))).toArray) 5 (0, 0) hh
  rw [cell_of_row _ g (0 + i) _ 5 (0, 0) hx]
  simp [List.getD, hi]
  rw [List.getElem?_append_left (by simpa using hi)]
  simp [hi]

set_option maxHeartbeats 1000000 in
theorem law_long (a : Option Addr) (len cap : Nat) (p : Int) (w : World) (hl : len ≤ maxLen) (h : 1048576 < len) :
    Calls Try.prog 5 #[.slice a len cap, .int .i64 p] w fun e w' => e = .returned (.bool true) ∧ Below w.heap.size w w' := by
  unfold maxLen at hl
  have h' : (1048576 : Int) < (len : Int) := by omega
  go_enter Try.func5, Try.ntmps5
  go_wp2
  go_ret
  exact ⟨rfl, Below.refl _ _⟩

set_option maxHeartbeats 1000000 in
theorem law_off (a : Option Addr) (len cap : Nat) (p : Int) (w : World) (h : len ≤ 1048576) (hp : p < 0 ∨ (len : Int) ≤ p) :
    Calls Try.prog 5 #[.slice a len cap, .int .i64 p] w fun e w' => e = .returned (.bool true) ∧ Below w.heap.size w w' := by
  have h' : ¬ (1048576 : Int) < (len : Int) := by omega
  by_cases h0 : p < 0
  · go_enter Try.func5, Try.ntmps5
    go_wp2
    go_ret
    exact ⟨rfl, Below.refl _ _⟩
  · have h1 : (len : Int) ≤ p := by omega
    go_enter Try.func5, Try.ntmps5
    go_wp2
    go_ret
    exact ⟨rfl, Below.refl _ _⟩

set_option maxHeartbeats 400000 in
theorem bytes14 (a : Option Addr) (len cap : Nat) (p : Int) (w : World) (h : len ≤ 1048576) : Calls Try.prog 14 #[.slice a len cap, .int .i64 p] w fun e w' => e = .returned (.bool true) ∧ w = w' := by
  have h' : ¬ (1048576 : Int) < (len : Int) := by omega
  go_enter Try.func14, Try.ntmps14
  go_wp2
  go_ret
  exact ⟨rfl, rfl⟩

set_option maxHeartbeats 1000000 in
theorem law_noq (b off len cap i : Nat) (Z : List Int) (w : World) (hrow : Row w b off Z) (hlen : len = Z.length) (h : len ≤ 1048576) (hi : i < len) (hq : Z.getD i 0 ≠ 34) :
    Calls Try.prog 5 #[.slice (some ⟨b, off, none⟩) len cap, .int .i64 i] w fun e w' => e = .returned (.bool true) ∧ Below w.heap.size w w' := by
  have h' : ¬ (1048576 : Int) < (len : Int) := by omega
  have hp1 : ¬ (i : Int) < 0 := by omega
  have hp2 : (i : Int) < (len : Int) := by omega
  have B14 := mkHid (fun w => bytes14 (some ⟨b, off, none⟩) len cap i w h)
  obtain ⟨c, hc⟩ : ∃ c, c = Z.getD i 0 := ⟨_, rfl⟩
  have hcell := row_at hrow (k := i) (by omega) hc
  rw [← hc] at hq
  have u : (c != 34) = true := by simpa using hq
  clear hrow hlen hq hc
  go_enter Try.func5, Try.ntmps5
  go_wp2_with (go_at_call 14; refine (B14.out _).mono ?_; rintro e w' ⟨rfl, rfl⟩)
  go_ret
  exact ⟨rfl, Below.refl _ _⟩

set_option maxHeartbeats 400000 in
theorem zz_any (b off cap len : Nat) (zs : List Int) (i0 : Nat) (w : World) (hrow : Row w b off zs) (hlen : len = zs.length) (hcap : len ≤ cap) (hl : len ≤ 281474976710656) (hby : ∀ c ∈ zs, 0 ≤ c ∧ c ≤ 255) (hi0 : i0 < len) (h0 : zs.getD i0 0 = 34) :
    Calls Try.prog 15 #[.slice (some ⟨b, off, none⟩) len cap, .int .i64 i0] w fun e w' => e = .returned (.int .i64 ((sC zs (i0 + 1) : Nat) : Int)) ∧ w = w' := by
  have C := mkHid (stringEnd_any b off cap len zs i0 w hrow hlen hcap hl hby hi0 h0)
  clear hrow hlen hcap hl hby hi0 h0
  go_enter Try.func15, Try.ntmps15
  go_wp2_with (go_at_call 23; refine C.out.mono ?_; rintro e w' ⟨rfl, rfl⟩)
  go_ret
  exact ⟨rfl, rfl⟩

set_option maxHeartbeats 1000000 in
theorem law_main (b off len cap i : Nat) (Z : List Int) (w : World) (v : View w (some ⟨b, off, none⟩) len cap Z) (hrow : Row w b off Z) (h : len ≤ 1048576) (hi : i < len) (hq : Z.getD i 0 = 34) :
    Calls Try.prog 5 #[.slice (some ⟨b, off, none⟩) len cap, .int .i64 i] w fun e w' => e = .returned (.bool true) ∧ Below w.heap.size w w' := by
  have h' : ¬ (1048576 : Int) < (len : Int) := by omega
  have hp1 : ¬ (i : Int) < 0 := by omega
  have hp2 : (i : Int) < (len : Int) := by omega
  have B14 := mkHid (fun w => bytes14 (some ⟨b, off, none⟩) len cap i w h)
  have hcell := row_at hrow (k := i) (c := 34) (by rw [← v.hlen]; exact hi) hq.symm
  have V := mkHid v
  have HLE := mkHid v.hlen
  have HQ := mkHid hq
  have qn := neq_nil
  clear v hrow hq
  go_enter Try.func5, Try.ntmps5
  go_wp2_with (first | (go_at_call 14; refine (B14.out _).mono ?_; rintro e w' ⟨rfl, rfl⟩) | (at_make; refine mkN _ rfl _ _ rfl len rfl rfl (by omega) ?_))
  intro w1 hown1 hb1 hs1
  have V1 := mkHid (V.out.below hb1)
  go_wp2_with (refine cpy _ rfl (.tmp 33) (.tmp 34) rfl w.heap.size _ _ _ _ Z (List.replicate len 0) rfl rfl HLE.out (by simp) hown1 (V1.out.hcell _ rfl) ?_)
  intro w2 hrow2 hb2 hs2
  have HR2 := mkHid hrow2
  have HB2 := mkHid (hb1.trans hb2)
  clear hrow2 hb1 hb2 hown1
  have SE := mkHid (zz_any w.heap.size 0 len len Z i w2 HR2.out HLE.out (Nat.le_refl _) (by omega) V.out.hbyte hi HQ.out)
  have MD := mkHid (fun I hI => model_any w.heap.size 0 len len Z (i + 1) I hI w2 HR2.out HLE.out (by omega) (by omega))
  go_wp2_with (first | (go_at_call 15; refine SE.out.mono ?_; rintro e w' ⟨rfl, rfl⟩) | (go_at_call 16; refine (MD.out _ (by simp)).mono ?_; rintro e w' ⟨rfl, rfl⟩))
  go_ret
  exact ⟨by simp, HB2.out⟩

theorem law_any (a : Option Addr) (len cap : Nat) (p : Int) (Z : List Int) (w : World) (v : View w a len cap Z) :
    Calls Try.prog 5 #[.slice a len cap, .int .i64 p] w fun e w' => e = .returned (.bool true) ∧ Below w.heap.size w w' := by
  by_cases h : 1048576 < len
  · exact law_long a len cap p w v.hmax h
  by_cases hp : p < 0 ∨ (len : Int) ≤ p
  · exact law_off a len cap p w (by omega) hp
  obtain ⟨i, rfl⟩ : ∃ i : Nat, p = (i : Int) := ⟨p.toNat, by omega⟩
  obtain ⟨b, off, rfl, hrow⟩ := v.row (by omega)
  by_cases hq : Z.getD i 0 = 34
  · exact law_main b off len cap i Z w v hrow (by omega) (by omega) hq
  · exact law_noq b off len cap i Z w hrow v.hlen (by omega) (by omega) hq
end Go.Proofs.Qxb6601515a
