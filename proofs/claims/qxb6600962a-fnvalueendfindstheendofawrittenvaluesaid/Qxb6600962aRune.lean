/-
  strings.ContainsRune over the delimiters (seat b6600962a), at every byte.
-/
import Derived.Test.Qxb6600962aRead
import Derived.Deep.QuietTactic
import Derived.BigQuiet
import Derived.WalkMore
import Derived.Outline
namespace Go.Proofs.Qxb6600962a
open Go.RowKit

def delB : List UInt8 := [44, 58, 93, 125, 32, 9, 10, 13]
def delIdx (c : Int) : Int := Lib.indexByte delB c.toNat.toUInt8

theorem delIdx_all : ∀ n : Fin 256, (Pl.isDel (n.val : Int) = true ∧ 0 ≤ Lib.indexByte delB n.val.toUInt8) ∨ (Pl.isDel (n.val : Int) = false ∧ Lib.indexByte delB n.val.toUInt8 < 0) := by
  decide +kernel
theorem delIdx_of (c : Int) (h0 : 0 ≤ c) (h1 : c ≤ 255) : (Pl.isDel c = true ∧ 0 ≤ delIdx c) ∨ (Pl.isDel c = false ∧ delIdx c < 0) := by
  have h := delIdx_all ⟨c.toNat, by omega⟩
  have e : ((c.toNat : Nat) : Int) = c := by omega
  simpa [e, delIdx] using h

set_option maxHeartbeats 400000 in
set_option maxRecDepth 100000 in
theorem indexByte_any (s : ByteArray) (c : Int) (w : World) :
    Calls Try.prog 31 #[.string s, .int .u8 c] w fun e w' => e = .returned (.int .i64 (Lib.indexByte s.data.toList c.toNat.toUInt8)) ∧ w' = w := by
  go_enter Try.func31, Try.ntmps31
  go_wp2
  rw [run_callFunc_extern Try.func36 (by kernel_rfl) (by kernel_rfl) (by kernel_rfl) (e := Extern.BytealgIndexByte.indexByte) (by kernel_rfl), Lib.run_indexByteString]
  simp only [Result.andThen]
  rw [Oper.upon_value]
  go_wp2
  go_ret
  exact ⟨rfl, rfl⟩
theorem indexByte_del (c : Int) (w : World) :
    Calls Try.prog 31 #[.string { data := #[44, 58, 93, 125, 32, 9, 10, 13] }, .int .u8 c] w fun e w' => e = .returned (.int .i64 (delIdx c)) ∧ w' = w := indexByte_any _ c w

theorem indexByte_neg (s : ByteArray) (c : Int) (h : Lib.indexByte s.data.toList c.toNat.toUInt8 = -1) (w : World) :
    Calls Try.prog 31 #[.string s, .int .u8 c] w fun e w' => e = .returned (.int .i64 (-1)) ∧ w' = w := by rw [← h]; exact indexByte_any s c w

/-- The bytes of a rune of two bytes. -/
theorem enc_two : ∀ n : Fin 128, ∃ h l : UInt8, Utf8.encode ((n.val + 128 : Nat) : Int) = ⟨#[h, l]⟩ ∧ 128 ≤ l.toNat ∧ Lib.indexByte [93, 125, 32, 9, 10, 13] l = -1 := by
  intro n
  refine ⟨UInt8.ofNat (192 + (n.val + 128) / 64), UInt8.ofNat (128 + (n.val + 128) % 64), ?_, ?_, ?_⟩
  · revert n; decide +kernel
  · revert n; decide +kernel
  · revert n; decide +kernel

set_option maxHeartbeats 1000000 in
set_option maxRecDepth 100000 in
theorem indexRune_low (c : Int) (h0 : 0 ≤ c) (h1 : c < 128) (w : World) :
    Calls Try.prog 30 #[.string { data := #[44, 58, 93, 125, 32, 9, 10, 13] }, .int .i32 c] w fun e w' => e = .returned (.int .i64 (delIdx c)) ∧ Below w.heap.size w w' := by
  go_enter Try.func30, Try.ntmps30
  go_wp2_with (go_at_call 31; refine (indexByte_del c _).mono ?_; rintro e w' ⟨rfl, rfl⟩)
  go_ret
  exact ⟨rfl, Below.refl _ _⟩

set_option maxHeartbeats 1000000 in
theorem validRune_any (c : Int) (h0 : 128 ≤ c) (h1 : c ≤ 255) (w : World) : Calls Try.prog 32 #[.int .i32 c] w fun e w' => e = .returned (.bool true) ∧ w' = w := by
  go_enter Try.func32, Try.ntmps32
  go_wp2
  go_ret
  exact ⟨rfl, rfl⟩

set_option maxHeartbeats 1000000 in
set_option maxRecDepth 100000 in
theorem indexRune_high (c : Int) (h0 : 128 ≤ c) (h1 : c ≤ 255) (w : World) :
    Calls Try.prog 30 #[.string { data := #[44, 58, 93, 125, 32, 9, 10, 13] }, .int .i32 c] w fun e w' => e = .returned (.int .i64 (-1)) ∧ Below w.heap.size w w' := by
  obtain ⟨h, l, he, hl, hi⟩ := enc_two ⟨(c - 128).toNat, by omega⟩
  have hc : (((⟨(c - 128).toNat, by omega⟩ : Fin 128).val + 128 : Nat) : Int) = c := by show ((c - 128).toNat + 128 : Nat) = c; omega
  rw [hc] at he
  have t1 : (c == 65533) = false := by rw [beq_eq_false_iff_ne]; omega
  have t2 : ((58 : Int) != (l.toNat : Int)) = true := by simp; omega
  have VR := mkHid (fun w => (validRune_any c h0 h1 w).mono fun e w' (h : _ ∧ _) => (⟨h.1, h.2.symm⟩ : _ ∧ w = w'))
  have e1 : ∀ p, ((⟨#[44, 58, 93, 125, 32, 9, 10, 13]⟩ : ByteArray)[1]'p).toNat = 58 := fun _ => rfl
  have e2 : ∀ p, (⟨#[h, l]⟩ : ByteArray)[1]'p = l := fun _ => rfl
  clear hc
  go_enter Try.func30, Try.ntmps30
  go_wp2_with (go_at_call 32; refine (VR.out _).mono ?_; rintro e w' ⟨rfl, rfl⟩)
  go_step3
  go_wp2_with fail
  refine wp_loop_rounds 1 ?_
  rw [rounds_succ]
  go_wp2_with fail
  go_step3
  go_wp2_with fail
  go_quiet (fail)
  obtain ⟨wq, hwq⟩ : ∃ wq : World, wq = w.drewN nq := ⟨_, rfl⟩
  rw [← hwq]
  have HB := mkHid (show Below w.heap.size w wq by rw [hwq]; exact below_drewN (Below.refl _ _) nq)
  have HZ := mkHid (show Lib.indexByte ((⟨#[44, 58, 93, 125, 32, 9, 10, 13]⟩ : ByteArray).extract 2 8).data.toList (l.toNat : Int).toNat.toUInt8 = -1 by
    have e3 : (l.toNat : Int).toNat.toUInt8 = l := by simp
    rw [e3]
    exact hi)
  clear hwq hi VR
  go_wp2_with fail
  go_quiet ((go_at_call 31; exact Calls.quiet_of_same (indexByte_neg _ _ HZ.out _)))
  go_wp2_with fail
  rw [Exit.noGoto_ret]
  go_wp2_with fail
  try rw [Exit.noGoto_ret]
  go_wp2_with fail
  go_ret
  exact ⟨rfl, below_drewN HB.out nq⟩
end Go.Proofs.Qxb6600962a
