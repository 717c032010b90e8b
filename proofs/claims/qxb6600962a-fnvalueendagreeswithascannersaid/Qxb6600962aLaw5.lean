/-
  The walk of FnValueEndAgreesWithAScanner (seat b6600962a).
-/
import Derived.Test.Qxb6600962aModel2
namespace Go.Proofs.Qxb6600962a
open Go.RowKit

set_option maxHeartbeats 1000000 in
theorem law5_long (a : Option Addr) (len cap : Nat) (p : Int) (w : World) (hl : len ≤ maxLen) (h : 1048576 < len) :
    Calls Try.prog 5 #[.slice a len cap, .int .i64 p] w fun e w' => e = .returned (.bool true) ∧ Below w.heap.size w w' := by
  unfold maxLen at hl
  have h' : (1048576 : Int) < (len : Int) := by omega
  go_enter Try.func5, Try.ntmps5
  go_wp2
  go_ret
  exact ⟨rfl, Below.refl _ _⟩

set_option maxHeartbeats 1000000 in
theorem law5_off (a : Option Addr) (len cap : Nat) (p : Int) (w : World) (h : len ≤ 1048576) (hp : p < 0 ∨ (len : Int) ≤ p) :
    Calls Try.prog 5 #[.slice a len cap, .int .i64 p] w fun e w' => e = .returned (.bool true) ∧ Below w.heap.size w w' := by
  have h' : ¬ (1048576 : Int) < (len : Int) := by omega
  by_cases h0 : p < 0
  · go_enter Try.func5, Try.ntmps5
    go_wp2
    go_ret
    exact ⟨rfl, Below.refl _ _⟩
  · have h1 : (len : Int) ≤ p := by omega
    go_enter Try.func5, Try.ntmps5
    go_wp2
    go_ret
    exact ⟨rfl, Below.refl _ _⟩

set_option maxHeartbeats 400000 in
theorem bytes14 (a : Option Addr) (len cap : Nat) (p : Int) (w : World) (h : len ≤ 1048576) : Calls Try.prog 14 #[.slice a len cap, .int .i64 p] w fun e w' => e = .returned (.bool true) ∧ w = w' := by
  have h' : ¬ (1048576 : Int) < (len : Int) := by omega
  go_enter Try.func14, Try.ntmps14
  go_wp2
  go_ret
  exact ⟨rfl, rfl⟩

set_option maxHeartbeats 1000000 in
theorem law5_main (b off len cap i : Nat) (Z : List Int) (w : World) (v : View w (some ⟨b, off, none⟩) len cap Z) (hrow : Row w b off Z) (h : len ≤ 1048576) (hi : i < len) :
    Calls Try.prog 5 #[.slice (some ⟨b, off, none⟩) len cap, .int .i64 i] w fun e w' => e = .returned (.bool true) ∧ Below w.heap.size w w' := by
  have h' : ¬ (1048576 : Int) < (len : Int) := by omega
  have hp1 : ¬ (i : Int) < 0 := by omega
  have hp2 : ¬ (len : Int) ≤ (i : Int) := by omega
  have B14 := mkHid (fun w => bytes14 (some ⟨b, off, none⟩) len cap i w h)
  have CP := mkHid (copy_some ⟨b, off, none⟩ len cap Z w v h)
  have MD := mkHid (model_any b off cap len Z i w hrow v.hlen (by omega) hi)
  have HLE := mkHid v.hlen
  have HBY := mkHid v.hbyte
  clear v hrow
  go_enter Try.func5, Try.ntmps5
  go_wp2_with (go_at_call 14; refine (B14.out _).mono ?_; rintro e w' ⟨rfl, rfl⟩)
  refine MD.out.mono ?_
  rintro e w' ⟨r, rfl, hr, rfl⟩
  rcases hr with rfl | ⟨m, rfl, hm, hv⟩
  · go_wp2_with fail
    go_ret
    exact ⟨rfl, Below.refl _ _⟩
  · have HV := mkHid hv
    have t : ¬ ((i + m : Nat) : Int) < 0 := by omega
    clear hv
    go_wp2_with (go_at_call 10; refine CP.out.mono ?_; rintro e w1 ⟨g, rfl, HR, hg1, hg2, hb1⟩)
    refine (zz_any g 0 len len Z i m _ HR.out HLE.out (by unfold maxLen; omega) HBY.out HV.out).mono ?_
    rintro e w2 ⟨rfl, hb2⟩
    go_wp2_with fail
    go_ret
    exact ⟨by simp, hb1.trans (hb2.mono hb1.size)⟩

theorem law5_any (a : Option Addr) (len cap : Nat) (p : Int) (Z : List Int) (w : World) (v : View w a len cap Z) :
    Calls Try.prog 5 #[.slice a len cap, .int .i64 p] w fun e w' => e = .returned (.bool true) ∧ Below w.heap.size w w' := by
  by_cases h : 1048576 < len
  · exact law5_long a len cap p w v.hmax h
  by_cases hp : p < 0 ∨ (len : Int) ≤ p
  · exact law5_off a len cap p w (by omega) hp
  obtain ⟨i, rfl⟩ : ∃ i : Nat, p = (i : Int) := ⟨p.toNat, by omega⟩
  obtain ⟨b, off, rfl, hrow⟩ := v.row (by omega)
  exact law5_main b off len cap i Z w v hrow (by omega) (by omega)
end Go.Proofs.Qxb6600962a
