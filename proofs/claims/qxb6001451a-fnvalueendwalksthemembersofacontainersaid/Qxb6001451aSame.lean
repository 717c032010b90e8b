/-
  sameBytes (seat b6001451a): its test draws its order.
-/
import Derived.Test.Qxb6001451aParts
import Derived.Deep.QuietTactic
import Derived.BigQuiet
namespace Go.Proofs.Qxb6001451a
open Go.RowKit

set_option maxHeartbeats 1000000 in
theorem same_any (g cap len h capw lw : Nat) (zs ws rest : List Int) (i : Nat) (w : World) (hz : Row w g 0 zs) (hw : Row w h 0 ws) (hlen : len = zs.length) (hlw : lw = ws.length) (hl : len ≤ maxLen) (hd : zs.drop i = ws ++ rest) (hi : i + lw ≤ len) :
    Calls Try.prog 30 #[.slice (some ⟨g, 0, none⟩) len cap, .int .i64 i, .int .i64 ((i + lw : Nat) : Int), .slice (some ⟨h, 0, none⟩) lw capw] w fun e w' => e = .returned (.bool true) ∧ Below w.heap.size w w' := by
  unfold maxLen at hl
  have HZ := mkHid hz
  have HW := mkHid hw
  have HL := mkHid hlen
  have HLW := mkHid hlw
  have HD := mkHid hd
  clear hz hw hlen hlw hd
  have t1 : ¬ ((i : Nat) : Int) < 0 := by omega
  have t2 : ¬ ((i : Nat) : Int) + (lw : Int) < (i : Int) := by omega
  have t3 : ¬ (len : Int) < (i : Int) + (lw : Int) := by omega
  have t4 : ((i : Int) + (lw : Int) - (i : Int) != (lw : Int)) = false := by simp; omega
  have e4 : ((i : Nat) : Int) + (lw : Int) - (i : Int) = (lw : Int) := by omega
  go_enter Try.func30, Try.ntmps30
  go_wp2_with fail
  go_loopw [9] (fun t wr => ∃ k : Nat, k ≤ lw ∧ t = .int .i64 k ∧ Hid (Below w.heap.size w wr)) (fun t _ => lw - (intOf t).toNat)
  case atStart => exact ⟨0, Nat.zero_le _, rfl, Below.refl _ _⟩
  case round =>
    obtain ⟨k, hk, rfl, HB⟩ := hrel
    by_cases hlt : k < lw
    · have hlt' : ((k : Nat) : Int) < (lw : Int) := by omega
      have b1 : ((i : Nat) : Int) + (k : Int) < (len : Int) := by omega
      obtain ⟨c, hc⟩ : ∃ c, c = zs.getD (i + k) 0 := ⟨_, rfl⟩
      have hc' : c = ws.getD k 0 := by
        rw [hc]
        have h1 : (zs.drop i).getD k 0 = zs.getD (i + k) 0 := by simp [List.getD]
        rw [← h1, HD.out]
        simp [List.getD, List.getElem?_append_left (show k < ws.length by have := HLW.out; omega)]
      have q1 : wr.cell? ⟨g, i + k, none⟩ = some (.int .u8 c) := by
        have := cell_later HB.out (HZ.out (i + k) (by have := HL.out; omega))
        rw [Nat.zero_add, ← hc] at this; exact this
      have q2 : wr.cell? ⟨h, k, none⟩ = some (.int .u8 c) := by
        have := cell_later HB.out (HW.out k (by have := HLW.out; omega))
        rw [Nat.zero_add, ← hc'] at this; exact this
      clear hc hc'
      go_wp2_with fail
      go_quiet (fail)
      go_wp2_with fail
      go_roundw
      case rel => exact ⟨k + 1, by omega, by go_num, HB.out.trans ⟨rfl, rfl, rfl, Nat.le_refl _, fun _ _ => rfl⟩⟩
      case measure => simp [intOf]; omega
    · have hge : ¬ ((k : Nat) : Int) < (lw : Int) := by omega
      go_wp2_with fail
      go_ret
      exact ⟨rfl, HB.out⟩
end Go.Proofs.Qxb6001451a
