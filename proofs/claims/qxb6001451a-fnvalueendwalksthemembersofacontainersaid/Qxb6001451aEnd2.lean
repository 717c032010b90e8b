/-
  THE READER's CONTRACT (seat b6001451a): ZZValueEnd and valueEnd at whatever value; isDelim; sameBytes.
-/
import Derived.Test.Qxb6001451aEnd
namespace Go.Proofs.Qxb6001451a
open Go.RowKit

theorem valueEnd_any (b off cap len : Nat) (zs : List Int) (i m : Nat) (w : World) (hrow : Row w b off zs) (hlen : len = zs.length) (hl : len ≤ maxLen) (hby : ∀ c ∈ zs, 0 ≤ c ∧ c ≤ 255) (hv : Pl.VEnd (zs.drop i) m) :
    Calls Try.prog 35 #[.slice (some ⟨b, off, none⟩) len cap, .int .i64 i] w fun e w' => e = .returned (.int .i64 ((i + m : Nat) : Int)) ∧ w' = w := by
  have hi : i < zs.length := Pl.drop_lt fun e => by simp [e, Pl.VEnd] at hv
  have hg : zs.getD i 0 = zs[i] := by simp [List.getD, hi]
  have hd := List.drop_eq_getElem_cons hi
  have hv' := hv
  rw [hd] at hv
  simp only [Pl.VEnd] at hv
  split at hv
  · rename_i hc
    obtain ⟨j, rfl, hj⟩ := hv
    exact valueEnd_str b off cap len zs i j w hrow hlen hl (by omega) (by rw [hg]; exact hc) hj
  · rename_i h1
    split at hv
    · rename_i h2
      exact valueEnd_box b off cap len zs i m w hrow hlen hl (by omega) (by rw [hg]; exact h2) (by rw [hd]; exact hv)
    · rename_i h2
      exact valueEnd_num b off cap len zs i m w hrow hlen hl hby (by omega) (by rw [hg]; exact h1) (by rw [hg]; exact fun h => h2 (.inl h)) (by rw [hg]; exact fun h => h2 (.inr h)) (by rw [hd]; exact hv)

set_option maxHeartbeats 400000 in
theorem zz_any (b off cap len : Nat) (zs : List Int) (i m : Nat) (w : World) (hrow : Row w b off zs) (hlen : len = zs.length) (hl : len ≤ maxLen) (hby : ∀ c ∈ zs, 0 ≤ c ∧ c ≤ 255) (hv : Pl.VEnd (zs.drop i) m) :
    Calls Try.prog 28 #[.slice (some ⟨b, off, none⟩) len cap, .int .i64 i] w fun e w' => e = .returned (.int .i64 ((i + m : Nat) : Int)) ∧ w' = w := by
  have H := mkHid (valueEnd_any b off cap len zs i m w hrow hlen hl hby hv)
  clear hrow hlen hl hby hv
  go_enter Try.func28, Try.ntmps28
  go_wp2_with (go_at_call 35; refine H.out.mono ?_; rintro e w' ⟨rfl, rfl⟩)
  go_ret
  exact ⟨rfl, rfl⟩

theorem isDelim_any (c : Int) (w : World) : Calls Try.prog 26 #[.int .u8 c] w fun e w' => e = .returned (.bool (Pl.isDel c)) ∧ w' = w := by
  have hd : Pl.isDel c = (c == 44 || c == 93 || c == 125 || c == 32 || c == 9 || c == 13 || c == 10) := rfl
  have HD := mkHid hd
  clear hd
  go_enter Try.func26, Try.ntmps26
  go_wp2
  all_goals go_ret
  all_goals refine ⟨?_, rfl⟩
  all_goals rw [HD.out]
  all_goals simp [*]
end Go.Proofs.Qxb6001451a
