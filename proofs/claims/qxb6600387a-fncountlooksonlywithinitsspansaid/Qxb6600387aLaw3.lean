/-
  ZZCount, and the walk of FnCountMatchesEscapeStateScanner (seat b6600387a).
-/
import Derived.Test.Qxb6600387aCount
namespace Go.Proofs.Qxb6600387a
open Go.RowKit

set_option maxHeartbeats 1000000 in
theorem zzcount_any (b off cap len : Nat) (zs : List Int) (pos : Nat) (P : Int) (hP : P = (pos : Int)) (N S : Nat) (w : World)
    (hrow : Row w b off zs) (hbl : len = 0 ∨ b < w.heap.size) (hlen : len = zs.length) (hcap : len ≤ cap) (hl : len ≤ 281474976710656) (hby : ∀ c ∈ zs, 0 ≤ c ∧ c ≤ 255) (hp : pos ≤ len) (hR : Pl.cnt 0 0 0 false (zs.drop pos) = (N, S)) :
    Calls Try.prog 10 #[.slice (some ⟨b, off, none⟩) len cap, .int .i64 P] w fun e w' => e = .returned (.tuple #[.int .i64 (N : Int), .int .i64 (S : Int)]) ∧ Below w.heap.size w w' := by
  subst hP
  have hrow2 : ∀ o, Row (w.alloc o) b off zs := fun o i hi => by
    have hb : b < w.heap.size := by
      rcases hbl with h | h
      · omega
      · exact h
    exact (((Below.refl _ _).alloc (Nat.le_refl _) o).cell (p := ⟨b, off + i, none⟩) hb).trans (hrow i hi)
  have C := mkHid (count_any w.heap.size b off cap len zs pos N S (w.alloc (.cells #[.slice (some ⟨b, off, none⟩) len cap, .int .i64 pos] 43)) (by simp) (by simp) (hrow2 _) hlen hcap hl hby hp hR)
  clear hrow hrow2 hbl hlen hby hR
  go_enter Try.func10, Try.ntmps10
  go_wp2_with (go_at_call 22; refine C.out.mono ?_; rintro e w' ⟨rfl, hb⟩)
  go_ret2
  exact ⟨rfl, ((Below.refl _ _).alloc (Nat.le_refl _) _).trans (hb.mono (by simp))⟩

set_option maxHeartbeats 1000000 in
set_option maxRecDepth 100000 in
/-- count at an empty line. -/
theorem count_bare (pb : Nat) (w : World) (q0 : w.cell? ⟨pb, 0, none⟩ = some (.slice none 0 0)) (q1 : w.cell? ⟨pb, 1, none⟩ = some (.int .i64 0)) :
    Calls Try.prog 22 #[.pointer (some ⟨pb, 0, none⟩)] w fun e w' => e = .returned (.tuple #[.int .i64 0, .int .i64 0]) ∧ Below w.heap.size w w' := by
  go_enter Try.func22, Try.ntmps22
  go_wp2_with fail
  go_step3
  go_wp2_with fail
  go_step3
  go_wp2_with fail
  refine wp_loop_rounds 1 ?_
  rw [rounds_succ]
  go_wp2_with fail
  go_region
  all_goals go_wp2_with fail
  all_goals try rw [Exit.noGoto_ret]
  all_goals go_ret2
  all_goals exact ⟨rfl, (Below.refl _ _).drew⟩

set_option maxHeartbeats 1000000 in
theorem zzcount_bare (w : World) : Calls Try.prog 10 #[.slice none 0 0, .int .i64 0] w fun e w' => e = .returned (.tuple #[.int .i64 0, .int .i64 0]) ∧ Below w.heap.size w w' := by
  have C := mkHid (count_bare w.heap.size (w.alloc (.cells #[.slice none 0 0, .int .i64 0] 43)) (by simp) (by simp))
  go_enter Try.func10, Try.ntmps10
  go_wp2_with (go_at_call 22; refine C.out.mono ?_; rintro e w' ⟨rfl, hb⟩)
  go_ret2
  exact ⟨rfl, ((Below.refl _ _).alloc (Nat.le_refl _) _).trans (hb.mono (by simp))⟩

set_option maxHeartbeats 400000 in
theorem model_bare (w : World) : Calls Try.prog 11 #[.slice none 0 0, .int .i64 0] w fun e w' => e = .returned (.tuple #[.int .i64 0, .int .i64 0]) ∧ w = w' := by
  have AC := mkHid (arrayCount_any false 0 (by omega))
  go_enter Try.func11, Try.ntmps11
  go_wp2_with fail
  refine wp_loop_rounds 1 ?_
  rw [rounds_succ]
  go_wp2_with (go_at_call 24; refine (AC.out _).mono ?_; rintro e w' ⟨rfl, rfl⟩)
  go_ret2
  exact ⟨rfl, rfl⟩

set_option maxHeartbeats 1000000 in
theorem law3_long (a : Option Addr) (len cap : Nat) (p : Int) (w : World) (hl : len ≤ maxLen) (h : 1048576 < len) :
    Calls Try.prog 3 #[.slice a len cap, .int .i64 p] w fun e w' => e = .returned (.bool true) ∧ Below w.heap.size w w' := by
  unfold maxLen at hl
  have h' : (1048576 : Int) < (len : Int) := by omega
  go_enter Try.func3, Try.ntmps3
  go_wp2
  go_ret
  exact ⟨rfl, Below.refl _ _⟩

set_option maxHeartbeats 1000000 in
theorem law3_off (a : Option Addr) (len cap : Nat) (p : Int) (w : World) (h : len ≤ 1048576) (hp : p < 0 ∨ (len : Int) < p) :
    Calls Try.prog 3 #[.slice a len cap, .int .i64 p] w fun e w' => e = .returned (.bool true) ∧ Below w.heap.size w w' := by
  have h' : ¬ (1048576 : Int) < (len : Int) := by omega
  by_cases h0 : p < 0
  · go_enter Try.func3, Try.ntmps3
    go_wp2
    go_ret
    exact ⟨rfl, Below.refl _ _⟩
  · have h1 : (len : Int) < p := by omega
    go_enter Try.func3, Try.ntmps3
    go_wp2
    go_ret
    exact ⟨rfl, Below.refl _ _⟩

set_option maxHeartbeats 400000 in
theorem bytes8 (a : Option Addr) (len cap : Nat) (p : Int) (w : World) (h : len ≤ 1048576) : Calls Try.prog 8 #[.slice a len cap, .int .i64 p] w fun e w' => e = .returned (.bool true) ∧ w = w' := by
  have h' : ¬ (1048576 : Int) < (len : Int) := by omega
  go_enter Try.func8, Try.ntmps8
  go_wp2
  go_ret
  exact ⟨rfl, rfl⟩

set_option maxHeartbeats 1000000 in
theorem law3_nil (w : World) : Calls Try.prog 3 #[.slice none 0 0, .int .i64 0] w fun e w' => e = .returned (.bool true) ∧ Below w.heap.size w w' := by
  have B8 := mkHid (bytes8 none 0 0 0)
  go_enter Try.func3, Try.ntmps3
  go_wp2_with (first | (go_at_call 8; refine (B8.out _ (by omega)).mono ?_; rintro e w' ⟨rfl, rfl⟩) | (go_at_call 9; refine (copy_nil _).mono ?_; rintro e w' ⟨rfl, rfl⟩) | (go_at_call 10; refine (zzcount_bare _).mono ?_; rintro e w1 ⟨rfl, hb1⟩) | (go_at_call 11; refine (model_bare _).mono ?_; rintro e w' ⟨rfl, rfl⟩))
  go_ret
  exact ⟨rfl, hb1⟩

set_option maxHeartbeats 1000000 in
theorem law3_main (ad : Addr) (len cap pos : Nat) (Z : List Int) (w : World) (v : View w (some ad) len cap Z) (h : len ≤ 1048576) (hp : pos ≤ len) :
    Calls Try.prog 3 #[.slice (some ad) len cap, .int .i64 pos] w fun e w' => e = .returned (.bool true) ∧ Below w.heap.size w w' := by
  have h' : ¬ (1048576 : Int) < (len : Int) := by omega
  have hp1 : ¬ (pos : Int) < 0 := by omega
  have hp2 : ¬ (len : Int) < (pos : Int) := by omega
  have B8 := mkHid (fun w => bytes8 (some ad) len cap pos w h)
  have CP := mkHid (copy_some ad len cap Z w v h)
  have HLE := mkHid v.hlen
  have HBY := mkHid v.hbyte
  obtain ⟨N, S, hNS⟩ : ∃ N S, Pl.cnt 0 0 0 false (Z.drop pos) = (N, S) := ⟨_, _, rfl⟩
  have HNS := mkHid hNS
  clear v hNS
  go_enter Try.func3, Try.ntmps3
  go_wp2_with (first | (go_at_call 8; refine (B8.out _).mono ?_; rintro e w' ⟨rfl, rfl⟩) | (go_at_call 9; refine CP.out.mono ?_; rintro e w1 ⟨g, rfl, HR, hg1, hg2, hb1⟩))
  refine (zzcount_any g 0 len len Z pos _ rfl N S _ HR.out (.inr hg2) HLE.out (Nat.le_refl _) (by omega) HBY.out hp HNS.out).mono ?_
  rintro e w2 ⟨rfl, hb2⟩
  have MD := mkHid (model_any g 0 len len Z pos N S w2 (HR.out.below hg2 hb2) HLE.out (by omega) hp HNS.out)
  go_wp2_with (go_at_call 11; refine MD.out.mono ?_; rintro e w' ⟨rfl, rfl⟩)
  go_ret
  exact ⟨by simp, hb1.trans (hb2.mono hb1.size)⟩

theorem law3_any (a : Option Addr) (len cap : Nat) (p : Int) (Z : List Int) (w : World) (v : View w a len cap Z) :
    Calls Try.prog 3 #[.slice a len cap, .int .i64 p] w fun e w' => e = .returned (.bool true) ∧ Below w.heap.size w w' := by
  by_cases h : 1048576 < len
  · exact law3_long a len cap p w v.hmax h
  by_cases hp : p < 0 ∨ (len : Int) < p
  · exact law3_off a len cap p w (by omega) hp
  obtain ⟨pos, rfl⟩ : ∃ pos : Nat, p = (pos : Int) := ⟨p.toNat, by omega⟩
  cases a with
  | none =>
    obtain ⟨rfl, rfl⟩ := v.hnil rfl
    obtain rfl : pos = 0 := by omega
    exact law3_nil w
  | some ad => exact law3_main ad len cap pos Z w v (by omega) (by omega)
end Go.Proofs.Qxb6600387a
