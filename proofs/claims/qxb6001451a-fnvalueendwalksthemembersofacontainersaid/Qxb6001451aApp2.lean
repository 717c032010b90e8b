/-
  THE WALKS OF THE WRITER (seat b6001451a), part 2: appendScalar.
-/
import Derived.Test.Qxb6001451aApp
namespace Go.Proofs.Qxb6001451a
open Go.RowKit

theorem isDelim_eq (c : Int) (b : Bool) (h : Pl.isDel c = b) (w : World) : Calls Try.prog 26 #[.int .u8 c] w fun e w' => e = .returned (.bool b) ∧ w' = w := by
  rw [← h]; exact isDelim_any c w

theorem kept_at (s : ByteArray) (k : Nat) (h : k < s.size) : Pl.kept ((Pl.byt s).take (k + 1)) = Pl.kept ((Pl.byt s).take k) ++ (if Pl.keepC (s[k].toNat : Int) = true then [(s[k].toNat : Int)] else []) := by
  rw [byt_at s k h]
  unfold Pl.kept
  rw [List.filter_append]
  congr 1
  simp [List.filter_cons]

theorem kept_take_len (s : ByteArray) (k : Nat) : (Pl.kept ((Pl.byt s).take k)).length ≤ k := by
  have := List.length_filter_le Pl.keepC ((Pl.byt s).take k)
  have h2 : ((Pl.byt s).take k).length ≤ k := List.length_take_le _ _
  unfold Pl.kept
  omega

/-- The five ways in which a byte is dropped, and the one in which it is kept. -/
theorem drop_ways (c : Int) : (Pl.keepC c = false ∧ (Pl.isDel c = true ∨ (Pl.isDel c = false ∧ (c == 34) = true) ∨ (Pl.isDel c = false ∧ (c == 34) = false ∧ (c == 123) = true) ∨
      (Pl.isDel c = false ∧ (c == 34) = false ∧ (c == 123) = false ∧ (c == 91) = true) ∨ (Pl.isDel c = false ∧ (c == 34) = false ∧ (c == 123) = false ∧ (c == 91) = false ∧ (c == 58) = true))) ∨
    (Pl.keepC c = true ∧ Pl.isDel c = false ∧ (c == 34) = false ∧ (c == 123) = false ∧ (c == 91) = false ∧ (c == 58) = false) := by
  unfold Pl.keepC
  cases Pl.isDel c <;> cases (c == 34) <;> cases (c == 123) <;> cases (c == 91) <;> cases (c == 58) <;> simp

set_option maxHeartbeats 2000000 in
theorem appendScalar_any (base : Nat) (v : Value) (bs : List Int) (s : ByteArray) (w : World) (hown : Own base w v bs) (hb : base ≤ w.heap.size) (hsz : bs.length + s.size + 1 ≤ 140737488355328) :
    Calls Try.prog 34 #[v, .string s] w fun e w' => ∃ v', e = .returned v' ∧ Own base w' v' (bs ++ Pl.encN (Pl.byt s)) ∧ Kp base w w' := by
  go_enter Try.func34, Try.ntmps34
  go_wp2_with fail
  go_loopw [0, 5, 6] (fun t n i wr => ∃ (k q : Nat), k ≤ s.size ∧ q ≤ k ∧ i = .int .i64 k ∧ n = .int .i64 q ∧ Hid (q = (Pl.kept ((Pl.byt s).take k)).length) ∧ Own base wr t (bs ++ Pl.kept ((Pl.byt s).take k)) ∧ Kp base w wr) (fun _ _ i _ => s.size - (intOf i).toNat)
  case atStart => exact ⟨0, 0, Nat.zero_le _, Nat.zero_le _, rfl, rfl, rfl, by simpa [Pl.kept] using hown, Kp.refl _ _⟩
  case round =>
    obtain ⟨k, q, hk, hqk, rfl, rfl, HQ, hown, hkr⟩ := hrel
    have hbr : base ≤ wr.heap.size := Nat.le_trans hb hkr.size
    have hel := kept_take_len s k
    by_cases hlt : k < s.size
    · have HX := mkHid (kept_at s k hlt)
      have hlt' : ((k : Nat) : Int) < (s.size : Int) := by omega
      rcases drop_ways (s[k].toNat : Int) with ⟨hkeep, hways⟩ | ⟨hkeep, d0, d1, d2, d3, d4⟩
      · have HX' := mkHid (show Pl.kept ((Pl.byt s).take (k + 1)) = Pl.kept ((Pl.byt s).take k) by rw [HX.out, hkeep]; simp)
        clear HX hkeep
        rcases hways with h | ⟨h, d1⟩ | ⟨h, d1, d2⟩ | ⟨h, d1, d2, d3⟩ | ⟨h, d1, d2, d3, d4⟩
        all_goals
          have HC := mkHid (isDelim_eq _ _ h)
          clear h
          go_wp2_with (go_at_call 26; refine (HC.out _).mono ?_; rintro e w' ⟨rfl, rfl⟩)
          go_roundw
          case rel => exact ⟨k + 1, q, by omega, by omega, by go_num, rfl, by rw [HX'.out]; exact HQ, by rw [HX'.out]; exact hown, hkr⟩
          case measure => simp [intOf]; omega
      · have HX' := mkHid (show Pl.kept ((Pl.byt s).take (k + 1)) = Pl.kept ((Pl.byt s).take k) ++ [(s[k].toNat : Int)] by rw [HX.out, hkeep]; simp)
        clear HX hkeep
        have HC := mkHid (isDelim_eq _ _ d0)
        clear d0
        go_wp2_with (first | (go_at_call 26; refine (HC.out _).mono ?_; rintro e w' ⟨rfl, rfl⟩) | (at_builtin; refine app1 _ rfl (.tmp 35) (.tmp 37) rfl base _ _ (s[k].toNat : Int) rfl hown rfl (by simp; omega) hbr ?_))
        intro v3 w3 hown3 hk3
        go_wp2_with fail
        go_roundw
        case rel => exact ⟨k + 1, q + 1, by omega, by omega, by go_num, by go_num, by rw [HX'.out]; show q + 1 = _; rw [List.length_append, ← HQ.out]; rfl, by rw [HX'.out]; simpa using hown3, hkr.trans hk3⟩
        case measure => simp [intOf]; omega
    · have EK := mkHid (show (Pl.byt s).take k = Pl.byt s from List.take_of_length_le (by rw [Pl.byt_len]; omega))
      have hge : ¬ ((k : Nat) : Int) < (s.size : Int) := by omega
      by_cases hq : q = 0
      · subst hq
        go_wp2_with (at_builtin; refine app1 _ rfl (.tmp 43) (.tmp 44) rfl base _ _ 48 rfl hown rfl (by simp; omega) hbr ?_)
        intro v2 w2 hown2 hk2
        go_wp2_with fail
        go_ret
        refine ⟨_, rfl, ?_, hkr.trans hk2⟩
        have hq0 := HQ.out
        rw [EK.out] at hown2 hq0
        unfold Pl.encN
        rw [if_pos hq0.symm]
        have : Pl.kept (Pl.byt s) = [] := List.eq_nil_of_length_eq_zero hq0.symm
        rw [this] at hown2
        simpa using hown2
      · have t : ((q : Int) == 0) = false := by rw [beq_eq_false_iff_ne]; omega
        go_wp2_with fail
        go_ret
        refine ⟨_, rfl, ?_, hkr⟩
        have hq0 := HQ.out
        rw [EK.out] at hown hq0
        unfold Pl.encN
        rw [if_neg (by omega)]
        exact hown
end Go.Proofs.Qxb6001451a
