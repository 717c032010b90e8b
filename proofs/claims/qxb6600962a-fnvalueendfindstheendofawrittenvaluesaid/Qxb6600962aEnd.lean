/-
  valueEnd at scalars, and at whatever value (seat b6600962a); isValueDelimiter.
-/
import Derived.Test.Qxb6600962aRune
namespace Go.Proofs.Qxb6600962a
open Go.RowKit

set_option maxHeartbeats 400000 in
theorem contains_low (c : Int) (h0 : 0 ≤ c) (h1 : c < 128) (w : World) :
    Calls Try.prog 29 #[.string { data := #[44, 58, 93, 125, 32, 9, 10, 13] }, .int .i32 c] w fun e w' => e = .returned (.bool (Pl.isDel c)) ∧ Below w.heap.size w w' := by
  have C := mkHid (indexRune_low c h0 h1)
  rcases delIdx_of c h0 (by omega) with ⟨h2, h3⟩ | ⟨h2, h3⟩
  · obtain ⟨d, hd⟩ : ∃ d, d = delIdx c := ⟨_, rfl⟩
    rw [← hd] at C h3
    rw [h2]
    clear h2 hd
    go_enter Try.func29, Try.ntmps29
    go_wp2_with (go_at_call 30; refine (C.out _).mono ?_; rintro e w1 ⟨rfl, hb1⟩)
    go_ret
    exact ⟨by simp, hb1⟩
  · obtain ⟨d, hd⟩ : ∃ d, d = delIdx c := ⟨_, rfl⟩
    rw [← hd] at C h3
    rw [h2]
    clear h2 hd
    go_enter Try.func29, Try.ntmps29
    go_wp2_with (go_at_call 30; refine (C.out _).mono ?_; rintro e w1 ⟨rfl, hb1⟩)
    go_ret
    exact ⟨by simp; omega, hb1⟩

set_option maxHeartbeats 400000 in
theorem contains_high (c : Int) (h0 : 128 ≤ c) (h1 : c ≤ 255) (w : World) :
    Calls Try.prog 29 #[.string { data := #[44, 58, 93, 125, 32, 9, 10, 13] }, .int .i32 c] w fun e w' => e = .returned (.bool (Pl.isDel c)) ∧ Below w.heap.size w w' := by
  have C := mkHid (indexRune_high c h0 h1)
  have hd : Pl.isDel c = false := by simp [Pl.isDel]; omega
  rw [hd]
  clear hd
  go_enter Try.func29, Try.ntmps29
  go_wp2_with (go_at_call 30; refine (C.out _).mono ?_; rintro e w1 ⟨rfl, hb1⟩)
  go_ret
  exact ⟨rfl, hb1⟩

theorem contains_eq (c : Int) (b : Bool) (h0 : 0 ≤ c) (h1 : c ≤ 255) (h : Pl.isDel c = b) (w : World) :
    Calls Try.prog 29 #[.string { data := #[44, 58, 93, 125, 32, 9, 10, 13] }, .int .i32 c] w fun e w' => e = .returned (.bool b) ∧ Below w.heap.size w w' := by
  rw [← h]
  by_cases h2 : c < 128
  · exact contains_low c h0 h2 w
  · exact contains_high c (by omega) h1 w

set_option maxHeartbeats 400000 in
theorem valueEnd_num (b off cap len : Nat) (zs : List Int) (i m : Nat) (w : World) (hrow : Row w b off zs) (hlen : len = zs.length) (hl : len ≤ maxLen) (hby : ∀ c ∈ zs, 0 ≤ c ∧ c ≤ 255) (hi : i < len)
    (h34 : zs.getD i 0 ≠ 34) (h123 : zs.getD i 0 ≠ 123) (h91 : zs.getD i 0 ≠ 91) (he : Pl.SEnd (zs.drop i) m) :
    Calls Try.prog 25 #[.slice (some ⟨b, off, none⟩) len cap, .int .i64 i] w fun e w' => e = .returned (.int .i64 ((i + m : Nat) : Int)) ∧ Below w.heap.size w w' := by
  obtain ⟨c0, hc0⟩ : ∃ c, c = zs.getD i 0 := ⟨_, rfl⟩
  have hcell := row_at hrow (k := i) (by omega) hc0
  rw [← hc0] at h34 h123 h91
  have HR := mkHid hrow
  have HL := mkHid hlen
  have HE := mkHid he
  have HB := mkHid hby
  have t0 : (c0 == 34) = false := by rw [beq_eq_false_iff_ne]; exact h34
  have t1 : (c0 == 123) = false := by rw [beq_eq_false_iff_ne]; exact h123
  have t2 : (c0 == 91) = false := by rw [beq_eq_false_iff_ne]; exact h91
  clear hrow hlen he hc0 h34 h123 h91 hby
  unfold maxLen at hl
  go_enter Try.func25, Try.ntmps25
  go_wp2_with fail
  go_loopw [1] (fun t wr => ∃ (k m' : Nat), t = .int .i64 k ∧ k ≤ len ∧ Hid (Pl.SEnd (zs.drop k) m' ∧ k + m' = i + m) ∧ Hid (Below w.heap.size w wr)) (fun t _ => len - (intOf t).toNat)
  case atStart => exact ⟨i, m, rfl, by omega, ⟨HE.out, rfl⟩, Below.refl _ _⟩
  case round =>
    obtain ⟨k, m', rfl, hk, HK, HBW⟩ := hrel
    have hkm := HK.out.2
    have hln := HL.out
    have hst := Pl.send_step zs k m' HK.out.1 (by omega)
    obtain ⟨c, hc⟩ : ∃ c, c = zs.getD k 0 := ⟨_, rfl⟩
    rw [← hc, ← hln] at hst
    rcases hst with ⟨h1, h2⟩ | ⟨h1, h2, h3⟩ | ⟨h1, h2, h3, hn⟩
    · have HX := mkHid (show ((k : Nat) : Int) = ((i + m : Nat) : Int) by omega)
      have hge : ¬ ((k : Nat) : Int) < (len : Int) := by omega
      clear h1 h2 hc hln hkm
      go_wp2_with fail
      go_ret
      exact ⟨ret_int HX.out, HBW.out⟩
    · have hcell := cell_later HBW.out (row_at HR.out (k := k) (by omega) hc)
      have hcb : 0 ≤ c ∧ c ≤ 255 := by rw [hc]; exact HB.out _ (by simp [List.getD, show k < zs.length by omega])
      have CR := mkHid (contains_eq c true hcb.1 hcb.2 h2)
      have HX := mkHid (show ((k : Nat) : Int) = ((i + m : Nat) : Int) by omega)
      have hlt : ((k : Nat) : Int) < (len : Int) := by omega
      obtain ⟨hcb1, hcb2⟩ := hcb
      clear h2 h3 hc hln hkm
      go_wp2_with (go_at_call 29; refine (CR.out _).mono ?_; rintro e w1 ⟨rfl, hb1⟩)
      go_ret
      exact ⟨ret_int HX.out, HBW.out.trans (hb1.mono HBW.out.size)⟩
    · have hcell := cell_later HBW.out (row_at HR.out (k := k) (by omega) hc)
      have hcb : 0 ≤ c ∧ c ≤ 255 := by rw [hc]; exact HB.out _ (by simp [List.getD, show k < zs.length by omega])
      have CR := mkHid (contains_eq c false hcb.1 hcb.2 h2)
      have hlt : ((k : Nat) : Int) < (len : Int) := by omega
      have HN := mkHid (show Pl.SEnd (zs.drop (k + 1)) (m' - 1) ∧ k + 1 + (m' - 1) = i + m from ⟨hn, by omega⟩)
      obtain ⟨hcb1, hcb2⟩ := hcb
      clear h2 h3 hc hln hkm hn
      go_wp2_with (go_at_call 29; refine (CR.out _).mono ?_; rintro e w1 ⟨rfl, hb1⟩)
      go_roundw
      case rel => exact ⟨k + 1, m' - 1, by go_num, by omega, HN, HBW.out.trans (hb1.mono HBW.out.size)⟩
      case measure => simp [intOf]; omega

theorem valueEnd_any (b off cap len : Nat) (zs : List Int) (i m : Nat) (w : World) (hrow : Row w b off zs) (hlen : len = zs.length) (hl : len ≤ maxLen) (hby : ∀ c ∈ zs, 0 ≤ c ∧ c ≤ 255) (hv : Pl.VEnd (zs.drop i) m) :
    Calls Try.prog 25 #[.slice (some ⟨b, off, none⟩) len cap, .int .i64 i] w fun e w' => e = .returned (.int .i64 ((i + m : Nat) : Int)) ∧ Below w.heap.size w w' := by
  have hi : i < zs.length := Pl.drop_lt fun e => by simp [e, Pl.VEnd] at hv
  have hg : zs.getD i 0 = zs[i] := by simp [List.getD, hi]
  have hd := List.drop_eq_getElem_cons hi
  have hv' := hv
  rw [hd] at hv
  simp only [Pl.VEnd] at hv
  split at hv
  · rename_i hc
    obtain ⟨j, rfl, hj⟩ := hv
    exact (valueEnd_str b off cap len zs i j w hrow hlen hl (by omega) (by rw [hg]; exact hc) hj).mono fun e w' (h : _ ∧ _) => ⟨h.1, h.2 ▸ Below.refl _ _⟩
  · rename_i h1
    split at hv
    · rename_i h2
      exact (valueEnd_box b off cap len zs i m w hrow hlen hl (by omega) (by rw [hg]; exact h2) (by rw [hd]; exact hv)).mono fun e w' (h : _ ∧ _) => ⟨h.1, h.2 ▸ Below.refl _ _⟩
    · rename_i h2
      exact valueEnd_num b off cap len zs i m w hrow hlen hl hby (by omega) (by rw [hg]; exact h1) (by rw [hg]; exact fun h => h2 (.inl h)) (by rw [hg]; exact fun h => h2 (.inr h)) (by rw [hd]; exact hv)

set_option maxHeartbeats 400000 in
theorem zz_any (b off cap len : Nat) (zs : List Int) (i m : Nat) (w : World) (hrow : Row w b off zs) (hlen : len = zs.length) (hl : len ≤ maxLen) (hby : ∀ c ∈ zs, 0 ≤ c ∧ c ≤ 255) (hv : Pl.VEnd (zs.drop i) m) :
    Calls Try.prog 16 #[.slice (some ⟨b, off, none⟩) len cap, .int .i64 i] w fun e w' => e = .returned (.int .i64 ((i + m : Nat) : Int)) ∧ Below w.heap.size w w' := by
  have H := mkHid (valueEnd_any b off cap len zs i m w hrow hlen hl hby hv)
  clear hrow hlen hl hby hv
  go_enter Try.func16, Try.ntmps16
  go_wp2_with (go_at_call 25; refine H.out.mono ?_; rintro e w1 ⟨rfl, hb1⟩)
  go_ret
  exact ⟨rfl, hb1⟩

theorem isDelim_any (c : Int) (w : World) : Calls Try.prog 24 #[.int .u8 c] w fun e w' => e = .returned (.bool (Pl.isDel c)) ∧ w' = w := by
  have hd : Pl.isDel c = (c == 44 || c == 58 || c == 93 || c == 125 || c == 32 || c == 9 || c == 10 || c == 13) := rfl
  have HD := mkHid hd
  clear hd
  go_enter Try.func24, Try.ntmps24
  go_wp2
  all_goals go_ret
  all_goals refine ⟨?_, rfl⟩
  all_goals rw [HD.out]
  all_goals simp [*]
end Go.Proofs.Qxb6600962a
