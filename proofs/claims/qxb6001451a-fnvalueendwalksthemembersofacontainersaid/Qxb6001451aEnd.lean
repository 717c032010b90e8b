/-
  THE WALKS OF THE READER (seat b6001451a): stringEnd, valueEnd, isDelim: they only read.
-/
import Derived.Test.Qxb6001451aProg
import Derived.Test.Qxb6001451aPlain
import Derived.WalkKit
import Derived.WalkSpells
import Derived.WalkLawsBesides
import Derived.Lib.Bytealg
namespace Go.Proofs.Qxb6001451a
open Go.RowKit

/-- The first len cells from ⟨b, off⟩ on hold the bytes z 0, z 1 .. -/
def Row (w : World) (b off : Nat) (zs : List Int) : Prop := ∀ i, i < zs.length → w.cell? ⟨b, off + i, none⟩ = some (.int .u8 (zs.getD i 0))

theorem mkHid {p : Prop} (h : p) : Hid p := h
theorem ret_int {k : IntKind} {a b : Int} (h : a = b) : Ending.returned (.int k a) = .returned (.int k b) := by rw [h]

set_option maxHeartbeats 400000 in
theorem stringEnd_any (b off cap len : Nat) (zs : List Int) (i m : Nat) (w : World) (hrow : Row w b off zs) (hlen : len = zs.length) (hl : len ≤ maxLen) (hq : Pl.QEnd false (zs.drop (i + 1)) m) :
    Calls Try.prog 37 #[.slice (some ⟨b, off, none⟩) len cap, .int .i64 i] w fun e w' => e = .returned (.int .i64 ((i + 1 + m : Nat) : Int)) ∧ w' = w := by
  unfold maxLen at hl
  have HL : Hid (len = zs.length) := hlen
  have hi : i + 1 < len := by rw [hlen]; exact (Pl.qend_step zs (i + 1) m hq).1
  clear hlen
  have HR : Hid (Row w b off zs) := hrow
  clear hrow
  have HQ : Hid (Pl.QEnd false (zs.drop (i + 1)) m) := hq
  clear hq
  go_enter Try.func37, Try.ntmps37
  go_wp2
  go_loop [1] (fun t => ∃ k m' : Nat, t = .int .i64 k ∧ k < len ∧ Hid (Pl.QEnd false (zs.drop k) m' ∧ k + m' = i + 1 + m)) (fun t => len - (intOf t).toNat)
  case atStart => exact ⟨i + 1, m, by go_num, hi, ⟨HQ.out, rfl⟩⟩
  case round =>
    obtain ⟨k, m', rfl, hk, HK⟩ := hrel
    have hst := Pl.qend_step zs k m' HK.out.1
    have hkm := HK.out.2
    have hln := HL.out
    obtain ⟨c, hc⟩ : ∃ c, c = zs.getD k 0 := ⟨_, rfl⟩
    have hcell : w.cell? ⟨b, off + k, none⟩ = some (.int .u8 c) := by rw [hc]; exact HR.out k (by omega)
    rw [← hc, ← hln] at hst
    clear hc
    obtain ⟨_, hm1, hst⟩ := hst
    rcases hst with ⟨h1, h2⟩ | ⟨h1, hk1, hm2, hq⟩ | ⟨h1, h2, hq⟩
    · have t1 : (c != 34) = false := by simp [h1]
      have HE : Hid (((k : Nat) : Int) + 1 = ((i + 1 + m : Nat) : Int)) := by show _ = _; omega
      clear h1 h2 hln hkm
      go_wp2
      go_ret
      exact ⟨ret_int HE.out, rfl⟩
    · have t1 : (c != 34) = true := by simp [h1]
      have t2 : (c == 92) = true := by simp [h1]
      have HS : Hid (Pl.QEnd false (zs.drop (k + 2)) (m' - 2) ∧ k + 2 + (m' - 2) = i + 1 + m) := ⟨hq, by omega⟩
      have hk2 : k + 2 < len := by rw [hln]; exact (Pl.qend_step zs (k + 2) _ hq).1
      clear h1 hq hln hkm
      go_wp2
      go_round
      case rel => exact ⟨k + 2, m' - 2, by go_num, hk2, HS⟩
      case measure => simp [intOf]; omega
    · have t1 : (c != 34) = true := by simp [h1]
      have t2 : (c == 92) = false := by simp [h2]
      have HS : Hid (Pl.QEnd false (zs.drop (k + 1)) (m' - 1) ∧ k + 1 + (m' - 1) = i + 1 + m) := ⟨hq, by omega⟩
      have hk2 : k + 1 < len := by rw [hln]; exact (Pl.qend_step zs (k + 1) _ hq).1
      clear h1 h2 hq hln hkm
      go_wp2
      go_round
      case rel => exact ⟨k + 1, m' - 1, by go_num, hk2, HS⟩
      case measure => simp [intOf]; omega
def delB : List UInt8 := [44, 93, 125, 32, 9, 13, 10]
def delIdx (c : Int) : Int := Lib.indexByte delB c.toNat.toUInt8

theorem delIdx_all : ∀ n : Fin 256, (Pl.isDel (n.val : Int) = true ∧ 0 ≤ Lib.indexByte delB n.val.toUInt8) ∨ (Pl.isDel (n.val : Int) = false ∧ Lib.indexByte delB n.val.toUInt8 < 0) := by
  decide +kernel
theorem delIdx_of (c : Int) (h0 : 0 ≤ c) (h1 : c ≤ 255) : (Pl.isDel c = true ∧ 0 ≤ delIdx c) ∨ (Pl.isDel c = false ∧ delIdx c < 0) := by
  have h := delIdx_all ⟨c.toNat, by omega⟩
  have e : ((c.toNat : Nat) : Int) = c := by omega
  simpa [e, delIdx] using h

set_option maxHeartbeats 400000 in
set_option maxRecDepth 100000 in
theorem indexByte_any (s : ByteArray) (c : Int) (w : World) :
    Calls Try.prog 38 #[.string s, .int .u8 c] w fun e w' => e = .returned (.int .i64 (Lib.indexByte s.data.toList c.toNat.toUInt8)) ∧ w' = w := by
  go_enter Try.func38, Try.ntmps38
  go_wp2
  rw [run_callFunc_extern Try.func40 (by kernel_rfl) (by kernel_rfl) (by kernel_rfl) (e := Extern.BytealgIndexByte.indexByte) (by kernel_rfl), Lib.run_indexByteString]
  simp only [Result.andThen]
  rw [Oper.upon_value]
  go_wp2
  go_ret
  exact ⟨rfl, rfl⟩
theorem indexByte_del (c : Int) (w : World) :
    Calls Try.prog 38 #[.string { data := #[44, 93, 125, 32, 9, 13, 10] }, .int .u8 c] w fun e w' => e = .returned (.int .i64 (delIdx c)) ∧ w' = w := indexByte_any _ c w

/-- What a walk is told of the slice that it reads, kept from its rewriting. -/
theorem row_at {w : World} {b off : Nat} {zs : List Int} (h : Row w b off zs) {k : Nat} {c : Int} (hk : k < zs.length) (hc : c = zs.getD k 0) : w.cell? ⟨b, off + k, none⟩ = some (.int .u8 c) := by rw [hc]; exact h k hk

set_option maxHeartbeats 400000 in
theorem valueEnd_str (b off cap len : Nat) (zs : List Int) (i j : Nat) (w : World) (hrow : Row w b off zs) (hlen : len = zs.length) (hl : len ≤ maxLen) (hi : i < len) (hc : zs.getD i 0 = 34) (hq : Pl.QEnd false (zs.drop (i + 1)) j) :
    Calls Try.prog 35 #[.slice (some ⟨b, off, none⟩) len cap, .int .i64 i] w fun e w' => e = .returned (.int .i64 ((i + (j + 1) : Nat) : Int)) ∧ w' = w := by
  have hcell := row_at hrow (k := i) (c := 34) (by omega) hc.symm
  have H37 := mkHid (stringEnd_any b off cap len zs i j w hrow hlen hl hq)
  have HE : Hid (((i + 1 + j : Nat) : Int) = ((i + (j + 1) : Nat) : Int)) := by show _ = _; omega
  clear hrow hlen hc hq
  unfold maxLen at hl
  go_enter Try.func35, Try.ntmps35
  go_wp2_with (go_at_call 37; refine H37.out.mono ?_; rintro e w' ⟨rfl, rfl⟩)
  go_ret
  exact ⟨ret_int HE.out, rfl⟩

set_option maxHeartbeats 1000000 in
theorem valueEnd_box (b off cap len : Nat) (zs : List Int) (i m : Nat) (w : World) (hrow : Row w b off zs) (hlen : len = zs.length) (hl : len ≤ maxLen) (hi : i < len) (hc : zs.getD i 0 = 123 ∨ zs.getD i 0 = 91) (he : Pl.Ends 0 0 (zs.drop i) m) :
    Calls Try.prog 35 #[.slice (some ⟨b, off, none⟩) len cap, .int .i64 i] w fun e w' => e = .returned (.int .i64 ((i + m : Nat) : Int)) ∧ w' = w := by
  obtain ⟨c0, hc0⟩ : ∃ c, c = zs.getD i 0 := ⟨_, rfl⟩
  have hcell := row_at hrow (k := i) (by omega) hc0
  rw [← hc0] at hc
  have HS := mkHid (stringEnd_any b off cap len zs (w := w) (hrow := hrow) (hlen := hlen) (hl := hl))
  have HR := mkHid hrow
  have HL := mkHid hlen
  have HE := mkHid he
  have t0 : (c0 == 34) = false := by rw [beq_eq_false_iff_ne]; omega
  have t1 : (c0 == 123) = true ∨ ((c0 == 123) = false ∧ (c0 == 91) = true) := by
    rcases hc with h | h
    · exact .inl (by simp [h])
    · exact .inr (by simp [h])
  clear hrow hlen he hc hc0
  unfold maxLen at hl
  rcases t1 with t1 | ⟨t1, t2⟩
  all_goals
    go_enter Try.func35, Try.ntmps35
    go_wp2_with fail
    go_loop [1, 5] (fun t u => ∃ (k m' : Nat) (d : Int), t = .int .i64 k ∧ u = .int .i64 d ∧ k < len ∧ -(k : Int) ≤ d ∧ d ≤ k ∧ Hid (Pl.Ends 0 d (zs.drop k) m' ∧ k + m' = i + m)) (fun t _ => len - (intOf t).toNat)
    case atStart => exact ⟨i, m, 0, rfl, rfl, hi, by omega, by omega, ⟨HE.out, rfl⟩⟩
    case round =>
      obtain ⟨k, m', d, rfl, rfl, hk, hd1, hd2, HK⟩ := hrel
      have hst := Pl.ends_step zs k m' d HK.out.1
      have hkm := HK.out.2
      have hln := HL.out
      obtain ⟨c, hc⟩ : ∃ c, c = zs.getD k 0 := ⟨_, rfl⟩
      have hcell := row_at HR.out (k := k) (by omega) hc
      rw [← hc, ← hln] at hst
      clear hc
      obtain ⟨_, hm1, hst⟩ := hst
      rcases hst with ⟨h1, j, hq, hj, hn⟩ | ⟨h1, hn⟩ | ⟨h1, h2, h3⟩ | ⟨h1, h2, hn⟩ | ⟨h1, h2, h3, h4, h5, hn⟩
      · have u1 : (c == 34) = true := by simp [h1]
        have hk2 : k + 1 + j < len := by rw [hln]; exact (Pl.ends_step zs _ _ _ hn).1
        have HN := mkHid (show Pl.Ends 0 d (zs.drop (k + 1 + j)) (m' - 1 - j) ∧ k + 1 + j + (m' - 1 - j) = i + m from ⟨hn, by omega⟩)
        have HQ := mkHid hq
        clear h1 hq hn hln hkm
        go_wp2_with (go_at_call 37; refine (HS.out _ _ HQ.out).mono ?_; rintro e w' ⟨rfl, rfl⟩)
        go_round
        case rel => exact ⟨k + 1 + j, m' - 1 - j, d, by go_num, rfl, hk2, by omega, by omega, HN⟩
        case measure => simp [intOf]; omega
      · have u1 : (c == 34) = false := by rw [beq_eq_false_iff_ne]; omega
        have u2 : (c == 123) = true ∨ ((c == 123) = false ∧ (c == 91) = true) := by
          rcases h1 with h | h
          · exact .inl (by simp [h])
          · exact .inr (by simp [h])
        have hk2 : k + 1 < len := by rw [hln]; exact (Pl.ends_step zs _ _ _ hn).1
        have HN := mkHid (show Pl.Ends 0 (d + 1) (zs.drop (k + 1)) (m' - 1) ∧ k + 1 + (m' - 1) = i + m from ⟨hn, by omega⟩)
        clear h1 hn hln hkm
        rcases u2 with u2 | ⟨u2, u3⟩
        all_goals
          go_wp2_with fail
          go_round
          case rel => exact ⟨k + 1, m' - 1, d + 1, by go_num, rfl, hk2, by omega, by omega, HN⟩
          case measure => simp [intOf]; omega
      · have u1 : (c == 34) = false := by rw [beq_eq_false_iff_ne]; omega
        have u2 : (c == 123) = false := by rw [beq_eq_false_iff_ne]; omega
        have u3 : (c == 91) = false := by rw [beq_eq_false_iff_ne]; omega
        have u4 : (c == 125) = true ∨ ((c == 125) = false ∧ (c == 93) = true) := by
          rcases h1 with h | h
          · exact .inl (by simp [h])
          · exact .inr (by simp [h])
        have HX := mkHid (show ((k : Nat) : Int) + 1 = ((i + m : Nat) : Int) by omega)
        subst h2
        clear h1 h3 hln hkm
        rcases u4 with u4 | ⟨u4, u5⟩
        all_goals
          go_wp2_with fail
          go_ret
          exact ⟨ret_int HX.out, rfl⟩
      · have u1 : (c == 34) = false := by rw [beq_eq_false_iff_ne]; omega
        have u2 : (c == 123) = false := by rw [beq_eq_false_iff_ne]; omega
        have u3 : (c == 91) = false := by rw [beq_eq_false_iff_ne]; omega
        have u4 : (c == 125) = true ∨ ((c == 125) = false ∧ (c == 93) = true) := by
          rcases h1 with h | h
          · exact .inl (by simp [h])
          · exact .inr (by simp [h])
        have u6 : (d - 1 == 0) = false := by rw [beq_eq_false_iff_ne]; omega
        have hk2 : k + 1 < len := by rw [hln]; exact (Pl.ends_step zs _ _ _ hn).1
        have HN := mkHid (show Pl.Ends 0 (d - 1) (zs.drop (k + 1)) (m' - 1) ∧ k + 1 + (m' - 1) = i + m from ⟨hn, by omega⟩)
        clear h1 h2 hn hln hkm
        rcases u4 with u4 | ⟨u4, u5⟩
        all_goals
          go_wp2_with fail
          go_round
          case rel => exact ⟨k + 1, m' - 1, d - 1, by go_num, rfl, hk2, by omega, by omega, HN⟩
          case measure => simp [intOf]; omega
      · have u1 : (c == 34) = false := by rw [beq_eq_false_iff_ne]; omega
        have u2 : (c == 123) = false := by rw [beq_eq_false_iff_ne]; omega
        have u3 : (c == 91) = false := by rw [beq_eq_false_iff_ne]; omega
        have u4 : (c == 125) = false := by rw [beq_eq_false_iff_ne]; omega
        have u5 : (c == 93) = false := by rw [beq_eq_false_iff_ne]; omega
        have hk2 : k + 1 < len := by rw [hln]; exact (Pl.ends_step zs _ _ _ hn).1
        have HN := mkHid (show Pl.Ends 0 d (zs.drop (k + 1)) (m' - 1) ∧ k + 1 + (m' - 1) = i + m from ⟨hn, by omega⟩)
        clear h1 h2 h3 h4 h5 hn hln hkm
        go_wp2_with fail
        go_round
        case rel => exact ⟨k + 1, m' - 1, d, by go_num, rfl, hk2, by omega, by omega, HN⟩
        case measure => simp [intOf]; omega

set_option maxHeartbeats 400000 in
theorem valueEnd_num (b off cap len : Nat) (zs : List Int) (i m : Nat) (w : World) (hrow : Row w b off zs) (hlen : len = zs.length) (hl : len ≤ maxLen) (hby : ∀ c ∈ zs, 0 ≤ c ∧ c ≤ 255) (hi : i < len)
    (h34 : zs.getD i 0 ≠ 34) (h123 : zs.getD i 0 ≠ 123) (h91 : zs.getD i 0 ≠ 91) (he : Pl.SEnd (zs.drop i) m) :
    Calls Try.prog 35 #[.slice (some ⟨b, off, none⟩) len cap, .int .i64 i] w fun e w' => e = .returned (.int .i64 ((i + m : Nat) : Int)) ∧ w' = w := by
  obtain ⟨c0, hc0⟩ : ∃ c, c = zs.getD i 0 := ⟨_, rfl⟩
  have hcell := row_at hrow (k := i) (by omega) hc0
  rw [← hc0] at h34 h123 h91
  have HR := mkHid hrow
  have HL := mkHid hlen
  have HE := mkHid he
  have HB := mkHid hby
  have t0 : (c0 == 34) = false := by rw [beq_eq_false_iff_ne]; exact h34
  have t1 : (c0 == 123) = false := by rw [beq_eq_false_iff_ne]; exact h123
  have t2 : (c0 == 91) = false := by rw [beq_eq_false_iff_ne]; exact h91
  clear hrow hlen he hc0 h34 h123 h91 hby
  unfold maxLen at hl
  go_enter Try.func35, Try.ntmps35
  go_wp2_with fail
  go_loop [1] (fun t => ∃ (k m' : Nat), t = .int .i64 k ∧ k ≤ len ∧ Hid (Pl.SEnd (zs.drop k) m' ∧ k + m' = i + m)) (fun t => len - (intOf t).toNat)
  case atStart => exact ⟨i, m, rfl, by omega, ⟨HE.out, rfl⟩⟩
  case round =>
    obtain ⟨k, m', rfl, hk, HK⟩ := hrel
    have hkm := HK.out.2
    have hln := HL.out
    have hst := Pl.send_step zs k m' HK.out.1 (by omega)
    obtain ⟨c, hc⟩ : ∃ c, c = zs.getD k 0 := ⟨_, rfl⟩
    rw [← hc, ← hln] at hst
    rcases hst with ⟨h1, h2⟩ | ⟨h1, h2, h3⟩ | ⟨h1, h2, h3, hn⟩
    · have HX := mkHid (show ((k : Nat) : Int) = ((i + m : Nat) : Int) by omega)
      have hge : ¬ ((k : Nat) : Int) < (len : Int) := by omega
      clear h1 h2 hc hln hkm
      go_wp2_with fail
      go_ret
      exact ⟨ret_int HX.out, rfl⟩
    · have hcell := row_at HR.out (k := k) (by omega) hc
      have hcb : 0 ≤ c ∧ c ≤ 255 := by rw [hc]; exact HB.out _ (by simp [List.getD, show k < zs.length by omega])
      have hdel : ¬ delIdx c < 0 := by
        rcases delIdx_of c hcb.1 hcb.2 with h | h
        · omega
        · rw [h2] at h; simp at h
      have HX := mkHid (show ((k : Nat) : Int) = ((i + m : Nat) : Int) by omega)
      have hlt : ((k : Nat) : Int) < (len : Int) := by omega
      clear h2 h3 hc hln hkm hcb
      go_wp2_with (go_at_call 38; refine (indexByte_del c _).mono ?_; rintro e w' ⟨rfl, rfl⟩)
      go_ret
      exact ⟨ret_int HX.out, rfl⟩
    · have hcell := row_at HR.out (k := k) (by omega) hc
      have hcb : 0 ≤ c ∧ c ≤ 255 := by rw [hc]; exact HB.out _ (by simp [List.getD, show k < zs.length by omega])
      have hdel : delIdx c < 0 := by
        rcases delIdx_of c hcb.1 hcb.2 with h | h
        · rw [h2] at h; simp at h
        · omega
      have hlt : ((k : Nat) : Int) < (len : Int) := by omega
      have HN := mkHid (show Pl.SEnd (zs.drop (k + 1)) (m' - 1) ∧ k + 1 + (m' - 1) = i + m from ⟨hn, by omega⟩)
      clear h2 h3 hc hln hkm hcb hn
      go_wp2_with (go_at_call 38; refine (indexByte_del c _).mono ?_; rintro e w' ⟨rfl, rfl⟩)
      go_round
      case rel => exact ⟨k + 1, m' - 1, by go_num, by omega, HN⟩
      case measure => simp [intOf]; omega
end Go.Proofs.Qxb6001451a
