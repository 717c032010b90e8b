/-
  modelValueEnd (seat b6600962a): what it finds is the value's end.
-/
import Derived.Test.Qxb6600962aModel
namespace Go.Proofs.Qxb6600962a
open Go.RowKit

/-- What the model says: nothing (-1), or an end that is one. -/
def Sound (zs : List Int) (i len : Nat) (r : Int) : Prop := r = -1 ∨ ∃ m : Nat, r = ((i + m : Nat) : Int) ∧ i + m ≤ len ∧ Pl.VEnd (zs.drop i) m

set_option maxHeartbeats 1000000 in
theorem model_str (b off cap len : Nat) (zs : List Int) (i : Nat) (w : World) (hrow : Row w b off zs) (hlen : len = zs.length) (hl : len ≤ 281474976710656) (hi : i < len) (h34 : zs.getD i 0 = 34) :
    Calls Try.prog 15 #[.slice (some ⟨b, off, none⟩) len cap, .int .i64 i] w fun e w' => ∃ r : Int, e = .returned (.int .i64 r) ∧ Sound zs i len r ∧ w = w' := by
  have hcell := row_at hrow (k := i) (c := 34) (by omega) h34.symm
  have Q := mkHid (quote_any b off cap len zs i w hrow hlen hl hi)
  have MK := mkHid (Pl.mk_vstr zs i (by omega) h34)
  clear hrow hlen h34
  go_enter Try.func15, Try.ntmps15
  go_wp2_with fail
  refine Q.out.mono ?_
  rintro e w' ⟨r, rfl, hr, rfl⟩
  rcases hr with rfl | ⟨m, rfl, hm, hq⟩
  · go_wp2_with fail
    go_ret
    exact ⟨_, rfl, .inl rfl, rfl⟩
  · have HM := mkHid (MK.out m hq)
    have t : ¬ ((i + m : Nat) : Int) < 0 := by omega
    clear hq
    go_wp2_with fail
    go_ret
    exact ⟨_, rfl, .inr ⟨m + 1, by omega, by omega, HM.out⟩, rfl⟩

set_option maxHeartbeats 2000000 in
set_option maxRecDepth 100000 in
theorem model_box (b off cap len : Nat) (zs : List Int) (i : Nat) (w : World) (hrow : Row w b off zs) (hlen : len = zs.length) (hl : len ≤ 281474976710656) (hi : i < len) (hc : zs.getD i 0 = 123 ∨ zs.getD i 0 = 91) :
    Calls Try.prog 15 #[.slice (some ⟨b, off, none⟩) len cap, .int .i64 i] w fun e w' => ∃ r : Int, e = .returned (.int .i64 r) ∧ Sound zs i len r ∧ w = w' := by
  obtain ⟨c0, hc0⟩ : ∃ c, c = zs.getD i 0 := ⟨_, rfl⟩
  have hcell := row_at hrow (k := i) (by omega) hc0
  have MK := mkHid (Pl.mk_vbox zs i (by omega) hc)
  rw [← hc0] at hc
  have HR := mkHid hrow
  have HL := mkHid hlen
  have QA := mkHid (fun p (hp : p < len) => quote_any b off cap len zs p w hrow hlen hl hp)
  have t0 : (c0 == 34) = false := bf (by omega)
  have t1 : (c0 == 123) = true ∨ ((c0 == 123) = false ∧ (c0 == 91) = true) := by
    rcases hc with h | h
    · exact .inl (bt h)
    · exact .inr ⟨bf (by omega), bt h⟩
  clear hrow hlen hc hc0
  rcases t1 with t1 | ⟨t1, t2⟩
  all_goals
    go_enter Try.func15, Try.ntmps15
    go_wp2_with fail
    go_loop [7, 8] (fun td tp => ∃ (p : Nat) (d : Int), td = .int .i64 d ∧ tp = .int .i64 p ∧ i ≤ p ∧ p ≤ len ∧ -(p : Int) ≤ d ∧ d ≤ p ∧ Hid (∀ m, Pl.Ends 0 d (zs.drop p) m → Pl.Ends 0 0 (zs.drop i) (p - i + m))) (fun _ tp => len - (intOf tp).toNat)
    case atStart => exact ⟨i, 0, rfl, rfl, Nat.le_refl _, by omega, by omega, by omega, fun m h => by simpa using h⟩
    case round =>
      obtain ⟨p, d, rfl, rfl, hip, hpl, hd1, hd2, HI⟩ := hrel
      by_cases hlt : p < len
      · have hlt' : ((p : Nat) : Int) < (len : Int) := by omega
        have hpz : p < zs.length := by rw [← HL.out]; exact hlt
        obtain ⟨c, hc⟩ : ∃ c, c = zs.getD p 0 := ⟨_, rfl⟩
        have hcell := row_at HR.out (k := p) hpz hc
        have HC := mkHid hc
        clear hc
        by_cases h34 : c = 34
        · have u1 : (c == 34) = true := bt h34
          have HS := mkHid (fun j m hq he => HI.out _ (Pl.mk_str zs p d hpz (HC.out.symm.trans h34) j m hq he))
          clear h34
          go_wp2_with fail
          refine (QA.out p hlt).mono ?_
          rintro e w' ⟨r, rfl, hr, rfl⟩
          rcases hr with rfl | ⟨m, rfl, hm, hq⟩
          · go_wp2_with fail
            go_ret
            exact ⟨_, rfl, .inl rfl, rfl⟩
          · have HQ := mkHid hq
            have t : ¬ ((p + m : Nat) : Int) < 0 := by omega
            clear hq
            go_wp2_with fail
            go_round
            case rel => exact ⟨p + m + 1, d, rfl, by go_num, by omega, by omega, by omega, by omega, fun m' h => by
                have := HS.out m m' HQ.out (by rw [show p + 1 + m = p + m + 1 by omega]; exact h)
                rw [show p - i + (1 + m + m') = p + m + 1 - i + m' by omega] at this
                exact this⟩
            case measure => simp [intOf]; omega
        have u1 : (c == 34) = false := bf h34
        by_cases ho : c = 123 ∨ c = 91
        · have u2 : (c == 123) = true ∨ ((c == 123) = false ∧ (c == 91) = true) := by
            rcases ho with h | h
            · exact .inl (bt h)
            · exact .inr ⟨bf (by omega), bt h⟩
          have HS := mkHid (fun m he => HI.out _ (Pl.mk_open zs p d hpz (by rw [← HC.out]; exact ho) m he))
          clear h34 ho
          rcases u2 with u2 | ⟨u2, u3⟩
          all_goals
            go_wp2_with fail
            go_round
            case rel => exact ⟨p + 1, d + 1, rfl, by go_num, by omega, by omega, by omega, by omega, fun m' h => by
                have := HS.out m' h
                rw [show p - i + (m' + 1) = p + 1 - i + m' by omega] at this
                exact this⟩
            case measure => simp [intOf]; omega
        have v2 : (c == 123) = false := bf (fun h => ho (.inl h))
        have v3 : (c == 91) = false := bf (fun h => ho (.inr h))
        by_cases hcl : c = 125 ∨ c = 93
        · have u4 : (c == 125) = true ∨ ((c == 125) = false ∧ (c == 93) = true) := by
            rcases hcl with h | h
            · exact .inl (bt h)
            · exact .inr ⟨bf (by omega), bt h⟩
          by_cases hd : d = 1
          · subst hd
            have HS := mkHid (HI.out _ (Pl.mk_last zs p hpz (by rw [← HC.out]; exact hcl)))
            clear h34 ho hcl
            rcases u4 with u4 | ⟨u4, u5⟩
            all_goals
              go_wp2_with fail
              go_ret
              exact ⟨_, rfl, .inr ⟨p - i + 1, by omega, by omega, MK.out _ HS.out⟩, rfl⟩
          · have u6 : (d - 1 == 0) = false := bf (by omega)
            have HS := mkHid (fun m he => HI.out _ (Pl.mk_close zs p d hpz (by rw [← HC.out]; exact hcl) hd m he))
            clear h34 ho hcl hd
            rcases u4 with u4 | ⟨u4, u5⟩
            all_goals
              go_wp2_with fail
              go_round
              case rel => exact ⟨p + 1, d - 1, rfl, by go_num, by omega, by omega, by omega, by omega, fun m' h => by
                  have := HS.out m' h
                  rw [show p - i + (m' + 1) = p + 1 - i + m' by omega] at this
                  exact this⟩
              case measure => simp [intOf]; omega
        · have v4 : (c == 125) = false := bf (fun h => hcl (.inl h))
          have v5 : (c == 93) = false := bf (fun h => hcl (.inr h))
          have HS := mkHid (fun m he => HI.out _ (Pl.mk_other zs p d hpz (by rw [← HC.out]; exact h34) (by rw [← HC.out]; exact fun h => ho (.inl h)) (by rw [← HC.out]; exact fun h => ho (.inr h)) (by rw [← HC.out]; exact fun h => hcl (.inl h)) (by rw [← HC.out]; exact fun h => hcl (.inr h)) m he))
          clear h34 ho hcl
          go_wp2_with fail
          go_round
          case rel => exact ⟨p + 1, d, rfl, by go_num, by omega, by omega, by omega, by omega, fun m' h => by
              have := HS.out m' h
              rw [show p - i + (m' + 1) = p + 1 - i + m' by omega] at this
              exact this⟩
          case measure => simp [intOf]; omega
      · have hge : ¬ ((p : Nat) : Int) < (len : Int) := by omega
        go_wp2_with fail
        go_ret
        exact ⟨_, rfl, .inl rfl, rfl⟩

theorem isDelim_eq (c : Int) (b : Bool) (h : Pl.isDel c = b) (w : World) : Calls Try.prog 24 #[.int .u8 c] w fun e w' => e = .returned (.bool b) ∧ w = w' := by
  rw [← h]; exact (isDelim_any c w).mono fun e w' (h : _ ∧ _) => ⟨h.1, h.2.symm⟩

set_option maxHeartbeats 1000000 in
theorem model_num (b off cap len : Nat) (zs : List Int) (i : Nat) (w : World) (hrow : Row w b off zs) (hlen : len = zs.length) (hl : len ≤ 281474976710656) (hi : i < len) (h34 : zs.getD i 0 ≠ 34) (h123 : zs.getD i 0 ≠ 123) (h91 : zs.getD i 0 ≠ 91) :
    Calls Try.prog 15 #[.slice (some ⟨b, off, none⟩) len cap, .int .i64 i] w fun e w' => ∃ r : Int, e = .returned (.int .i64 r) ∧ Sound zs i len r ∧ w = w' := by
  obtain ⟨c0, hc0⟩ : ∃ c, c = zs.getD i 0 := ⟨_, rfl⟩
  have hcell := row_at hrow (k := i) (by omega) hc0
  have MK := mkHid (Pl.mk_vnum zs i (by omega) h34 h123 h91)
  rw [← hc0] at h34 h123 h91
  have HR := mkHid hrow
  have HL := mkHid hlen
  have t0 : (c0 == 34) = false := bf h34
  have t1 : (c0 == 123) = false := bf h123
  have t2 : (c0 == 91) = false := bf h91
  clear hrow hlen h34 h123 h91 hc0
  go_enter Try.func15, Try.ntmps15
  go_wp2_with fail
  go_loop [11] (fun tp => ∃ p : Nat, tp = .int .i64 p ∧ i ≤ p ∧ p ≤ len ∧ Hid (∀ m, Pl.SEnd (zs.drop p) m → Pl.SEnd (zs.drop i) (p - i + m))) (fun tp => len - (intOf tp).toNat)
  case atStart => exact ⟨i, rfl, Nat.le_refl _, by omega, fun m h => by simpa using h⟩
  case round =>
    obtain ⟨p, rfl, hip, hpl, HI⟩ := hrel
    by_cases hlt : p < len
    · have hlt' : ((p : Nat) : Int) < (len : Int) := by omega
      have hpz : p < zs.length := by rw [← HL.out]; exact hlt
      obtain ⟨c, hc⟩ : ∃ c, c = zs.getD p 0 := ⟨_, rfl⟩
      have hcell := row_at HR.out (k := p) hpz hc
      have HC := mkHid hc
      clear hc
      cases hd : Pl.isDel c with
      | true =>
        have HS := mkHid (HI.out _ (Pl.mk_sdel zs p hpz (by rw [← HC.out]; exact hd)))
        have D := mkHid (isDelim_eq c true hd)
        clear hd
        go_wp2_with (go_at_call 24; refine (D.out _).mono ?_; rintro e w' ⟨rfl, rfl⟩)
        go_ret
        exact ⟨_, rfl, .inr ⟨p - i + 0, by omega, by omega, MK.out _ HS.out⟩, rfl⟩
      | false =>
        have HS := mkHid (fun m he => HI.out _ (Pl.mk_sgo zs p hpz (by rw [← HC.out]; exact hd) m he))
        have D := mkHid (isDelim_eq c false hd)
        clear hd
        go_wp2_with (go_at_call 24; refine (D.out _).mono ?_; rintro e w' ⟨rfl, rfl⟩)
        go_round
        case rel => exact ⟨p + 1, by go_num, by omega, by omega, fun m' h => by
            have := HS.out m' h
            rw [show p - i + (m' + 1) = p + 1 - i + m' by omega] at this
            exact this⟩
        case measure => simp [intOf]; omega
    · have hge : ¬ ((p : Nat) : Int) < (len : Int) := by omega
      have HS := mkHid (HI.out _ (Pl.mk_send zs p (by rw [← HL.out]; omega)))
      go_wp2_with fail
      go_ret
      exact ⟨_, rfl, .inr ⟨p - i + 0, by omega, by omega, MK.out _ HS.out⟩, rfl⟩

theorem model_any (b off cap len : Nat) (zs : List Int) (i : Nat) (w : World) (hrow : Row w b off zs) (hlen : len = zs.length) (hl : len ≤ 281474976710656) (hi : i < len) :
    Calls Try.prog 15 #[.slice (some ⟨b, off, none⟩) len cap, .int .i64 i] w fun e w' => ∃ r : Int, e = .returned (.int .i64 r) ∧ Sound zs i len r ∧ w = w' := by
  by_cases h1 : zs.getD i 0 = 34
  · exact model_str b off cap len zs i w hrow hlen hl hi h1
  by_cases h2 : zs.getD i 0 = 123 ∨ zs.getD i 0 = 91
  · exact model_box b off cap len zs i w hrow hlen hl hi h2
  · exact model_num b off cap len zs i w hrow hlen hl hi h1 (fun h => h2 (.inl h)) (fun h => h2 (.inr h))
end Go.Proofs.Qxb6600962a
