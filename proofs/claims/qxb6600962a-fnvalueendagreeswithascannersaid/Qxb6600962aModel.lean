/-
  THE MODEL's WALKS (seat b6600962a): firstUnescapedQuote, modelValueEnd: what they find is an end.
-/
import Derived.Test.Qxb6600962aEnd
namespace Go.Proofs.Qxb6600962a
open Go.RowKit

theorem bt {a b : Int} (h : a = b) : (a == b) = true := by simpa using h
theorem bf {a b : Int} (h : a ≠ b) : (a == b) = false := by simpa using h

set_option maxHeartbeats 2000000 in
set_option maxRecDepth 100000 in
theorem quote_any (b off cap len : Nat) (zs : List Int) (i : Nat) (w : World) (hrow : Row w b off zs) (hlen : len = zs.length) (hl : len ≤ 281474976710656) (hi : i < len) :
    Calls Try.prog 9 #[.slice (some ⟨b, off, none⟩) len cap, .int .i64 i] w fun e w' => ∃ r : Int, e = .returned (.int .i64 r) ∧ (r = -1 ∨ ∃ m : Nat, r = ((i + m : Nat) : Int) ∧ i + m < len ∧ Pl.QEnd false (zs.drop (i + 1)) m) ∧ w = w' := by
  have HR := mkHid hrow
  have HL := mkHid hlen
  clear hrow hlen
  go_enter Try.func9, Try.ntmps9
  go_wp2_with fail
  go_loop [5] (fun t => ∃ (p k : Nat), t = .int .i64 p ∧ p ≤ len ∧ i + 1 ≤ p ∧ Hid (p = i + 1 + k ∧ Pl.qf false (zs.drop (i + 1)) = (Pl.qf (Pl.st false ((zs.drop (i + 1)).take k)) (zs.drop (i + 1 + k))).map (· + k))) (fun t => len - (intOf t).toNat)
  case atStart => exact ⟨i + 1, 0, by go_num, by omega, Nat.le_refl _, rfl, by simp [Pl.st]⟩
  case round =>
    obtain ⟨p, k, rfl, hpl, hip, HI⟩ := hrel
    by_cases hlt : p < len
    · have hlt' : ((p : Nat) : Int) < (len : Int) := by omega
      obtain ⟨c, hc⟩ : ∃ c, c = zs.getD p 0 := ⟨_, rfl⟩
      have hcell := row_at HR.out (k := p) (by have := HL.out; omega) hc
      have HC := mkHid hc
      clear hc
      by_cases h34 : c = 34
      · subst h34
        go_wp2_with fail
        go_loop [6, 7] (fun tc tj => ∃ (bk : Nat) (jj : Int), tc = .int .i64 bk ∧ tj = .int .i64 jj ∧ (i : Int) ≤ jj ∧ jj < p ∧ bk ≤ p ∧ Hid (jj = p - 1 - bk ∧ ∀ t, p - bk ≤ t → t < p → zs.getD t 0 = 92)) (fun tc _ => p - (intOf tc).toNat)
        case atStart => exact ⟨0, _, rfl, rfl, by omega, by omega, Nat.zero_le _, by simp, fun t ha hb => by omega⟩
        case round =>
          obtain ⟨bk, jj, rfl, rfl, hj0, hj1, hbp, HK⟩ := hrel
          have HFIN := mkHid (show bk ≤ k → (bk = k ∨ zs.getD (i + 1 + k - bk - 1) 0 ≠ 92) → (bk % 2 = 0 → Pl.QEnd false (zs.drop (i + 1)) (k + 1)) ∧ (¬ bk % 2 = 0 → Pl.qf false (zs.drop (i + 1)) = (Pl.qf (Pl.st false ((zs.drop (i + 1)).take (k + 1))) (zs.drop (i + 1 + (k + 1)))).map (· + (k + 1))) by
            intro ha hb
            have hpk := HI.out.1
            have hst := Pl.st_at zs (i + 1) k bk (by have := HL.out; omega) ha (by rw [← hpk]; exact HK.out.2) hb
            constructor
            · intro h6
              exact Pl.qf_found zs (i + 1) k (by have := HL.out; omega) (by rw [← hpk]; exact HC.out.symm) (by rw [hst]; simp; omega) HI.out.2
            · intro h6
              exact Pl.qf_step zs (i + 1) k (by have := HL.out; omega) (.inr (by rw [hst]; simp; omega)) HI.out.2)
          by_cases hge : (i : Int) < jj
          · obtain ⟨jn, rfl⟩ : ∃ jn : Nat, jj = (jn : Int) := ⟨jj.toNat, by omega⟩
            have HJ := mkHid (show jn + bk + 1 = p by have := HK.out.1; omega)
            obtain ⟨x, hx⟩ : ∃ x, x = zs.getD jn 0 := ⟨_, rfl⟩
            have hcell2 := row_at HR.out (k := jn) (by have := HL.out; omega) hx
            have HX := mkHid hx
            have hjl : ((jn : Nat) : Int) < (len : Int) := by omega
            clear hx
            by_cases h92 : x = 92
            · have u1 : (x == 92) = true := bt h92
              have HN := mkHid (show ((jn : Nat) : Int) - 1 = (p : Int) - 1 - ((bk + 1 : Nat) : Int) ∧ ∀ t, p - (bk + 1) ≤ t → t < p → zs.getD t 0 = 92 by
                have hjj := HJ.out
                refine ⟨by omega, fun t ha hb => ?_⟩
                by_cases e : t = jn
                · subst e; rw [← HX.out]; exact h92
                · exact HK.out.2 t (by omega) hb)
              have hb2 : bk + 1 ≤ p := by have := HJ.out; omega
              clear h92 HFIN
              go_wp2_with fail
              go_round
              case rel => exact ⟨bk + 1, _, by go_num, rfl, by omega, by omega, hb2, HN⟩
              case measure => simp [intOf]; omega
            · have u1 : (x == 92) = false := bf h92
              have HF2 := mkHid (HFIN.out (by have := HJ.out; have := HI.out.1; omega) (.inr (by
                have e : i + 1 + k - bk - 1 = jn := by have := HJ.out; have := HI.out.1; omega
                rw [e, ← HX.out]; exact h92)))
              clear h92 HFIN
              by_cases hpar : bk % 2 = 0
              · have hpar' : ((bk : Int) % 2 == 0) = true := by rw [beq_iff_eq]; omega
                have HE := mkHid (HF2.out.1 hpar)
                clear hpar HF2
                go_wp2_with fail
                go_ret
                exact ⟨_, rfl, .inr ⟨k + 1, by have := HI.out.1; omega, by have := HI.out.1; omega, HE.out⟩, rfl⟩
              · have hpar' : ((bk : Int) % 2 == 0) = false := by rw [beq_eq_false_iff_ne]; omega
                have HE := mkHid (HF2.out.2 hpar)
                clear hpar HF2
                go_wp2_with fail
                go_round
                case rel => exact ⟨p + 1, k + 1, by go_num, by omega, by omega, by have := HI.out.1; omega, HE.out⟩
                case measure => simp [intOf]; omega
          · have hpb : jj = (i : Int) := by omega
            have HF2 := mkHid (HFIN.out (by have := HK.out.1; have := HI.out.1; omega) (.inl (by have := HK.out.1; have := HI.out.1; omega)))
            clear HFIN hpb
            by_cases hpar : bk % 2 = 0
            · have hpar' : ((bk : Int) % 2 == 0) = true := by rw [beq_iff_eq]; omega
              have HE := mkHid (HF2.out.1 hpar)
              clear hpar HF2
              go_wp2_with fail
              go_ret
              exact ⟨_, rfl, .inr ⟨k + 1, by have := HI.out.1; omega, by have := HI.out.1; omega, HE.out⟩, rfl⟩
            · have hpar' : ((bk : Int) % 2 == 0) = false := by rw [beq_eq_false_iff_ne]; omega
              have HE := mkHid (HF2.out.2 hpar)
              clear hpar HF2
              go_wp2_with fail
              go_round
              case rel => exact ⟨p + 1, k + 1, by go_num, by omega, by omega, by have := HI.out.1; omega, HE.out⟩
              case measure => simp [intOf]; omega
      · have u0 : (c != 34) = true := by simpa using h34
        have HE := mkHid (Pl.qf_step zs (i + 1) k (by have := HL.out; have := HI.out.1; omega) (.inl (by
          have e := HI.out.1
          rw [← e, ← HC.out]; exact h34)) HI.out.2)
        clear h34
        go_wp2_with fail
        go_round
        case rel => exact ⟨p + 1, k + 1, by go_num, by omega, by omega, by have := HI.out.1; omega, HE.out⟩
        case measure => simp [intOf]; omega
    · have hge : ¬ ((p : Nat) : Int) < (len : Int) := by omega
      go_wp2_with fail
      go_ret
      exact ⟨_, rfl, .inl rfl, rfl⟩
end Go.Proofs.Qxb6600962a
