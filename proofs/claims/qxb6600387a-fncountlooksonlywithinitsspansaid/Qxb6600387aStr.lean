/-
  stringEnd (seat b6600387a): the quotes are looked for, the backslashes before each are counted backwards.
-/
import Derived.Test.Qxb6600387aRead
namespace Go.Proofs.Qxb6600387a
open Go.RowKit

/-- Where stringEnd ends: the closing quote, or the end of the text. -/
def sE (zs : List Int) (fr : Nat) : Nat := match Pl.qf false (zs.drop fr) with
  | some m => fr + m - 1
  | none => zs.length

theorem sE_some {zs : List Int} {fr m : Nat} (h : Pl.qf false (zs.drop fr) = some m) : sE zs fr = fr + m - 1 := by unfold sE; rw [h]
theorem sE_none {zs : List Int} {fr : Nat} (h : Pl.qf false (zs.drop fr) = none) : sE zs fr = zs.length := by unfold sE; rw [h]

theorem drop_get (zs : List Int) (i t : Nat) : (zs.drop i).getD t 0 = zs.getD (i + t) 0 := by simp [List.getD]

set_option maxHeartbeats 2000000 in
set_option maxRecDepth 100000 in
theorem stringEnd_any (b off cap len : Nat) (zs : List Int) (fr : Nat) (w : World) (hrow : Row w b off zs) (hlen : len = zs.length) (hcap : len ≤ cap) (hl : len ≤ 281474976710656) (hby : ∀ c ∈ zs, 0 ≤ c ∧ c ≤ 255) (hf : fr ≤ len) :
    Calls Try.prog 27 #[.slice (some ⟨b, off, none⟩) len cap, .int .i64 fr] w fun e w' => e = .returned (.int .i64 ((sE zs fr : Nat) : Int)) ∧ w = w' := by
  have HR := mkHid hrow
  have HL := mkHid hlen
  have HB := mkHid hby
  obtain ⟨S, hS⟩ : ∃ S, S = sE zs fr := ⟨_, rfl⟩
  rw [← hS]
  have HS := mkHid hS
  clear hrow hlen hby hS
  go_enter Try.func27, Try.ntmps27
  go_wp2_with fail
  go_loop [5] (fun t => ∃ i : Nat, t = .int .i64 i ∧ fr ≤ i ∧ i ≤ len ∧ Hid ((i = fr ∨ zs.getD (i - 1) 0 = 34) ∧ Pl.qf false (zs.drop fr) = (Pl.qf false (zs.drop i)).map (· + (i - fr)))) (fun t => len + 1 - (intOf t).toNat)
  case atStart => exact ⟨fr, rfl, Nat.le_refl _, hf, .inl rfl, by simp⟩
  case round =>
    obtain ⟨i, rfl, hfi, hil, HI⟩ := hrel
    have hxs : (zs.drop i).length = len - i := by rw [List.length_drop, ← HL.out]
    have HX := mkHid hxs
    clear hxs
    have hbyd : ∀ c ∈ zs.drop i, 0 ≤ c ∧ c ≤ 255 := fun c hc => HB.out c (List.mem_of_mem_drop hc)
    have HBD := mkHid hbyd
    clear hbyd
    have hrd : Row w b (off + i) (zs.drop i) := fun t ht => by
      rw [drop_get, Nat.add_assoc]
      exact HR.out (i + t) (by have := HX.out; have := HL.out; omega)
    have HRD := mkHid hrd
    clear hrd
    have t0 : (0 : Int) ≤ (i : Int) := by omega
    have t1 : (i : Int) ≤ (len : Int) := by omega
    rcases fq_spec (zs.drop i) with ⟨h1, h2⟩ | ⟨q, h1, h2, h3, h4⟩
    · have HN := mkHid (show ((len : Nat) : Int) = (S : Int) by
        have hq : Pl.qf false (zs.drop i) = none := Pl.qf_none _ _ h2
        have h5 := HI.out.2
        rw [hq] at h5
        rw [HS.out, sE_none h5, HL.out])
      have HQ := mkHid h1
      clear h1 h2
      by_cases hci : cap = i
      · have e : len = i := by omega
        have IB := mkHid (indexByte_any b off 0 0 [] w rfl (fun t ht => by simp at ht) (by simp))
        clear HX HRD HBD HQ HI
        subst e
        subst hci
        go_wp2_with (go_at_call 28; refine IB.out.mono ?_; rintro e w' ⟨rfl, rfl⟩)
        go_ret
        exact ⟨ret_int HN.out, rfl⟩
      · have IB := mkHid (indexByte_any b (off + i) (len - i) (cap - i) (zs.drop i) w HX.out HRD.out HBD.out)
        rw [HQ.out] at IB
        go_wp2_with (go_at_call 28; refine IB.out.mono ?_; rintro e w' ⟨rfl, rfl⟩)
        go_ret
        exact ⟨ret_int HN.out, rfl⟩
    · have hiq : i + q < len := by have := HX.out; omega
      have hci : ¬ cap = i := by omega
      have IB := mkHid (indexByte_any b (off + i) (len - i) (cap - i) (zs.drop i) w HX.out HRD.out HBD.out)
      rw [h1] at IB
      obtain ⟨p, hp⟩ : ∃ p, p = i + q := ⟨_, rfl⟩
      have HP := mkHid hp
      have hpl : p < len := by omega
      have hip : i ≤ p := by omega
      have HQ := mkHid (show zs.getD p 0 = 34 by rw [hp, ← drop_get]; exact h3)
      have HNO := mkHid (show ∀ t, i ≤ t → t < p → zs.getD t 0 ≠ 34 by
        intro t ha hb
        have := h4 (t - i) (by omega)
        rw [drop_get, show i + (t - i) = t by omega] at this
        exact this)
      have hpe : ((i : Nat) : Int) + (q : Int) = (p : Int) := by omega
      clear h1 h2 h3 h4 hp
      go_wp2_with (go_at_call 28; refine IB.out.mono ?_; rintro e w' ⟨rfl, rfl⟩)
      go_loop [7, 8] (fun c j => ∃ (bk : Nat) (jj : Int), c = .int .i64 bk ∧ j = .int .i64 jj ∧ (fr : Int) - 1 ≤ jj ∧ jj < p ∧ bk ≤ p ∧ Hid (jj = p - 1 - bk ∧ ∀ t, p - bk ≤ t → t < p → zs.getD t 0 = 92)) (fun c _ => p - (intOf c).toNat)
      case atStart => exact ⟨0, _, rfl, rfl, by omega, by omega, Nat.zero_le _, by simp, fun t ha hb => by omega⟩
      case round =>
        obtain ⟨bk, jj, rfl, rfl, hj0, hj1, hbp, HK⟩ := hrel
        have HFIN := mkHid (show bk ≤ p - i → (p - bk = i ∨ zs.getD (p - bk - 1) 0 ≠ 92) → (bk % 2 = 0 → ((p : Nat) : Int) = (S : Int)) ∧ (¬ bk % 2 = 0 → Pl.qf false (zs.drop fr) = (Pl.qf false (zs.drop (p + 1))).map (· + (p + 1 - fr))) by
          intro ha hb
          have hq := Pl.qf_at zs i p bk hip (by have := HL.out; omega) HQ.out HNO.out ha HK.out.2 hb
          have h5 := HI.out.2
          rw [hq] at h5
          constructor
          · intro h6
            rw [if_pos h6] at h5
            rw [HS.out, sE_some h5]
            simp
            omega
          · intro h6
            rw [if_neg h6, Pl.map_add, show p + 1 - i + (i - fr) = p + 1 - fr by omega] at h5
            exact h5)
        by_cases hge : (fr : Int) ≤ jj
        · obtain ⟨jn, rfl⟩ : ∃ jn : Nat, jj = (jn : Int) := ⟨jj.toNat, by omega⟩
          have hjn : jn + bk + 1 = p := by have := HK.out.1; omega
          have HJ := mkHid hjn
          obtain ⟨c, hc⟩ : ∃ c, c = zs.getD jn 0 := ⟨_, rfl⟩
          have hcell := row_at HR.out (k := jn) (by have := HL.out; omega) hc
          have HC := mkHid hc
          have hjl : ((jn : Nat) : Int) < (len : Int) := by omega
          clear hjn hc
          by_cases h92 : c = 92
          · have u1 : (c == 92) = true := by simp [h92]
            have HN := mkHid (show ((jn : Nat) : Int) - 1 = (p : Int) - 1 - ((bk + 1 : Nat) : Int) ∧ ∀ t, p - (bk + 1) ≤ t → t < p → zs.getD t 0 = 92 by
              have hjj := HJ.out
              refine ⟨by omega, fun t ha hb => ?_⟩
              by_cases e : t = jn
              · subst e; rw [← HC.out]; exact h92
              · exact HK.out.2 t (by omega) hb)
            have hb2 : bk + 1 ≤ p := by have := HJ.out; omega
            clear h92 HFIN
            go_wp2_with fail
            go_round
            case rel => exact ⟨bk + 1, _, by go_num, rfl, by omega, by omega, hb2, HN⟩
            case measure => simp [intOf]; omega
          · have u1 : (c == 92) = false := by simpa using h92
            have hin : i ≤ jn + 1 := by
              rcases HI.out.1 with h | h
              · omega
              · by_cases e : i ≤ jn + 1
                · exact e
                · exfalso
                  have h5 := HK.out.2 (i - 1) (by have := HJ.out; omega) (by omega)
                  rw [h] at h5
                  exact absurd h5 (by decide)
            have HF2 := mkHid (HFIN.out (by have := HJ.out; omega) (.inr (by
              have e : p - bk - 1 = jn := by have := HJ.out; omega
              rw [e, ← HC.out]; exact h92)))
            clear h92 HFIN
            by_cases hpar : bk % 2 = 0
            · have hpar' : ((bk : Int) % 2 == 0) = true := by rw [beq_iff_eq]; omega
              have HE := mkHid (HF2.out.1 hpar)
              clear hpar HF2
              go_wp2_with fail
              go_ret
              exact ⟨ret_int HE.out, rfl⟩
            · have hpar' : ((bk : Int) % 2 == 0) = false := by rw [beq_eq_false_iff_ne]; omega
              have HE := mkHid (HF2.out.2 hpar)
              clear hpar HF2
              go_wp2_with fail
              go_round
              case rel => exact ⟨p + 1, by go_num, by omega, by omega, .inr (by simpa using HQ.out), HE.out⟩
              case measure => simp [intOf]; omega
        · have hpb : p - bk = fr := by have := HK.out.1; omega
          have hin : i ≤ fr := by
            rcases HI.out.1 with h | h
            · omega
            · by_cases e : i ≤ fr
              · exact e
              · exfalso
                have h5 := HK.out.2 (i - 1) (by omega) (by omega)
                rw [h] at h5
                exact absurd h5 (by decide)
          have HF2 := mkHid (HFIN.out (by omega) (.inl (by omega)))
          clear HFIN hpb
          have hge' : jj < (fr : Int) := by omega
          by_cases hpar : bk % 2 = 0
          · have hpar' : ((bk : Int) % 2 == 0) = true := by rw [beq_iff_eq]; omega
            have HE := mkHid (HF2.out.1 hpar)
            clear hpar HF2
            go_wp2_with fail
            go_ret
            exact ⟨ret_int HE.out, rfl⟩
          · have hpar' : ((bk : Int) % 2 == 0) = false := by rw [beq_eq_false_iff_ne]; omega
            have HE := mkHid (HF2.out.2 hpar)
            clear hpar HF2
            go_wp2_with fail
            go_round
            case rel => exact ⟨p + 1, by go_num, by omega, by omega, .inr (by simpa using HQ.out), HE.out⟩
            case measure => simp [intOf]; omega
end Go.Proofs.Qxb6600387a
