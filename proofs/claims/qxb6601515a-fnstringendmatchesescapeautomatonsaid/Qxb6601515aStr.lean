/-
  stringEnd and the automaton (seat b6601515a).
-/
import Derived.Test.Qxb6601515aBase
import Derived.Laws.CopyOwn
namespace Go.Proofs.Qxb6601515a
open Go.RowKit

/-- The place of the first quote, or -1. -/
def fq : List Int → Int
  | [] => -1
  | c :: t => if c = 34 then 0 else if fq t = -1 then -1 else fq t + 1

theorem fq_lib : ∀ l : List Int, (∀ c ∈ l, 0 ≤ c ∧ c ≤ 255) → Lib.indexByte (Lib.bytesOf l) 34 = fq l
  | [], _ => rfl
  | c :: t, h => by
    have ih := fq_lib t fun x hx => h x (by simp [hx])
    have hc := h c (by simp)
    have e : (UInt8.ofNat c.toNat == 34) = decide (c = 34) := by
      rw [Bool.eq_iff_iff]
      simp only [beq_iff_eq, decide_eq_true_eq]
      constructor
      · intro h1
        have h2 := congrArg UInt8.toNat h1
        have h3 : (UInt8.ofNat c.toNat).toNat = c.toNat := by
          simp
          omega
        rw [h3] at h2
        have : (34 : UInt8).toNat = 34 := rfl
        omega
      · intro h1; subst h1; rfl
    show Lib.indexByte (UInt8.ofNat c.toNat :: Lib.bytesOf t) 34 = _
    unfold Lib.indexByte fq
    rw [e, ih]
    by_cases h1 : c = 34
    · simp [h1]
    · simp [h1]

theorem fq_spec : ∀ l : List Int, (fq l = -1 ∧ ∀ c ∈ l, c ≠ 34) ∨ ∃ q : Nat, fq l = q ∧ q < l.length ∧ l.getD q 0 = 34 ∧ ∀ t, t < q → l.getD t 0 ≠ 34
  | [] => .inl ⟨rfl, by simp⟩
  | c :: t => by
    by_cases h1 : c = 34
    · exact .inr ⟨0, by simp [fq, h1], by simp, by simp [h1], by omega⟩
    · rcases fq_spec t with ⟨h2, h3⟩ | ⟨q, h2, h3, h4, h5⟩
      · exact .inl ⟨by simp [fq, h1, h2], by intro x hx; simp at hx; rcases hx with rfl | hx; exact h1; exact h3 x hx⟩
      · refine .inr ⟨q + 1, ?_, by simp; omega, by simpa using h4, ?_⟩
        · simp only [fq, if_neg h1]
          rw [if_neg (by omega), h2]
          push_cast
          rfl
        · intro j hj
          cases j with
          | zero => simpa using h1
          | succ j => simpa using h5 j (by omega)

set_option maxHeartbeats 400000 in
set_option maxRecDepth 100000 in
theorem indexByte_any (b off n c : Nat) (xs : List Int) (w : World) (hx : xs.length = n) (hrow : Row w b off xs) (hby : ∀ c ∈ xs, 0 ≤ c ∧ c ≤ 255) :
    Calls Try.prog 26 #[.slice (some ⟨b, off, none⟩) n c, .int .u8 34] w fun e w' => e = .returned (.int .i64 (fq xs)) ∧ w = w' := by
  have hc : ∀ i, i < n → w.cell? ⟨b, off + i, none⟩ = some (.int .u8 (xs.getD i 0)) := fun i hi => hrow i (by omega)
  have HF := mkHid (fq_lib xs hby)
  go_enter Try.func26, Try.ntmps26
  go_wp2_with fail
  rw [run_callFunc_extern Try.func28 (by kernel_rfl) (by kernel_rfl) (by kernel_rfl) (e := Extern.BytealgIndexByte.indexByte) (by kernel_rfl), Lib.run_indexByteSlice w b off n c xs hx hc 34]
  simp only [Result.andThen]
  rw [Oper.upon_value]
  go_wp2
  go_ret
  exact ⟨ret_int HF.out, rfl⟩

/-- Just behind the closing quote, or the end of the text. -/
def sC (zs : List Int) (fr : Nat) : Nat := match Pl.qf false (zs.drop fr) with
  | some m => fr + m
  | none => zs.length
theorem sC_some {zs : List Int} {fr m : Nat} (h : Pl.qf false (zs.drop fr) = some m) : sC zs fr = fr + m := by unfold sC; rw [h]
theorem sC_none {zs : List Int} {fr : Nat} (h : Pl.qf false (zs.drop fr) = none) : sC zs fr = zs.length := by unfold sC; rw [h]
theorem drop_get (zs : List Int) (i t : Nat) : (zs.drop i).getD t 0 = zs.getD (i + t) 0 := by simp [List.getD]
theorem bt {a b : Int} (h : a = b) : (a == b) = true := by simpa using h
theorem bf {a b : Int} (h : a ≠ b) : (a == b) = false := by simpa using h

set_option maxHeartbeats 2000000 in
set_option maxRecDepth 100000 in
theorem stringEnd_any (b off cap len : Nat) (zs : List Int) (i0 : Nat) (w : World) (hrow : Row w b off zs) (hlen : len = zs.length) (hcap : len ≤ cap) (hl : len ≤ 281474976710656) (hby : ∀ c ∈ zs, 0 ≤ c ∧ c ≤ 255) (hi0 : i0 < len) (h0 : zs.getD i0 0 = 34) :
    Calls Try.prog 23 #[.slice (some ⟨b, off, none⟩) len cap, .int .i64 i0] w fun e w' => e = .returned (.int .i64 ((sC zs (i0 + 1) : Nat) : Int)) ∧ w = w' := by
  have HR := mkHid hrow
  have HL := mkHid hlen
  have HB := mkHid hby
  obtain ⟨S, hS⟩ : ∃ S, S = sC zs (i0 + 1) := ⟨_, rfl⟩
  rw [← hS]
  have HS := mkHid hS
  have HQ0 := mkHid h0
  clear hrow hlen hby hS h0
  go_enter Try.func23, Try.ntmps23
  go_wp2_with fail
  go_loop [1] (fun t => ∃ i : Nat, t = .int .i64 i ∧ i0 + 1 ≤ i ∧ i ≤ len ∧ Hid (zs.getD (i - 1) 0 = 34 ∧ Pl.qf false (zs.drop (i0 + 1)) = (Pl.qf false (zs.drop i)).map (· + (i - (i0 + 1))))) (fun t => len + 1 - (intOf t).toNat)
  case atStart => exact ⟨i0 + 1, by go_num, Nat.le_refl _, by omega, by simpa using HQ0.out, by simp⟩
  case round =>
    obtain ⟨i, rfl, hfi, hil, HI⟩ := hrel
    have HX := mkHid (show (zs.drop i).length = len - i by rw [List.length_drop, ← HL.out])
    have HBD := mkHid (show ∀ c ∈ zs.drop i, 0 ≤ c ∧ c ≤ 255 from fun c hc => HB.out c (List.mem_of_mem_drop hc))
    have HRD := mkHid (show Row w b (off + i) (zs.drop i) from fun t ht => by
      rw [drop_get, Nat.add_assoc]
      exact HR.out (i + t) (by have := HX.out; have := HL.out; omega))
    by_cases hlt : i < len
    · have hlt' : ((i : Nat) : Int) < (len : Int) := by omega
      have t0 : (0 : Int) ≤ (i : Int) := by omega
      have t1 : (i : Int) ≤ (len : Int) := by omega
      have hci : ¬ cap = i := by omega
      have IB := mkHid (indexByte_any b (off + i) (len - i) (cap - i) (zs.drop i) w HX.out HRD.out HBD.out)
      rcases fq_spec (zs.drop i) with ⟨h1, h2⟩ | ⟨q, h1, h2, h3, h4⟩
      · have HN := mkHid (show ((len : Nat) : Int) = (S : Int) by
          have hq : Pl.qf false (zs.drop i) = none := Pl.qf_none _ _ h2
          have h5 := HI.out.2
          rw [hq] at h5
          rw [HS.out, sC_none h5, HL.out])
        rw [h1] at IB
        clear h1 h2
        go_wp2_with (go_at_call 26; refine IB.out.mono ?_; rintro e w' ⟨rfl, rfl⟩)
        go_ret
        exact ⟨ret_int HN.out, rfl⟩
      · have hiq : i + q < len := by have := HX.out; omega
        rw [h1] at IB
        obtain ⟨p, hp⟩ : ∃ p, p = i + q := ⟨_, rfl⟩
        have HP := mkHid hp
        have hpl : p < len := by omega
        have hip : i ≤ p := by omega
        have HQ := mkHid (show zs.getD p 0 = 34 by rw [hp, ← drop_get]; exact h3)
        have HNO := mkHid (show ∀ t, i ≤ t → t < p → zs.getD t 0 ≠ 34 by
          intro t ha hb
          have := h4 (t - i) (by omega)
          rw [drop_get, show i + (t - i) = t by omega] at this
          exact this)
        have hpe : ((i : Nat) : Int) + (q : Int) = (p : Int) := by omega
        clear h1 h2 h3 h4 hp
        go_wp2_with (go_at_call 26; refine IB.out.mono ?_; rintro e w' ⟨rfl, rfl⟩)
        go_loop [6] (fun c => ∃ bk : Nat, c = .int .i64 bk ∧ bk ≤ p ∧ bk + i ≤ p ∧ Hid (∀ t, p - bk ≤ t → t < p → zs.getD t 0 = 92)) (fun c => p - (intOf c).toNat)
        case atStart => exact ⟨0, rfl, Nat.zero_le _, by omega, fun t ha hb => by omega⟩
        case round =>
          obtain ⟨bk, rfl, hbp, hbi, HK⟩ := hrel
          obtain ⟨jn, hjn⟩ : ∃ jn : Nat, jn + bk + 1 = p := ⟨p - bk - 1, by omega⟩
          have hji : ((p : Nat) : Int) - 1 - (bk : Int) = (jn : Int) := by omega
          have HJ := mkHid hjn
          have hjl : ((jn : Nat) : Int) < (len : Int) := by omega
          obtain ⟨c, hc⟩ : ∃ c, c = zs.getD jn 0 := ⟨_, rfl⟩
          have hcell := row_at HR.out (k := jn) (by have := HL.out; omega) hc
          have HC := mkHid hc
          clear hjn hc
          by_cases h92 : c = 92
          · have u1 : (c == 92) = true := bt h92
            have hge : i ≤ jn := by
              have h5 := HI.out.1
              have h6 := HJ.out
              by_cases e : i ≤ jn
              · exact e
              · exfalso
                have e2 : i - 1 = jn := by omega
                rw [e2, ← HC.out, h92] at h5
                exact absurd h5 (by decide)
            have HN := mkHid (show ∀ t, p - (bk + 1) ≤ t → t < p → zs.getD t 0 = 92 by
              intro t ha hb
              have hjj := HJ.out
              by_cases e : t = jn
              · subst e; rw [← HC.out]; exact h92
              · exact HK.out t (by omega) hb)
            have hb2 : bk + 1 + i ≤ p := by have := HJ.out; omega
            clear h92
            go_wp2_with fail
            go_round
            case rel => exact ⟨bk + 1, by go_num, by omega, hb2, HN⟩
            case measure => simp [intOf]; omega
          · have u1 : (c == 92) = false := bf h92
            have HF := mkHid (Pl.qf_at zs i p bk hip (by have := HL.out; omega) HQ.out HNO.out (by omega) HK.out (.inr (by
              have e : p - bk - 1 = jn := by have := HJ.out; omega
              rw [e, ← HC.out]; exact h92)))
            clear h92
            by_cases hpar : bk % 2 = 0
            · have hpar' : ((bk : Int) % 2 == 0) = true := by rw [beq_iff_eq]; omega
              have HE := mkHid (show ((p : Nat) : Int) + 1 = (S : Int) by
                have h5 := HI.out.2
                have h6 := HF.out
                rw [if_pos hpar] at h6
                rw [h6] at h5
                rw [HS.out, sC_some h5]
                simp
                omega)
              clear hpar
              go_wp2_with fail
              go_ret
              exact ⟨ret_int HE.out, rfl⟩
            · have hpar' : ((bk : Int) % 2 == 0) = false := by rw [beq_eq_false_iff_ne]; omega
              have HE := mkHid (show Pl.qf false (zs.drop (i0 + 1)) = (Pl.qf false (zs.drop (p + 1))).map (· + (p + 1 - (i0 + 1))) by
                have h5 := HI.out.2
                have h6 := HF.out
                rw [if_neg hpar] at h6
                rw [h6, Pl.map_add, show p + 1 - i + (i - (i0 + 1)) = p + 1 - (i0 + 1) by omega] at h5
                exact h5)
              clear hpar
              go_wp2_with fail
              go_round
              case rel => exact ⟨p + 1, by go_num, by omega, by omega, by simpa using HQ.out, HE.out⟩
              case measure => simp [intOf]; omega
    · have hge : ¬ ((i : Nat) : Int) < (len : Int) := by omega
      have HN := mkHid (show ((len : Nat) : Int) = (S : Int) by
        have h5 := HI.out.2
        have hd : zs.drop i = [] := List.drop_eq_nil_of_le (by rw [← HL.out]; omega)
        rw [hd] at h5
        rw [HS.out, sC_none h5, HL.out])
      go_wp2_with fail
      go_ret
      exact ⟨ret_int HN.out, rfl⟩

/-- One step of the automaton. -/
theorem qf_one (zs : List Int) (j : Nat) (h : j < zs.length) : (zs.getD j 0 = 92 ∧ j + 1 < zs.length ∧ Pl.qf false (zs.drop j) = (Pl.qf false (zs.drop (j + 2))).map (· + 2)) ∨
    (zs.getD j 0 = 92 ∧ j + 1 = zs.length ∧ Pl.qf false (zs.drop j) = none) ∨ (zs.getD j 0 = 34 ∧ Pl.qf false (zs.drop j) = some 1) ∨
    (zs.getD j 0 ≠ 92 ∧ zs.getD j 0 ≠ 34 ∧ Pl.qf false (zs.drop j) = (Pl.qf false (zs.drop (j + 1))).map (· + 1)) := by
  have hg : zs.getD j 0 = zs[j] := by simp [List.getD, h]
  rw [hg, List.drop_eq_getElem_cons h]
  simp only [Pl.qf]
  by_cases h1 : zs[j] = 92
  · rw [if_pos h1]
    by_cases h2 : j + 1 < zs.length
    · left
      refine ⟨h1, h2, ?_⟩
      rw [List.drop_eq_getElem_cons h2]
      simp only [Pl.qf]
      rw [Pl.map_add]
    · right; left
      refine ⟨h1, by omega, ?_⟩
      rw [List.drop_eq_nil_of_le (by omega)]
      rfl
  · rw [if_neg h1]
    by_cases h2 : zs[j] = 34
    · rw [if_pos h2]; exact .inr (.inr (.inl ⟨h2, rfl⟩))
    · rw [if_neg h2]; exact .inr (.inr (.inr ⟨h1, h2, rfl⟩))

set_option maxHeartbeats 1000000 in
theorem model_any (b off cap len : Nat) (zs : List Int) (fr : Nat) (I : Int) (hI : I = (fr : Int)) (w : World) (hrow : Row w b off zs) (hlen : len = zs.length) (hl : len ≤ 281474976710656) (hf : fr ≤ len) :
    Calls Try.prog 16 #[.slice (some ⟨b, off, none⟩) len cap, .int .i64 I] w fun e w' => e = .returned (.int .i64 ((sC zs fr : Nat) : Int)) ∧ w = w' := by
  subst hI
  have HR := mkHid hrow
  have HL := mkHid hlen
  obtain ⟨S, hS⟩ : ∃ S, S = sC zs fr := ⟨_, rfl⟩
  rw [← hS]
  have HS := mkHid hS
  clear hrow hlen hS
  go_enter Try.func16, Try.ntmps16
  go_wp2_with fail
  go_loop [1] (fun t => ∃ j : Nat, t = .int .i64 j ∧ fr ≤ j ∧ j ≤ len + 1 ∧ Hid ((j ≤ len ∧ Pl.qf false (zs.drop fr) = (Pl.qf false (zs.drop j)).map (· + (j - fr))) ∨ (j = len + 1 ∧ Pl.qf false (zs.drop fr) = none))) (fun t => len + 1 - (intOf t).toNat)
  case atStart => exact ⟨fr, rfl, Nat.le_refl _, by omega, .inl ⟨hf, by simp⟩⟩
  case round =>
    obtain ⟨j, rfl, hfj, hjl, HI⟩ := hrel
    by_cases hlt : j < len
    · have hlt' : ((j : Nat) : Int) < (len : Int) := by omega
      have HQ := mkHid (show Pl.qf false (zs.drop fr) = (Pl.qf false (zs.drop j)).map (· + (j - fr)) by
        rcases HI.out with h | h
        · exact h.2
        · omega)
      obtain ⟨c, hc⟩ : ∃ c, c = zs.getD j 0 := ⟨_, rfl⟩
      have hcell := row_at HR.out (k := j) (by have := HL.out; omega) hc
      have hst := qf_one zs j (by have := HL.out; omega)
      rw [← hc, ← HL.out] at hst
      clear hc HI
      rcases hst with ⟨h1, h2, h3⟩ | ⟨h1, h2, h3⟩ | ⟨h1, h3⟩ | ⟨h1, h2, h3⟩
      · have u1 : (c == 92) = true := bt h1
        have HN := mkHid (show Pl.qf false (zs.drop fr) = (Pl.qf false (zs.drop (j + 2))).map (· + (j + 2 - fr)) by
          rw [HQ.out, h3, Pl.map_add, show 2 + (j - fr) = j + 2 - fr by omega])
        clear h1 h3
        go_wp2_with fail
        go_round
        case rel => exact ⟨j + 2, by go_num, by omega, by omega, .inl ⟨by omega, HN.out⟩⟩
        case measure => simp [intOf]; omega
      · have u1 : (c == 92) = true := bt h1
        have HN := mkHid (show Pl.qf false (zs.drop fr) = none by rw [HQ.out, h3]; rfl)
        have HE := mkHid h2
        clear h1 h3 h2
        go_wp2_with fail
        go_round
        case rel => exact ⟨j + 2, by go_num, by omega, by have := HE.out; omega, .inr ⟨by have := HE.out; omega, HN.out⟩⟩
        case measure => simp [intOf]; omega
      · have u1 : (c == 92) = false := bf (by omega)
        have u2 : (c == 34) = true := bt h1
        have HE := mkHid (show ((j : Nat) : Int) + 1 = (S : Int) by
          have h5 := HQ.out
          rw [h3] at h5
          rw [HS.out, sC_some h5]
          simp
          omega)
        clear h1 h3
        go_wp2_with fail
        go_ret
        exact ⟨ret_int HE.out, rfl⟩
      · have u1 : (c == 92) = false := bf h1
        have u2 : (c == 34) = false := bf h2
        have HN := mkHid (show Pl.qf false (zs.drop fr) = (Pl.qf false (zs.drop (j + 1))).map (· + (j + 1 - fr)) by
          rw [HQ.out, h3, Pl.map_add, show 1 + (j - fr) = j + 1 - fr by omega])
        clear h1 h2 h3
        go_wp2_with fail
        go_round
        case rel => exact ⟨j + 1, by go_num, by omega, by omega, .inl ⟨by omega, HN.out⟩⟩
        case measure => simp [intOf]; omega
    · have hge : ¬ ((j : Nat) : Int) < (len : Int) := by omega
      have HN := mkHid (show ((len : Nat) : Int) = (S : Int) by
        have h5 : Pl.qf false (zs.drop fr) = none := by
          rcases HI.out with h | h
          · have hd : zs.drop j = [] := List.drop_eq_nil_of_le (by rw [← HL.out]; omega)
            rw [h.2, hd]; rfl
          · exact h.2
        rw [HS.out, sC_none h5, HL.out])
      clear HI
      go_wp2_with fail
      go_ret
      exact ⟨ret_int HN.out, rfl⟩
end Go.Proofs.Qxb6601515a
