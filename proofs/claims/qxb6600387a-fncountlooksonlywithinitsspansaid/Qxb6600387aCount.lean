/-
  count's WALK (seat b6600387a).
-/
import Derived.Test.Qxb6600387aModel
import Derived.WalkMore
import Derived.Outline
namespace Go.Proofs.Qxb6600387a
open Go.RowKit

theorem ret_two {a b : Int} {n m : Nat} (h1 : a = (n : Int)) (h2 : b = (m : Int)) : Ending.returned (.tuple #[.int .i64 a, .int .i64 b]) = .returned (.tuple #[.int .i64 (n : Int), .int .i64 (m : Int)]) := by rw [h1, h2]

/-- A string is jumped over, in the scanner's words. -/
theorem cnt_jump {zs : List Int} {e pos c : Nat} {d : Int} {s : Bool} {R : Nat × Nat} (hx : zs.getD e 0 = 34) (hi : e < zs.length) (hp : pos ≤ e)
    (hs : ∀ u, Pl.cnt 0 c d s (34 :: u) = Pl.bump 1 (Pl.cnt 1 c d true u)) (h : Pl.bump (e - pos) (Pl.cnt 0 c d s (zs.drop e)) = R) :
    (sE zs (e + 1) + 1 ≤ zs.length ∧ e + 1 ≤ sE zs (e + 1) ∧ Pl.bump (sE zs (e + 1) + 1 - pos) (Pl.cnt 0 c d true (zs.drop (sE zs (e + 1) + 1))) = R) ∨ (sE zs (e + 1) = zs.length ∧ R = (Pl.total true c, zs.length - pos)) := by
  have h1 := cnt_next (x := 34) hx.symm hi hp hs h
  have h2 := Pl.cnt_str c d true (zs.drop (e + 1)) false
  simp only [Bool.false_eq_true, if_false] at h2
  rw [h2] at h1
  cases hq : Pl.qf false (zs.drop (e + 1)) with
  | none =>
    rw [hq] at h1
    right
    refine ⟨sE_none hq, ?_⟩
    rw [← h1]
    simp [Pl.bump]
    omega
  | some m =>
    rw [hq] at h1
    left
    have hm := Pl.qf_le _ _ _ hq
    rw [List.length_drop] at hm
    rw [sE_some hq]
    refine ⟨by omega, by omega, ?_⟩
    simp only [Pl.bump_bump, List.drop_drop] at h1
    rw [← h1, show e + 1 + m - 1 + 1 = e + 1 + m by omega, show e + 1 + m - pos = e + 1 - pos + m by omega]

set_option maxHeartbeats 4000000 in
set_option maxRecDepth 100000 in
theorem count_any (pb : Nat) (b off cap len : Nat) (zs : List Int) (pos : Nat) (N S : Nat) (w : World) (q0 : w.cell? ⟨pb, 0, none⟩ = some (.slice (some ⟨b, off, none⟩) len cap)) (q1 : w.cell? ⟨pb, 1, none⟩ = some (.int .i64 pos))
    (hrow : Row w b off zs) (hlen : len = zs.length) (hcap : len ≤ cap) (hl : len ≤ 281474976710656) (hby : ∀ c ∈ zs, 0 ≤ c ∧ c ≤ 255) (hp : pos ≤ len) (hR : Pl.cnt 0 0 0 false (zs.drop pos) = (N, S)) :
    Calls Try.prog 22 #[.pointer (some ⟨pb, 0, none⟩)] w fun e w' => e = .returned (.tuple #[.int .i64 (N : Int), .int .i64 (S : Int)]) ∧ Below w.heap.size w w' := by
  have HR := mkHid hrow
  have HL := mkHid hlen
  have HC := mkHid hR
  have HB := mkHid hby
  clear hrow hlen hR hby
  go_enter Try.func22, Try.ntmps22
  go_wp2_with fail
  go_step3
  go_wp2_with fail
  go_step3
  go_wp2_with fail
  go_loop [4, 5, 6, 7] (fun tc td ts te => ∃ (e c : Nat) (d : Int) (em : Bool), tc = .int .i64 c ∧ td = .int .i64 d ∧ ts = .bool em ∧ te = .int .i64 e ∧ pos ≤ e ∧ e ≤ len + 1 ∧ c ≤ e ∧ -(e : Int) ≤ d ∧ d ≤ e ∧
      Hid ((e ≤ len ∧ Pl.bump (e - pos) (Pl.cnt 0 c d (!em) (zs.drop e)) = (N, S)) ∨ (e = len + 1 ∧ (N, S) = (Pl.total (!em) c, len - pos)))) (fun _ _ _ te => len + 1 - (intOf te).toNat)
  case atStart => exact ⟨pos, 0, 0, true, rfl, rfl, rfl, rfl, Nat.le_refl _, by omega, Nat.zero_le _, by omega, by omega, .inl ⟨hp, by simpa [Pl.bump_zero] using HC.out⟩⟩
  case round =>
    obtain ⟨e, c, d, em, rfl, rfl, rfl, rfl, hpe, hel, hce, hd1, hd2, HN⟩ := hrel
    by_cases hlt : e < len
    · have he2 : e < zs.length := by rw [← HL.out]; exact hlt
      have hlt' : ((e : Nat) : Int) < (len : Int) := by omega
      have HM := mkHid (show Pl.bump (e - pos) (Pl.cnt 0 c d (!em) (zs.drop e)) = (N, S) by
        rcases HN.out with ⟨_, h⟩ | ⟨h, _⟩
        · exact h
        · omega)
      obtain ⟨x, hx⟩ : ∃ x, x = zs.getD e 0 := ⟨_, rfl⟩
      have hcell := row_at HR.out (k := e) he2 hx
      have HX := mkHid hx
      clear hx HN
      rcases ways x d with ⟨h1, hs⟩ | ⟨h1, h2, h3, hs⟩ | ⟨h1, h2, hs⟩ | ⟨h1, h2, hs⟩ | ⟨h1, h2, h3, hs⟩ | ⟨h1, h2, h3, hs⟩ | ⟨h1, h2, h3, h4, h5, h6, h7, hs⟩
      · have HG := mkHid (cnt_next HX.out he2 hpe (hs c (!em)) HM.out)
        have hsp : (x == 32) = true ∨ ((x == 32) = false ∧ (x == 9) = true) ∨ ((x == 32) = false ∧ (x == 9) = false ∧ (x == 10) = true) ∨ ((x == 32) = false ∧ (x == 9) = false ∧ (x == 10) = false ∧ (x == 13) = true) := by
          have h := h1
          unfold Pl.isSp at h
          revert h
          cases (x == 32) <;> cases (x == 9) <;> cases (x == 10) <;> cases (x == 13) <;> simp
        clear h1 hs
        rcases hsp with u1 | ⟨u1, u2⟩ | ⟨u1, u2, u3⟩ | ⟨u1, u2, u3, u4⟩
        all_goals
          go_wp2_with fail
          go_round
          case rel => exact ⟨e + 1, c, d, em, rfl, rfl, rfl, by go_num, by omega, by omega, by omega, by omega, by omega, .inl ⟨by omega, HG.out⟩⟩
          case measure => simp [intOf]; omega
      all_goals
        have hnsp : (x == 32) = false ∧ (x == 9) = false ∧ (x == 10) = false ∧ (x == 13) = false := by
          have h := h1
          unfold Pl.isSp at h
          revert h
          cases (x == 32) <;> cases (x == 9) <;> cases (x == 10) <;> cases (x == 13) <;> simp
        obtain ⟨s1, s2, s3, s4⟩ := hnsp
        clear h1
      · have HE := mkHid (cnt_stop HX.out he2 (hs c (!em)) HM.out hpe)
        have v3 : (x == 34) = false := bf (by omega)
        have v4 : (x == 91) = false := bf (by omega)
        have v5 : (x == 123) = false := bf (by omega)
        have hx2 : (x == 93) = true ∨ ((x == 93) = false ∧ (x == 125) = true) := by
          rcases h2 with h | h
          · exact .inl (bt h)
          · exact .inr ⟨bf (by omega), bt h⟩
        subst h3
        clear hs h2 HM
        cases em with
        | true =>
          rcases hx2 with u1 | ⟨u1, u2⟩
          all_goals
            go_wp2_with fail
            go_region
            all_goals go_wp2_with fail
            all_goals rw [Exit.noGoto_ret]
            all_goals go_ret2
            all_goals
              have hE := HE.out
              simp only [Prod.mk.injEq, Pl.total, Bool.not_true, Bool.false_eq_true, if_false] at hE
              exact ⟨ret_two (by omega) (by omega), (Below.refl _ _).drew⟩
        | false =>
          rcases hx2 with u1 | ⟨u1, u2⟩
          all_goals
            go_wp2_with fail
            go_region
            all_goals go_wp2_with fail
            all_goals rw [Exit.noGoto_ret]
            all_goals go_ret2
            all_goals
              have hE := HE.out
              simp only [Prod.mk.injEq, Pl.total, Bool.not_false, if_true] at hE
              exact ⟨ret_two (by omega) (by omega), (Below.refl _ _).drew⟩
      · subst h2
        have HJ := mkHid (cnt_jump HX.out.symm he2 hpe (hs c (!em)) HM.out)
        have SE := mkHid (stringEnd_any b off cap len zs (e + 1) w HR.out HL.out hcap hl HB.out (by omega))
        obtain ⟨g, hg⟩ : ∃ g, g = sE zs (e + 1) := ⟨_, rfl⟩
        rw [← hg, ← HL.out] at HJ
        rw [← hg] at SE
        have hgl : g ≤ len := by
          rcases HJ.out with h | h
          · omega
          · omega
        have hge1 : e + 1 ≤ g := by
          rcases HJ.out with h | h
          · omega
          · omega
        clear hs HM hg
        go_wp2_with (go_at_call 27; refine SE.out.mono ?_; rintro e' w' ⟨rfl, rfl⟩)
        go_round
        case rel => exact ⟨g + 1, c, d, false, rfl, rfl, rfl, by go_num, by omega, by omega, by omega, by omega, by omega, by
            rcases HJ.out with ⟨ha, _, hb⟩ | ⟨ha, hb⟩
            · exact .inl ⟨ha, hb⟩
            · exact .inr ⟨by omega, hb⟩⟩
        case measure => simp [intOf]; omega
      · have HG := mkHid (cnt_next HX.out he2 hpe (hs c (!em)) HM.out)
        have v3 : (x == 34) = false := bf (by omega)
        have hx2 : (x == 91) = true ∨ ((x == 91) = false ∧ (x == 123) = true) := by
          rcases h2 with h | h
          · exact .inl (bt h)
          · exact .inr ⟨bf (by omega), bt h⟩
        clear hs h2 HM
        rcases hx2 with u1 | ⟨u1, u2⟩
        all_goals
          go_wp2_with fail
          go_round
          case rel => exact ⟨e + 1, c, d + 1, false, rfl, rfl, rfl, by go_num, by omega, by omega, by omega, by omega, by omega, .inl ⟨by omega, HG.out⟩⟩
          case measure => simp [intOf]; omega
      · have HG := mkHid (cnt_next HX.out he2 hpe (hs c (!em)) HM.out)
        have v0 : (d == 0) = false := bf h3
        have v3 : (x == 34) = false := bf (by omega)
        have v4 : (x == 91) = false := bf (by omega)
        have v5 : (x == 123) = false := bf (by omega)
        have hx2 : (x == 93) = true ∨ ((x == 93) = false ∧ (x == 125) = true) := by
          rcases h2 with h | h
          · exact .inl (bt h)
          · exact .inr ⟨bf (by omega), bt h⟩
        clear hs h2 h3 HM
        rcases hx2 with u1 | ⟨u1, u2⟩
        all_goals
          go_wp2_with fail
          go_round
          case rel => exact ⟨e + 1, c, d - 1, false, rfl, rfl, rfl, by go_num, by omega, by omega, by omega, by omega, by omega, .inl ⟨by omega, HG.out⟩⟩
          case measure => simp [intOf]; omega
      · have HG := mkHid (cnt_next HX.out he2 hpe (hs c (!em)) HM.out)
        subst h2
        subst h3
        clear hs HM
        go_wp2_with fail
        go_round
        case rel => exact ⟨e + 1, c + 1, 0, false, by go_num, rfl, rfl, by go_num, by omega, by omega, by omega, by omega, by omega, .inl ⟨by omega, HG.out⟩⟩
        case measure => simp [intOf]; omega
      · have HG := mkHid (cnt_next HX.out he2 hpe (hs c (!em)) HM.out)
        have v1 : (x == 93) = false := bf h2
        have v2 : (x == 125) = false := bf h3
        have v3 : (x == 34) = false := bf h4
        have v4 : (x == 91) = false := bf h5
        have v5 : (x == 123) = false := bf h6
        have hx2 : (x == 44) = false ∨ ((x == 44) = true ∧ (d == 0) = false) := by
          by_cases e : x = 44
          · rcases h7 with h | h
            · exact absurd e h
            · exact .inr ⟨bt e, bf h⟩
          · exact .inl (bf e)
        clear hs h2 h3 h4 h5 h6 h7 HM
        rcases hx2 with u1 | ⟨u1, u2⟩
        all_goals
          go_wp2_with fail
          go_round
          case rel => exact ⟨e + 1, c, d, false, rfl, rfl, rfl, by go_num, by omega, by omega, by omega, by omega, by omega, .inl ⟨by omega, HG.out⟩⟩
          case measure => simp [intOf]; omega
    · have hge : ¬ ((e : Nat) : Int) < (len : Int) := by omega
      have HE := mkHid (show (N, S) = (Pl.total (!em) c, len - pos) by
        rcases HN.out with ⟨h1, h2⟩ | ⟨_, h2⟩
        · have h3 := cnt_out (by rw [← HL.out]; omega) h2
          rw [h3]
          have : e = len := by omega
          rw [this]
        · exact h2)
      clear HN
      cases em with
      | true =>
        go_wp2_with fail
        go_region
        all_goals go_wp2_with fail
        all_goals go_ret2
        all_goals
          have hE := HE.out
          simp only [Prod.mk.injEq, Pl.total, Bool.not_true, Bool.false_eq_true, if_false] at hE
          exact ⟨ret_two (by omega) (by omega), (Below.refl _ _).drew⟩
      | false =>
        go_wp2_with fail
        go_region
        all_goals go_wp2_with fail
        all_goals go_ret2
        all_goals
          have hE := HE.out
          simp only [Prod.mk.injEq, Pl.total, Bool.not_false, if_true] at hE
          exact ⟨ret_two (by omega) (by omega), (Below.refl _ _).drew⟩
end Go.Proofs.Qxb6600387a
