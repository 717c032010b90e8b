/-
  THE MODEL's WALK (seat b6600387a): countModel, isJSONSpace, arrayCount.
-/
import Derived.Test.Qxb6600387aStr
namespace Go.Proofs.Qxb6600387a
open Go.RowKit

set_option maxHeartbeats 400000 in
theorem isSp_any (c : Int) (w : World) : Calls Try.prog 23 #[.int .u8 c] w fun e w' => e = .returned (.bool (Pl.isSp c)) ∧ w = w' := by
  have HD := mkHid (show Pl.isSp c = (c == 32 || c == 9 || c == 10 || c == 13) from rfl)
  rcases Bool.eq_false_or_eq_true (c == 32) with h1 | h1
  · go_enter Try.func23, Try.ntmps23
    go_wp2
    go_ret
    exact ⟨by rw [HD.out, h1]; rfl, rfl⟩
  rcases Bool.eq_false_or_eq_true (c == 9) with h2 | h2
  · go_enter Try.func23, Try.ntmps23
    go_wp2
    go_ret
    exact ⟨by rw [HD.out, h1, h2]; rfl, rfl⟩
  rcases Bool.eq_false_or_eq_true (c == 10) with h3 | h3
  · go_enter Try.func23, Try.ntmps23
    go_wp2
    go_ret
    exact ⟨by rw [HD.out, h1, h2, h3]; rfl, rfl⟩
  rcases Bool.eq_false_or_eq_true (c == 13) with h4 | h4
  all_goals
    go_enter Try.func23, Try.ntmps23
    go_wp2
    go_ret
    exact ⟨by rw [HD.out, h1, h2, h3, h4]; rfl, rfl⟩
theorem isSp_eq (c : Int) (b : Bool) (h : Pl.isSp c = b) (w : World) : Calls Try.prog 23 #[.int .u8 c] w fun e w' => e = .returned (.bool b) ∧ w = w' := by
  rw [← h]; exact isSp_any c w

set_option maxHeartbeats 400000 in
theorem arrayCount_any (s : Bool) (c : Nat) (hc : c ≤ 281474976710656) (w : World) : Calls Try.prog 24 #[.bool s, .int .i64 c] w fun e w' => e = .returned (.int .i64 ((Pl.total s c : Nat) : Int)) ∧ w = w' := by
  cases s with
  | false =>
    go_enter Try.func24, Try.ntmps24
    go_wp2
    go_ret
    exact ⟨rfl, rfl⟩
  | true =>
    go_enter Try.func24, Try.ntmps24
    go_wp2
    go_ret
    exact ⟨ret_int (by simp [Pl.total]), rfl⟩

/-- One byte further. -/
theorem cnt_next {zs : List Int} {i pos q c q' c' : Nat} {d d' : Int} {s s' : Bool} {x : Int} {R : Nat × Nat} (hx : x = zs.getD i 0) (hi : i < zs.length) (hp : pos ≤ i)
    (hs : ∀ u, Pl.cnt q c d s (x :: u) = Pl.bump 1 (Pl.cnt q' c' d' s' u)) (h : Pl.bump (i - pos) (Pl.cnt q c d s (zs.drop i)) = R) : Pl.bump (i + 1 - pos) (Pl.cnt q' c' d' s' (zs.drop (i + 1))) = R := by
  have e : zs.drop i = x :: zs.drop (i + 1) := by
    rw [List.drop_eq_getElem_cons hi, hx]
    simp [List.getD, hi]
  rw [e, hs, Pl.bump_bump] at h
  rw [← h, show i + 1 - pos = i - pos + 1 by omega]
theorem cnt_stop {zs : List Int} {i pos q c : Nat} {d : Int} {s : Bool} {x : Int} {R : Nat × Nat} (hx : x = zs.getD i 0) (hi : i < zs.length)
    (hs : ∀ u, Pl.cnt q c d s (x :: u) = (Pl.total s c, 1)) (h : Pl.bump (i - pos) (Pl.cnt q c d s (zs.drop i)) = R) (hp : pos ≤ i) : R = (Pl.total s c, i + 1 - pos) := by
  have e : zs.drop i = x :: zs.drop (i + 1) := by
    rw [List.drop_eq_getElem_cons hi, hx]
    simp [List.getD, hi]
  rw [e, hs] at h
  rw [← h]
  simp [Pl.bump]
  omega
theorem cnt_out {zs : List Int} {i pos q c : Nat} {d : Int} {s : Bool} {R : Nat × Nat} (hi : zs.length ≤ i) (h : Pl.bump (i - pos) (Pl.cnt q c d s (zs.drop i)) = R) : R = (Pl.total s c, i - pos) := by
  rw [List.drop_eq_nil_of_le hi] at h
  rw [← h]
  match q with
  | 0 => simp [Pl.cnt, Pl.bump]
  | 1 => simp [Pl.cnt, Pl.bump]
  | q + 2 => simp [Pl.cnt, Pl.bump]

/-- The ways of a byte outside strings. -/
theorem ways (x d : Int) : (Pl.isSp x = true ∧ ∀ c s u, Pl.cnt 0 c d s (x :: u) = Pl.bump 1 (Pl.cnt 0 c d s u)) ∨
    (Pl.isSp x = false ∧ (x = 93 ∨ x = 125) ∧ d = 0 ∧ ∀ c s u, Pl.cnt 0 c d s (x :: u) = (Pl.total s c, 1)) ∨
    (Pl.isSp x = false ∧ x = 34 ∧ ∀ c s u, Pl.cnt 0 c d s (x :: u) = Pl.bump 1 (Pl.cnt 1 c d true u)) ∨
    (Pl.isSp x = false ∧ (x = 91 ∨ x = 123) ∧ ∀ c s u, Pl.cnt 0 c d s (x :: u) = Pl.bump 1 (Pl.cnt 0 c (d + 1) true u)) ∨
    (Pl.isSp x = false ∧ (x = 93 ∨ x = 125) ∧ d ≠ 0 ∧ ∀ c s u, Pl.cnt 0 c d s (x :: u) = Pl.bump 1 (Pl.cnt 0 c (d - 1) true u)) ∨
    (Pl.isSp x = false ∧ x = 44 ∧ d = 0 ∧ ∀ c s u, Pl.cnt 0 c d s (x :: u) = Pl.bump 1 (Pl.cnt 0 (c + 1) d true u)) ∨
    (Pl.isSp x = false ∧ x ≠ 93 ∧ x ≠ 125 ∧ x ≠ 34 ∧ x ≠ 91 ∧ x ≠ 123 ∧ (x ≠ 44 ∨ d ≠ 0) ∧ ∀ c s u, Pl.cnt 0 c d s (x :: u) = Pl.bump 1 (Pl.cnt 0 c d true u)) := by
  by_cases h1 : Pl.isSp x = true
  · exact .inl ⟨h1, fun c s u => by simp only [Pl.cnt]; rw [if_pos h1]⟩
  have h1' : Pl.isSp x = false := by simpa using h1
  right
  by_cases h2 : (x = 93 ∨ x = 125) ∧ d = 0
  · exact .inl ⟨h1', h2.1, h2.2, fun c s u => by simp only [Pl.cnt]; rw [if_neg h1, if_pos h2]⟩
  right
  by_cases h3 : x = 34
  · exact .inl ⟨h1', h3, fun c s u => by simp only [Pl.cnt]; rw [if_neg h1, if_neg h2, if_pos h3]⟩
  right
  by_cases h4 : x = 91 ∨ x = 123
  · exact .inl ⟨h1', h4, fun c s u => by simp only [Pl.cnt]; rw [if_neg h1, if_neg h2, if_neg h3, if_pos h4]⟩
  right
  by_cases h5 : x = 93 ∨ x = 125
  · exact .inl ⟨h1', h5, fun e => h2 ⟨h5, e⟩, fun c s u => by simp only [Pl.cnt]; rw [if_neg h1, if_neg h2, if_neg h3, if_neg h4, if_pos h5]⟩
  right
  by_cases h6 : x = 44 ∧ d = 0
  · exact .inl ⟨h1', h6.1, h6.2, fun c s u => by simp only [Pl.cnt]; rw [if_neg h1, if_neg h2, if_neg h3, if_neg h4, if_neg h5, if_pos h6]⟩
  right
  refine ⟨h1', fun e => h5 (.inl e), fun e => h5 (.inr e), h3, fun e => h4 (.inl e), fun e => h4 (.inr e), ?_, fun c s u => by simp only [Pl.cnt]; rw [if_neg h1, if_neg h2, if_neg h3, if_neg h4, if_neg h5, if_neg h6]⟩
  by_cases h7 : x = 44
  · exact .inr fun e => h6 ⟨h7, e⟩
  · exact .inl h7

theorem bt {a b : Int} (h : a = b) : (a == b) = true := by simpa using h
theorem bf {a b : Int} (h : a ≠ b) : (a == b) = false := by simpa using h

set_option maxHeartbeats 4000000 in
set_option maxRecDepth 100000 in
theorem model_any (b off cap len : Nat) (zs : List Int) (pos : Nat) (N S : Nat) (w : World) (hrow : Row w b off zs) (hlen : len = zs.length) (hl : len ≤ 281474976710656) (hp : pos ≤ len) (hR : Pl.cnt 0 0 0 false (zs.drop pos) = (N, S)) :
    Calls Try.prog 11 #[.slice (some ⟨b, off, none⟩) len cap, .int .i64 pos] w fun e w' => e = .returned (.tuple #[.int .i64 (N : Int), .int .i64 (S : Int)]) ∧ w = w' := by
  have HR := mkHid hrow
  have HL := mkHid hlen
  have HC := mkHid hR
  clear hrow hlen hR
  go_enter Try.func11, Try.ntmps11
  go_wp2_with fail
  go_loop [6, 7, 8, 9, 10, 11] (fun tc td ts ti te tp => ∃ (i c q : Nat) (d : Int) (s b1 b2 : Bool), tc = .int .i64 c ∧ td = .int .i64 d ∧ ts = .bool s ∧ ti = .bool b1 ∧ te = .bool b2 ∧ tp = .int .i64 i ∧ pos ≤ i ∧ i ≤ len ∧ c ≤ i ∧ -(i : Int) ≤ d ∧ d ≤ i ∧
      Hid ((q = 0 ∧ b1 = false ∧ b2 = false) ∨ (q = 1 ∧ b1 = true ∧ b2 = false) ∨ (q = 2 ∧ b1 = true ∧ b2 = true)) ∧ Hid (Pl.bump (i - pos) (Pl.cnt q c d s (zs.drop i)) = (N, S))) (fun _ _ _ _ _ tp => len - (intOf tp).toNat)
  case atStart => exact ⟨pos, 0, 0, 0, false, false, false, rfl, rfl, rfl, rfl, rfl, rfl, Nat.le_refl _, hp, Nat.zero_le _, by omega, by omega, .inl ⟨rfl, rfl, rfl⟩, by simpa [Hid, Pl.bump_zero] using HC.out⟩
  case round =>
    obtain ⟨i, c, q, d, s, b1, b2, rfl, rfl, rfl, rfl, rfl, rfl, hpi, hil, hci, hd1, hd2, HQ, HN⟩ := hrel
    by_cases hlt : i < len
    · have hi2 : i < zs.length := by rw [← HL.out]; exact hlt
      have hlt' : ((i : Nat) : Int) < (len : Int) := by omega
      obtain ⟨x, hx⟩ : ∃ x, x = zs.getD i 0 := ⟨_, rfl⟩
      have hcell := row_at HR.out (k := i) hi2 hx
      have HX := mkHid hx
      clear hx
      rcases HQ.out with ⟨rfl, rfl, rfl⟩ | ⟨rfl, rfl, rfl⟩ | ⟨rfl, rfl, rfl⟩
      · clear HQ
        rcases ways x d with ⟨h1, hs⟩ | ⟨h1, h2, h3, hs⟩ | ⟨h1, h2, hs⟩ | ⟨h1, h2, hs⟩ | ⟨h1, h2, h3, hs⟩ | ⟨h1, h2, h3, hs⟩ | ⟨h1, h2, h3, h4, h5, h6, h7, hs⟩
        · have HG := mkHid (cnt_next HX.out hi2 hpi (hs c s) HN.out)
          have SP := mkHid (isSp_eq x true h1)
          clear h1 hs
          go_wp2_with (go_at_call 23; refine (SP.out _).mono ?_; rintro e w' ⟨rfl, rfl⟩)
          go_round
          case rel => exact ⟨i + 1, c, 0, d, s, false, false, rfl, rfl, rfl, rfl, rfl, by go_num, by omega, by omega, by omega, by omega, by omega, .inl ⟨rfl, rfl, rfl⟩, HG⟩
          case measure => simp [intOf]; omega
        · have HE := mkHid (cnt_stop HX.out hi2 (hs c s) HN.out hpi)
          have SP := mkHid (isSp_eq x false h1)
          have AC := mkHid (arrayCount_any s c (by omega))
          have hx2 : (x == 93) = true ∨ ((x == 93) = false ∧ (x == 125) = true) := by
            rcases h2 with h | h
            · exact .inl (bt h)
            · exact .inr ⟨bf (by omega), bt h⟩
          subst h3
          clear h1 hs h2
          rcases hx2 with u1 | ⟨u1, u2⟩
          all_goals
            go_wp2_with (first | (go_at_call 23; refine (SP.out _).mono ?_; rintro e w' ⟨rfl, rfl⟩) | (go_at_call 24; refine (AC.out _).mono ?_; rintro e w' ⟨rfl, rfl⟩))
            go_ret2
            have hE := HE.out
            simp only [Prod.mk.injEq] at hE
            exact ⟨by rw [hE.1, hE.2]; simp; omega, rfl⟩
        · have HG := mkHid (cnt_next HX.out hi2 hpi (hs c s) HN.out)
          have SP := mkHid (isSp_eq x false h1)
          subst h2
          clear h1 hs
          go_wp2_with (go_at_call 23; refine (SP.out _).mono ?_; rintro e w' ⟨rfl, rfl⟩)
          go_round
          case rel => exact ⟨i + 1, c, 1, d, true, true, false, rfl, rfl, rfl, rfl, rfl, by go_num, by omega, by omega, by omega, by omega, by omega, .inr (.inl ⟨rfl, rfl, rfl⟩), HG⟩
          case measure => simp [intOf]; omega
        · have HG := mkHid (cnt_next HX.out hi2 hpi (hs c s) HN.out)
          have SP := mkHid (isSp_eq x false h1)
          have v1 : (x == 93) = false := bf (by omega)
          have v2 : (x == 125) = false := bf (by omega)
          have v3 : (x == 34) = false := bf (by omega)
          have hx2 : (x == 91) = true ∨ ((x == 91) = false ∧ (x == 123) = true) := by
            rcases h2 with h | h
            · exact .inl (bt h)
            · exact .inr ⟨bf (by omega), bt h⟩
          clear h1 hs h2
          rcases hx2 with u1 | ⟨u1, u2⟩
          all_goals
            go_wp2_with (go_at_call 23; refine (SP.out _).mono ?_; rintro e w' ⟨rfl, rfl⟩)
            go_round
            case rel => exact ⟨i + 1, c, 0, d + 1, true, false, false, rfl, rfl, rfl, rfl, rfl, by go_num, by omega, by omega, by omega, by omega, by omega, .inl ⟨rfl, rfl, rfl⟩, HG⟩
            case measure => simp [intOf]; omega
        · have HG := mkHid (cnt_next HX.out hi2 hpi (hs c s) HN.out)
          have SP := mkHid (isSp_eq x false h1)
          have v0 : (d == 0) = false := bf h3
          have v3 : (x == 34) = false := bf (by omega)
          have v4 : (x == 91) = false := bf (by omega)
          have v5 : (x == 123) = false := bf (by omega)
          have hx2 : (x == 93) = true ∨ ((x == 93) = false ∧ (x == 125) = true) := by
            rcases h2 with h | h
            · exact .inl (bt h)
            · exact .inr ⟨bf (by omega), bt h⟩
          clear h1 hs h2 h3
          rcases hx2 with u1 | ⟨u1, u2⟩
          all_goals
            go_wp2_with (go_at_call 23; refine (SP.out _).mono ?_; rintro e w' ⟨rfl, rfl⟩)
            go_round
            case rel => exact ⟨i + 1, c, 0, d - 1, true, false, false, rfl, rfl, rfl, rfl, rfl, by go_num, by omega, by omega, by omega, by omega, by omega, .inl ⟨rfl, rfl, rfl⟩, HG⟩
            case measure => simp [intOf]; omega
        · have HG := mkHid (cnt_next HX.out hi2 hpi (hs c s) HN.out)
          have SP := mkHid (isSp_eq x false h1)
          subst h2
          subst h3
          clear h1 hs
          go_wp2_with (go_at_call 23; refine (SP.out _).mono ?_; rintro e w' ⟨rfl, rfl⟩)
          go_round
          case rel => exact ⟨i + 1, c + 1, 0, 0, true, false, false, by go_num, rfl, rfl, rfl, rfl, by go_num, by omega, by omega, by omega, by omega, by omega, .inl ⟨rfl, rfl, rfl⟩, HG⟩
          case measure => simp [intOf]; omega
        · have HG := mkHid (cnt_next HX.out hi2 hpi (hs c s) HN.out)
          have SP := mkHid (isSp_eq x false h1)
          have v1 : (x == 93) = false := bf h2
          have v2 : (x == 125) = false := bf h3
          have v3 : (x == 34) = false := bf h4
          have v4 : (x == 91) = false := bf h5
          have v5 : (x == 123) = false := bf h6
          have hx2 : (x == 44) = false ∨ ((x == 44) = true ∧ (d == 0) = false) := by
            by_cases e : x = 44
            · rcases h7 with h | h
              · exact absurd e h
              · exact .inr ⟨bt e, bf h⟩
            · exact .inl (bf e)
          clear h1 hs h2 h3 h4 h5 h6 h7
          rcases hx2 with u1 | ⟨u1, u2⟩
          all_goals
            go_wp2_with (go_at_call 23; refine (SP.out _).mono ?_; rintro e w' ⟨rfl, rfl⟩)
            go_round
            case rel => exact ⟨i + 1, c, 0, d, true, false, false, rfl, rfl, rfl, rfl, rfl, by go_num, by omega, by omega, by omega, by omega, by omega, .inl ⟨rfl, rfl, rfl⟩, HG⟩
            case measure => simp [intOf]; omega
      · clear HQ
        by_cases h1 : x = 92
        · have HG := mkHid (cnt_next (q' := 2) (c' := c) (d' := d) (s' := s) HX.out hi2 hpi (fun u => by simp only [Pl.cnt]; rw [if_pos h1]) HN.out)
          subst h1
          go_wp2_with fail
          go_round
          case rel => exact ⟨i + 1, c, 2, d, s, true, true, rfl, rfl, rfl, rfl, rfl, by go_num, by omega, by omega, by omega, by omega, by omega, .inr (.inr ⟨rfl, rfl, rfl⟩), HG⟩
          case measure => simp [intOf]; omega
        by_cases h2 : x = 34
        · have HG := mkHid (cnt_next (q' := 0) (c' := c) (d' := d) (s' := s) HX.out hi2 hpi (fun u => by simp only [Pl.cnt]; rw [if_neg h1, if_pos h2]) HN.out)
          subst h2
          clear h1
          go_wp2_with fail
          go_round
          case rel => exact ⟨i + 1, c, 0, d, s, false, false, rfl, rfl, rfl, rfl, rfl, by go_num, by omega, by omega, by omega, by omega, by omega, .inl ⟨rfl, rfl, rfl⟩, HG⟩
          case measure => simp [intOf]; omega
        · have HG := mkHid (cnt_next (q' := 1) (c' := c) (d' := d) (s' := s) HX.out hi2 hpi (fun u => by simp only [Pl.cnt]; rw [if_neg h1, if_neg h2]) HN.out)
          have v1 : (x == 92) = false := bf h1
          have v2 : (x == 34) = false := bf h2
          clear h1 h2
          go_wp2_with fail
          go_round
          case rel => exact ⟨i + 1, c, 1, d, s, true, false, rfl, rfl, rfl, rfl, rfl, by go_num, by omega, by omega, by omega, by omega, by omega, .inr (.inl ⟨rfl, rfl, rfl⟩), HG⟩
          case measure => simp [intOf]; omega
      · clear HQ
        have HG := mkHid (cnt_next (q' := 1) (c' := c) (d' := d) (s' := s) HX.out hi2 hpi (fun u => by simp only [Pl.cnt]) HN.out)
        go_wp2_with fail
        go_round
        case rel => exact ⟨i + 1, c, 1, d, s, true, false, rfl, rfl, rfl, rfl, rfl, by go_num, by omega, by omega, by omega, by omega, by omega, .inr (.inl ⟨rfl, rfl, rfl⟩), HG⟩
        case measure => simp [intOf]; omega
    · have hge : ¬ ((i : Nat) : Int) < (len : Int) := by omega
      have HE := mkHid (cnt_out (by rw [← HL.out]; omega) HN.out)
      have AC := mkHid (arrayCount_any s c (by omega))
      have hli : len = i := by omega
      have HLI := mkHid hli
      clear hli HQ
      go_wp2_with (go_at_call 24; refine (AC.out _).mono ?_; rintro e w' ⟨rfl, rfl⟩)
      go_ret2
      have hE := HE.out
      simp only [Prod.mk.injEq] at hE
      exact ⟨by rw [hE.1, hE.2, HLI.out]; simp; omega, rfl⟩
end Go.Proofs.Qxb6600387a
