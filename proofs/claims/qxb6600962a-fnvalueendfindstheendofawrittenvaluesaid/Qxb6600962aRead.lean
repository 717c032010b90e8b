/-
  THE WALKS OF THE READER (seat b6600962a): stringEnd, valueEnd at strings and brackets, cloneBytes.
-/
import Derived.Test.Qxb6600962aBase
namespace Go.Proofs.Qxb6600962a
open Go.RowKit

set_option maxHeartbeats 400000 in
theorem stringEnd_any (b off cap len : Nat) (zs : List Int) (i m : Nat) (w : World) (hrow : Row w b off zs) (hlen : len = zs.length) (hl : len ≤ maxLen) (hq : Pl.QEnd false (zs.drop (i + 1)) m) :
    Calls Try.prog 22 #[.slice (some ⟨b, off, none⟩) len cap, .int .i64 i] w fun e w' => e = .returned (.int .i64 ((i + 1 + m : Nat) : Int)) ∧ w' = w := by
  unfold maxLen at hl
  have HL : Hid (len = zs.length) := hlen
  have hi : i + 1 < len := by rw [hlen]; exact (Pl.qend_step zs (i + 1) m hq).1
  clear hlen
  have HR : Hid (Row w b off zs) := hrow
  clear hrow
  have HQ : Hid (Pl.QEnd false (zs.drop (i + 1)) m) := hq
  clear hq
  go_enter Try.func22, Try.ntmps22
  go_wp2
  go_loop [1] (fun t => ∃ k m' : Nat, t = .int .i64 k ∧ k < len ∧ Hid (Pl.QEnd false (zs.drop k) m' ∧ k + m' = i + 1 + m)) (fun t => len - (intOf t).toNat)
  case atStart => exact ⟨i + 1, m, by go_num, hi, ⟨HQ.out, rfl⟩⟩
  case round =>
    obtain ⟨k, m', rfl, hk, HK⟩ := hrel
    have hst := Pl.qend_step zs k m' HK.out.1
    have hkm := HK.out.2
    have hln := HL.out
    obtain ⟨c, hc⟩ : ∃ c, c = zs.getD k 0 := ⟨_, rfl⟩
    have hcell : w.cell? ⟨b, off + k, none⟩ = some (.int .u8 c) := by rw [hc]; exact HR.out k (by omega)
    rw [← hc, ← hln] at hst
    clear hc
    obtain ⟨_, hm1, hst⟩ := hst
    rcases hst with ⟨h1, h2⟩ | ⟨h1, hk1, hm2, hq⟩ | ⟨h1, h2, hq⟩
    · have t1 : (c != 34) = false := by simp [h1]
      have HE : Hid (((k : Nat) : Int) + 1 = ((i + 1 + m : Nat) : Int)) := by show _ = _; omega
      clear h1 h2 hln hkm
      go_wp2
      go_ret
      exact ⟨ret_int HE.out, rfl⟩
    · have t1 : (c != 34) = true := by simp [h1]
      have t2 : (c == 92) = true := by simp [h1]
      have HS : Hid (Pl.QEnd false (zs.drop (k + 2)) (m' - 2) ∧ k + 2 + (m' - 2) = i + 1 + m) := ⟨hq, by omega⟩
      have hk2 : k + 2 < len := by rw [hln]; exact (Pl.qend_step zs (k + 2) _ hq).1
      clear h1 hq hln hkm
      go_wp2
      go_round
      case rel => exact ⟨k + 2, m' - 2, by go_num, hk2, HS⟩
      case measure => simp [intOf]; omega
    · have t1 : (c != 34) = true := by simp [h1]
      have t2 : (c == 92) = false := by simp [h2]
      have HS : Hid (Pl.QEnd false (zs.drop (k + 1)) (m' - 1) ∧ k + 1 + (m' - 1) = i + 1 + m) := ⟨hq, by omega⟩
      have hk2 : k + 1 < len := by rw [hln]; exact (Pl.qend_step zs (k + 1) _ hq).1
      clear h1 h2 hq hln hkm
      go_wp2
      go_round
      case rel => exact ⟨k + 1, m' - 1, by go_num, hk2, HS⟩
      case measure => simp [intOf]; omega
set_option maxHeartbeats 400000 in
theorem valueEnd_str (b off cap len : Nat) (zs : List Int) (i j : Nat) (w : World) (hrow : Row w b off zs) (hlen : len = zs.length) (hl : len ≤ maxLen) (hi : i < len) (hc : zs.getD i 0 = 34) (hq : Pl.QEnd false (zs.drop (i + 1)) j) :
    Calls Try.prog 25 #[.slice (some ⟨b, off, none⟩) len cap, .int .i64 i] w fun e w' => e = .returned (.int .i64 ((i + (j + 1) : Nat) : Int)) ∧ w' = w := by
  have hcell := row_at hrow (k := i) (c := 34) (by omega) hc.symm
  have H37 := mkHid (stringEnd_any b off cap len zs i j w hrow hlen hl hq)
  have HE : Hid (((i + 1 + j : Nat) : Int) = ((i + (j + 1) : Nat) : Int)) := by show _ = _; omega
  clear hrow hlen hc hq
  unfold maxLen at hl
  go_enter Try.func25, Try.ntmps25
  go_wp2_with (go_at_call 22; refine H37.out.mono ?_; rintro e w' ⟨rfl, rfl⟩)
  go_ret
  exact ⟨ret_int HE.out, rfl⟩

set_option maxHeartbeats 1000000 in
theorem valueEnd_box (b off cap len : Nat) (zs : List Int) (i m : Nat) (w : World) (hrow : Row w b off zs) (hlen : len = zs.length) (hl : len ≤ maxLen) (hi : i < len) (hc : zs.getD i 0 = 123 ∨ zs.getD i 0 = 91) (he : Pl.Ends 0 0 (zs.drop i) m) :
    Calls Try.prog 25 #[.slice (some ⟨b, off, none⟩) len cap, .int .i64 i] w fun e w' => e = .returned (.int .i64 ((i + m : Nat) : Int)) ∧ w' = w := by
  obtain ⟨c0, hc0⟩ : ∃ c, c = zs.getD i 0 := ⟨_, rfl⟩
  have hcell := row_at hrow (k := i) (by omega) hc0
  rw [← hc0] at hc
  have HS := mkHid (stringEnd_any b off cap len zs (w := w) (hrow := hrow) (hlen := hlen) (hl := hl))
  have HR := mkHid hrow
  have HL := mkHid hlen
  have HE := mkHid he
  have t0 : (c0 == 34) = false := by rw [beq_eq_false_iff_ne]; omega
  have t1 : (c0 == 123) = true ∨ ((c0 == 123) = false ∧ (c0 == 91) = true) := by
    rcases hc with h | h
    · exact .inl (by simp [h])
    · exact .inr (by simp [h])
  clear hrow hlen he hc hc0
  unfold maxLen at hl
  rcases t1 with t1 | ⟨t1, t2⟩
  all_goals
    go_enter Try.func25, Try.ntmps25
    go_wp2_with fail
    go_loop [1, 5] (fun t u => ∃ (k m' : Nat) (d : Int), t = .int .i64 k ∧ u = .int .i64 d ∧ k < len ∧ -(k : Int) ≤ d ∧ d ≤ k ∧ Hid (Pl.Ends 0 d (zs.drop k) m' ∧ k + m' = i + m)) (fun t _ => len - (intOf t).toNat)
    case atStart => exact ⟨i, m, 0, rfl, rfl, hi, by omega, by omega, ⟨HE.out, rfl⟩⟩
    case round =>
      obtain ⟨k, m', d, rfl, rfl, hk, hd1, hd2, HK⟩ := hrel
      have hst := Pl.ends_step zs k m' d HK.out.1
      have hkm := HK.out.2
      have hln := HL.out
      obtain ⟨c, hc⟩ : ∃ c, c = zs.getD k 0 := ⟨_, rfl⟩
      have hcell := row_at HR.out (k := k) (by omega) hc
      rw [← hc, ← hln] at hst
      clear hc
      obtain ⟨_, hm1, hst⟩ := hst
      rcases hst with ⟨h1, j, hq, hj, hn⟩ | ⟨h1, hn⟩ | ⟨h1, h2, h3⟩ | ⟨h1, h2, hn⟩ | ⟨h1, h2, h3, h4, h5, hn⟩
      · have u1 : (c == 34) = true := by simp [h1]
        have hk2 : k + 1 + j < len := by rw [hln]; exact (Pl.ends_step zs _ _ _ hn).1
        have HN := mkHid (show Pl.Ends 0 d (zs.drop (k + 1 + j)) (m' - 1 - j) ∧ k + 1 + j + (m' - 1 - j) = i + m from ⟨hn, by omega⟩)
        have HQ := mkHid hq
        clear h1 hq hn hln hkm
        go_wp2_with (go_at_call 22; refine (HS.out _ _ HQ.out).mono ?_; rintro e w' ⟨rfl, rfl⟩)
        go_round
        case rel => exact ⟨k + 1 + j, m' - 1 - j, d, by go_num, rfl, hk2, by omega, by omega, HN⟩
        case measure => simp [intOf]; omega
      · have u1 : (c == 34) = false := by rw [beq_eq_false_iff_ne]; omega
        have u2 : (c == 123) = true ∨ ((c == 123) = false ∧ (c == 91) = true) := by
          rcases h1 with h | h
          · exact .inl (by simp [h])
          · exact .inr (by simp [h])
        have hk2 : k + 1 < len := by rw [hln]; exact (Pl.ends_step zs _ _ _ hn).1
        have HN := mkHid (show Pl.Ends 0 (d + 1) (zs.drop (k + 1)) (m' - 1) ∧ k + 1 + (m' - 1) = i + m from ⟨hn, by omega⟩)
        clear h1 hn hln hkm
        rcases u2 with u2 | ⟨u2, u3⟩
        all_goals
          go_wp2_with fail
          go_round
          case rel => exact ⟨k + 1, m' - 1, d + 1, by go_num, rfl, hk2, by omega, by omega, HN⟩
          case measure => simp [intOf]; omega
      · have u1 : (c == 34) = false := by rw [beq_eq_false_iff_ne]; omega
        have u2 : (c == 123) = false := by rw [beq_eq_false_iff_ne]; omega
        have u3 : (c == 91) = false := by rw [beq_eq_false_iff_ne]; omega
        have u4 : (c == 125) = true ∨ ((c == 125) = false ∧ (c == 93) = true) := by
          rcases h1 with h | h
          · exact .inl (by simp [h])
          · exact .inr (by simp [h])
        have HX := mkHid (show ((k : Nat) : Int) + 1 = ((i + m : Nat) : Int) by omega)
        subst h2
        clear h1 h3 hln hkm
        rcases u4 with u4 | ⟨u4, u5⟩
        all_goals
          go_wp2_with fail
          go_ret
          exact ⟨ret_int HX.out, rfl⟩
      · have u1 : (c == 34) = false := by rw [beq_eq_false_iff_ne]; omega
        have u2 : (c == 123) = false := by rw [beq_eq_false_iff_ne]; omega
        have u3 : (c == 91) = false := by rw [beq_eq_false_iff_ne]; omega
        have u4 : (c == 125) = true ∨ ((c == 125) = false ∧ (c == 93) = true) := by
          rcases h1 with h | h
          · exact .inl (by simp [h])
          · exact .inr (by simp [h])
        have u6 : (d - 1 == 0) = false := by rw [beq_eq_false_iff_ne]; omega
        have hk2 : k + 1 < len := by rw [hln]; exact (Pl.ends_step zs _ _ _ hn).1
        have HN := mkHid (show Pl.Ends 0 (d - 1) (zs.drop (k + 1)) (m' - 1) ∧ k + 1 + (m' - 1) = i + m from ⟨hn, by omega⟩)
        clear h1 h2 hn hln hkm
        rcases u4 with u4 | ⟨u4, u5⟩
        all_goals
          go_wp2_with fail
          go_round
          case rel => exact ⟨k + 1, m' - 1, d - 1, by go_num, rfl, hk2, by omega, by omega, HN⟩
          case measure => simp [intOf]; omega
      · have u1 : (c == 34) = false := by rw [beq_eq_false_iff_ne]; omega
        have u2 : (c == 123) = false := by rw [beq_eq_false_iff_ne]; omega
        have u3 : (c == 91) = false := by rw [beq_eq_false_iff_ne]; omega
        have u4 : (c == 125) = false := by rw [beq_eq_false_iff_ne]; omega
        have u5 : (c == 93) = false := by rw [beq_eq_false_iff_ne]; omega
        have hk2 : k + 1 < len := by rw [hln]; exact (Pl.ends_step zs _ _ _ hn).1
        have HN := mkHid (show Pl.Ends 0 d (zs.drop (k + 1)) (m' - 1) ∧ k + 1 + (m' - 1) = i + m from ⟨hn, by omega⟩)
        clear h1 h2 h3 h4 h5 hn hln hkm
        go_wp2_with fail
        go_round
        case rel => exact ⟨k + 1, m' - 1, d, by go_num, rfl, hk2, by omega, by omega, HN⟩
        case measure => simp [intOf]; omega

set_option maxHeartbeats 1000000 in
/-- A copy of a slice that is not nil. -/
theorem copy_some (ad : Addr) (len cap : Nat) (Z : List Int) (w : World) (v : View w (some ad) len cap Z) (hl : len ≤ 1048576) :
    Calls Try.prog 10 #[.slice (some ad) len cap] w fun e w' => ∃ g, e = .returned (.slice (some ⟨g, 0, none⟩) len len) ∧ Hid (Row w' g 0 Z) ∧ w.heap.size ≤ g ∧ g < w'.heap.size ∧ Below w.heap.size w w' := by
  have q := eql_nil
  have HV := mkHid v
  have HLE := mkHid v.hlen
  clear v
  go_enter Try.func10, Try.ntmps10
  go_wp2_with (at_make; refine mkN _ rfl _ _ rfl len rfl rfl (by omega) ?_)
  intro w1 hown1 hb1 hs1
  have HB1 := mkHid hb1
  clear hb1 q
  by_cases h0 : len = 0
  · subst h0
    have hz : Z = [] := List.eq_nil_of_length_eq_zero HLE.out.symm
    go_wp2_with fail
    refine wp_loop_rounds 1 ?_
    rw [rounds_succ]
    go_wp2_with fail
    go_ret
    exact ⟨w.heap.size, rfl, fun i hi => by rw [hz] at hi; simp at hi, Nat.le_refl _, hs1, HB1.out⟩
  · obtain ⟨b, off, had, hrow⟩ := HV.out.row (by omega)
    obtain rfl := Option.some.inj had
    have HR := mkHid hrow
    have hbl : b < w.heap.size := by
      have := World.block_lt_of_cell? w _ (hrow 0 (by have := HLE.out; omega))
      exact this
    clear had hrow
    go_wp2_with fail
    go_loopw [4] (fun t wr => ∃ k : Nat, k ≤ len ∧ t = .int .i64 k ∧ Hid (Own w.heap.size wr (.slice (some ⟨w.heap.size, 0, none⟩) len len) (Z.take k ++ List.replicate (len - k) 0)) ∧ Hid (Below w.heap.size w wr) ∧ w.heap.size < wr.heap.size) (fun t _ => len - (intOf t).toNat)
    case atStart => exact ⟨0, Nat.zero_le _, rfl, by simpa [Hid] using hown1, HB1, hs1⟩
    case round =>
      obtain ⟨k, hk, rfl, HO, HB, hsr⟩ := hrel
      clear hown1
      by_cases hlt : k < len
      · have hlt' : ((k : Nat) : Int) < (len : Int) := by omega
        have hkz : k < Z.length := by rw [← HLE.out]; exact hlt
        have hll : len = (Z.take k ++ List.replicate (len - k) 0).length := by simp; have := HLE.out; omega
        have q1 := (HR.out.below hbl HB.out) k hkz
        have hst := HO.out.stored hll k (Z.getD k 0)
        rw [copy_step Z len k HLE.out hlt] at hst
        have q2 := hst.2
        have q3 : wr.cell? ⟨w.heap.size, k, none⟩ = some (.int .u8 ((Z.take k ++ List.replicate (len - k) 0).getD k 0)) := by
          have := HO.out.row hll k (by omega)
          rwa [Nat.zero_add] at this
        have HS := mkHid hst.1
        obtain ⟨c, hc⟩ : ∃ c, c = Z.getD k 0 := ⟨_, rfl⟩
        obtain ⟨c', hc'⟩ : ∃ c, c = (Z.take k ++ List.replicate (len - k) 0).getD k 0 := ⟨_, rfl⟩
        rw [← hc] at q1 HS
        rw [← hc'] at q3
        clear hst hll hc hc'
        go_wp2_with fail
        go_roundw
        case rel => exact ⟨k + 1, by omega, by go_num, HS, HB.out.setCell (by simp) _, by simpa using hsr⟩
        case measure => simp [intOf]; omega
      · have hge : ¬ ((k : Nat) : Int) < (len : Int) := by omega
        have hk2 : k = len := by omega
        have HF := mkHid (show Row wr w.heap.size 0 Z by
          have h1 := HO.out
          rw [hk2, Nat.sub_self, List.take_of_length_le (by rw [← HLE.out]; omega)] at h1
          simp at h1
          exact h1.row HLE.out)
        clear hk2
        go_wp2_with fail
        go_ret
        exact ⟨w.heap.size, rfl, HF, Nat.le_refl _, hsr, HB.out⟩

set_option maxHeartbeats 400000 in
theorem copy_nil (w : World) : Calls Try.prog 10 #[.slice none 0 0] w fun e w' => e = .returned (.slice none 0 0) ∧ w = w' := by
  have q := eql_nil
  go_enter Try.func10, Try.ntmps10
  go_wp2_with fail
  go_ret
  exact ⟨rfl, rfl⟩

/-- A copy, nil or not: the same bytes. -/
theorem copy_view (a : Option Addr) (len cap : Nat) (Z : List Int) (w : World) (v : View w a len cap Z) (hl : len ≤ 1048576) :
    Calls Try.prog 10 #[.slice a len cap] w fun e w' => ∃ a' cap', e = .returned (.slice a' len cap') ∧ Hid (View w' a' len cap' Z) ∧ Below w.heap.size w w' := by
  cases a with
  | none =>
    obtain ⟨rfl, rfl⟩ := v.hnil rfl
    refine (copy_nil w).mono ?_
    rintro e w' ⟨rfl, rfl⟩
    exact ⟨none, 0, rfl, v, Below.refl _ _⟩
  | some ad =>
    refine (copy_some ad len cap Z w v hl).mono ?_
    rintro e w' ⟨g, rfl, HR, hg1, hg2, hb⟩
    exact ⟨some ⟨g, 0, none⟩, len, rfl, ⟨v.hlen, v.hmax, Nat.le_refl _, fun h => (by cases h), HR.out.news, v.hbyte⟩, hb⟩

/-- BYTES APPENDED to a slice whose head is known. -/
theorem appS (w : World) {ops : Array Oper} {rest : List Oper} {o : Oper} {a : Act} {Q : Exit → Act → World → Prop} (hgd : o.guard = none) (s x : Operand)
    (ho : o.op = .call { callee := .builtin .append, args := #[s, x], argTypes := #[22, 22] })
    (base g k cap : Nat) (bs news : List Int) (hs : a.eval s = .slice (some ⟨g, 0, none⟩) k cap) (hk : k = bs.length) (hown : Own base w (.slice (some ⟨g, 0, none⟩) k cap) bs) (ao : Option Addr) (m c : Nat)
    (hx : a.eval x = .slice ao m c) (hm : m = news.length) (hnone : ao = none → m = 0 ∧ c = 0)
    (hc : ∀ ad, ao = some ad → ∀ j u, (news.map (Value.int .u8))[j]? = some u → w.cell? (ad.add j) = some u) (hsz : k + m ≤ 140737488355328) (hb : base ≤ w.heap.size)
    (h : ∀ g' cap' w', Own base w' (.slice (some ⟨g', 0, none⟩) (k + m) cap') (bs ++ news) → base ≤ g' → g' < w'.heap.size → k + m ≤ cap' → Kp base w w' → wpList Try.prog ops Q rest (a.put o.dst (.slice (some ⟨g', 0, none⟩) (k + m) cap')) w') :
    wpList Try.prog ops Q (o :: rest) a w := by
  refine appG w hgd s x ho base _ bs news hs hown (by simp) ao m c hx hm hnone hc (by omega) hb ?_
  intro v' w' h1 h2 h3
  obtain ⟨g', cap', rfl, h4, h5, h6, h7, h8⟩ := Own.shape' h1 h2
  have e : (bs ++ news).length = k + m := by rw [List.length_append, hk, hm]
  rw [e] at h1 h6 ⊢
  exact h g' cap' w' h1 h4 h5 h6 h3

end Go.Proofs.Qxb6600962a
