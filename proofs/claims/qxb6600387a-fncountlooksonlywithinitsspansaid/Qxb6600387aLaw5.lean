/-
  The walk of FnCountLooksOnlyWithinItsSpan (seat b6600387a).
-/
import Derived.Test.Qxb6600387aLaw3
namespace Go.Proofs.Qxb6600387a
open Go.RowKit

/-- A copy, nil or not: the same bytes. -/
theorem copy_view (a : Option Addr) (len cap : Nat) (Z : List Int) (w : World) (v : View w a len cap Z) (hl : len ≤ 1048576) :
    Calls Try.prog 9 #[.slice a len cap] w fun e w' => ∃ a' cap', e = .returned (.slice a' len cap') ∧ Hid (View w' a' len cap' Z) ∧ Below w.heap.size w w' := by
  cases a with
  | none =>
    obtain ⟨rfl, rfl⟩ := v.hnil rfl
    refine (copy_nil w).mono ?_
    rintro e w' ⟨rfl, rfl⟩
    exact ⟨none, 0, rfl, v, Below.refl _ _⟩
  | some ad =>
    refine (copy_some ad len cap Z w v hl).mono ?_
    rintro e w' ⟨g, rfl, HR, hg1, hg2, hb⟩
    exact ⟨some ⟨g, 0, none⟩, len, rfl, ⟨v.hlen, v.hmax, Nat.le_refl _, fun h => (by cases h), HR.out.news, v.hbyte⟩, hb⟩

/-- BYTES APPENDED to a slice whose head is known. -/
theorem appS (w : World) {ops : Array Oper} {rest : List Oper} {o : Oper} {a : Act} {Q : Exit → Act → World → Prop} (hgd : o.guard = none) (s x : Operand)
    (ho : o.op = .call { callee := .builtin .append, args := #[s, x], argTypes := #[22, 22] })
    (base g k cap : Nat) (bs news : List Int) (hs : a.eval s = .slice (some ⟨g, 0, none⟩) k cap) (hk : k = bs.length) (hown : Own base w (.slice (some ⟨g, 0, none⟩) k cap) bs) (ao : Option Addr) (m c : Nat)
    (hx : a.eval x = .slice ao m c) (hm : m = news.length) (hnone : ao = none → m = 0 ∧ c = 0)
    (hc : ∀ ad, ao = some ad → ∀ j u, (news.map (Value.int .u8))[j]? = some u → w.cell? (ad.add j) = some u) (hsz : k + m ≤ 140737488355328) (hb : base ≤ w.heap.size)
    (h : ∀ g' cap' w', Own base w' (.slice (some ⟨g', 0, none⟩) (k + m) cap') (bs ++ news) → base ≤ g' → g' < w'.heap.size → k + m ≤ cap' → Kp base w w' → wpList Try.prog ops Q rest (a.put o.dst (.slice (some ⟨g', 0, none⟩) (k + m) cap')) w') :
    wpList Try.prog ops Q (o :: rest) a w := by
  refine appG w hgd s x ho base _ bs news hs hown (by simp) ao m c hx hm hnone hc (by omega) hb ?_
  intro v' w' h1 h2 h3
  obtain ⟨g', cap', rfl, h4, h5, h6, h7, h8⟩ := Own.shape' h1 h2
  have e : (bs ++ news).length = k + m := by rw [List.length_append, hk, hm]
  rw [e] at h1 h6 ⊢
  exact h g' cap' w' h1 h4 h5 h6 h3

set_option maxHeartbeats 400000 in
theorem bytes15_yes (a0 : Option Addr) (l0 c0 : Nat) (p : Int) (a2 : Option Addr) (l2 c2 : Nat) (a3 : Option Addr) (l3 c3 : Nat) (w : World) (h : l0 + l2 + l3 ≤ 1048576) :
    Calls Try.prog 15 #[.slice a0 l0 c0, .int .i64 p, .slice a2 l2 c2, .slice a3 l3 c3] w fun e w' => e = .returned (.bool true) ∧ w = w' := by
  go_enter Try.func15, Try.ntmps15
  go_wp2
  go_ret
  exact ⟨rfl, rfl⟩

set_option maxHeartbeats 400000 in
theorem bytes15_no (a0 : Option Addr) (l0 c0 : Nat) (p : Int) (a2 : Option Addr) (l2 c2 : Nat) (a3 : Option Addr) (l3 c3 : Nat) (w : World) (h0 : l0 ≤ maxLen) (h2 : l2 ≤ maxLen) (h3 : l3 ≤ maxLen) (h : ¬ l0 + l2 + l3 ≤ 1048576) :
    Calls Try.prog 15 #[.slice a0 l0 c0, .int .i64 p, .slice a2 l2 c2, .slice a3 l3 c3] w fun e w' => e = .returned (.bool false) ∧ w = w' := by
  unfold maxLen at h0 h2 h3
  by_cases g1 : (1048576 : Int) < (l0 : Int)
  · go_enter Try.func15, Try.ntmps15
    go_wp2
    go_ret
    exact ⟨rfl, rfl⟩
  by_cases g2 : (1048576 : Int) < (l2 : Int)
  · go_enter Try.func15, Try.ntmps15
    go_wp2
    go_ret
    exact ⟨rfl, rfl⟩
  by_cases g3 : (1048576 : Int) < (l0 : Int) + (l2 : Int)
  · go_enter Try.func15, Try.ntmps15
    go_wp2
    go_ret
    exact ⟨rfl, rfl⟩
  by_cases g4 : (1048576 : Int) < (l3 : Int)
  · go_enter Try.func15, Try.ntmps15
    go_wp2
    go_ret
    exact ⟨rfl, rfl⟩
  have g5 : (1048576 : Int) < (l0 : Int) + (l2 : Int) + (l3 : Int) := by omega
  go_enter Try.func15, Try.ntmps15
  go_wp2
  go_ret
  exact ⟨rfl, rfl⟩

set_option maxHeartbeats 400000 in
theorem law5_long (a0 : Option Addr) (l0 c0 : Nat) (p : Int) (a2 : Option Addr) (l2 c2 : Nat) (a3 : Option Addr) (l3 c3 : Nat) (w : World) (h0 : l0 ≤ maxLen) (h2 : l2 ≤ maxLen) (h3 : l3 ≤ maxLen) (h : ¬ l0 + l2 + l3 ≤ 1048576) :
    Calls Try.prog 5 #[.slice a0 l0 c0, .int .i64 p, .slice a2 l2 c2, .slice a3 l3 c3] w fun e w' => e = .returned (.bool true) ∧ Below w.heap.size w w' := by
  have B := mkHid (fun w => bytes15_no a0 l0 c0 p a2 l2 c2 a3 l3 c3 w h0 h2 h3 h)
  go_enter Try.func5, Try.ntmps5
  go_wp2_with (go_at_call 15; refine (B.out _).mono ?_; rintro e w' ⟨rfl, rfl⟩)
  go_ret
  exact ⟨rfl, Below.refl _ _⟩

set_option maxHeartbeats 400000 in
theorem law5_off (a0 : Option Addr) (l0 c0 : Nat) (p : Int) (a2 : Option Addr) (l2 c2 : Nat) (a3 : Option Addr) (l3 c3 : Nat) (w : World) (h : l0 + l2 + l3 ≤ 1048576) (hp : p < 0 ∨ (l0 : Int) < p) :
    Calls Try.prog 5 #[.slice a0 l0 c0, .int .i64 p, .slice a2 l2 c2, .slice a3 l3 c3] w fun e w' => e = .returned (.bool true) ∧ Below w.heap.size w w' := by
  have B := mkHid (fun w => bytes15_yes a0 l0 c0 p a2 l2 c2 a3 l3 c3 w h)
  by_cases g1 : p < 0
  · go_enter Try.func5, Try.ntmps5
    go_wp2_with (go_at_call 15; refine (B.out _).mono ?_; rintro e w' ⟨rfl, rfl⟩)
    go_ret
    exact ⟨rfl, Below.refl _ _⟩
  · have g2 : (l0 : Int) < p := by omega
    go_enter Try.func5, Try.ntmps5
    go_wp2_with (go_at_call 15; refine (B.out _).mono ?_; rintro e w' ⟨rfl, rfl⟩)
    go_ret
    exact ⟨rfl, Below.refl _ _⟩

set_option maxHeartbeats 1000000 in
theorem law5_nil (a2 : Option Addr) (l2 c2 : Nat) (Z2 : List Int) (a3 : Option Addr) (l3 c3 : Nat) (Z3 : List Int) (w : World) (v2 : View w a2 l2 c2 Z2) (v3 : View w a3 l3 c3 Z3) (h : 0 + l2 + l3 ≤ 1048576) :
    Calls Try.prog 5 #[.slice none 0 0, .int .i64 0, .slice a2 l2 c2, .slice a3 l3 c3] w fun e w' => e = .returned (.bool true) ∧ Below w.heap.size w w' := by
  have B := mkHid (fun w => bytes15_yes none 0 0 0 a2 l2 c2 a3 l3 c3 w h)
  have V2 := mkHid v2
  have V3 := mkHid v3
  clear v2 v3
  go_enter Try.func5, Try.ntmps5
  go_wp2_with (go_at_call 15; refine (B.out _).mono ?_; rintro e w' ⟨rfl, rfl⟩)
  refine (copy_nil _).mono ?_
  rintro e w' ⟨rfl, rfl⟩
  go_wp2_with fail
  refine (copy_view a2 l2 c2 Z2 _ V2.out (by omega)).mono ?_
  rintro e w1 ⟨a2', c2', rfl, V2', hb1⟩
  go_wp2_with fail
  refine (copy_view a3 l3 c3 Z3 _ (V3.out.below hb1) (by omega)).mono ?_
  rintro e w2 ⟨a3', c3', rfl, V3', hb2⟩
  go_wp2_with fail
  refine (zzcount_bare _).mono ?_
  rintro e w3 ⟨rfl, hb3⟩
  go_wp2_with fail
  go_ret
  exact ⟨rfl, (hb1.trans (hb2.mono hb1.size)).trans (hb3.mono (Nat.le_trans hb1.size hb2.size))⟩

set_option maxHeartbeats 4000000 in
set_option maxRecDepth 100000 in
theorem law5_main (ad : Addr) (l0 c0 pos : Nat) (Z0 : List Int) (a2 : Option Addr) (l2 c2 : Nat) (Z2 : List Int) (a3 : Option Addr) (l3 c3 : Nat) (Z3 : List Int) (w : World) (v0 : View w (some ad) l0 c0 Z0) (v2 : View w a2 l2 c2 Z2) (v3 : View w a3 l3 c3 Z3) (h : l0 + l2 + l3 ≤ 1048576) (hp : pos ≤ l0) :
    Calls Try.prog 5 #[.slice (some ad) l0 c0, .int .i64 pos, .slice a2 l2 c2, .slice a3 l3 c3] w fun e w' => e = .returned (.bool true) ∧ Below w.heap.size w w' := by
  have B := mkHid (fun w => bytes15_yes (some ad) l0 c0 pos a2 l2 c2 a3 l3 c3 w h)
  have hp1 : ¬ (pos : Int) < 0 := by omega
  have hp2 : ¬ (l0 : Int) < (pos : Int) := by omega
  have t0 : ¬ (1048576 : Int) < (l0 : Int) := by omega
  have t2 : ¬ (1048576 : Int) < (l2 : Int) := by omega
  have t3 : ¬ (1048576 : Int) < (l3 : Int) := by omega
  have t4 : ¬ (1048576 : Int) < (l0 : Int) + (l2 : Int) + (l3 : Int) := by omega
  have V0 := mkHid v0
  have V2 := mkHid v2
  have V3 := mkHid v3
  have LE0 := mkHid v0.hlen
  have LE2 := mkHid v2.hlen
  have LE3 := mkHid v3.hlen
  obtain ⟨N, S, hNS⟩ : ∃ N S, Pl.cnt 0 0 0 false (Z0.drop pos) = (N, S) := ⟨_, _, rfl⟩
  have hS : S ≤ l0 - pos := by
    have h1 := (Pl.cnt_le (Z0.drop pos) 0 0 0 false).1
    rw [hNS, List.length_drop, ← v0.hlen] at h1
    exact h1
  have hN : N ≤ S + 1 := by
    have h1 := Pl.cnt_few (Z0.drop pos) 0 0 0 false
    rw [hNS] at h1
    simpa using h1
  have HNS := mkHid hNS
  clear v0 v2 v3 hNS
  go_enter Try.func5, Try.ntmps5
  go_wp2_with (go_at_call 15; refine (B.out _).mono ?_; rintro e w' ⟨rfl, rfl⟩)
  refine (copy_some ad l0 c0 Z0 _ V0.out (by omega)).mono ?_
  rintro e w1 ⟨g, rfl, HR1, hg1, hg2, hb1⟩
  go_wp2_with fail
  refine (copy_view a2 l2 c2 Z2 _ (V2.out.below hb1) (by omega)).mono ?_
  rintro e w2 ⟨a2', c2', rfl, V2', hb2⟩
  go_wp2_with fail
  have HB2 := mkHid (hb1.trans (hb2.mono hb1.size))
  refine (copy_view a3 l3 c3 Z3 _ (V3.out.below HB2.out) (by omega)).mono ?_
  rintro e w3 ⟨a3', c3', rfl, V3', hb3⟩
  have HB3 := mkHid (HB2.out.trans (hb3.mono HB2.out.size))
  have HR3 := mkHid ((HR1.out.below hg2 hb2).below (Nat.lt_of_lt_of_le hg2 hb2.size) hb3)
  have V2b := mkHid (V2'.out.below hb3)
  have hg3 : g < w3.heap.size := Nat.lt_of_lt_of_le hg2 (Nat.le_trans hb2.size hb3.size)
  clear hb1 hb2 hb3 hg1 hg2 V2'
  go_wp2_with fail
  refine (zzcount_any g 0 l0 l0 Z0 pos _ rfl N S _ HR3.out (.inr hg3) LE0.out (Nat.le_refl _) (by omega) V0.out.hbyte hp HNS.out).mono ?_
  rintro e w4 ⟨rfl, hb4⟩
  have HB4 := mkHid (HB3.out.trans (hb4.mono HB3.out.size))
  have HR4 := mkHid (HR3.out.below hg3 hb4)
  have V2c := mkHid (V2b.out.below hb4)
  have V3c := mkHid (V3'.out.below hb4)
  have hg4 : g < w4.heap.size := Nat.lt_of_lt_of_le hg3 hb4.size
  clear hb4 V2b V3' hg3
  by_cases hfull : S = l0 - pos
  · have hf' : ((S : Int) == (l0 : Int) - (pos : Int)) = true := by rw [beq_iff_eq]; omega
    clear hfull
    go_wp2_with fail
    go_ret
    exact ⟨rfl, HB4.out⟩
  · have hf' : ((S : Int) == (l0 : Int) - (pos : Int)) = false := by rw [beq_eq_false_iff_ne]; omega
    have hcl := Pl.cnt_closed (Z0.drop pos) 0 0 0 false (by rw [HNS.out, List.length_drop, ← LE0.out]; show S < l0 - pos; omega)
    unfold Pl.Closed at hcl
    rw [HNS.out] at hcl
    simp only [drop_get] at hcl
    obtain ⟨hS1, hlast, hall⟩ := hcl
    have HALL := mkHid hall
    clear hall hfull
    rw [show pos + (S - 1) = pos + S - 1 by omega] at hlast
    obtain ⟨x, hx⟩ : ∃ x, x = Z0.getD (pos + S - 1) 0 := ⟨_, rfl⟩
    rw [← hx] at hlast
    have hcell := row_at HR4.out (k := pos + S - 1) (by have := LE0.out; omega) hx
    rw [Nat.zero_add] at hcell
    clear hx
    have hx2 : (x != 93) = false ∨ ((x != 93) = true ∧ (x != 125) = false) := by
      rcases hlast with h | h
      · exact .inl (by simp [h])
      · exact .inr ⟨by simp [h], by simp [h]⟩
    clear hlast
    have hS2 : ¬ (S : Int) < 1 := by omega
    have HSG := mkHid (show Row w4 g pos ((Z0.drop pos).take S) by
      intro t ht
      have ht2 : t < S := by simp at ht; omega
      have := HR4.out (pos + t) (by have := LE0.out; omega)
      rw [Nat.zero_add] at this
      rw [this]
      simp [List.getD, ht2])
    have HLS := mkHid (show S = ((Z0.drop pos).take S).length by simp; have := LE0.out; omega)
    have HBY := mkHid (show ∀ c ∈ Z2 ++ ((Z0.drop pos).take S ++ Z3), 0 ≤ c ∧ c ≤ 255 by
      intro c hc
      simp only [List.mem_append] at hc
      rcases hc with hc | hc | hc
      · exact V2.out.hbyte c hc
      · exact V0.out.hbyte c (List.mem_of_mem_drop (List.mem_of_mem_take hc))
      · exact V3.out.hbyte c hc)
    have hpl : (pos : Int) < (l0 : Int) := by omega
    have hne : ¬ l0 = pos := by omega
    rcases hx2 with u1 | ⟨u1, u2⟩
    all_goals
      go_wp2_with (at_make; refine mk0 _ rfl _ _ rfl _ 8 rfl rfl rfl (by omega) ?_)
      intro w5 hown5 hb5 hs5
      have HB5 := mkHid (HB4.out.trans (hb5.mono HB4.out.size))
      have V2d := mkHid (V2c.out.below hb5)
      have s5 : w4.heap.size ≤ w5.heap.size := Nat.le_of_lt hs5
      have HSG5 := mkHid (HSG.out.below hg4 hb5)
      have V3d := mkHid (V3c.out.below hb5)
      clear hb5
      go_wp2_with (at_builtin; refine appS _ rfl (.tmp 105) (.tmp 106) rfl w4.heap.size _ _ _ [] Z2 rfl rfl hown5 _ _ _ rfl LE2.out V2d.out.hnil V2d.out.hcell (by omega) s5 ?_)
      intro g6 c6 w6 hown6 hg61 hg62 hc6 hk6
      try simp only [Nat.zero_add, List.nil_append] at hown6
      have hb6 := hk6.below s5
      have HB6 := mkHid (HB5.out.trans (hb6.mono HB4.out.size))
      have HSG6 := mkHid (HSG5.out.below hg4 hb6)
      have V3e := mkHid (show View w6 a3' l3 c3' Z3 from ⟨V3c.out.hlen, V3c.out.hmax, V3c.out.hcap, V3c.out.hnil, fun ad ha j u hu => by
        have h1 := V3c.out.hcell ad ha j u hu
        have h2 := World.block_lt_of_cell? w4 _ h1
        have h3 := V3d.out.hcell ad ha j u hu
        exact (hb6.cell (p := ad.add j) h2).trans h3, V3c.out.hbyte⟩)
      have s6 : w4.heap.size ≤ w6.heap.size := by have := hk6.size; omega
      clear hk6 hown5
      go_wp2_with (at_builtin; refine appS _ rfl (.tmp 108) (.tmp 114) rfl w4.heap.size _ _ _ Z2 ((Z0.drop pos).take S) rfl LE2.out hown6 _ _ _ rfl (by first | exact HLS.out | (have := HLS.out; omega)) (by simp) HSG6.out.news (by omega) s6 ?_)
      intro g7 c7 w7 hown7 hg71 hg72 hc7 hk7
      have hb7 := hk7.below s6
      have HB7 := mkHid (HB6.out.trans (hb7.mono HB4.out.size))
      have V3f := mkHid (show View w7 a3' l3 c3' Z3 from ⟨V3c.out.hlen, V3c.out.hmax, V3c.out.hcap, V3c.out.hnil, fun ad ha j u hu => by
        have h1 := V3c.out.hcell ad ha j u hu
        have h2 := World.block_lt_of_cell? w4 _ h1
        exact (hb7.cell (p := ad.add j) h2).trans (V3e.out.hcell ad ha j u hu), V3c.out.hbyte⟩)
      have s7 : w4.heap.size ≤ w7.heap.size := by have := hk7.size; omega
      clear hk7 hown6
      go_wp2_with (at_builtin; refine appS _ rfl (.tmp 116) (.tmp 117) rfl w4.heap.size _ _ _ (Z2 ++ (Z0.drop pos).take S) Z3 rfl (by rw [List.length_append, ← LE2.out, ← HLS.out]) hown7 _ _ _ rfl LE3.out V3f.out.hnil V3f.out.hcell (by omega) s7 ?_)
      intro g8 c8 w8 hown8 hg81 hg82 hc8 hk8
      have hb8 := hk8.below s7
      have HB8 := mkHid (HB7.out.trans (hb8.mono HB4.out.size))
      have HL8 := mkHid (show l2 + S + l3 = (Z2 ++ ((Z0.drop pos).take S ++ Z3)).length by
        rw [List.length_append, List.length_append, ← LE2.out, ← HLS.out, ← LE3.out]; omega)
      have HR8 := mkHid (show Row w8 g8 0 (Z2 ++ ((Z0.drop pos).take S ++ Z3)) by
        exact hown8.row HL8.out)
      have HN8 := mkHid (show Pl.cnt 0 0 0 false ((Z2 ++ ((Z0.drop pos).take S ++ Z3)).drop l2) = (N, S) by
        rw [LE2.out, List.drop_left]; exact HALL.out Z3)
      clear hk8 hown7 hown8
      go_wp2_with (go_at_call 10; refine (zzcount_any g8 0 _ _ _ l2 _ (by simp) N S w8 HR8.out (.inr hg82) HL8.out (by omega) (by omega) HBY.out (by omega) HN8.out).mono ?_; rintro e w9 ⟨rfl, hb9⟩)
      go_ret
      exact ⟨by simp, HB8.out.trans (hb9.mono HB8.out.size)⟩

theorem law5_any (a0 : Option Addr) (l0 c0 : Nat) (Z0 : List Int) (p : Int) (a2 : Option Addr) (l2 c2 : Nat) (Z2 : List Int) (a3 : Option Addr) (l3 c3 : Nat) (Z3 : List Int) (w : World) (v0 : View w a0 l0 c0 Z0) (v2 : View w a2 l2 c2 Z2) (v3 : View w a3 l3 c3 Z3) :
    Calls Try.prog 5 #[.slice a0 l0 c0, .int .i64 p, .slice a2 l2 c2, .slice a3 l3 c3] w fun e w' => e = .returned (.bool true) ∧ Below w.heap.size w w' := by
  by_cases h : l0 + l2 + l3 ≤ 1048576
  · by_cases hp : p < 0 ∨ (l0 : Int) < p
    · exact law5_off a0 l0 c0 p a2 l2 c2 a3 l3 c3 w h hp
    obtain ⟨pos, rfl⟩ : ∃ pos : Nat, p = (pos : Int) := ⟨p.toNat, by omega⟩
    cases a0 with
    | none =>
      obtain ⟨rfl, rfl⟩ := v0.hnil rfl
      obtain rfl : pos = 0 := by omega
      exact law5_nil a2 l2 c2 Z2 a3 l3 c3 Z3 w v2 v3 h
    | some ad => exact law5_main ad l0 c0 pos Z0 a2 l2 c2 Z2 a3 l3 c3 Z3 w v0 v2 v3 h (by omega)
  · exact law5_long a0 l0 c0 p a2 l2 c2 a3 l3 c3 w v0.hmax v2.hmax v3.hmax h
end Go.Proofs.Qxb6600387a
