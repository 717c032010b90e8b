/-
  The walk of FnValueEndFindsTheEndOfAWrittenValue (seat b6600962a).
-/
import Derived.Test.Qxb6600962aValue
namespace Go.Proofs.Qxb6600962a
open Go.RowKit

/-- It returned a Boolean. -/
def IsB (e : Ending) : Prop := ∃ b, e = .returned (.bool b)

set_option maxHeartbeats 2000000 in
theorem bytes17 (a0 : Option Addr) (l0 c0 : Nat) (a1 : Option Addr) (l1 c1 : Nat) (p : Int) (a3 : Option Addr) (l3 c3 : Nat) (w : World) (h0 : l0 ≤ maxLen) (h1 : l1 ≤ maxLen) (h3 : l3 ≤ maxLen) :
    Calls Try.prog 17 #[.slice a0 l0 c0, .slice a1 l1 c1, .int .u8 p, .slice a3 l3 c3] w fun e w' => IsB e ∧ w = w' := by
  unfold maxLen at h0 h1 h3
  go_enter Try.func17, Try.ntmps17
  go_wp2
  all_goals go_ret
  all_goals exact ⟨⟨_, rfl⟩, rfl⟩

theorem one_new (w : World) (d : Int) : ∀ ad, some (⟨w.heap.size, 0, none⟩ : Addr) = some ad → ∀ j u, ([d].map (Value.int .u8))[j]? = some u → (w.alloc (.cells #[.int .u8 d] 5)).cell? (ad.add j) = some u := by
  intro ad had
  obtain rfl := Option.some.inj had
  exact cell_one_new _ _ _
theorem byt_one {d : Int} (h : 0 ≤ d ∧ d ≤ 255) : Byt [d] := fun c hc => by simp at hc; subst hc; exact h

/-- The text that the law builds, as the reader sees it. -/
theorem seen {Z0 V R : List Int} {l0 n : Nat} {t : Bool} (h0 : l0 = Z0.length) (hn : Len n V) (hg : Pl.Good V t) (hr : t = true → ∃ c u, R = c :: u ∧ Pl.isDel c = true) : Pl.VEnd ((Z0 ++ (V ++ R)).drop l0) n := by
  rw [h0, List.drop_left, hn.out]
  exact hg R hr

set_option maxHeartbeats 2000000 in
theorem law6_main (a0 : Option Addr) (l0 c0 : Nat) (Z0 : List Int) (a1 : Option Addr) (l1 c1 : Nat) (Z1 : List Int) (p : Int) (a3 : Option Addr) (l3 c3 : Nat) (Z3 : List Int) (w : World)
    (v0 : View w a0 l0 c0 Z0) (v1 : View w a1 l1 c1 Z1) (v3 : View w a3 l3 c3 Z3) (hp0 : 0 ≤ p) (hp1 : p ≤ 255) (h0 : l0 ≤ 262144) (h1 : l1 ≤ 32768) (h3 : l3 ≤ 262144) :
    Calls Try.prog 6 #[.slice a0 l0 c0, .slice a1 l1 c1, .int .u8 p, .slice a3 l3 c3] w fun e w' => e = .returned (.bool true) ∧ Below w.heap.size w w' := by
  have t0 : ¬ (262144 : Int) < (l0 : Int) := by omega
  have t1 : ¬ (32768 : Int) < (l1 : Int) := by omega
  have t3 : ¬ (262144 : Int) < (l3 : Int) := by omega
  have HV0 := mkHid v0
  have HV1 := mkHid v1
  have HV3 := mkHid v3
  clear v0 v1 v3
  go_enter Try.func6, Try.ntmps6
  go_wp2_with fail
  refine (bytes17 a0 l0 c0 a1 l1 c1 p a3 l3 c3 w (by unfold maxLen; omega) (by unfold maxLen; omega) (by unfold maxLen; omega)).mono ?_
  rintro e w' ⟨⟨b, rfl⟩, rfl⟩
  cases b
  · go_wp2_with fail
    go_ret
    exact ⟨rfl, Below.refl _ _⟩
  · go_wp2_with fail
    refine (copy_view a0 l0 c0 Z0 w HV0.out (by omega)).mono ?_
    rintro e w1 ⟨a0', c0', rfl, HU0, hb1⟩
    replace HV1 := mkHid (HV1.out.below hb1)
    replace HV3 := mkHid (HV3.out.below hb1)
    have HB1 := mkHid hb1
    clear HV0 hb1
    go_wp2_with fail
    refine (copy_view a1 l1 c1 Z1 w1 HV1.out (by omega)).mono ?_
    rintro e w2 ⟨a1', c1', rfl, HU1, hb2⟩
    replace HV3 := mkHid (HV3.out.below hb2)
    replace HU0 := mkHid (HU0.out.below hb2)
    replace HB1 := mkHid (HB1.out.trans (hb2.mono HB1.out.size))
    clear HV1 hb2
    go_wp2_with fail
    refine (copy_view a3 l3 c3 Z3 w2 HV3.out (by omega)).mono ?_
    rintro e w3 ⟨a3', c3', rfl, HU3, hb3⟩
    replace HU0 := mkHid (HU0.out.below hb3)
    replace HU1 := mkHid (HU1.out.below hb3)
    replace HB1 := mkHid (HB1.out.trans (hb3.mono HB1.out.size))
    clear HV3 hb3
    go_wp2_with fail
    refine (write_any a1' l1 c1' Z1 w3 HU1.out h1).mono ?_
    rintro e w4 ⟨g, n, C, t, V, rfl, HBn, HLn, HW⟩
    have hn : n ≤ 1048640 := by have := HBn.out; omega
    replace HU0 := mkHid (HU0.out.below HW.out.low)
    replace HU3 := mkHid (HU3.out.below HW.out.low)
    replace HB1 := mkHid (HB1.out.trans (HW.out.low.mono HB1.out.size))
    have HR := mkHid (HW.out.row)
    have hgl := HW.out.glt
    clear HU1 HBn
    cases t
    · go_wp2_with (at_make; refine mk0 _ rfl _ _ rfl _ (l0 + n + 1 + l3) rfl rfl (by go_num) (by omega) ?_)
      intro w5 hown5 hb5 hs5
      have HO := mkHid hown5
      have HB := mkHid hb5
      have HS := mkHid (show w4.heap.size ≤ w5.heap.size by omega)
      clear hown5 hb5 hs5
      go_wp2_with (first | (at_builtin; refine appS w5 rfl _ _ rfl w4.heap.size w4.heap.size 0 _ [] Z0 rfl rfl HO.out a0' l0 c0' rfl HU0.out.hlen HU0.out.hnil (HU0.out.below HB.out).hcell (by omega) HS.out ?_; clear HO; intro g1 cp1 w6 ho hg1 hl1 hc1 hk; simp only [Nat.zero_add, List.nil_append] at ho; clear hg1 hl1; have HO := mkHid ho; clear ho; replace HB := mkHid (HB.out.trans (hk.below HS.out)); replace HS := mkHid (Nat.le_trans HS.out hk.size); clear hk hc1; simp only [Nat.zero_add]) | (at_builtin; refine appS w6 rfl _ _ rfl w4.heap.size g1 l0 cp1 Z0 V rfl HU0.out.hlen HO.out (some ⟨g, 0, none⟩) n C rfl HLn.out (fun h => by cases h) (HR.out.below hgl HB.out).news (by omega) HS.out ?_; clear HO; intro g2 cp2 w7 ho hg2 hl2 hc1 hk; clear hg2 hl2; have HO := mkHid ho; clear ho; replace HB := mkHid (HB.out.trans (hk.below HS.out)); replace HS := mkHid (Nat.le_trans HS.out hk.size); clear hk hc1) | (at_builtin; refine appS w7 rfl _ _ rfl w4.heap.size g2 (l0 + n) cp2 (Z0 ++ V) Z3 rfl (by rw [List.length_append, ← HU0.out.hlen, ← HLn.out]) HO.out a3' l3 c3' rfl HU3.out.hlen HU3.out.hnil (HU3.out.below HB.out).hcell (by omega) HS.out ?_; clear HO; intro g3 cp3 w8 ho hg3 hl3 hc1 hk; have HO := mkHid ho; clear ho; replace HB := mkHid (HB.out.trans (hk.below HS.out)); replace HS := mkHid (Nat.le_trans HS.out hk.size); clear hk hc1))
      refine (zz_any g3 0 cp3 (l0 + n + l3) (Z0 ++ (V ++ Z3)) l0 n w8 (by have := HO.out.row (by rw [List.length_append, List.length_append, ← HU0.out.hlen, ← HU3.out.hlen, ← HLn.out]); rwa [List.append_assoc] at this) (by rw [List.length_append, List.length_append, ← HU0.out.hlen, ← HU3.out.hlen, ← HLn.out, Nat.add_assoc]) (by unfold maxLen; omega) (Byt.app (l := Z0) HU0.out.hbyte (Byt.app (l := V) HW.out.byt HU3.out.hbyte)) (seen HU0.out.hlen HLn HW.out.good (fun h => by cases h))).mono ?_
      rintro e w10 ⟨rfl, hb10⟩
      have HF := mkHid (HB1.out.trans ((HB.out.trans (hb10.mono HS.out)).mono HB1.out.size))
      clear hb10
      go_wp2_with fail
      go_ret
      exact ⟨by simp, HF.out⟩
    · go_wp2_with (at_make; refine mk0 _ rfl _ _ rfl _ (l0 + n + 1 + l3) rfl rfl (by go_num) (by omega) ?_)
      intro w5 hown5 hb5 hs5
      have HO := mkHid hown5
      have HB := mkHid hb5
      have HS := mkHid (show w4.heap.size ≤ w5.heap.size by omega)
      clear hown5 hb5 hs5
      go_wp2_with (first | (go_at_call 19; refine (delim_any p _ hp0 hp1).mono ?_; rintro e w' ⟨d, rfl, HD, HDB, rfl⟩) | (at_builtin; refine appS w5 rfl _ _ rfl w4.heap.size w4.heap.size 0 _ [] Z0 rfl rfl HO.out a0' l0 c0' rfl HU0.out.hlen HU0.out.hnil (HU0.out.below HB.out).hcell (by omega) HS.out ?_; clear HO; intro g1 cp1 w6 ho hg1 hl1 hc1 hk; simp only [Nat.zero_add, List.nil_append] at ho; clear hg1 hl1; have HO := mkHid ho; clear ho; replace HB := mkHid (HB.out.trans (hk.below HS.out)); replace HS := mkHid (Nat.le_trans HS.out hk.size); clear hk hc1; simp only [Nat.zero_add]) | (at_builtin; refine appS w6 rfl _ _ rfl w4.heap.size g1 l0 cp1 Z0 V rfl HU0.out.hlen HO.out (some ⟨g, 0, none⟩) n C rfl HLn.out (fun h => by cases h) (HR.out.below hgl HB.out).news (by omega) HS.out ?_; clear HO; intro g2 cp2 w7 ho hg2 hl2 hc1 hk; clear hg2 hl2; have HO := mkHid ho; clear ho; replace HB := mkHid (HB.out.trans (hk.below HS.out)); replace HS := mkHid (Nat.le_trans HS.out hk.size); clear hk hc1) | (at_builtin; refine appS (w7.alloc (.cells #[.int .u8 d] 5)) rfl _ _ rfl w4.heap.size g2 (l0 + n) cp2 (Z0 ++ V) [d] rfl (by rw [List.length_append, ← HU0.out.hlen, ← HLn.out]) (HO.out.alloc _) (some ⟨w7.heap.size, 0, none⟩) 1 1 rfl rfl (fun h => by cases h) (one_new w7 d) (by omega) (by have := HS.out; simp; omega) ?_; clear HO; intro g3 cp3 w8 ho hg3 hl3 hc1 hk; clear hg3 hl3; replace hk := ((Kp.refl _ _).alloc _).trans hk; have HO := mkHid ho; clear ho; replace HB := mkHid (HB.out.trans (hk.below HS.out)); replace HS := mkHid (Nat.le_trans HS.out hk.size); clear hk hc1) | (at_builtin; refine appS w8 rfl _ _ rfl w4.heap.size g3 (l0 + n + 1) cp3 (Z0 ++ V ++ [d]) Z3 rfl (by rw [List.length_append, List.length_append, ← HU0.out.hlen, ← HLn.out]; rfl) HO.out a3' l3 c3' rfl HU3.out.hlen HU3.out.hnil (HU3.out.below HB.out).hcell (by omega) HS.out ?_; clear HO; intro g4 cp4 w9 ho hg4 hl4 hc1 hk; have HO := mkHid ho; clear ho; replace HB := mkHid (HB.out.trans (hk.below HS.out)); replace HS := mkHid (Nat.le_trans HS.out hk.size); clear hk hc1))
      refine (zz_any g4 0 cp4 (l0 + n + 1 + l3) (Z0 ++ (V ++ (d :: Z3))) l0 n w9 (by have := HO.out.row (by simp only [List.length_append, ← HU0.out.hlen, ← HU3.out.hlen, ← HLn.out]; rfl); simpa using this) (by simp only [List.length_append, List.length_cons, ← HU0.out.hlen, ← HU3.out.hlen, ← HLn.out]; omega) (by unfold maxLen; omega) (Byt.app (l := Z0) HU0.out.hbyte (Byt.app (l := V) HW.out.byt (Byt.app (l := [d]) (byt_one HDB.out) HU3.out.hbyte))) (seen HU0.out.hlen HLn HW.out.good (fun _ => ⟨d, Z3, rfl, HD.out⟩))).mono ?_
      rintro e w10 ⟨rfl, hb10⟩
      have HF := mkHid (HB1.out.trans ((HB.out.trans (hb10.mono HS.out)).mono HB1.out.size))
      clear hb10
      go_wp2_with fail
      go_ret
      exact ⟨by simp, HF.out⟩

set_option maxHeartbeats 2000000 in
theorem law6_off (a0 : Option Addr) (l0 c0 : Nat) (a1 : Option Addr) (l1 c1 : Nat) (p : Int) (a3 : Option Addr) (l3 c3 : Nat) (w : World) (m0 : l0 ≤ maxLen) (m1 : l1 ≤ maxLen) (m3 : l3 ≤ maxLen)
    (h : 262144 < l0 ∨ (l0 ≤ 262144 ∧ 32768 < l1) ∨ (l0 ≤ 262144 ∧ l1 ≤ 32768 ∧ 262144 < l3)) :
    Calls Try.prog 6 #[.slice a0 l0 c0, .slice a1 l1 c1, .int .u8 p, .slice a3 l3 c3] w fun e w' => e = .returned (.bool true) ∧ Below w.heap.size w w' := by
  have B17 := mkHid (bytes17 a0 l0 c0 a1 l1 c1 p a3 l3 c3 w m0 m1 m3)
  unfold maxLen at m0 m1 m3
  rcases h with h | ⟨h0, h1⟩ | ⟨h0, h1, h3⟩
  · have t0 : (262144 : Int) < (l0 : Int) := by omega
    go_enter Try.func6, Try.ntmps6
    go_wp2_with fail
    refine B17.out.mono ?_
    rintro e w' ⟨⟨b, rfl⟩, rfl⟩
    cases b
    all_goals
      go_wp2_with fail
      go_ret
      exact ⟨rfl, Below.refl _ _⟩
  · have t0 : ¬ (262144 : Int) < (l0 : Int) := by omega
    have t1 : (32768 : Int) < (l1 : Int) := by omega
    go_enter Try.func6, Try.ntmps6
    go_wp2_with fail
    refine B17.out.mono ?_
    rintro e w' ⟨⟨b, rfl⟩, rfl⟩
    cases b
    all_goals
      go_wp2_with fail
      go_ret
      exact ⟨rfl, Below.refl _ _⟩
  · have t0 : ¬ (262144 : Int) < (l0 : Int) := by omega
    have t1 : ¬ (32768 : Int) < (l1 : Int) := by omega
    have t3 : (262144 : Int) < (l3 : Int) := by omega
    go_enter Try.func6, Try.ntmps6
    go_wp2_with fail
    refine B17.out.mono ?_
    rintro e w' ⟨⟨b, rfl⟩, rfl⟩
    cases b
    all_goals
      go_wp2_with fail
      go_ret
      exact ⟨rfl, Below.refl _ _⟩

theorem law6_any (a0 : Option Addr) (l0 c0 : Nat) (Z0 : List Int) (a1 : Option Addr) (l1 c1 : Nat) (Z1 : List Int) (p : Int) (a3 : Option Addr) (l3 c3 : Nat) (Z3 : List Int) (w : World)
    (v0 : View w a0 l0 c0 Z0) (v1 : View w a1 l1 c1 Z1) (v3 : View w a3 l3 c3 Z3) (hp : 0 ≤ p ∧ p ≤ 255) :
    Calls Try.prog 6 #[.slice a0 l0 c0, .slice a1 l1 c1, .int .u8 p, .slice a3 l3 c3] w fun e w' => e = .returned (.bool true) ∧ Below w.heap.size w w' := by
  by_cases h : 262144 < l0 ∨ (l0 ≤ 262144 ∧ 32768 < l1) ∨ (l0 ≤ 262144 ∧ l1 ≤ 32768 ∧ 262144 < l3)
  · exact law6_off a0 l0 c0 a1 l1 c1 p a3 l3 c3 w v0.hmax v1.hmax v3.hmax h
  · exact law6_main a0 l0 c0 Z0 a1 l1 c1 Z1 p a3 l3 c3 Z3 w v0 v1 v3 hp.1 hp.2 (by omega) (by omega) (by omega)
end Go.Proofs.Qxb6600962a
