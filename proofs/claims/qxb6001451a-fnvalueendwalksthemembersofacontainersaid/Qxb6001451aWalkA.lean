/-
  THE WALK OF LAW A (seat b6001451a): FnValueEndFindsTheEndOfAnEncodedValue.
-/
import Derived.Test.Qxb6001451aParts
namespace Go.Proofs.Qxb6001451a
open Go.RowKit

set_option maxHeartbeats 1000000 in
theorem lawA_long (a0 : Option Addr) (len0 cap0 : Nat) (u0 u1 u2 u3 : Value) (a2 : Option Addr) (len2 cap2 : Nat) (w : World) (h0 : len0 ≤ maxLen) (h2 : len2 ≤ maxLen) (h : 1048576 < len0 ∨ 1048576 < len2) :
    Calls Try.prog 8 #[.slice a0 len0 cap0, .agg #[u0, u1, u2, u3], .slice a2 len2 cap2] w fun e w' => e = .returned (.bool true) ∧ Below w.heap.size w w' := by
  unfold maxLen at h0 h2
  by_cases g : 1048576 < len0
  · have g' : (1048576 : Int) < (len0 : Int) := by omega
    go_enter Try.func8, Try.ntmps8
    go_wp2_with fail
    go_ret
    exact ⟨rfl, (Below.refl _ _).alloc (Nat.le_refl _) _⟩
  · have g' : ¬ (1048576 : Int) < (len0 : Int) := by omega
    have g2 : (1048576 : Int) < (len2 : Int) := by omega
    go_enter Try.func8, Try.ntmps8
    go_wp2_with fail
    go_ret
    exact ⟨rfl, (Below.refl _ _).alloc (Nat.le_refl _) _⟩

set_option maxHeartbeats 1000000 in
theorem lawA_over (a0 : Option Addr) (len0 cap0 : Nat) (n : Nat) (x : Pl.JT n) (u0 u1 u2 u3 : Value) (a2 : Option Addr) (len2 cap2 : Nat) (w : World) (h0 : len0 ≤ 1048576) (h2 : len2 ≤ 1048576)
    (hr : Rep w.heap.size w n x (.agg #[u0, u1, u2, u3])) (hj : Pl.jvB n x (1048576 - len0 - len2) < 0) :
    Calls Try.prog 8 #[.slice a0 len0 cap0, .agg #[u0, u1, u2, u3], .slice a2 len2 cap2] w fun e w' => e = .returned (.bool true) ∧ Below w.heap.size w w' := by
  have g0 : ¬ (1048576 : Int) < (len0 : Int) := by omega
  have g2 : ¬ (1048576 : Int) < (len2 : Int) := by omega
  have J := mkHid (fun o => jvBytes_any n x (.agg #[u0, u1, u2, u3]) w.heap.size (w.alloc o) (1048576 - len0 - len2) (Rep.below ((Below.refl _ _).alloc (Nat.le_refl _) o) n _ _ hr) (by simp) (by omega) (by omega))
  obtain ⟨m, hm⟩ : ∃ m, m = Pl.jvB n x (1048576 - len0 - len2) := ⟨_, rfl⟩
  rw [← hm] at J hj
  clear hm hr
  go_enter Try.func8, Try.ntmps8
  go_wp2_with (go_at_call 25; refine (J.out _).mono ?_; rintro e w1 ⟨rfl, hb1⟩)
  go_ret
  exact ⟨rfl, ((Below.refl _ _).alloc (Nat.le_refl _) _).trans (hb1.mono (by simp))⟩

/-- All four cells of the box, in a world in which nothing below its end has turned. -/
theorem box_four {w w' : World} {kind : Int} {key text : ByteArray} {a : Option Addr} {len cap : Nat} (h : Below (w.alloc (box kind key text a len cap)).heap.size (w.alloc (box kind key text a len cap)) w') :
    w'.cell? ⟨w.heap.size, 0, none⟩ = some (.int .i64 kind) ∧ w'.cell? ⟨w.heap.size, 1, none⟩ = some (.string key) ∧ w'.cell? ⟨w.heap.size, 2, none⟩ = some (.string text) ∧ w'.cell? ⟨w.heap.size, 3, none⟩ = some (.slice a len cap) := by
  have hb := box_cells kind key text a len cap w
  exact ⟨(h.cell (p := ⟨w.heap.size, 0, none⟩) (by simp)).trans hb.1, (h.cell (p := ⟨w.heap.size, 1, none⟩) (by simp)).trans hb.2.1, (h.cell (p := ⟨w.heap.size, 2, none⟩) (by simp)).trans hb.2.2.1, (h.cell (p := ⟨w.heap.size, 3, none⟩) (by simp)).trans hb.2.2.2⟩

theorem Row.below {B : Nat} {w w' : World} {b off : Nat} {zs : List Int} (h : Row w b off zs) (hb : b < B) (hw : Below B w w') : Row w' b off zs := fun i hi => (hw.cell (p := ⟨b, off + i, none⟩) hb).trans (h i hi)
theorem Row.news {w : World} {b : Nat} {zs : List Int} (h : Row w b 0 zs) : ∀ ad, some (⟨b, 0, none⟩ : Addr) = some ad → ∀ j u, (zs.map (Value.int .u8))[j]? = some u → w.cell? (ad.add j) = some u := by
  intro ad had j u hu
  obtain rfl := Option.some.inj had
  have hj : j < zs.length := by simpa using (List.getElem?_eq_some_iff.1 hu).1
  rw [Addr.add_lit]
  have := h j hj
  rw [this, ← hu]
  simp [List.getD, hj]
theorem Own.row {base : Nat} {w : World} {g k cap : Nat} {bs : List Int} (h : Own base w (.slice (some ⟨g, 0, none⟩) k cap) bs) (hk : k = bs.length) : Row w g 0 bs := by
  subst hk
  intro i hi
  have := World.ownsRow.cellAt h i (by simpa using hi)
  rw [Nat.zero_add, this]
  simp [List.getD, hi]

theorem neq_of {a b : Int} (h : a ≠ b) : (a != b) = true := by simpa using h

set_option maxHeartbeats 1000000 in
/-- A scalar that no delimiter follows: the law says nothing. -/
theorem lawA_skip (a0 : Option Addr) (len0 cap0 : Nat) (n : Nat) (x : Pl.JT n) (kind : Int) (key text : ByteArray) (a : Option Addr) (len cap : Nat) (a2 : Option Addr) (len2 cap2 : Nat) (Z2 : List Int) (w : World)
    (h0 : len0 ≤ 1048576) (h2 : len2 ≤ 1048576) (v2 : View w a2 len2 cap2 Z2)
    (hr : Rep w.heap.size w n x (.agg #[.int .i64 kind, .string key, .string text, .slice a len cap])) (hj : 0 ≤ Pl.jvB n x (1048576 - len0 - len2))
    (k1 : kind ≠ 1) (k2 : kind ≠ 2) (k3 : kind ≠ 3) (hl : 0 < len2) (hd : Pl.isDel (Z2.getD 0 0) = false) :
    Calls Try.prog 8 #[.slice a0 len0 cap0, .agg #[.int .i64 kind, .string key, .string text, .slice a len cap], .slice a2 len2 cap2] w fun e w' => e = .returned (.bool true) ∧ Below w.heap.size w w' := by
  have g0 : ¬ (1048576 : Int) < (len0 : Int) := by omega
  have g2 : ¬ (1048576 : Int) < (len2 : Int) := by omega
  have hl' : (0 : Int) < (len2 : Int) := by omega
  have J := mkHid (fun o => jvBytes_any n x (.agg #[.int .i64 kind, .string key, .string text, .slice a len cap]) w.heap.size (w.alloc o) (1048576 - len0 - len2) (Rep.below ((Below.refl _ _).alloc (Nat.le_refl _) o) n _ _ hr) (by simp) (by omega) (by omega))
  obtain ⟨m, hm⟩ : ∃ m, m = Pl.jvB n x (1048576 - len0 - len2) := ⟨_, rfl⟩
  rw [← hm] at J hj
  have hj' : ¬ m < 0 := by omega
  obtain ⟨b, off, rfl, hc⟩ := v2.first hl
  obtain ⟨c, hcz⟩ : ∃ c, c = Z2.getD 0 0 := ⟨_, rfl⟩
  rw [← hcz] at hc hd
  have D := mkHid (isDelim_eq c false hd)
  have HC := mkHid hc
  have n1 := neq_of k1
  have n2 := neq_of k2
  have n3 := neq_of k3
  clear hm hr hj v2 hcz hd hc k1 k2 k3
  go_enter Try.func8, Try.ntmps8
  go_wp2_with (first | (go_at_call 25; refine (J.out _).mono ?_; rintro e w1 ⟨rfl, hb1⟩; have HB1 := mkHid (show Below (w.alloc (box kind key text a len cap)).heap.size (w.alloc (box kind key text a len cap)) w1 from hb1); clear hb1; have q0 := (box_four HB1.out).1; have hc1 := cell_later (((Below.refl _ _).alloc (Nat.le_refl _) _).trans (HB1.out.mono (by simp))) HC.out) | (go_at_call 26; refine (D.out _).mono ?_; rintro e w' ⟨rfl, rfl⟩))
  go_ret
  exact ⟨rfl, ((Below.refl _ _).alloc (Nat.le_refl _) _).trans (HB1.out.mono (by simp))⟩

set_option maxHeartbeats 4000000 in
/-- The law's own way. -/
theorem lawA_main (a0 : Option Addr) (len0 cap0 : Nat) (Z0 : List Int) (n : Nat) (x : Pl.JT n) (kind : Int) (key text : ByteArray) (a : Option Addr) (len cap : Nat) (a2 : Option Addr) (len2 cap2 : Nat) (Z2 : List Int) (w : World)
    (h0 : len0 ≤ 1048576) (h2 : len2 ≤ 1048576) (v0 : View w a0 len0 cap0 Z0) (v2 : View w a2 len2 cap2 Z2)
    (hr : Rep w.heap.size w n x (.agg #[.int .i64 kind, .string key, .string text, .slice a len cap])) (hj : 0 ≤ Pl.jvB n x (1048576 - len0 - len2))
    (hv : Pl.VEnd (Pl.encV n x ++ Z2) (Pl.encV n x).length)
    (hway : kind = 1 ∨ kind = 2 ∨ kind = 3 ∨ (kind ≠ 1 ∧ kind ≠ 2 ∧ kind ≠ 3 ∧ len2 = 0) ∨ (kind ≠ 1 ∧ kind ≠ 2 ∧ kind ≠ 3 ∧ 0 < len2 ∧ Pl.isDel (Z2.getD 0 0) = true)) :
    Calls Try.prog 8 #[.slice a0 len0 cap0, .agg #[.int .i64 kind, .string key, .string text, .slice a len cap], .slice a2 len2 cap2] w fun e w' => e = .returned (.bool true) ∧ Below w.heap.size w w' := by
  have g0 : ¬ (1048576 : Int) < (len0 : Int) := by omega
  have g2 : ¬ (1048576 : Int) < (len2 : Int) := by omega
  have J := mkHid (fun o => jvBytes_any n x (.agg #[.int .i64 kind, .string key, .string text, .slice a len cap]) w.heap.size (w.alloc o) (1048576 - len0 - len2) (Rep.below ((Below.refl _ _).alloc (Nat.le_refl _) o) n _ _ hr) (by simp) (by omega) (by omega))
  have hnd : need n x ≤ 2097156 := by
    have h1 := need_wt n x
    have h3 := Pl.jvB_ge n x _ hj
    omega
  have hel : (Pl.encV n x).length ≤ 2097156 := Nat.le_trans (encV_need n x) hnd
  obtain ⟨m, hm⟩ : ∃ m, m = Pl.jvB n x (1048576 - len0 - len2) := ⟨_, rfl⟩
  rw [← hm] at J hj
  have hj' : ¬ m < 0 := by omega
  have hby : ∀ c ∈ Z0 ++ (Pl.encV n x ++ Z2), 0 ≤ c ∧ c ≤ 255 := by
    intro c hc
    simp only [List.mem_append] at hc
    rcases hc with hc | hc | hc
    · exact v0.hbyte c hc
    · exact encV_bytes n x c hc
    · exact v2.hbyte c hc
  have hdrop : (Z0 ++ (Pl.encV n x ++ Z2)).drop len0 = Pl.encV n x ++ Z2 := by
    rw [v0.hlen, List.drop_left]
  rw [← hdrop] at hv
  have HV := mkHid hv
  have HBY := mkHid hby
  have AV := mkHid (fun w' (hb : Below w.heap.size w w') => appendValue_nil n x (.agg #[.int .i64 kind, .string key, .string text, .slice a len cap]) w.heap.size w' (Rep.below hb n _ _ hr) hb.size (by omega))
  have V0 := mkHid v0
  have V2 := mkHid v2
  obtain ⟨el, hle⟩ : ∃ el, el = (Pl.encV n x).length := ⟨_, rfl⟩
  rw [← hle] at AV hel HV
  have HLE := mkHid hle
  clear hm hr hj v0 v2 hv hby hdrop hle hnd
  have HF := mkHid V2.out.first
  have hw5 : Hid (kind = 1 ∨ kind = 2 ∨ kind = 3 ∨ (kind ≠ 1 ∧ kind ≠ 2 ∧ kind ≠ 3 ∧ len2 = 0) ∨ (kind ≠ 1 ∧ kind ≠ 2 ∧ kind ≠ 3 ∧ 0 < len2 ∧ Pl.isDel (Z2.getD 0 0) = true)) := hway
  have hw6 : kind = 1 ∨ kind = 2 ∨ kind = 3 ∨ ((kind != 1) = true ∧ (kind != 2) = true ∧ (kind != 3) = true ∧ ¬ (0 : Int) < (len2 : Int)) ∨
      ((kind != 1) = true ∧ (kind != 2) = true ∧ (kind != 3) = true ∧ (0 : Int) < (len2 : Int) ∧ ∃ b off c, a2 = some ⟨b, off, none⟩ ∧ Hid (w.cell? ⟨b, off, none⟩ = some (.int .u8 c)) ∧ Hid (∀ w, Calls Try.prog 26 #[.int .u8 c] w fun e w' => e = .returned (.bool true) ∧ w = w')) := by
    rcases hw5.out with h | h | h | ⟨k1, k2, k3, hl⟩ | ⟨k1, k2, k3, hl, hd⟩
    · exact .inl h
    · exact .inr (.inl h)
    · exact .inr (.inr (.inl h))
    · exact .inr (.inr (.inr (.inl ⟨neq_of k1, neq_of k2, neq_of k3, by omega⟩)))
    · obtain ⟨b, off, ha, hc⟩ := HF.out hl
      exact .inr (.inr (.inr (.inr ⟨neq_of k1, neq_of k2, neq_of k3, by omega, b, off, _, ha, hc, fun w => (isDelim_eq _ _ hd w).mono fun e w' ⟨h1, h2⟩ => ⟨h1, h2.symm⟩⟩)))
  clear hway hw5 HF
  rcases hw6 with rfl | rfl | rfl | ⟨k1, k2, k3, hl⟩ | ⟨k1, k2, k3, hl, b, off, c, rfl, HC, D⟩
  all_goals
    go_enter Try.func8, Try.ntmps8
    go_wp2_with (first | (go_at_call 25; refine (J.out _).mono ?_; rintro e w1 ⟨rfl, hb1⟩; have HB1 := mkHid (show Below (w.alloc (box _ key text a len cap)).heap.size (w.alloc (box _ key text a len cap)) w1 from hb1); clear hb1; obtain ⟨q0, q1, q2, q3⟩ := box_four HB1.out; try (have hc1 := cell_later (((Below.refl _ _).alloc (Nat.le_refl _) _).trans (HB1.out.mono (by simp))) HC.out)) | (go_at_call 26; refine (D.out _).mono ?_; rintro e w' ⟨rfl, rfl⟩) | (go_at_call 27; refine (AV.out w1 (((Below.refl _ _).alloc (Nat.le_refl _) _).trans (HB1.out.mono (by simp)))).mono ?_; rintro e w2 ⟨g, cp, rfl, HRW, hg1, hg2, hb2⟩) | (at_make; refine mk0 _ rfl _ _ rfl _ (len0 + el + len2) rfl rfl (by omega) (by omega) ?_))
    intro w3 hown3 hb3 hs3
    have HB2 := mkHid ((((Below.refl _ _).alloc (Nat.le_refl _) _).trans (HB1.out.mono (by simp))).trans (hb2.mono (by have := HB1.out.size; simp at this; omega)))
    have HB3 := mkHid (HB2.out.trans (hb3.mono HB2.out.size))
    have HR3 := mkHid (HRW.out.below hg2 hb3)
    have s2 : w.heap.size ≤ w2.heap.size := HB2.out.size
    have le2 := V2.out.hlen
    have le0 := V0.out.hlen
    have ELE := mkHid (show el = (Pl.encV n x).length from HLE.out)
    have LE0 := mkHid le0
    have LE2 := mkHid le2
    clear le0 le2 hb2 hb3 q0 q1 q2 q3
    go_wp2_with (at_builtin; refine appF _ rfl (.tmp 64) (.tmp 65) rfl w2.heap.size _ _ _ [] Z0 rfl rfl hown3 _ _ _ rfl LE0.out V0.out.hnil (V0.out.below HB3.out).hcell (by omega) ?_)
    intro w4 hown4 hk4
    try simp only [Nat.zero_add, List.nil_append] at hown4
    have hb4 := hk4.below (Nat.le_of_lt hs3)
    have HB4 := mkHid (HB3.out.trans (hb4.mono s2))
    have HR4 := mkHid (HR3.out.below hg2 hb4)
    have s4 : w2.heap.size ≤ w4.heap.size := by have := hk4.size; omega
    clear hk4 hown3 hb4
    go_wp2_with (at_builtin; refine appF _ rfl (.tmp 67) (.tmp 68) rfl w2.heap.size _ _ _ Z0 (Pl.encV n x) rfl LE0.out hown4 _ _ _ rfl ELE.out (by simp) HR4.out.news (by omega) ?_)
    intro w5 hown5 hk5
    have hb5 := hk5.below s4
    have HB5 := mkHid (HB4.out.trans (hb5.mono s2))
    have s5 : w2.heap.size ≤ w5.heap.size := by have := hk5.size; omega
    clear hk5 hown4 hb5
    go_wp2_with (at_builtin; refine appF _ rfl (.tmp 70) (.tmp 71) rfl w2.heap.size _ _ _ (Z0 ++ Pl.encV n x) Z2 rfl (by rw [List.length_append, ← LE0.out, ← ELE.out]) hown5 _ _ _ rfl LE2.out V2.out.hnil (V2.out.below HB5.out).hcell (by omega) ?_)
    intro w6 hown6 hk6
    have HB6 := mkHid (HB5.out.trans ((hk6.below s5).mono s2))
    have ZZ := mkHid (zz_any w2.heap.size 0 (len0 + el + len2) (len0 + el + len2) (Z0 ++ (Pl.encV n x ++ Z2)) len0 el w6 (hown6.row (by simp only [List.length_append]; rw [← LE0.out, ← ELE.out, ← LE2.out]; omega)) (by simp only [List.length_append]; rw [← LE0.out, ← ELE.out, ← LE2.out]; omega) (by unfold maxLen; omega) HBY.out HV.out)
    clear hk6 hown5 hown6
    go_wp2_with (go_at_call 28; refine ZZ.out.mono ?_; rintro e w' ⟨rfl, rfl⟩)
    go_ret
    exact ⟨by simp, HB6.out⟩
end Go.Proofs.Qxb6001451a
