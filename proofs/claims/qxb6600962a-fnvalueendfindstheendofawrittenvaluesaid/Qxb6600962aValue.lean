/-
  THE WRITER (seat b6600962a, law 6): writeValue.
-/
import Derived.Test.Qxb6600962aPiece
import Derived.Deep.CutRange
namespace Go.Proofs.Qxb6600962a
open Go.RowKit

/-- All are bytes. -/
def Byt (l : List Int) : Prop := ∀ c ∈ l, 0 ≤ c ∧ c ≤ 255
theorem Byt.app {l p : List Int} (h : Byt l) (h' : Byt p) : Byt (l ++ p) := fun c hc => (List.mem_append.1 hc).elim (h c) (h' c)

theorem len_snoc {α : Type} {j : Nat} {l : List α} (h : Len (j + 1) l) : ∃ l' x, l = l' ++ [x] ∧ Len j l' := by
  have hl := h.out
  have hne : l ≠ [] := by intro e; subst e; simp at hl
  refine ⟨l.dropLast, l.getLast hne, (List.dropLast_concat_getLast hne).symm, ?_⟩
  show j = _
  simp; omega

theorem Bd.step {a b a' n : Nat} (h : Bd a b) (e : Bd a' (a + n)) : Bd a' (b + n) := by have := h.out; have := e.out; show a' ≤ _; omega
theorem Len.snoc {α : Type} {k : Nat} {l : List α} (h : Len k l) (x : α) : Len (k + 1) (l ++ [x]) := by have := h.out; show _ = _; simp; omega
theorem byt_lit (l : List Int) (h : l.all (fun c => decide (0 ≤ c) && decide (c ≤ 255)) = true) : Byt l := fun c hc => by have := List.all_eq_true.1 h c hc; simpa using this
theorem getD_last {α : Type} {j : Nat} {l : List α} (h : Len j l) (x z : α) : (l ++ [x]).getD j z = x := by
  have := h.out; subst this; simp [List.getD]
theorem set_last {α : Type} {j : Nat} {l : List α} (h : Len j l) (x z : α) : (l ++ [x]).set j z = l ++ [z] := by
  have := h.out; subst this; simp
/-- The top of the two stacks. -/
theorem St.top {base : Nat} {w0 w : World} {g0 g1 g2 C0 C1 : Nat} {o ks : List Int} {fs : List Bool} {x : Int} {y : Bool} {j : Nat} (h : St base w0 w g0 g1 g2 C0 C1 o (ks ++ [x]) (fs ++ [y])) (hk : Len j ks) (hf : Len j fs) :
    w.cell? ⟨g1, j, none⟩ = some (.int .u8 x) ∧ w.cell? ⟨g2, j, none⟩ = some (.bool y) ∧ w.frozen? ⟨g2, j, none⟩ = false := by
  have e1 := hk.out
  have e2 := hf.out
  refine ⟨?_, ?_, h.ffroz j⟩
  · rw [h.kcell j (by simp; omega), getD_last hk]
  · rw [h.fcell j (by simp; omega), getD_last hf]
theorem St.settop {base : Nat} {w0 w : World} {g0 g1 g2 C0 C1 : Nat} {o ks : List Int} {fs : List Bool} {y : Bool} {j : Nat} (h : St base w0 w g0 g1 g2 C0 C1 o ks (fs ++ [y])) (hf : Len j fs) :
    St base w0 (w.setCell ⟨g2, j, none⟩ (.bool true)) g0 g1 g2 C0 C1 o ks (fs ++ [true]) := by
  have := h.set j true
  rwa [set_last hf] at this
/-- How long a slice is. -/
def lenOf : Value → Nat
  | .slice _ n _ => n
  | _ => 0
theorem byt_close {d : Int} (h : d = 125 ∨ d = 93) : Byt [d] := fun c hc => by simp at hc; omega
theorem Len.nil0 {α : Type} {l : List α} (h : Len 0 l) : l = [] := List.eq_nil_of_length_eq_zero h.out.symm

/-- What writeValue leaves: a value V that the reader ends rightly. -/
structure Wrote (w w' : World) (g : Nat) (V : List Int) (t : Bool) : Prop where
  row : Row w' g 0 V
  byt : ∀ c ∈ V, 0 ≤ c ∧ c ≤ 255
  good : Pl.Good V t
  glt : g < w'.heap.size
  low : Below w.heap.size w w'

theorem wrote_of {w0 w : World} {g0 g1 g2 C0 C1 : Nat} {o ks : List Int} {fs : List Bool} (h : St w0.heap.size w0 w g0 g1 g2 C0 C1 o ks fs) (hb : Byt o) {t : Bool} (hg : Pl.Good o t) : Wrote w0 w g0 o t :=
  ⟨Own.row (bs := o) (base := w0.heap.size) h.out rfl, hb, hg, h.b0.2, h.low⟩

def WroteE (w : World) (len : Nat) (e : Ending) (w' : World) : Prop := ∃ g n C t V, e = .returned (.tuple #[.slice (some ⟨g, 0, none⟩) n C, .bool t]) ∧ Bd n (32 * len + 64) ∧ Len n V ∧ Hid (Wrote w w' g V t)
theorem wroteE_mk {w w' : World} {len : Nat} {e : Ending} {g n C : Nat} {t : Bool} {V : List Int} (he : e = .returned (.tuple #[.slice (some ⟨g, 0, none⟩) n C, .bool t])) (hb : Bd n (32 * len + 64)) (hl : Len n V) (hw : Wrote w w' g V t) : WroteE w len e w' := ⟨g, n, C, t, V, he, hb, hl, hw⟩

set_option maxRecDepth 100000 in
set_option maxHeartbeats 4000000 in
theorem write_any (a : Option Addr) (len cap : Nat) (Z : List Int) (w : World) (v : View w a len cap Z) (hl : len ≤ 32768) :
    Calls Try.prog 18 #[.slice a len cap] w fun e w' => WroteE w len e w' := by
  have HV := mkHid v
  have HLE := mkHid v.hlen
  clear v
  go_enter Try.func18, Try.ntmps18
  go_wp2_with (at_make; refine mkA _ rfl _ _ rfl w.heap.size _ (32 * len + 64) rfl rfl (by go_num) (by omega) (by omega) ?_)
  intro g0 w1 G0 O0 K0
  go_wp2_with (at_make; refine mkA _ rfl _ _ rfl w.heap.size _ len rfl rfl (by go_num) (by omega) (by have := K0.out.size; omega) ?_)
  intro g1 w2 G1 O1 K1
  go_wp2_with (at_make; refine mkB _ rfl _ _ rfl w.heap.size _ len rfl rfl (by go_num) (by omega) (by have := K0.out.size; have := K1.out.size; omega) ?_)
  intro g2 w3 G2 O2 K2
  have HS := st_made w w1 w2 w3 g0 g1 g2 (32 * len + 64) len G1 G2 O0 O1 O2 K0 K1 K2
  clear G0 G1 G2 O0 O1 O2 K0 K1 K2
  obtain ⟨C0, HC⟩ : ∃ C0, Bd (32 * len + 64) C0 ∧ C0 = 32 * len + 64 := ⟨_, Nat.le_refl _, rfl⟩
  rw [← HC.2] at HS ⊢
  replace HC := HC.1
  go_wp2_with fail
  go_loopw [4, 5, 6, 7, 8, 9] (fun t4 t5 t6 t7 t8 t9 wr => ∃ (i k m : Nat) (s t : Bool) (o ks : List Int) (fs : List Bool), i ≤ len ∧ t9 = .int .i64 i ∧ t4 = .slice (some ⟨g0, 0, none⟩) m C0 ∧ t5 = .slice (some ⟨g1, 0, none⟩) k len ∧ t6 = .slice (some ⟨g2, 0, none⟩) k len ∧ t7 = .bool s ∧ t8 = .bool t ∧ k ≤ i ∧ Bd m (32 * i - k) ∧ Len m o ∧ Len k ks ∧ Len k fs ∧ Hid (Pl.Inv o k s t) ∧ Hid (Byt o) ∧ Hid (St w.heap.size w wr g0 g1 g2 C0 len o ks fs)) (fun _ _ _ _ _ t9 _ => len - (intOf t9).toNat)
  case atStart => exact ⟨0, 0, 0, false, false, [], [], [], Nat.zero_le _, rfl, rfl, rfl, rfl, rfl, rfl, Nat.le_refl _, Nat.zero_le _, rfl, rfl, rfl, .inl ⟨rfl, rfl, rfl⟩, fun c hc => (by simp at hc), HS⟩
  case round =>
    obtain ⟨i, k, m, s, t, o, ks, fs, hi, rfl, rfl, rfl, rfl, rfl, rfl, hki, HE, HN, HK, HF, HI, HB, HW⟩ := hrel
    clear HS
    by_cases hlt : i < len
    · have hlt' : ((i : Nat) : Int) < (len : Int) := by omega
      obtain ⟨b, off, had, hrow⟩ := HV.out.row (by omega)
      subst had
      have hbl : b < w.heap.size := by
        have := World.block_lt_of_cell? w _ (hrow 0 (by have := HLE.out; omega))
        exact this
      have hiz : i < Z.length := by have := HLE.out; omega
      have hcell := (hrow.below hbl HW.out.low) i hiz
      obtain ⟨c, hc⟩ : ∃ c, c = Z.getD i 0 := ⟨_, rfl⟩
      rw [← hc] at hcell
      have hcb : 0 ≤ c ∧ c ≤ 255 := by
        rw [hc]
        refine HV.out.hbyte _ ?_
        simp [List.getD, hiz]
      obtain ⟨hc0, hc1⟩ := hcb
      clear hc hrow hbl hiz
      have HM : Hid (c % 8 = 0 ∨ c % 8 = 1 ∨ c % 8 = 2 ∨ c % 8 = 3 ∨ c % 8 = 4 ∨ c % 8 = 5 ∨ c % 8 = 6 ∨ c % 8 = 7) := by show _ ∨ _; omega
      cases k with
      | zero =>
        by_cases hs : s = true
        · -- 'break'
          have HG := mkHid (show Pl.Good o t by
            rcases HI.out with ⟨h, _⟩ | ⟨_, h, _⟩ | ⟨_, _, h⟩
            · rw [hs] at h; cases h
            · omega
            · exact h)
          subst hs
          go_wp2_with fail
          refine wp_loop_rounds 1 ?_
          rw [rounds_succ]
          go_wp2_with fail
          go_ret2
          exact wroteE_mk rfl (by have := HE.out; show _ ≤ _; omega) HN (wrote_of HW.out HB.out HG.out)
        · have hs' : s = false := by simpa using hs
          have ho : o = [] := by
            rcases HI.out with ⟨_, h, _⟩ | ⟨_, h, _⟩ | ⟨h, _, _⟩
            · exact h
            · omega
            · exact absurd h hs
          have hks := HK.nil0
          have hfs := HF.nil0
          subst hs' ho hks hfs
          clear hs HI HB
          rcases HM.out with h | h | h | h | h | h | h | h
          all_goals clear HM
          · go_wp2_with (first | (at_builtin; refine appO w.heap.size w _ rfl _ _ rfl g0 g1 g2 C0 len _ _ _ _ rfl HN HW _ _ _ rfl rfl (by rfl) (by rfl) (by have := HE.out; have := HC.out; omega) ?_; clear HN HW; intro m' w' HX HN HW; replace HE := HE.add HX.out; clear HX) | (at_builtin; refine appK w.heap.size w _ rfl _ _ rfl g0 g1 g2 C0 len _ _ _ _ rfl HK HW _ _ _ rfl rfl (by rfl) (by rfl) (by omega) ?_; clear HW; intro w' HW) | (at_builtin; refine appB w.heap.size w _ rfl _ _ rfl g0 g1 g2 C0 len _ _ _ _ rfl HF HW _ _ rfl rfl (by omega) ?_; clear HW; intro w' HW))
            go_roundw
            case rel => exact ⟨i + 1, 1, m', true, false, _, [91], [false], by omega, by go_num, rfl, rfl, rfl, rfl, rfl, by omega, by have := HE.out; show _ ≤ _; omega, HN, rfl, rfl, .inr (.inl ⟨rfl, by omega, rfl, Pl.box_new (c := 91) (.inr rfl)⟩), byt_lit _ rfl, HW⟩
            case measure => simp [intOf]; omega
          · go_wp2_with (first | (at_builtin; refine appO w.heap.size w _ rfl _ _ rfl g0 g1 g2 C0 len _ _ _ _ rfl HN HW _ _ _ rfl rfl (by rfl) (by rfl) (by have := HE.out; have := HC.out; omega) ?_; clear HN HW; intro m' w' HX HN HW; replace HE := HE.add HX.out; clear HX) | (at_builtin; refine appK w.heap.size w _ rfl _ _ rfl g0 g1 g2 C0 len _ _ _ _ rfl HK HW _ _ _ rfl rfl (by rfl) (by rfl) (by omega) ?_; clear HW; intro w' HW) | (at_builtin; refine appB w.heap.size w _ rfl _ _ rfl g0 g1 g2 C0 len _ _ _ _ rfl HF HW _ _ rfl rfl (by omega) ?_; clear HW; intro w' HW))
            go_roundw
            case rel => exact ⟨i + 1, 1, m', true, false, _, [123], [false], by omega, by go_num, rfl, rfl, rfl, rfl, rfl, by omega, by have := HE.out; show _ ≤ _; omega, HN, rfl, rfl, .inr (.inl ⟨rfl, by omega, rfl, Pl.box_new (c := 123) (.inl rfl)⟩), byt_lit _ rfl, HW⟩
            case measure => simp [intOf]; omega
          · go_wp2_with fail
            go_roundw
            case rel => exact ⟨i + 1, 0, m, false, t, [], [], [], by omega, by go_num, rfl, rfl, rfl, rfl, rfl, by omega, by have := HE.out; show _ ≤ _; omega, HN, rfl, rfl, .inl ⟨rfl, rfl, rfl⟩, byt_lit _ rfl, HW⟩
            case measure => simp [intOf]; omega
          · go_wp2_with (go_at_call 27; refine (piece_any w.heap.size w _ g0 g1 g2 C0 len _ _ _ _ _ (by omega) (by omega) HN HW (by have := HE.out; have := HC.out; omega)).mono ?_; clear HN HW; rintro e w' ⟨m', p, rfl, HX, HN, HP, HW⟩; replace HE := HE.step HX; clear HX)
            go_roundw
            case rel => exact ⟨i + 1, 0, m', true, false, _, [], [], by omega, by go_num, rfl, rfl, rfl, rfl, rfl, by omega, by have := HE.out; show _ ≤ _; omega, HN, rfl, rfl, .inr (.inr ⟨rfl, rfl, HP.out.good⟩), HP.out.2.2, HW⟩
            case measure => simp [intOf]; omega
          · go_wp2_with (at_builtin; refine appO w.heap.size w _ rfl _ _ rfl g0 g1 g2 C0 len _ _ _ _ rfl HN HW _ _ _ rfl rfl (by rfl) (by rfl) (by have := HE.out; have := HC.out; omega) ?_; clear HN HW; intro m' w' HX HN HW; replace HE := HE.add HX.out; clear HX)
            go_roundw
            case rel => exact ⟨i + 1, 0, m', true, true, _, [], [], by omega, by go_num, rfl, rfl, rfl, rfl, rfl, by omega, by have := HE.out; show _ ≤ _; omega, HN, rfl, rfl, .inr (.inr ⟨rfl, rfl, Pl.good_num⟩), byt_lit _ rfl, HW⟩
            case measure => simp [intOf]; omega
          · go_wp2_with (at_builtin; refine appO w.heap.size w _ rfl _ _ rfl g0 g1 g2 C0 len _ _ _ _ rfl HN HW _ _ _ rfl rfl (by rfl) (by rfl) (by have := HE.out; have := HC.out; omega) ?_; clear HN HW; intro m' w' HX HN HW; replace HE := HE.add HX.out; clear HX)
            go_roundw
            case rel => exact ⟨i + 1, 0, m', true, true, _, [], [], by omega, by go_num, rfl, rfl, rfl, rfl, rfl, by omega, by have := HE.out; show _ ≤ _; omega, HN, rfl, rfl, .inr (.inr ⟨rfl, rfl, Pl.good_true⟩), byt_lit _ rfl, HW⟩
            case measure => simp [intOf]; omega
          · go_wp2_with (at_builtin; refine appO w.heap.size w _ rfl _ _ rfl g0 g1 g2 C0 len _ _ _ _ rfl HN HW _ _ _ rfl rfl (by rfl) (by rfl) (by have := HE.out; have := HC.out; omega) ?_; clear HN HW; intro m' w' HX HN HW; replace HE := HE.add HX.out; clear HX)
            go_roundw
            case rel => exact ⟨i + 1, 0, m', true, true, _, [], [], by omega, by go_num, rfl, rfl, rfl, rfl, rfl, by omega, by have := HE.out; show _ ≤ _; omega, HN, rfl, rfl, .inr (.inr ⟨rfl, rfl, Pl.good_false⟩), byt_lit _ rfl, HW⟩
            case measure => simp [intOf]; omega
          · go_wp2_with (at_builtin; refine appO w.heap.size w _ rfl _ _ rfl g0 g1 g2 C0 len _ _ _ _ rfl HN HW _ _ _ rfl rfl (by rfl) (by rfl) (by have := HE.out; have := HC.out; omega) ?_; clear HN HW; intro m' w' HX HN HW; replace HE := HE.add HX.out; clear HX)
            go_roundw
            case rel => exact ⟨i + 1, 0, m', true, true, _, [], [], by omega, by go_num, rfl, rfl, rfl, rfl, rfl, by omega, by have := HE.out; show _ ≤ _; omega, HN, rfl, rfl, .inr (.inr ⟨rfl, rfl, Pl.good_null⟩), byt_lit _ rfl, HW⟩
            case measure => simp [intOf]; omega
      | succ j =>
        obtain ⟨hs, ht, hbox⟩ := HI.out.flags
        subst hs ht
        have HX := mkHid hbox
        clear hbox HI
        obtain ⟨ks', x, hks, HK'⟩ := len_snoc HK
        obtain ⟨fs', y, hfs, HF'⟩ := len_snoc HF
        subst hks hfs
        obtain ⟨qk, qf, qz⟩ := HW.out.top HK' HF'
        by_cases h2 : c % 8 = 2
        · clear HM qf qz
          go_wp2_with (go_at_call 26; refine (close_any w.heap.size w _ g0 g1 g2 C0 len _ _ _ _ _ HN HW (by have := HE.out; have := HC.out; omega)).mono ?_; clear HN HW; rintro e w' ⟨m', d, rfl, HX, HN, HD, HW⟩; replace HE := HE.step HX; clear HX)
          go_roundw
          case rel => exact ⟨i + 1, j, m', true, false, _, ks', fs', by omega, by go_num, rfl, rfl, rfl, rfl, rfl, by omega, by have := HE.out; show _ ≤ _; omega, HN, HK', HF', Pl.Inv.close (s := true) (t := false) (.inr (.inl ⟨rfl, by omega, rfl, HX.out⟩)) HD.out, HB.out.app (byt_close HD.out), HW.out.pop⟩
          case measure => simp [intOf]; omega
        · have r2 : (c % 8 == 2) = false := by simp [h2]
          go_upto_if 66 with fail
          go_cut [4, 8] from 26 to 140 (fun t4 t8 wx => ∃ (m1 : Nat) (o1 : List Int), t4 = .slice (some ⟨g0, 0, none⟩) m1 C0 ∧ t8 = .bool false ∧ Bd m1 (32 * i - (j + 1) + 9) ∧ Len m1 o1 ∧ Hid (Pl.Box o1 (j + 1)) ∧ Hid (Byt o1) ∧ Hid (St w.heap.size w wx g0 g1 g2 C0 len o1 (ks' ++ [x]) (fs' ++ [true])))
          case first =>
            clear HM
            cases y
            case' true =>
              go_upto_region 23 with (at_builtin; refine appO w.heap.size w _ rfl _ _ rfl g0 g1 g2 C0 len _ _ _ _ rfl HN HW _ _ _ rfl rfl (by rfl) (by rfl) (by have := HE.out; have := HC.out; omega) ?_; clear HN HW qk qf qz; intro m' w' HQ HN HW; replace HE := HE.add HQ.out; clear HQ; obtain ⟨qk, qf, qz⟩ := HW.out.top HK' HF')
              replace HW := mkHid (HW.out.settop HF')
              generalize w'.setCell ⟨g2, j, none⟩ (.bool true) = w2 at HW ⊢
              have H : ∃ o1, Len m' o1 ∧ Hid (St w.heap.size w w2 g0 g1 g2 C0 len o1 (ks' ++ [x]) (fs' ++ [true])) ∧ Hid (Pl.Box o1 (j + 1)) ∧ Hid (Byt o1) := ⟨_, HN, HW, HX.out.add (Pl.pas_44 _), HB.out.app (byt_lit [44] rfl)⟩
            case' false =>
              go_upto_region 23 with fail
              replace HW := mkHid (HW.out.settop HF')
              generalize wr.setCell ⟨g2, j, none⟩ (.bool true) = w2 at HW ⊢
              have H : ∃ o1, Len m o1 ∧ Hid (St w.heap.size w w2 g0 g1 g2 C0 len o1 (ks' ++ [x]) (fs' ++ [true])) ∧ Hid (Pl.Box o1 (j + 1)) ∧ Hid (Byt o1) := ⟨_, HN, HW, HX, HB⟩
            all_goals
              clear HN HW HX HB qk qf qz HF
              obtain ⟨o1, HN, HW, HX, HB⟩ := H
              obtain ⟨qk, _, _⟩ := HW.out.top HK' HF'
              by_cases hx : x = 123
              · have r3 : (x == 123) = true := by simp [hx]
                clear hx
                go_wp2_with (first | (go_at_call 27; refine (piece_any w.heap.size w _ g0 g1 g2 C0 len _ _ _ _ _ (by omega) (by omega) HN HW (by have := HE.out; have := HC.out; omega)).mono ?_; clear HN HW; rintro e w' ⟨m', p, rfl, HX, HN, HP, HW⟩; replace HE := HE.step HX; clear HX) | (at_builtin; refine appO w.heap.size w _ rfl _ _ rfl g0 g1 g2 C0 len _ _ _ _ rfl HN HW _ _ _ rfl rfl (by rfl) (by rfl) (by have := HE.out; have := HC.out; omega) ?_; clear HN HW; intro m' w' HX HN HW; replace HE := HE.add HX.out; clear HX))
                go_meet
                exact ⟨m', _, rfl, rfl, by have := HE.out; show _ ≤ _; omega, HN, (HX.out.add (HP.out.1 _)).add (Pl.pas_58 _), (HB.out.app HP.out.2.2).app (byt_lit [58] rfl), HW⟩
              · have r3 : (x == 123) = false := by simp [hx]
                clear hx
                go_wp2_with fail
                go_meet
                exact ⟨_, _, rfl, rfl, by have := HE.out; show _ ≤ _; omega, HN, HX, HB, HW⟩
          case rest =>
            clear HE HN HX HB HW qk qf qz hcell HF
            obtain ⟨m1, o1, rfl, rfl, HE, HN, HX, HB, HW⟩ := hcut
            have HF := HF'.snoc true
            rcases HM.out with h | h | h | h | h | h | h | h
            all_goals clear HM
            · go_wp2_with (first | (at_builtin; refine appO w.heap.size w _ rfl _ _ rfl g0 g1 g2 C0 len _ _ _ _ rfl HN HW _ _ _ rfl rfl (by rfl) (by rfl) (by have := HE.out; have := HC.out; omega) ?_; clear HN HW; intro m' w' HX HN HW; replace HE := HE.add HX.out; clear HX) | (at_builtin; refine appK w.heap.size w _ rfl _ _ rfl g0 g1 g2 C0 len _ _ _ _ rfl HK HW _ _ _ rfl rfl (by rfl) (by rfl) (by omega) ?_; clear HW; intro w' HW) | (at_builtin; refine appB w.heap.size w _ rfl _ _ rfl g0 g1 g2 C0 len _ _ _ _ rfl HF HW _ _ rfl rfl (by omega) ?_; clear HW; intro w' HW))
              go_roundw
              case rel => exact ⟨i + 1, j + 1 + 1, m', true, false, _, ks' ++ [x] ++ [91], fs' ++ [true] ++ [false], by omega, by go_num, rfl, rfl, rfl, rfl, rfl, by omega, by have := HE.out; show _ ≤ _; omega, HN, HK.snoc _, HF.snoc _, .inr (.inl ⟨rfl, by omega, rfl, HX.out.opens (.inr rfl)⟩), HB.out.app (byt_lit _ rfl), HW⟩
              case measure => simp [intOf]; omega
            · go_wp2_with (first | (at_builtin; refine appO w.heap.size w _ rfl _ _ rfl g0 g1 g2 C0 len _ _ _ _ rfl HN HW _ _ _ rfl rfl (by rfl) (by rfl) (by have := HE.out; have := HC.out; omega) ?_; clear HN HW; intro m' w' HX HN HW; replace HE := HE.add HX.out; clear HX) | (at_builtin; refine appK w.heap.size w _ rfl _ _ rfl g0 g1 g2 C0 len _ _ _ _ rfl HK HW _ _ _ rfl rfl (by rfl) (by rfl) (by omega) ?_; clear HW; intro w' HW) | (at_builtin; refine appB w.heap.size w _ rfl _ _ rfl g0 g1 g2 C0 len _ _ _ _ rfl HF HW _ _ rfl rfl (by omega) ?_; clear HW; intro w' HW))
              go_roundw
              case rel => exact ⟨i + 1, j + 1 + 1, m', true, false, _, ks' ++ [x] ++ [123], fs' ++ [true] ++ [false], by omega, by go_num, rfl, rfl, rfl, rfl, rfl, by omega, by have := HE.out; show _ ≤ _; omega, HN, HK.snoc _, HF.snoc _, .inr (.inl ⟨rfl, by omega, rfl, HX.out.opens (.inl rfl)⟩), HB.out.app (byt_lit _ rfl), HW⟩
              case measure => simp [intOf]; omega
            · exact absurd h h2
            · go_wp2_with (go_at_call 27; refine (piece_any w.heap.size w _ g0 g1 g2 C0 len _ _ _ _ _ (by omega) (by omega) HN HW (by have := HE.out; have := HC.out; omega)).mono ?_; clear HN HW; rintro e w' ⟨m', p, rfl, HX, HN, HP, HW⟩; replace HE := HE.step HX; clear HX)
              go_roundw
              case rel => exact ⟨i + 1, j + 1, m', true, false, _, ks' ++ [x], fs' ++ [true], by omega, by go_num, rfl, rfl, rfl, rfl, rfl, by omega, by have := HE.out; show _ ≤ _; omega, HN, HK, HF, .inr (.inl ⟨rfl, by omega, rfl, HX.out.add (HP.out.1 _)⟩), HB.out.app HP.out.2.2, HW⟩
              case measure => simp [intOf]; omega
            · go_wp2_with (at_builtin; refine appO w.heap.size w _ rfl _ _ rfl g0 g1 g2 C0 len _ _ _ _ rfl HN HW _ _ _ rfl rfl (by rfl) (by rfl) (by have := HE.out; have := HC.out; omega) ?_; clear HN HW; intro m' w' HX HN HW; replace HE := HE.add HX.out; clear HX)
              go_roundw
              case rel => exact ⟨i + 1, j + 1, m', true, false, _, ks' ++ [x], fs' ++ [true], by omega, by go_num, rfl, rfl, rfl, rfl, rfl, by omega, by have := HE.out; show _ ≤ _; omega, HN, HK, HF, .inr (.inl ⟨rfl, by omega, rfl, HX.out.add (Pl.pas_num _)⟩), HB.out.app (byt_lit _ rfl), HW⟩
              case measure => simp [intOf]; omega
            · go_wp2_with (at_builtin; refine appO w.heap.size w _ rfl _ _ rfl g0 g1 g2 C0 len _ _ _ _ rfl HN HW _ _ _ rfl rfl (by rfl) (by rfl) (by have := HE.out; have := HC.out; omega) ?_; clear HN HW; intro m' w' HX HN HW; replace HE := HE.add HX.out; clear HX)
              go_roundw
              case rel => exact ⟨i + 1, j + 1, m', true, false, _, ks' ++ [x], fs' ++ [true], by omega, by go_num, rfl, rfl, rfl, rfl, rfl, by omega, by have := HE.out; show _ ≤ _; omega, HN, HK, HF, .inr (.inl ⟨rfl, by omega, rfl, HX.out.add (Pl.pas_true _)⟩), HB.out.app (byt_lit _ rfl), HW⟩
              case measure => simp [intOf]; omega
            · go_wp2_with (at_builtin; refine appO w.heap.size w _ rfl _ _ rfl g0 g1 g2 C0 len _ _ _ _ rfl HN HW _ _ _ rfl rfl (by rfl) (by rfl) (by have := HE.out; have := HC.out; omega) ?_; clear HN HW; intro m' w' HX HN HW; replace HE := HE.add HX.out; clear HX)
              go_roundw
              case rel => exact ⟨i + 1, j + 1, m', true, false, _, ks' ++ [x], fs' ++ [true], by omega, by go_num, rfl, rfl, rfl, rfl, rfl, by omega, by have := HE.out; show _ ≤ _; omega, HN, HK, HF, .inr (.inl ⟨rfl, by omega, rfl, HX.out.add (Pl.pas_false _)⟩), HB.out.app (byt_lit _ rfl), HW⟩
              case measure => simp [intOf]; omega
            · go_wp2_with (at_builtin; refine appO w.heap.size w _ rfl _ _ rfl g0 g1 g2 C0 len _ _ _ _ rfl HN HW _ _ _ rfl rfl (by rfl) (by rfl) (by have := HE.out; have := HC.out; omega) ?_; clear HN HW; intro m' w' HX HN HW; replace HE := HE.add HX.out; clear HX)
              go_roundw
              case rel => exact ⟨i + 1, j + 1, m', true, false, _, ks' ++ [x], fs' ++ [true], by omega, by go_num, rfl, rfl, rfl, rfl, rfl, by omega, by have := HE.out; show _ ≤ _; omega, HN, HK, HF, .inr (.inl ⟨rfl, by omega, rfl, HX.out.add (Pl.pas_null _)⟩), HB.out.app (byt_lit _ rfl), HW⟩
              case measure => simp [intOf]; omega
    · have hge : ¬ ((i : Nat) : Int) < (len : Int) := by omega
      by_cases hs : s = true
      · subst hs
        go_wp2_with fail
        go_loopw [4, 5] (fun t4 t5 wr => ∃ (k m : Nat) (o ks : List Int), t4 = .slice (some ⟨g0, 0, none⟩) m C0 ∧ t5 = .slice (some ⟨g1, 0, none⟩) k len ∧ k ≤ len ∧ Bd m (32 * len - k) ∧ Len m o ∧ Len k ks ∧ Hid (Pl.Inv o k true t) ∧ Hid (Byt o) ∧ Hid (St w.heap.size w wr g0 g1 g2 C0 len o ks fs)) (fun _ t5 _ => lenOf t5)
        case atStart => exact ⟨k, m, o, ks, rfl, rfl, by omega, by have := HE.out; show _ ≤ _; omega, HN, HK, HI, HB, HW⟩
        case round =>
          clear HE HN HK HI HB HW
          obtain ⟨k, m, o, ks, rfl, rfl, hk, HE, HN, HK, HI, HB, HW⟩ := hrel
          cases k with
          | zero =>
            have HG := mkHid (show Pl.Good o t by
              rcases HI.out with ⟨h, _⟩ | ⟨_, h, _⟩ | ⟨_, _, h⟩
              · cases h
              · omega
              · exact h)
            clear HI
            go_wp2_with fail
            go_ret2
            exact wroteE_mk rfl (by have := HE.out; show _ ≤ _; omega) HN (wrote_of HW.out HB.out HG.out)
          | succ j =>
            obtain ⟨_, ht, _⟩ := HI.out.flags
            subst ht
            obtain ⟨ks', x, hks, HK'⟩ := len_snoc HK
            subst hks
            have qk : wr.cell? ⟨g1, j, none⟩ = some (.int .u8 x) := by rw [HW.out.kcell j (by have := HK'.out; simp; omega), getD_last HK']
            clear HK
            go_wp2_with (go_at_call 26; refine (close_any w.heap.size w _ g0 g1 g2 C0 len _ _ _ _ _ HN HW (by have := HE.out; have := HC.out; omega)).mono ?_; clear HN HW; rintro e w' ⟨m', d, rfl, HX, HN, HD, HW⟩; replace HE := HE.step HX; clear HX)
            go_roundw
            case rel => exact ⟨j, m', _, ks', rfl, rfl, by omega, by have := HE.out; show _ ≤ _; omega, HN, HK', HI.out.close HD.out, HB.out.app (byt_close HD.out), HW.out.popk⟩
            case measure => simp [lenOf]
      · have hs' : s = false := by simpa using hs
        have ho : o = [] := by
          rcases HI.out with ⟨_, h, _⟩ | ⟨h, _⟩ | ⟨h, _, _⟩
          · exact h
          · exact absurd h hs
          · exact absurd h hs
        subst hs' ho
        go_wp2_with (at_builtin; refine appO w.heap.size w _ rfl _ _ rfl g0 g1 g2 C0 len _ _ _ _ rfl HN HW _ _ _ rfl rfl (by rfl) (by rfl) (by have := HE.out; have := HC.out; omega) ?_; clear HN HW; intro m' w' HX HN HW; replace HE := HE.add HX.out; clear HX)
        go_ret2
        exact wroteE_mk rfl (by have := HE.out; show _ ≤ _; omega) HN (wrote_of HW.out (byt_lit _ rfl) Pl.good_null)
end Go.Proofs.Qxb6600962a
