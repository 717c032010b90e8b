/-
  THE WALK OF LAW B AT OBJECTS (seat b6001451a).
-/
import Derived.Test.Qxb6001451aWalkB
namespace Go.Proofs.Qxb6001451a
open Go.RowKit

theorem same_at2 (g cap len h capw lw : Nat) (zs ws rest : List Int) (i : Nat) (I E : Int) (hI : I = (i : Int)) (hE : E = ((i + lw : Nat) : Int)) (w : World) (hz : Row w g 0 zs) (hw : Row w h 0 ws) (hlen : len = zs.length) (hlw : lw = ws.length) (hl : len ≤ maxLen) (hd : zs.drop i = ws ++ rest) (hi : i + lw ≤ len) :
    Calls Try.prog 30 #[.slice (some ⟨g, 0, none⟩) len cap, .int .i64 I, .int .i64 E, .slice (some ⟨h, 0, none⟩) lw capw] w fun e w' => e = .returned (.bool true) ∧ Below w.heap.size w w' := by
  subst hI
  exact same_at g cap len h capw lw zs ws rest i E hE w hz hw hlen hlw hl hd hi

set_option maxHeartbeats 4000000 in
set_option maxRecDepth 100000 in
theorem lawB_obj (n : Nat) (items : List (Pl.JT n)) (b off cap : Nat) (w : World) (hit : ItemsAt w.heap.size w n items b off) (hbB : b < w.heap.size) (hpos : 0 < items.length) (hlen : items.length ≤ 16384) :
    Calls Try.prog 9 #[.slice (some ⟨b, off, none⟩) items.length cap, .bool true] w fun e w' => e = .returned (.bool true) ∧ Below w.heap.size w w' := by
  obtain ⟨len, hln⟩ : ∃ len, len = items.length := ⟨_, rfl⟩
  rw [← hln] at hpos hlen ⊢
  have HI := mkHid hit
  have HL := mkHid hln
  clear hit hln
  have g0 : ¬ (16384 : Int) < (len : Int) := by omega
  go_enter Try.func9, Try.ntmps9
  go_wp2_with fail
  go_loopw [5, 26] (fun bd c wr => ∃ (k : Nat) (bud : Int), k ≤ len ∧ c = .int .i64 k ∧ bd = .int .i64 bud ∧ 0 ≤ bud ∧ bud ≤ 1048576 ∧ Hid (bud + (((items.take k).map (Pl.wt n)).sum : Nat) + 64 * len ≤ 1048576) ∧ Hid (Below w.heap.size w wr)) (fun _ c _ => len - (intOf c).toNat)
  case atStart => exact ⟨0, _, Nat.zero_le _, rfl, rfl, by omega, by omega, by simp [Hid], Below.refl _ _⟩
  case round =>
    obtain ⟨k, bud, hk, rfl, rfl, hb0, hb1, HS, HB⟩ := hrel
    by_cases hlt : k < len
    · have hlt2 : k < items.length := by rw [← HL.out]; exact hlt
      have hlt' : ((k : Nat) : Int) < (len : Int) := by omega
      obtain ⟨c0, c1, c2, c3, f0, f1, f2, f3, hr⟩ := (HI.out.below hbB HB.out) k hlt2
      have CL := mkHid (jvBytes_any n items[k] (.agg #[c0, c1, c2, c3]) w.heap.size wr bud hr HB.out.size (by omega) (by omega))
      have GE := mkHid (Pl.jvB_ge n items[k] bud)
      have HT := mkHid (wt_take n items k hlt2)
      obtain ⟨m, hm⟩ : ∃ m, m = Pl.jvB n items[k] bud := ⟨_, rfl⟩
      rw [← hm] at CL GE
      clear hm hr
      by_cases hneg : m < 0
      · go_wp2_with (go_at_call 25; refine CL.out.mono ?_; rintro e w1 ⟨rfl, hb1⟩)
        go_ret
        exact ⟨rfl, HB.out.trans (hb1.mono HB.out.size)⟩
      · have hge := GE.out (by omega)
        have hm1 := hge.2
        have HN := mkHid (show bud - m + (((items.take (k + 1)).map (Pl.wt n)).sum : Nat) + 64 * len ≤ 1048576 by
          have h1 := HS.out
          have h2 := hge.1
          rw [HT.out]
          push_cast
          omega)
        clear hge
        go_wp2_with (go_at_call 25; refine CL.out.mono ?_; rintro e w1 ⟨rfl, hbx⟩)
        go_roundw
        case rel => exact ⟨k + 1, bud - m, by omega, by go_num, rfl, by omega, by omega, HN, HB.out.trans (hbx.mono HB.out.size)⟩
        case measure => simp [intOf]; omega
    · have hge : ¬ ((k : Nat) : Int) < (len : Int) := by omega
      have HW := mkHid (show (items.map (itemNeed n)).sum ≤ 2228224 by
        have h1 := HS.out
        have h2 := need_items n items
        rw [List.take_of_length_le (by rw [← HL.out]; omega)] at h1
        rw [← HL.out] at h2
        omega)
      clear HS
      obtain ⟨wo, hwo⟩ : ∃ wo : World, wo = wr := ⟨_, rfl⟩
      rw [← hwo] at HB ⊢
      clear hwo
      go_wp2_with fail
      have HI1 := mkHid (HI.out.below hbB (HB.out.trans ((Below.refl _ _).alloc (Nat.le_refl _) (box 3 ⟨#[]⟩ ⟨#[]⟩ (some ⟨b, off, none⟩) len cap) |>.mono HB.out.size)))
      refine (appendValue_nil (n + 1) (cont n 3 items) _ w.heap.size _ (cont_rep n 3 items w.heap.size _ b off len cap HL.out (by unfold maxLen; omega) hbB HI1.out) (by simp; have := HB.out.size; omega) (cont_need n 3 items HW.out)).mono ?_
      rintro e wd ⟨gd, cp, rfl, HRD, hg1, hg2, hbd⟩
      have HBD := mkHid ((HB.out.trans ((Below.refl _ _).alloc (Nat.le_refl _) (box 3 ⟨#[]⟩ ⟨#[]⟩ (some ⟨b, off, none⟩) len cap) |>.mono HB.out.size)).trans (hbd.mono (by simp; have := HB.out.size; omega)))
      clear hbd hg1
      obtain ⟨zs, hzs⟩ : ∃ zs, zs = Pl.encV (n + 1) (cont n 3 items) := ⟨_, rfl⟩
      have HBY := mkHid (encV_bytes (n + 1) (cont n 3 items))
      have HEL := mkHid (Nat.le_trans (encV_need (n + 1) (cont n 3 items)) (cont_need n 3 items HW.out))
      rw [← hzs] at HRD HBY HEL ⊢
      rw [cont_obj] at hzs
      have HZ := mkHid hzs
      clear hzs
      obtain ⟨el, hel⟩ : ∃ el, el = zs.length := ⟨_, rfl⟩
      rw [← hel] at HEL ⊢
      have LE := mkHid hel
      have elm : el ≤ 140737488355328 := HEL.out
      clear hel HEL
      go_wp2_with fail
      go_loopw [11, 49] (fun iv c wr => ∃ (k i : Nat), k ≤ len ∧ c = .int .i64 k ∧ iv = .int .i64 i ∧ i ≤ el ∧ Hid ((∀ h : k < items.length, zs.drop i = Pl.memA n (Pl.encV n) true items[k] ++ Pl.restAt (Pl.memA n (Pl.encV n) true) 125 items (k + 1)) ∧ (items.length ≤ k → i = el)) ∧ Hid (Below wd.heap.size wd wr)) (fun _ c _ => len - (intOf c).toNat)
      case atStart =>
        refine ⟨0, 1, Nat.zero_le _, rfl, rfl, ?_, ⟨fun h => ?_, fun h => ?_⟩, Below.refl _ _⟩
        · have := LE.out; rw [HZ.out] at this; simp at this; omega
        · rw [HZ.out]; exact Pl.rest_start _ _ _ _ h
        · have := HL.out; omega
      case round =>
        obtain ⟨k', i, hk', rfl, rfl, hile, HA, HBR⟩ := hrel
        by_cases hlt2 : k' < len
        · have hk2 : k' < items.length := by rw [← HL.out]; exact hlt2
          have hlt3 : ((k' : Nat) : Int) < (len : Int) := by omega
          have hdr := HA.out.1 hk2
          have HDK := mkHid (show zs.drop i = Pl.encS (Pl.byt (Pl.keyOf n items[k'])) ++ (58 :: (Pl.encV n items[k'] ++ Pl.restAt (Pl.memA n (Pl.encV n) true) 125 items (k' + 1))) by
            rw [hdr]; simp [Pl.memA])
          clear hdr
          have HSK := mkHid (Pl.seg_end HDK.out (.inl (encS_ne _)))
          have HVK := mkHid (show Pl.VEnd (zs.drop i) (Pl.encS (Pl.byt (Pl.keyOf n items[k']))).length by rw [HDK.out]; exact Pl.vend_encS _ _)
          obtain ⟨kl, hkl⟩ : ∃ kl, kl = (Pl.encS (Pl.byt (Pl.keyOf n items[k']))).length := ⟨_, rfl⟩
          have HKL := mkHid hkl
          rw [← hkl] at HVK HSK
          have hkp : 0 < kl := by rw [hkl]; exact List.length_pos_iff.2 (encS_ne _)
          clear hkl
          have HSC := mkHid (Pl.seg_head HSK.out.2)
          have HDR := mkHid HSC.out.2.2
          have HSE := mkHid (Pl.seg_end HDR.out (.inl (encV_ne n _)))
          have HVE := mkHid (show Pl.VEnd (zs.drop (i + kl + 1)) (Pl.encV n items[k']).length by rw [HDR.out]; exact Pl.vend_any n _ _ (Pl.rest_del _ 125 (.inr rfl) items (k' + 1)))
          obtain ⟨wl, hwl⟩ : ∃ wl, wl = (Pl.encV n items[k']).length := ⟨_, rfl⟩
          have HWL := mkHid hwl
          rw [← hwl] at HVE HSE
          have hwp : 0 < wl := by rw [hwl]; exact List.length_pos_iff.2 (encV_ne n _)
          clear hwl
          have hiw : i + kl + 1 + wl ≤ el := by have := HSE.out.1; have := LE.out; omega
          have hlt4 : ((i : Nat) : Int) < (el : Int) := by omega
          have hlt4b : ((i : Nat) : Int) + (kl : Int) < (el : Int) := by omega
          have hlt4c : ((i : Nat) : Int) + (kl : Int) + 1 < (el : Int) := by omega
          have HBW := mkHid (HBD.out.trans (HBR.out.mono HBD.out.size))
          obtain ⟨c0, c1, c2, c3, f0, f1, f2, f3, hr⟩ := (HI.out.below hbB HBW.out) k' hk2
          obtain ⟨rfl, _⟩ := Rep.key n _ _ _ _ _ hr
          have HNI := mkHid (show need n items[k'] ≤ 140737488355328 ∧ 2 * (Pl.keyOf n items[k']).size + 2 ≤ 140737488355328 by
            have h1 := item_le n items k' hk2
            have h2 := HW.out
            have h3 : itemNeed n items[k'] = 2 * (Pl.keyOf n items[k']).size + 4 + need n items[k'] := rfl
            omega)
          clear hr
          go_wp2_with fail
          refine (appendString_nil (Pl.keyOf n items[k']) _ HNI.out.2).mono ?_
          rw [← HKL.out]
          rintro e w1 ⟨g1, cp1, rfl, HR1, hg11, hg12, hb1⟩
          have HB1 := mkHid (HBR.out.trans (hb1.mono HBR.out.size))
          have HD1 := mkHid (HRD.out.below hg2 HB1.out)
          clear hb1 hg11
          go_wp2_with fail
          refine (zz_at gd 0 cp el zs i kl _ rfl w1 HD1.out LE.out (by unfold maxLen; omega) HBY.out HVK.out).mono ?_
          rintro e w1' ⟨rfl, rfl⟩
          go_wp2_with fail
          refine (same_at gd cp el g1 cp1 kl zs (Pl.encS (Pl.byt (Pl.keyOf n items[k']))) _ i _ (by simp) w1 HD1.out HR1.out LE.out HKL.out (by unfold maxLen; omega) HDK.out (by omega)).mono ?_
          rintro e w2 ⟨rfl, hb2⟩
          have HB2 := mkHid (HB1.out.trans (hb2.mono HB1.out.size))
          have HD2 := mkHid (HRD.out.below hg2 HB2.out)
          have hq2 := HD2.out (i + kl) HSC.out.1
          rw [Nat.zero_add, HSC.out.2.1] at hq2
          have HBX := mkHid (HBD.out.trans (HB2.out.mono HBD.out.size))
          clear hb2 f0 f1 f2 f3
          obtain ⟨c0, c1, c2, c3, f0, f1, f2, f3, hr⟩ := (HI.out.below hbB HBX.out) k' hk2
          have HR := mkHid hr
          clear hr
          go_wp2_with fail
          refine (appendValue_nil n items[k'] _ w.heap.size _ HR.out HBX.out.size HNI.out.1).mono ?_
          rw [← HWL.out]
          rintro e w3 ⟨g3, cp3, rfl, HR3, hg31, hg32, hb3⟩
          have HB3 := mkHid (HB2.out.trans (hb3.mono HB2.out.size))
          have HD3 := mkHid (HRD.out.below hg2 HB3.out)
          clear hb3 hg31 hq2
          go_wp2_with fail
          refine (zz_at gd 0 cp el zs (i + kl + 1) wl _ (by simp) w3 HD3.out LE.out (by unfold maxLen; omega) HBY.out HVE.out).mono ?_
          rintro e w3' ⟨rfl, rfl⟩
          go_wp2_with fail
          refine (same_at2 gd cp el g3 cp3 wl zs (Pl.encV n items[k']) _ (i + kl + 1) _ _ (by simp) (by simp) w3 HD3.out HR3.out LE.out HWL.out (by unfold maxLen; omega) HDR.out hiw).mono ?_
          rintro e w4 ⟨rfl, hb4⟩
          have HB4 := mkHid (HB3.out.trans (hb4.mono HB3.out.size))
          have HD4 := mkHid (HRD.out.below hg2 HB4.out)
          clear hb4
          by_cases hlast : k' + 1 < len
          · have hlast' : ((k' : Nat) : Int) + 1 < (len : Int) := by omega
            have hsh := Pl.seg_head (HSE.out.2.trans (Pl.rest_more _ 125 items (k' + 1) (by rw [← HL.out]; exact hlast)))
            have hq := HD4.out (i + kl + 1 + wl) hsh.1
            rw [Nat.zero_add, hsh.2.1] at hq
            have hlt5 : ((i : Nat) : Int) + (kl : Int) + 1 + (wl : Int) < (el : Int) := by have := hsh.1; have := LE.out; omega
            have HNX := mkHid hsh.2.2
            clear hsh
            go_wp2_with fail
            go_roundw
            case rel => exact ⟨k' + 1, i + kl + 1 + wl + 1, by omega, by go_num, by go_num, by omega, ⟨fun _ => HNX.out, fun h => absurd h (by rw [← HL.out]; omega)⟩, HB4⟩
            case measure => simp [intOf]; omega
          · have hlast' : ¬ ((k' : Nat) : Int) + 1 < (len : Int) := by omega
            have hsh := Pl.seg_head (HSE.out.2.trans (Pl.rest_end _ 125 items (k' + 1) (by rw [← HL.out]; omega)))
            have hq := HD4.out (i + kl + 1 + wl) hsh.1
            rw [Nat.zero_add, hsh.2.1] at hq
            have hlt5 : ((i : Nat) : Int) + (kl : Int) + 1 + (wl : Int) < (el : Int) := by have := hsh.1; have := LE.out; omega
            have HNX := mkHid (show i + kl + 1 + wl + 1 = el by
              have h1 := congrArg List.length hsh.2.2
              rw [List.length_drop, List.length_nil] at h1
              have h2 := hsh.1
              have h3 := LE.out
              omega)
            clear hsh
            go_wp2_with fail
            go_roundw
            case rel => exact ⟨k' + 1, i + kl + 1 + wl + 1, by omega, by go_num, by go_num, by omega, ⟨fun h => absurd h (by rw [← HL.out]; omega), fun _ => HNX.out⟩, HB4⟩
            case measure => simp [intOf]; omega
        · have hge2 : ¬ ((k' : Nat) : Int) < (len : Int) := by omega
          have HIE := mkHid (HA.out.2 (by rw [← HL.out]; omega))
          have hz0 : ((len : Int) == 0) = false := by rw [beq_eq_false_iff_ne]; omega
          clear HA
          go_wp2_with fail
          go_ret
          exact ⟨by rw [HIE.out]; simp, HBD.out.trans (HBR.out.mono HBD.out.size)⟩
end Go.Proofs.Qxb6001451a
