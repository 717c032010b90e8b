/-
  THE WALK OF LAW B (seat b6001451a): FnValueEndWalksTheMembersOfAContainer.
-/
import Derived.Test.Qxb6001451aSame
import Derived.Test.Qxb6001451aPosB
import Derived.Test.Qxb6001451aWalkA
namespace Go.Proofs.Qxb6001451a
open Go.RowKit

/-- appendString(nil, s). -/
theorem appendString_nil (s : ByteArray) (w : World) (hsz : 2 * s.size + 2 ≤ 140737488355328) :
    Calls Try.prog 29 #[.slice none 0 0, .string s] w fun e w' => ∃ g cp, e = .returned (.slice (some ⟨g, 0, none⟩) (Pl.encS (Pl.byt s)).length cp) ∧ Hid (Row w' g 0 (Pl.encS (Pl.byt s))) ∧ w.heap.size ≤ g ∧ g < w'.heap.size ∧ Below w.heap.size w w' := by
  refine (appendString_any w.heap.size (.slice none 0 0) [] s w (Own.nil _ _) (Nat.le_refl _) (by simp; omega)).mono ?_
  rintro e w' ⟨v', rfl, hown, hk⟩
  obtain ⟨g, cp, rfl, h1, h2, h3⟩ := Own.shape hown (by simpa using encS_ne _)
  exact ⟨g, cp, rfl, h3, h1, h2, hk.below (Nat.le_refl _)⟩

set_option maxHeartbeats 1000000 in
theorem lawB_long (a : Option Addr) (len cap : Nat) (obj : Bool) (w : World) (h : 16384 < len) (hl : len ≤ maxLen) :
    Calls Try.prog 9 #[.slice a len cap, .bool obj] w fun e w' => e = .returned (.bool true) ∧ Below w.heap.size w w' := by
  unfold maxLen at hl
  have g' : (16384 : Int) < (len : Int) := by omega
  go_enter Try.func9, Try.ntmps9
  go_wp2_with fail
  go_ret
  exact ⟨rfl, Below.refl _ _⟩

/-- The sum of what the members weigh, one more. -/
theorem wt_take (n : Nat) (items : List (Pl.JT n)) (k : Nat) (h : k < items.length) : ((items.take (k + 1)).map (Pl.wt n)).sum = ((items.take k).map (Pl.wt n)).sum + Pl.wt n items[k] := by
  rw [List.take_succ_eq_append_getElem h, List.map_append, List.sum_append]
  simp only [List.map_cons, List.map_nil, List.sum_cons, List.sum_nil, Nat.add_zero]

/-- What the container needs. -/
theorem need_items (n : Nat) (items : List (Pl.JT n)) : (items.map (itemNeed n)).sum ≤ 2 * (items.map (Pl.wt n)).sum + 8 * items.length := by
  rw [← sum_eight]
  refine Pl.sum_le _ _ _ fun x _ => ?_
  have := need_wt n x
  unfold itemNeed
  omega

theorem item_le (n : Nat) (items : List (Pl.JT n)) (k : Nat) (h : k < items.length) : itemNeed n items[k] ≤ (items.map (itemNeed n)).sum := by
  have := sum_take (itemNeed n) items k h
  omega

/-- The container's node. -/
def cont (n : Nat) (kind : Int) (items : List (Pl.JT n)) : Pl.JT (n + 1) := (⟨kind, ⟨#[]⟩, ⟨#[]⟩, items⟩ : Pl.Jn (Pl.JT n))

theorem cont_rep (n : Nat) (kind : Int) (items : List (Pl.JT n)) (B : Nat) (w : World) (b off len cap : Nat) (hl : len = items.length) (hm : len ≤ maxLen) (hbB : b < B) (hit : ItemsAt B w n items b off) :
    Rep B w (n + 1) (cont n kind items) (.agg #[.int .i64 kind, .string ⟨#[]⟩, .string ⟨#[]⟩, .slice (some ⟨b, off, none⟩) len cap]) := by
  subst hl
  exact ⟨_, cap, rfl, Nat.zero_le _, Nat.zero_le _, hm, fun _ => ⟨b, off, rfl, hbB, hit⟩⟩
theorem cont_need (n : Nat) (kind : Int) (items : List (Pl.JT n)) (h : (items.map (itemNeed n)).sum ≤ 2228224) : need (n + 1) (cont n kind items) ≤ 140737488355328 := by
  show 2 * 0 + 4 + (items.map (itemNeed n)).sum ≤ _
  omega
theorem cont_arr (n : Nat) (items : List (Pl.JT n)) : Pl.encV (n + 1) (cont n 2 items) = 91 :: (Pl.joinA (Pl.memA n (Pl.encV n) false) true items ++ [93]) := rfl
theorem cont_obj (n : Nat) (items : List (Pl.JT n)) : Pl.encV (n + 1) (cont n 3 items) = 123 :: (Pl.joinA (Pl.memA n (Pl.encV n) true) true items ++ [125]) := rfl

/-- sameBytes and ZZValueEnd at places that the walk spells. -/
theorem same_at (g cap len h capw lw : Nat) (zs ws rest : List Int) (i : Nat) (E : Int) (hE : E = ((i + lw : Nat) : Int)) (w : World) (hz : Row w g 0 zs) (hw : Row w h 0 ws) (hlen : len = zs.length) (hlw : lw = ws.length) (hl : len ≤ maxLen) (hd : zs.drop i = ws ++ rest) (hi : i + lw ≤ len) :
    Calls Try.prog 30 #[.slice (some ⟨g, 0, none⟩) len cap, .int .i64 i, .int .i64 E, .slice (some ⟨h, 0, none⟩) lw capw] w fun e w' => e = .returned (.bool true) ∧ Below w.heap.size w w' := by
  subst hE
  exact same_any g cap len h capw lw zs ws rest i w hz hw hlen hlw hl hd hi

theorem zz_at (b off cap len : Nat) (zs : List Int) (i m : Nat) (I : Int) (hI : I = (i : Int)) (w : World) (hrow : Row w b off zs) (hlen : len = zs.length) (hl : len ≤ maxLen) (hby : ∀ c ∈ zs, 0 ≤ c ∧ c ≤ 255) (hv : Pl.VEnd (zs.drop i) m) :
    Calls Try.prog 28 #[.slice (some ⟨b, off, none⟩) len cap, .int .i64 I] w fun e w' => e = .returned (.int .i64 ((i + m : Nat) : Int)) ∧ w = w' := by
  subst hI
  exact (zz_any b off cap len zs i m w hrow hlen hl hby hv).mono fun e w' ⟨h1, h2⟩ => ⟨h1, h2.symm⟩

set_option maxHeartbeats 4000000 in
set_option maxRecDepth 100000 in
theorem lawB_arr (n : Nat) (items : List (Pl.JT n)) (b off cap : Nat) (w : World) (hit : ItemsAt w.heap.size w n items b off) (hbB : b < w.heap.size) (hpos : 0 < items.length) (hlen : items.length ≤ 16384) :
    Calls Try.prog 9 #[.slice (some ⟨b, off, none⟩) items.length cap, .bool false] w fun e w' => e = .returned (.bool true) ∧ Below w.heap.size w w' := by
  obtain ⟨len, hln⟩ : ∃ len, len = items.length := ⟨_, rfl⟩
  rw [← hln] at hpos hlen ⊢
  have HI := mkHid hit
  have HL := mkHid hln
  clear hit hln
  have g0 : ¬ (16384 : Int) < (len : Int) := by omega
  go_enter Try.func9, Try.ntmps9
  go_wp2_with fail
  go_loopw [5, 26] (fun bd c wr => ∃ (k : Nat) (bud : Int), k ≤ len ∧ c = .int .i64 k ∧ bd = .int .i64 bud ∧ 0 ≤ bud ∧ bud ≤ 1048576 ∧ Hid (bud + (((items.take k).map (Pl.wt n)).sum : Nat) + 64 * len ≤ 1048576) ∧ Hid (Below w.heap.size w wr)) (fun _ c _ => len - (intOf c).toNat)
  case atStart => exact ⟨0, _, Nat.zero_le _, rfl, rfl, by omega, by omega, by simp [Hid], Below.refl _ _⟩
  case round =>
    obtain ⟨k, bud, hk, rfl, rfl, hb0, hb1, HS, HB⟩ := hrel
    by_cases hlt : k < len
    · have hlt2 : k < items.length := by rw [← HL.out]; exact hlt
      have hlt' : ((k : Nat) : Int) < (len : Int) := by omega
      obtain ⟨c0, c1, c2, c3, f0, f1, f2, f3, hr⟩ := (HI.out.below hbB HB.out) k hlt2
      have CL := mkHid (jvBytes_any n items[k] (.agg #[c0, c1, c2, c3]) w.heap.size wr bud hr HB.out.size (by omega) (by omega))
      have GE := mkHid (Pl.jvB_ge n items[k] bud)
      have HT := mkHid (wt_take n items k hlt2)
      obtain ⟨m, hm⟩ : ∃ m, m = Pl.jvB n items[k] bud := ⟨_, rfl⟩
      rw [← hm] at CL GE
      clear hm hr
      by_cases hneg : m < 0
      · go_wp2_with (go_at_call 25; refine CL.out.mono ?_; rintro e w1 ⟨rfl, hb1⟩)
        go_ret
        exact ⟨rfl, HB.out.trans (hb1.mono HB.out.size)⟩
      · have hge := GE.out (by omega)
        have hm1 := hge.2
        have HN := mkHid (show bud - m + (((items.take (k + 1)).map (Pl.wt n)).sum : Nat) + 64 * len ≤ 1048576 by
          have h1 := HS.out
          have h2 := hge.1
          rw [HT.out]
          push_cast
          omega)
        clear hge
        go_wp2_with (go_at_call 25; refine CL.out.mono ?_; rintro e w1 ⟨rfl, hbx⟩)
        go_roundw
        case rel => exact ⟨k + 1, bud - m, by omega, by go_num, rfl, by omega, by omega, HN, HB.out.trans (hbx.mono HB.out.size)⟩
        case measure => simp [intOf]; omega
    · have hge : ¬ ((k : Nat) : Int) < (len : Int) := by omega
      have HW := mkHid (show (items.map (itemNeed n)).sum ≤ 2228224 by
        have h1 := HS.out
        have h2 := need_items n items
        rw [List.take_of_length_le (by rw [← HL.out]; omega)] at h1
        rw [← HL.out] at h2
        omega)
      clear HS
      obtain ⟨wo, hwo⟩ : ∃ wo : World, wo = wr := ⟨_, rfl⟩
      rw [← hwo] at HB ⊢
      clear hwo
      go_wp2_with fail
      have HI1 := mkHid (HI.out.below hbB (HB.out.trans ((Below.refl _ _).alloc (Nat.le_refl _) (box 2 ⟨#[]⟩ ⟨#[]⟩ (some ⟨b, off, none⟩) len cap) |>.mono HB.out.size)))
      refine (appendValue_nil (n + 1) (cont n 2 items) _ w.heap.size _ (cont_rep n 2 items w.heap.size _ b off len cap HL.out (by unfold maxLen; omega) hbB HI1.out) (by simp; have := HB.out.size; omega) (cont_need n 2 items HW.out)).mono ?_
      rintro e wd ⟨gd, cp, rfl, HRD, hg1, hg2, hbd⟩
      have HBD := mkHid ((HB.out.trans ((Below.refl _ _).alloc (Nat.le_refl _) (box 2 ⟨#[]⟩ ⟨#[]⟩ (some ⟨b, off, none⟩) len cap) |>.mono HB.out.size)).trans (hbd.mono (by simp; have := HB.out.size; omega)))
      clear hbd hg1
      obtain ⟨zs, hzs⟩ : ∃ zs, zs = Pl.encV (n + 1) (cont n 2 items) := ⟨_, rfl⟩
      have HBY := mkHid (encV_bytes (n + 1) (cont n 2 items))
      have HEL := mkHid (Nat.le_trans (encV_need (n + 1) (cont n 2 items)) (cont_need n 2 items HW.out))
      rw [← hzs] at HRD HBY HEL ⊢
      rw [cont_arr] at hzs
      have HZ := mkHid hzs
      clear hzs
      obtain ⟨el, hel⟩ : ∃ el, el = zs.length := ⟨_, rfl⟩
      rw [← hel] at HEL ⊢
      have LE := mkHid hel
      have elm : el ≤ 140737488355328 := HEL.out
      clear hel HEL
      go_wp2_with fail
      go_loopw [11, 49] (fun iv c wr => ∃ (k i : Nat), k ≤ len ∧ c = .int .i64 k ∧ iv = .int .i64 i ∧ i ≤ el ∧ Hid ((∀ h : k < items.length, zs.drop i = Pl.memA n (Pl.encV n) false items[k] ++ Pl.restAt (Pl.memA n (Pl.encV n) false) 93 items (k + 1)) ∧ (items.length ≤ k → i = el)) ∧ Hid (Below wd.heap.size wd wr)) (fun _ c _ => len - (intOf c).toNat)
      case atStart =>
        refine ⟨0, 1, Nat.zero_le _, rfl, rfl, ?_, ⟨fun h => ?_, fun h => ?_⟩, Below.refl _ _⟩
        · have := LE.out; rw [HZ.out] at this; simp at this; omega
        · rw [HZ.out]; exact Pl.rest_start _ _ _ _ h
        · have := HL.out; omega
      case round =>
        obtain ⟨k', i, hk', rfl, rfl, hile, HA, HBR⟩ := hrel
        by_cases hlt2 : k' < len
        · have hk2 : k' < items.length := by rw [← HL.out]; exact hlt2
          have hlt3 : ((k' : Nat) : Int) < (len : Int) := by omega
          have hdr := HA.out.1 hk2
          have HDR := mkHid (show zs.drop i = Pl.encV n items[k'] ++ Pl.restAt (Pl.memA n (Pl.encV n) false) 93 items (k' + 1) from hdr)
          clear hdr
          have HSE := mkHid (Pl.seg_end HDR.out (.inl (encV_ne n _)))
          have HVE := mkHid (show Pl.VEnd (zs.drop i) (Pl.encV n items[k']).length by rw [HDR.out]; exact Pl.vend_any n _ _ (Pl.rest_del _ 93 (.inl rfl) items (k' + 1)))
          obtain ⟨wl, hwl⟩ : ∃ wl, wl = (Pl.encV n items[k']).length := ⟨_, rfl⟩
          have HWL := mkHid hwl
          rw [← hwl] at HVE HSE
          have hwp : 0 < wl := by rw [hwl]; exact List.length_pos_iff.2 (encV_ne n _)
          clear hwl
          have hiw : i + wl ≤ el := by have := HSE.out.1; have := LE.out; omega
          have hlt4 : ((i : Nat) : Int) < (el : Int) := by omega
          have HBW := mkHid (HBD.out.trans (HBR.out.mono HBD.out.size))
          obtain ⟨c0, c1, c2, c3, f0, f1, f2, f3, hr⟩ := (HI.out.below hbB HBW.out) k' hk2
          have HR := mkHid hr
          have HNI := mkHid (show need n items[k'] ≤ 140737488355328 by
            have h1 := item_le n items k' hk2
            have h2 := HW.out
            have h3 : itemNeed n items[k'] = 2 * (Pl.keyOf n items[k']).size + 4 + need n items[k'] := rfl
            omega)
          clear hr
          go_wp2_with fail
          refine (appendValue_nil n items[k'] _ w.heap.size _ HR.out HBW.out.size HNI.out).mono ?_
          rw [← HWL.out]
          rintro e w1 ⟨g1, cp1, rfl, HR1, hg11, hg12, hb1⟩
          have HB1 := mkHid (HBR.out.trans (hb1.mono HBR.out.size))
          have HD1 := mkHid (HRD.out.below hg2 HB1.out)
          clear hb1 hg11
          go_wp2_with fail
          refine (zz_at gd 0 cp el zs i wl _ rfl w1 HD1.out LE.out (by unfold maxLen; omega) HBY.out HVE.out).mono ?_
          rintro e w1' ⟨rfl, rfl⟩
          go_wp2_with fail
          refine (same_at gd cp el g1 cp1 wl zs (Pl.encV n items[k']) _ i _ (by simp) w1 HD1.out HR1.out LE.out HWL.out (by unfold maxLen; omega) HDR.out hiw).mono ?_
          rintro e w2 ⟨rfl, hb2⟩
          have HB2 := mkHid (HB1.out.trans (hb2.mono HB1.out.size))
          have HD2 := mkHid (HRD.out.below hg2 HB2.out)
          clear hb2
          by_cases hlast : k' + 1 < len
          · have hlast' : ((k' : Nat) : Int) + 1 < (len : Int) := by omega
            have hsh := Pl.seg_head (HSE.out.2.trans (Pl.rest_more _ 93 items (k' + 1) (by rw [← HL.out]; exact hlast)))
            have hq := HD2.out (i + wl) hsh.1
            rw [Nat.zero_add, hsh.2.1] at hq
            have hlt5 : ((i : Nat) : Int) + (wl : Int) < (el : Int) := by have := hsh.1; have := LE.out; omega
            have HNX := mkHid hsh.2.2
            clear hsh
            go_wp2_with fail
            go_roundw
            case rel => exact ⟨k' + 1, i + wl + 1, by omega, by go_num, by go_num, by omega, ⟨fun _ => HNX.out, fun h => absurd h (by rw [← HL.out]; omega)⟩, HB2⟩
            case measure => simp [intOf]; omega
          · have hlast' : ¬ ((k' : Nat) : Int) + 1 < (len : Int) := by omega
            have hsh := Pl.seg_head (HSE.out.2.trans (Pl.rest_end _ 93 items (k' + 1) (by rw [← HL.out]; omega)))
            have hq := HD2.out (i + wl) hsh.1
            rw [Nat.zero_add, hsh.2.1] at hq
            have hlt5 : ((i : Nat) : Int) + (wl : Int) < (el : Int) := by have := hsh.1; have := LE.out; omega
            have HNX := mkHid (show i + wl + 1 = el by
              have h1 := congrArg List.length hsh.2.2
              rw [List.length_drop, List.length_nil] at h1
              have h2 := hsh.1
              have h3 := LE.out
              omega)
            clear hsh
            go_wp2_with fail
            go_roundw
            case rel => exact ⟨k' + 1, i + wl + 1, by omega, by go_num, by go_num, by omega, ⟨fun h => absurd h (by rw [← HL.out]; omega), fun _ => HNX.out⟩, HB2⟩
            case measure => simp [intOf]; omega
        · have hge2 : ¬ ((k' : Nat) : Int) < (len : Int) := by omega
          have HIE := mkHid (HA.out.2 (by rw [← HL.out]; omega))
          have hz0 : ((len : Int) == 0) = false := by rw [beq_eq_false_iff_ne]; omega
          clear HA
          go_wp2_with fail
          go_ret
          exact ⟨by rw [HIE.out]; simp, HBD.out.trans (HBR.out.mono HBD.out.size)⟩
end Go.Proofs.Qxb6001451a
