/-
  THE WALKS OF THE WRITER (seat b6001451a), part 5: appendValue at objects; at whatever value.
-/
import Derived.Test.Qxb6001451aApp4
namespace Go.Proofs.Qxb6001451a
open Go.RowKit

set_option maxHeartbeats 2000000 in
theorem av_obj (n : Nat) (ih : AvAt n) (base : Nat) (v : Value) (bs : List Int) (w : World) (key text : ByteArray) (items : List (Pl.JT n)) (b off cap : Nat) (hown : Own base w v bs) (hb : base ≤ w.heap.size)
    (hls : items.length ≤ maxLen) (hit : ItemsAt base w n items b off) (hbB : b < base) (hsz : bs.length + 4 + (items.map (itemNeed n)).sum ≤ 140737488355328) :
    Calls Try.prog 27 #[v, .agg #[.int .i64 3, .string key, .string text, .slice (some ⟨b, off, none⟩) items.length cap]] w fun e w' =>
      ∃ v', e = .returned v' ∧ Own base w' v' (bs ++ (123 :: (Pl.joinA (Pl.memA n (Pl.encV n) true) true items ++ [125]))) ∧ Kp base w w' := by
  unfold maxLen at hls
  obtain ⟨len, hlen⟩ : ∃ len, len = items.length := ⟨_, rfl⟩
  rw [← hlen] at hls ⊢
  have HL := mkHid hlen
  have HI := mkHid hit
  have IH := mkHid ih
  have HZ := mkHid hsz
  have hsz1 : bs.length + 4 ≤ 140737488355328 := by omega
  clear hlen hit ih hsz
  go_enter Try.func27, Try.ntmps27
  go_wp2_with (at_builtin; refine app1' _ rfl (.tmp 44) (.tmp 45) rfl base _ bs 123 rfl (hown.alloc _) _ rfl (by simp) (by omega) (by simp; omega) ?_)
  intro v1 w1 hown1 hk1
  have HK1 := mkHid (show Kp base (w.alloc (box 3 key text (some ⟨b, off, none⟩) len cap)) w1 from hk1)
  have q3 := box_kept HK1.out
  clear hk1 hown
  go_wp2_with fail
  go_loopw [0, 50] (fun t c wr => ∃ k : Nat, k ≤ len ∧ c = .int .i64 k ∧ Own base wr t (bs ++ [123] ++ Pl.joinA (Pl.memA n (Pl.encV n) true) true (items.take k)) ∧ Hid (Kp base (w.alloc (box 3 key text (some ⟨b, off, none⟩) len cap)) wr)) (fun _ c _ => len - (intOf c).toNat)
  case atStart => exact ⟨0, Nat.zero_le _, rfl, by simpa [Pl.joinA] using hown1, HK1⟩
  case round =>
    obtain ⟨k, hk, rfl, hown, HKR⟩ := hrel
    clear hown1 q3
    have hwr : w.heap.size + 1 ≤ wr.heap.size := by have := HKR.out.size; simpa using this
    have hbr : base ≤ wr.heap.size := by omega
    by_cases hlt : k < len
    · have hlt2 : k < items.length := by rw [← HL.out]; exact hlt
      have HJ := mkHid (join_at n (Pl.memA n (Pl.encV n) true) items k hlt2)
      have HRM := mkHid (show bs.length + (Pl.joinA (Pl.memA n (Pl.encV n) true) true (items.take k)).length + 8 + need n items[k] + 2 * (Pl.keyOf n items[k]).size ≤ 140737488355328 by
        have h1 := HZ.out
        have h2 := room_at n items true k hlt2
        have h3 : itemNeed n items[k] = 2 * (Pl.keyOf n items[k]).size + 4 + need n items[k] := rfl
        omega)
      have HEL := mkHid (show (Pl.encS (Pl.byt (Pl.keyOf n items[k]))).length ≤ 2 * (Pl.keyOf n items[k]).size + 2 by
        have := Pl.encS_len (Pl.byt (Pl.keyOf n items[k])); rw [Pl.byt_len] at this; exact this)
      have hlt' : ((k : Nat) : Int) < (len : Int) := by omega
      have hbase : Below base w wr := (((Kp.refl base w).alloc _).trans HKR.out).below hb
      by_cases h0 : k = 0
      · subst h0
        obtain ⟨c0, c1, c2, c3, f0, f1, f2, f3, hr⟩ := (HI.out.below hbB hbase) 0 hlt2
        obtain ⟨rfl, _⟩ := Rep.key n _ _ _ _ _ hr
        have q3 := box_kept HKR.out
        simp only [Nat.zero_mul, Nat.add_zero] at f0 f1 f2 f3
        have HB := mkHid hbase
        clear hr hbase
        go_wp2_with (first | (go_at_call 29; refine (appendString_any base _ _ (Pl.keyOf n items[0]) wr hown hbr (by have := HRM.out; simp only [List.length_append, List.length_cons, List.length_nil]; omega)).mono ?_; rintro e w2 ⟨v2, rfl, hown2, hk2⟩) | (at_builtin; refine app1' _ rfl (.tmp 66) (.tmp 67) rfl base _ _ 58 rfl hown2 _ rfl rfl (by have := HRM.out; have := HEL.out; simp only [List.length_append, List.length_cons, List.length_nil]; omega) (Nat.le_trans hbr hk2.size) ?_))
        intro v3 w3 hown3 hk3
        have HK3 := mkHid ((HKR.out.trans hk2).trans hk3)
        have q3 := box_kept HK3.out
        have hw3 : w.heap.size + 1 ≤ w3.heap.size := by have := HK3.out.size; simpa using this
        have hb3 : base ≤ w3.heap.size := by omega
        obtain ⟨c0, c1, c2, c3, f0, f1, f2, f3, hr⟩ := (HI.out.below hbB ((HB.out.trans (hk2.below hbr)).trans (hk3.below (Nat.le_trans hbr hk2.size)))) 0 hlt2
        simp only [Nat.zero_mul, Nat.add_zero] at f0 f1 f2 f3
        have HR := mkHid hr
        have HO := mkHid hown3
        clear hr hk2 hk3 hown hown2 hown3
        go_wp2_with (go_at_call 27; refine (IH.out items[0] (.agg #[c0, c1, c2, c3]) base _ _ w3 HR.out HO.out hb3 (by have h := HRM.out; have := HEL.out; simp only [List.take_zero, List.length_append, List.length_cons, List.length_nil] at h ⊢; omega)).mono ?_; rintro e w' ⟨v4, rfl, hown4, hk4⟩)
        go_roundw
        case rel => exact ⟨1, by omega, by go_num, by rw [HJ.out]; simpa [Pl.memA] using hown4, HK3.out.trans hk4⟩
        case measure => simp [intOf]; omega
      · have hpos : (0 : Int) < (k : Int) := by omega
        go_wp2_with (at_builtin; refine app1 _ rfl (.tmp 55) (.tmp 56) rfl base _ _ 44 rfl hown rfl (by have := HRM.out; simp only [List.length_append, List.length_cons, List.length_nil]; omega) hbr ?_)
        intro vx wx hownx hkx
        have HKX := mkHid (HKR.out.trans hkx)
        have q3 := box_kept HKX.out
        have hwx : w.heap.size + 1 ≤ wx.heap.size := by have := HKX.out.size; simpa using this
        have hbx : base ≤ wx.heap.size := by omega
        have HB := mkHid (hbase.trans (hkx.below hbr))
        obtain ⟨c0, c1, c2, c3, f0, f1, f2, f3, hr⟩ := (HI.out.below hbB HB.out) k hlt2
        obtain ⟨rfl, _⟩ := Rep.key n _ _ _ _ _ hr
        clear hr hbase hkx hown
        go_wp2_with (first | (go_at_call 29; refine (appendString_any base _ _ (Pl.keyOf n items[k]) wx hownx hbx (by have := HRM.out; simp only [List.length_append, List.length_cons, List.length_nil]; omega)).mono ?_; rintro e w2 ⟨v2, rfl, hown2, hk2⟩) | (at_builtin; refine app1' _ rfl (.tmp 66) (.tmp 67) rfl base _ _ 58 rfl hown2 _ rfl rfl (by have := HRM.out; have := HEL.out; simp only [List.length_append, List.length_cons, List.length_nil]; omega) (Nat.le_trans hbx hk2.size) ?_))
        intro v3 w3 hown3 hk3
        have HK3 := mkHid ((HKX.out.trans hk2).trans hk3)
        have q3 := box_kept HK3.out
        have hw3 : w.heap.size + 1 ≤ w3.heap.size := by have := HK3.out.size; simpa using this
        have hb3 : base ≤ w3.heap.size := by omega
        obtain ⟨c0, c1, c2, c3, f0, f1, f2, f3, hr⟩ := (HI.out.below hbB ((HB.out.trans (hk2.below hbx)).trans (hk3.below (Nat.le_trans hbx hk2.size)))) k hlt2
        have HR := mkHid hr
        have HO := mkHid hown3
        clear hr hk2 hk3 hownx hown2 hown3
        go_wp2_with (go_at_call 27; refine (IH.out items[k] (.agg #[c0, c1, c2, c3]) base _ _ w3 HR.out HO.out hb3 (by have := HRM.out; have := HEL.out; simp only [List.length_append, List.length_cons, List.length_nil]; omega)).mono ?_; rintro e w' ⟨v4, rfl, hown4, hk4⟩)
        go_roundw
        case rel => exact ⟨k + 1, by omega, by go_num, by rw [HJ.out, if_neg h0]; simpa [Pl.memA] using hown4, HK3.out.trans hk4⟩
        case measure => simp [intOf]; omega
    · have hge : ¬ ((k : Nat) : Int) < (len : Int) := by omega
      have EK := mkHid (show items.take k = items from List.take_of_length_le (by rw [← HL.out]; omega))
      have HRM := mkHid (room_end n items true k)
      go_wp2_with (at_builtin; refine app1 _ rfl (.tmp 77) (.tmp 78) rfl base _ _ 125 rfl hown rfl (by have := HZ.out; have := HRM.out; simp only [List.length_append, List.length_cons, List.length_nil]; omega) hbr ?_)
      intro v2 w2 hown2 hk2
      go_wp2_with fail
      go_ret
      refine ⟨_, rfl, ?_, (((Kp.refl base w).alloc _).trans HKR.out).trans hk2⟩
      rw [EK.out] at hown2
      simpa using hown2

set_option maxHeartbeats 1000000 in
/-- An array, an object without members, whatever the slice's address. -/
theorem av_bare2 (base : Nat) (v : Value) (bs : List Int) (w : World) (key text : ByteArray) (a : Option Addr) (cap : Nat) (hown : Own base w v bs) (hb : base ≤ w.heap.size) (hsz : bs.length + 4 ≤ 140737488355328) :
    Calls Try.prog 27 #[v, .agg #[.int .i64 2, .string key, .string text, .slice a 0 cap]] w fun e w' => ∃ v', e = .returned v' ∧ Own base w' v' (bs ++ [91, 93]) ∧ Kp base w w' := by
  go_enter Try.func27, Try.ntmps27
  go_wp2_with (at_builtin; refine app1' _ rfl (.tmp 17) (.tmp 18) rfl base _ bs 91 rfl (hown.alloc _) _ rfl (by simp) (by omega) (by simp; omega) ?_)
  intro v1 w1 hown1 hk1
  have HK1 := mkHid (show Kp base (w.alloc (box 2 key text a 0 cap)) w1 from hk1)
  have q3 := box_kept HK1.out
  have hw1 : w.heap.size + 1 ≤ w1.heap.size := by have := HK1.out.size; simpa using this
  clear hk1 hown
  go_wp2_with fail
  refine wp_loop_rounds 1 ?_
  rw [rounds_succ]
  go_wp2_with (at_builtin; refine app1 _ rfl (.tmp 39) (.tmp 40) rfl base _ _ 93 rfl hown1 rfl (by simp only [List.length_append, List.length_cons, List.length_nil]; omega) (by omega) ?_)
  intro v2 w2 hown2 hk2
  go_wp2_with fail
  go_ret
  exact ⟨_, rfl, by simpa using hown2, (((Kp.refl base w).alloc _).trans HK1.out).trans hk2⟩

set_option maxHeartbeats 1000000 in
theorem av_bare3 (base : Nat) (v : Value) (bs : List Int) (w : World) (key text : ByteArray) (a : Option Addr) (cap : Nat) (hown : Own base w v bs) (hb : base ≤ w.heap.size) (hsz : bs.length + 4 ≤ 140737488355328) :
    Calls Try.prog 27 #[v, .agg #[.int .i64 3, .string key, .string text, .slice a 0 cap]] w fun e w' => ∃ v', e = .returned v' ∧ Own base w' v' (bs ++ [123, 125]) ∧ Kp base w w' := by
  go_enter Try.func27, Try.ntmps27
  go_wp2_with (at_builtin; refine app1' _ rfl (.tmp 44) (.tmp 45) rfl base _ bs 123 rfl (hown.alloc _) _ rfl (by simp) (by omega) (by simp; omega) ?_)
  intro v1 w1 hown1 hk1
  have HK1 := mkHid (show Kp base (w.alloc (box 3 key text a 0 cap)) w1 from hk1)
  have q3 := box_kept HK1.out
  have hw1 : w.heap.size + 1 ≤ w1.heap.size := by have := HK1.out.size; simpa using this
  clear hk1 hown
  go_wp2_with fail
  refine wp_loop_rounds 1 ?_
  rw [rounds_succ]
  go_wp2_with (at_builtin; refine app1 _ rfl (.tmp 77) (.tmp 78) rfl base _ _ 125 rfl hown1 rfl (by simp only [List.length_append, List.length_cons, List.length_nil]; omega) (by omega) ?_)
  intro v2 w2 hown2 hk2
  go_wp2_with fail
  go_ret
  exact ⟨_, rfl, by simpa using hown2, (((Kp.refl base w).alloc _).trans HK1.out).trans hk2⟩

theorem appendValue_any : ∀ n, AvAt n
  | 0 => fun x _ _ _ _ _ h => h.elim
  | n + 1 => by
    intro x u base v bs w hr hown hb hsz
    obtain ⟨a, cap, rfl, hks, hts, hls, hit⟩ := hr
    have e : Pl.encV (n + 1) x = Pl.encJ n (Pl.encV n) (Pl.nodeOf x) := rfl
    have en : need (n + 1) x = 2 * (Pl.nodeOf x).text.size + 4 + ((Pl.nodeOf x).items.map (itemNeed n)).sum := rfl
    rw [e]
    rw [en] at hsz
    generalize Pl.nodeOf x = t at *
    obtain ⟨kind, key, text, items⟩ := t
    dsimp only at *
    unfold Pl.encJ
    dsimp only
    by_cases k1 : kind = 1
    · subst k1
      rw [if_pos rfl]
      exact av_str base v bs w key text a items.length cap hown hb (by omega)
    rw [if_neg k1]
    by_cases k2 : kind = 2
    · subst k2
      rw [if_pos rfl]
      by_cases hz : items.length = 0
      · have hz' : items = [] := List.eq_nil_of_length_eq_zero hz
        subst hz'
        exact av_bare2 base v bs w key text a cap hown hb (by omega)
      · obtain ⟨b, off, rfl, hbB, hc⟩ := hit hz
        exact av_arr n (appendValue_any n) base v bs w key text items b off cap hown hb hls hc hbB (by omega)
    rw [if_neg k2]
    by_cases k3 : kind = 3
    · subst k3
      rw [if_pos rfl]
      by_cases hz : items.length = 0
      · have hz' : items = [] := List.eq_nil_of_length_eq_zero hz
        subst hz'
        exact av_bare3 base v bs w key text a cap hown hb (by omega)
      · obtain ⟨b, off, rfl, hbB, hc⟩ := hit hz
        exact av_obj n (appendValue_any n) base v bs w key text items b off cap hown hb hls hc hbB (by omega)
    rw [if_neg k3]
    exact av_num base v bs w kind key text a items.length cap hown hb (by omega) (by simpa using k1) (by simpa using k2) (by simpa using k3)
end Go.Proofs.Qxb6001451a
