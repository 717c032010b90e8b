/-
  THE WALKS OF THE WRITER (seat b6001451a), part 4: appendValue at arrays and objects.
-/
import Derived.Test.Qxb6001451aApp3
namespace Go.Proofs.Qxb6001451a
open Go.RowKit

theorem join_at (n : Nat) (F : Pl.JT n → List Int) (items : List (Pl.JT n)) (k : Nat) (h : k < items.length) :
    Pl.joinA F true (items.take (k + 1)) = Pl.joinA F true (items.take k) ++ (if k = 0 then [] else [44]) ++ F items[k] := by
  rw [List.take_succ_eq_append_getElem h, Pl.joinA_append]
  congr 2
  have : items.take k = [] ↔ k = 0 := by
    rw [List.take_eq_nil_iff]
    constructor
    · rintro (rfl | rfl)
      · rfl
      · simp at h
    · exact .inl
  by_cases hk : k = 0
  · simp [hk]
  · rw [if_neg hk, if_neg]
    simp [this, hk]

/-- The room, at item k. -/
theorem room_at (n : Nat) (items : List (Pl.JT n)) (obj : Bool) (k : Nat) (h : k < items.length) :
    (Pl.joinA (Pl.memA n (Pl.encV n) obj) true (items.take k)).length + itemNeed n items[k] ≤ (items.map (itemNeed n)).sum := by
  have h1 := join_need n (encV_need n) obj (items.take k)
  have h2 := sum_take (itemNeed n) items k h
  omega
theorem room_end (n : Nat) (items : List (Pl.JT n)) (obj : Bool) (k : Nat) :
    (Pl.joinA (Pl.memA n (Pl.encV n) obj) true (items.take k)).length ≤ (items.map (itemNeed n)).sum := by
  have h1 := join_need n (encV_need n) obj (items.take k)
  have h2 := sum_take_le (itemNeed n) items k
  omega

set_option maxHeartbeats 2000000 in
theorem av_arr (n : Nat) (ih : AvAt n) (base : Nat) (v : Value) (bs : List Int) (w : World) (key text : ByteArray) (items : List (Pl.JT n)) (b off cap : Nat) (hown : Own base w v bs) (hb : base ≤ w.heap.size)
    (hls : items.length ≤ maxLen) (hit : ItemsAt base w n items b off) (hbB : b < base) (hsz : bs.length + 4 + (items.map (itemNeed n)).sum ≤ 140737488355328) :
    Calls Try.prog 27 #[v, .agg #[.int .i64 2, .string key, .string text, .slice (some ⟨b, off, none⟩) items.length cap]] w fun e w' =>
      ∃ v', e = .returned v' ∧ Own base w' v' (bs ++ (91 :: (Pl.joinA (Pl.memA n (Pl.encV n) false) true items ++ [93]))) ∧ Kp base w w' := by
  unfold maxLen at hls
  obtain ⟨len, hlen⟩ : ∃ len, len = items.length := ⟨_, rfl⟩
  rw [← hlen] at hls ⊢
  have HL := mkHid hlen
  have HI := mkHid hit
  have IH := mkHid ih
  have HZ := mkHid hsz
  have hsz1 : bs.length + 4 ≤ 140737488355328 := by omega
  clear hlen hit ih hsz
  go_enter Try.func27, Try.ntmps27
  go_wp2_with (at_builtin; refine app1' _ rfl (.tmp 17) (.tmp 18) rfl base _ bs 91 rfl (hown.alloc _) _ rfl (by simp) (by omega) (by simp; omega) ?_)
  intro v1 w1 hown1 hk1
  have HK1 := mkHid (show Kp base (w.alloc (box 2 key text (some ⟨b, off, none⟩) len cap)) w1 from hk1)
  have q3 := box_kept HK1.out
  clear hk1 hown
  go_wp2_with fail
  go_loopw [0, 23] (fun t c wr => ∃ k : Nat, k ≤ len ∧ c = .int .i64 k ∧ Own base wr t (bs ++ [91] ++ Pl.joinA (Pl.memA n (Pl.encV n) false) true (items.take k)) ∧ Hid (Kp base (w.alloc (box 2 key text (some ⟨b, off, none⟩) len cap)) wr)) (fun _ c _ => len - (intOf c).toNat)
  case atStart => exact ⟨0, Nat.zero_le _, rfl, by simpa [Pl.joinA] using hown1, HK1⟩
  case round =>
    obtain ⟨k, hk, rfl, hown, HKR⟩ := hrel
    clear hown1 q3
    have hwr : w.heap.size + 1 ≤ wr.heap.size := by have := HKR.out.size; simpa using this
    have hbr : base ≤ wr.heap.size := by omega
    by_cases hlt : k < len
    · have hlt2 : k < items.length := by rw [← HL.out]; exact hlt
      have HJ := mkHid (join_at n (Pl.memA n (Pl.encV n) false) items k hlt2)
      have HRM := mkHid (show bs.length + (Pl.joinA (Pl.memA n (Pl.encV n) false) true (items.take k)).length + 4 + need n items[k] ≤ 140737488355328 by
        have h1 := HZ.out
        have h2 := room_at n items false k hlt2
        have h3 : itemNeed n items[k] = 2 * (Pl.keyOf n items[k]).size + 4 + need n items[k] := rfl
        omega)
      have hlt' : ((k : Nat) : Int) < (len : Int) := by omega
      have hbase : Below base w wr := (((Kp.refl base w).alloc _).trans HKR.out).below hb
      by_cases h0 : k = 0
      · subst h0
        obtain ⟨c0, c1, c2, c3, f0, f1, f2, f3, hr⟩ := (HI.out.below hbB hbase) 0 hlt2
        have q3 := box_kept HKR.out
        have HR := mkHid hr
        simp only [Nat.zero_mul, Nat.add_zero] at f0 f1 f2 f3
        clear hr
        go_wp2_with (go_at_call 27; refine (IH.out items[0] (.agg #[c0, c1, c2, c3]) base _ _ wr HR.out hown hbr (by have := HRM.out; simp only [List.length_append, List.length_cons, List.length_nil]; omega)).mono ?_; rintro e w' ⟨v3, rfl, hown3, hk3⟩)
        go_roundw
        case rel => exact ⟨1, by omega, by go_num, by rw [HJ.out]; simpa [Pl.memA] using hown3, HKR.out.trans hk3⟩
        case measure => simp [intOf]; omega
      · have hpos : (0 : Int) < (k : Int) := by omega
        go_wp2_with (at_builtin; refine app1 _ rfl (.tmp 28) (.tmp 29) rfl base _ _ 44 rfl hown rfl (by have := HRM.out; simp only [List.length_append, List.length_cons, List.length_nil]; omega) hbr ?_)
        intro v2 w2 hown2 hk2
        have HK2 := mkHid (HKR.out.trans hk2)
        have q3 := box_kept HK2.out
        have hw2 : w.heap.size + 1 ≤ w2.heap.size := by have := HK2.out.size; simpa using this
        have hb2 : base ≤ w2.heap.size := by omega
        obtain ⟨c0, c1, c2, c3, f0, f1, f2, f3, hr⟩ := (HI.out.below hbB (hbase.trans (hk2.below hbr))) k hlt2
        have HR := mkHid hr
        have HO := mkHid hown2
        clear hr hk2 hown hown2 hbase
        go_wp2_with (go_at_call 27; refine (IH.out items[k] (.agg #[c0, c1, c2, c3]) base _ _ w2 HR.out HO.out hb2 (by have := HRM.out; simp only [List.length_append, List.length_cons, List.length_nil]; omega)).mono ?_; rintro e w' ⟨v3, rfl, hown3, hk3⟩)
        go_roundw
        case rel => exact ⟨k + 1, by omega, by go_num, by rw [HJ.out, if_neg h0]; simpa [Pl.memA] using hown3, HK2.out.trans hk3⟩
        case measure => simp [intOf]; omega
    · have hge : ¬ ((k : Nat) : Int) < (len : Int) := by omega
      have EK := mkHid (show items.take k = items from List.take_of_length_le (by rw [← HL.out]; omega))
      have HRM := mkHid (room_end n items false k)
      go_wp2_with (at_builtin; refine app1 _ rfl (.tmp 39) (.tmp 40) rfl base _ _ 93 rfl hown rfl (by have := HZ.out; have := HRM.out; simp only [List.length_append, List.length_cons, List.length_nil]; omega) hbr ?_)
      intro v2 w2 hown2 hk2
      go_wp2_with fail
      go_ret
      refine ⟨_, rfl, ?_, (((Kp.refl base w).alloc _).trans HKR.out).trans hk2⟩
      rw [EK.out] at hown2
      simpa using hown2
end Go.Proofs.Qxb6001451a
