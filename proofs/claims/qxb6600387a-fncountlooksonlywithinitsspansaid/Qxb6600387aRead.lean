/-
  THE WALKS OF THE READER (seat b6600387a): copyBytes, bytes.IndexByte, stringEnd.
-/
import Derived.Test.Qxb6600387aBase
namespace Go.Proofs.Qxb6600387a
open Go.RowKit

set_option maxHeartbeats 1000000 in
/-- A copy of a slice that is not nil. -/
theorem copy_some (ad : Addr) (len cap : Nat) (Z : List Int) (w : World) (v : View w (some ad) len cap Z) (hl : len ≤ 1048576) :
    Calls Try.prog 9 #[.slice (some ad) len cap] w fun e w' => ∃ g, e = .returned (.slice (some ⟨g, 0, none⟩) len len) ∧ Hid (Row w' g 0 Z) ∧ w.heap.size ≤ g ∧ g < w'.heap.size ∧ Below w.heap.size w w' := by
  have q := eql_nil
  have HV := mkHid v
  have HLE := mkHid v.hlen
  clear v
  go_enter Try.func9, Try.ntmps9
  go_wp2_with (at_make; refine mkN _ rfl _ _ rfl len rfl rfl (by omega) ?_)
  intro w1 hown1 hb1 hs1
  have HB1 := mkHid hb1
  clear hb1 q
  by_cases h0 : len = 0
  · subst h0
    have hz : Z = [] := List.eq_nil_of_length_eq_zero HLE.out.symm
    go_wp2_with fail
    refine wp_loop_rounds 1 ?_
    rw [rounds_succ]
    go_wp2_with fail
    go_ret
    exact ⟨w.heap.size, rfl, fun i hi => by rw [hz] at hi; simp at hi, Nat.le_refl _, hs1, HB1.out⟩
  · obtain ⟨b, off, had, hrow⟩ := HV.out.row (by omega)
    obtain rfl := Option.some.inj had
    have HR := mkHid hrow
    have hbl : b < w.heap.size := by
      have := World.block_lt_of_cell? w _ (hrow 0 (by have := HLE.out; omega))
      exact this
    clear had hrow
    go_wp2_with fail
    go_loopw [4] (fun t wr => ∃ k : Nat, k ≤ len ∧ t = .int .i64 k ∧ Hid (Own w.heap.size wr (.slice (some ⟨w.heap.size, 0, none⟩) len len) (Z.take k ++ List.replicate (len - k) 0)) ∧ Hid (Below w.heap.size w wr) ∧ w.heap.size < wr.heap.size) (fun t _ => len - (intOf t).toNat)
    case atStart => exact ⟨0, Nat.zero_le _, rfl, by simpa [Hid] using hown1, HB1, hs1⟩
    case round =>
      obtain ⟨k, hk, rfl, HO, HB, hsr⟩ := hrel
      clear hown1
      by_cases hlt : k < len
      · have hlt' : ((k : Nat) : Int) < (len : Int) := by omega
        have hkz : k < Z.length := by rw [← HLE.out]; exact hlt
        have hll : len = (Z.take k ++ List.replicate (len - k) 0).length := by simp; have := HLE.out; omega
        have q1 := (HR.out.below hbl HB.out) k hkz
        have hst := HO.out.stored hll k (Z.getD k 0)
        rw [copy_step Z len k HLE.out hlt] at hst
        have q2 := hst.2
        have q3 : wr.cell? ⟨w.heap.size, k, none⟩ = some (.int .u8 ((Z.take k ++ List.replicate (len - k) 0).getD k 0)) := by
          have := HO.out.row hll k (by omega)
          rwa [Nat.zero_add] at this
        have HS := mkHid hst.1
        obtain ⟨c, hc⟩ : ∃ c, c = Z.getD k 0 := ⟨_, rfl⟩
        obtain ⟨c', hc'⟩ : ∃ c, c = (Z.take k ++ List.replicate (len - k) 0).getD k 0 := ⟨_, rfl⟩
        rw [← hc] at q1 HS
        rw [← hc'] at q3
        clear hst hll hc hc'
        go_wp2_with fail
        go_roundw
        case rel => exact ⟨k + 1, by omega, by go_num, HS, HB.out.setCell (by simp) _, by simpa using hsr⟩
        case measure => simp [intOf]; omega
      · have hge : ¬ ((k : Nat) : Int) < (len : Int) := by omega
        have hk2 : k = len := by omega
        have HF := mkHid (show Row wr w.heap.size 0 Z by
          have h1 := HO.out
          rw [hk2, Nat.sub_self, List.take_of_length_le (by rw [← HLE.out]; omega)] at h1
          simp at h1
          exact h1.row HLE.out)
        clear hk2
        go_wp2_with fail
        go_ret
        exact ⟨w.heap.size, rfl, HF, Nat.le_refl _, hsr, HB.out⟩

set_option maxHeartbeats 400000 in
theorem copy_nil (w : World) : Calls Try.prog 9 #[.slice none 0 0] w fun e w' => e = .returned (.slice none 0 0) ∧ w = w' := by
  have q := eql_nil
  go_enter Try.func9, Try.ntmps9
  go_wp2_with fail
  go_ret
  exact ⟨rfl, rfl⟩

/-! ### bytes.IndexByte -/

/-- The place of the first quote, or -1. -/
def fq : List Int → Int
  | [] => -1
  | c :: t => if c = 34 then 0 else if fq t = -1 then -1 else fq t + 1

theorem fq_lib : ∀ l : List Int, (∀ c ∈ l, 0 ≤ c ∧ c ≤ 255) → Lib.indexByte (Lib.bytesOf l) 34 = fq l
  | [], _ => rfl
  | c :: t, h => by
    have ih := fq_lib t fun x hx => h x (by simp [hx])
    have hc := h c (by simp)
    have e : (UInt8.ofNat c.toNat == 34) = decide (c = 34) := by
      rw [Bool.eq_iff_iff]
      simp only [beq_iff_eq, decide_eq_true_eq]
      constructor
      · intro h1
        have h2 := congrArg UInt8.toNat h1
        have h3 : (UInt8.ofNat c.toNat).toNat = c.toNat := by
          simp
          omega
        rw [h3] at h2
        have : (34 : UInt8).toNat = 34 := rfl
        omega
      · intro h1; subst h1; rfl
    show Lib.indexByte (UInt8.ofNat c.toNat :: Lib.bytesOf t) 34 = _
    unfold Lib.indexByte fq
    rw [e, ih]
    by_cases h1 : c = 34
    · simp [h1]
    · simp [h1]

theorem fq_spec : ∀ l : List Int, (fq l = -1 ∧ ∀ c ∈ l, c ≠ 34) ∨ ∃ q : Nat, fq l = q ∧ q < l.length ∧ l.getD q 0 = 34 ∧ ∀ t, t < q → l.getD t 0 ≠ 34
  | [] => .inl ⟨rfl, by simp⟩
  | c :: t => by
    by_cases h1 : c = 34
    · exact .inr ⟨0, by simp [fq, h1], by simp, by simp [h1], by omega⟩
    · rcases fq_spec t with ⟨h2, h3⟩ | ⟨q, h2, h3, h4, h5⟩
      · exact .inl ⟨by simp [fq, h1, h2], by intro x hx; simp at hx; rcases hx with rfl | hx; exact h1; exact h3 x hx⟩
      · refine .inr ⟨q + 1, ?_, by simp; omega, by simpa using h4, ?_⟩
        · simp only [fq, if_neg h1]
          rw [if_neg (by omega), h2]
          push_cast
          rfl
        · intro j hj
          cases j with
          | zero => simpa using h1
          | succ j => simpa using h5 j (by omega)

set_option maxHeartbeats 400000 in
set_option maxRecDepth 100000 in
theorem indexByte_any (b off n c : Nat) (xs : List Int) (w : World) (hx : xs.length = n) (hrow : Row w b off xs) (hby : ∀ c ∈ xs, 0 ≤ c ∧ c ≤ 255) :
    Calls Try.prog 28 #[.slice (some ⟨b, off, none⟩) n c, .int .u8 34] w fun e w' => e = .returned (.int .i64 (fq xs)) ∧ w = w' := by
  have hc : ∀ i, i < n → w.cell? ⟨b, off + i, none⟩ = some (.int .u8 (xs.getD i 0)) := fun i hi => hrow i (by omega)
  have HF := mkHid (fq_lib xs hby)
  go_enter Try.func28, Try.ntmps28
  go_wp2_with fail
  rw [run_callFunc_extern Try.func29 (by kernel_rfl) (by kernel_rfl) (by kernel_rfl) (e := Extern.BytealgIndexByte.indexByte) (by kernel_rfl), Lib.run_indexByteSlice w b off n c xs hx hc 34]
  simp only [Result.andThen]
  rw [Oper.upon_value]
  go_wp2
  go_ret
  exact ⟨ret_int HF.out, rfl⟩
end Go.Proofs.Qxb6600387a
