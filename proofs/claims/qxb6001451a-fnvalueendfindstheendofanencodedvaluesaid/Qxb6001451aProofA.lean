/-
  LAW A (seat b6001451a): 'Rows.FnValueEndFindsTheEndOfAnEncodedValueSaid'.
-/
import Derived.Test.Qxb6001451aRows
import Derived.Test.Qxb6001451aOpen
import Derived.WalkKit
import Derived.ProofKit
import Derived.OpenShut
import Derived.ShutString
import Derived.ChangeOld
import Derived.Below
namespace Go.Proofs.Qxb6001451a.lawA
open Go.ChangeShapes Go.WideShapes Go.ChangeAt Go.RowKit
set_option linter.unusedVariables false

theorem own : ownKnob Try.prog.godebug = none := by kernel_rfl
theorem laidOut : laidOutB Try.prog = true := by kernel_rfl

theorem walk (a0 : Option Addr) (len0 cap0 : Nat) (Z0 : List Int) (n : Nat) (x : Pl.JT n) (u : Value) (a2 : Option Addr) (len2 cap2 : Nat) (Z2 : List Int) (w : World) (v0 : View w a0 len0 cap0 Z0) (hr : Rep w.heap.size w n x u) (v2 : View w a2 len2 cap2 Z2) :
    Calls Try.prog 8 #[.slice a0 len0 cap0, u, .slice a2 len2 cap2] w fun e w' => e = .returned (.bool true) ∧ Below w.heap.size w w' := by
  cases n with
  | zero => exact hr.elim
  | succ n =>
    have hr0 := hr
    obtain ⟨a, cap, rfl, _⟩ := hr
    by_cases h1 : 1048576 < len0 ∨ 1048576 < len2
    · exact lawA_long a0 len0 cap0 _ _ _ _ a2 len2 cap2 w v0.hmax v2.hmax h1
    have h0 : len0 ≤ 1048576 := by omega
    have h2 : len2 ≤ 1048576 := by omega
    by_cases hj : Pl.jvB (n + 1) x (1048576 - len0 - len2) < 0
    · exact lawA_over a0 len0 cap0 (n + 1) x _ _ _ _ a2 len2 cap2 w h0 h2 hr0 hj
    have hj' : 0 ≤ Pl.jvB (n + 1) x (1048576 - len0 - len2) := by omega
    by_cases hk : (Pl.nodeOf x).kind = 1 ∨ (Pl.nodeOf x).kind = 2 ∨ (Pl.nodeOf x).kind = 3
    · refine lawA_main a0 len0 cap0 Z0 (n + 1) x _ _ _ a _ cap a2 len2 cap2 Z2 w h0 h2 v0 v2 hr0 hj' (Pl.vend_encV n x Z2 ?_) ?_
      · rcases hk with h | h | h
        · exact .inl h
        · exact .inr (.inl h)
        · exact .inr (.inr (.inl h))
      · rcases hk with h | h | h
        · exact .inl h
        · exact .inr (.inl h)
        · exact .inr (.inr (.inl h))
    have k1 : (Pl.nodeOf x).kind ≠ 1 := fun h => hk (.inl h)
    have k2 : (Pl.nodeOf x).kind ≠ 2 := fun h => hk (.inr (.inl h))
    have k3 : (Pl.nodeOf x).kind ≠ 3 := fun h => hk (.inr (.inr h))
    by_cases hl : len2 = 0
    · have hz : Z2 = [] := List.eq_nil_of_length_eq_zero (by rw [← v2.hlen]; exact hl)
      exact lawA_main a0 len0 cap0 Z0 (n + 1) x _ _ _ a _ cap a2 len2 cap2 Z2 w h0 h2 v0 v2 hr0 hj' (Pl.vend_encV n x Z2 (.inr (.inr (.inr (.inl hz))))) (.inr (.inr (.inr (.inl ⟨k1, k2, k3, hl⟩))))
    have hl' : 0 < len2 := by omega
    cases hd : Pl.isDel (Z2.getD 0 0) with
    | false => exact lawA_skip a0 len0 cap0 (n + 1) x _ _ _ a _ cap a2 len2 cap2 Z2 w h0 h2 v2 hr0 hj' k1 k2 k3 hl' hd
    | true =>
      have hc : ∃ c t, Z2 = c :: t ∧ Pl.isDel c = true := by
        cases Z2 with
        | nil => have := v2.hlen; simp at this; omega
        | cons c t => exact ⟨c, t, rfl, by simpa using hd⟩
      exact lawA_main a0 len0 cap0 Z0 (n + 1) x _ _ _ a _ cap a2 len2 cap2 Z2 w h0 h2 v0 v2 hr0 hj' (Pl.vend_encV n x Z2 (.inr (.inr (.inr (.inr hc))))) (.inr (.inr (.inr (.inr ⟨k1, k2, k3, hl', hd⟩))))

set_option maxRecDepth 100000 in
theorem lifted (os : Os) (started : os.Started) (H : Type) (enc : TypeId × Value → H) :
    ReturnsInHanded {} Try.checked os 8 .any (Rows.fnValueEndFindsTheEndOfAnEncodedValueSpec.pre6 enc Try.prog Try.f8 Rows.fnValueEndFindsTheEndOfAnEncodedValueRow.domain false) (Rows.fnValueEndFindsTheEndOfAnEncodedValueSpec.post enc Try.prog Try.f8 false true false false) := by
  refine returnsInHanded_of_change (C := Try.checked) own started (by kernel_rfl) Try.func8
    (ChangeSpec.witness6 (enc := enc) (C := Try.checked) false ⟨#[], #[.slice none 0 0, .agg #[.int .i64 0, .string ⟨#[]⟩, .string ⟨#[]⟩, .slice none 0 0], .slice none 0 0], []⟩ 8 (by kernel_rfl) (by kernel_rfl) (by kernel_rfl) (by kernel_rfl)) ?_
  intro W base args ds gs before hval0 hW hcnd _
  have hval : ∀ (j : Nat) t v, Try.f8.params[j]? = some t → args[j]? = some v → Value.okWide Try.prog W .any base t v := hval0
  have hW' := hW
  obtain ⟨p, q, hA0, hV, rfl, hfz, hnd⟩ := hW
  have hA : DataW.TrodAll enc Try.prog W 0 (fun _ => true) true Try.f8.params.toList args.toList ds p := hA0
  rw [Try.params8] at hA hval
  obtain ⟨v0, vs0, d0, ds0, p0, q0, hargs, rfl, rfl, h0, r0⟩ := trodAll_cons hA
  obtain ⟨v1, vs1, d1, ds1, p1, q1, rfl, rfl, rfl, h1, r1⟩ := trodAll_cons r0
  obtain ⟨v2, vs2, d2, ds2, p2, q2, rfl, rfl, rfl, h2, r2⟩ := trodAll_cons r1
  obtain ⟨rfl, rfl, rfl⟩ := trodAll_nil r2
  obtain rfl : args = #[v0, v1, v2] := by cases args; simp_all
  obtain ⟨rfl, rfl⟩ := trodVars_none hV
  obtain ⟨a0, len0, cap0, rfl⟩ := okWide_slice Try.underlying50 (hval 0 50 v0 rfl rfl)
  have k0 := h0
  have lt0 : ∀ x ∈ p0, x.block < W.heap.size := by obtain ⟨m, hm⟩ := k0; exact DataW.trod_lt m _ _ _ hm
  obtain ⟨Z0, w0⟩ := view_of_trod h0
  obtain ⟨cs, rfl, hsz⟩ := okWide_struct Try.underlying53 (hval 1 53 v1 rfl rfl)
  have k1 := h1
  have lt1 : ∀ x ∈ p1, x.block < W.heap.size := by obtain ⟨m, hm⟩ := k1; exact DataW.trod_lt m _ _ _ hm
  obtain ⟨n, x, w1⟩ : ∃ n x, Rep W.heap.size W n x (.agg cs) := by
    obtain ⟨fuel, hf⟩ := h1
    obtain ⟨x, hx⟩ := rep_of_trod fuel _ _ hf
    exact ⟨fuel, x, by simpa [Value.cells] using hx⟩
  obtain ⟨a2, len2, cap2, rfl⟩ := okWide_slice Try.underlying50 (hval 2 50 v2 rfl rfl)
  have k2 := h2
  have lt2 : ∀ x ∈ p2, x.block < W.heap.size := by obtain ⟨m, hm⟩ := k2; exact DataW.trod_lt m _ _ _ hm
  obtain ⟨Z2, w2⟩ := view_of_trod h2
  clear hA0 hval0
  refine (walk a0 len0 cap0 Z0 n x (.agg cs) a2 len2 cap2 Z2 W w0 w1 w2).mono fun e W' ⟨he, bel⟩ => ?_
  subst he
  exact ⟨_, rfl, _, _, _, [], _, [], hW', trodAll_mk1 (shut_bool Try.underlying4 _), (trodAll_cons_mk (Below.trod laidOut (by kernel_rfl) (of_decide_eq_true (by kernel_rfl)) k0 bel lt0) (trodAll_cons_mk (Below.trod laidOut (by kernel_rfl) (of_decide_eq_true (by kernel_rfl)) k1 bel lt1) (trodAll_cons_mk (Below.trod laidOut (by kernel_rfl) (of_decide_eq_true (by kernel_rfl)) k2 bel lt2) trodAll_mk0))), rfl, bel.frame _, fun h => by cases h⟩

theorem over : Rows.fnValueEndFindsTheEndOfAnEncodedValueRow.holds Try.pinned (OpenSpec.ofChange Rows.fnValueEndFindsTheEndOfAnEncodedValueSpec) :=
  OpenClaim.holds_of_wide 8 Try.f8 rfl rfl rfl rfl rfl rfl rfl ⟨rfl, rfl, rfl, rfl, rfl⟩ rfl rfl rfl rfl rfl (by kernel_rfl) Try.func8 (by kernel_rfl)
    (of_decide_eq_true (by kernel_rfl)) (by unfold Func.isWrapper; first | (rw [if_pos (by decide +kernel)]; kernel_rfl) | (rw [if_neg (by decide +kernel)]; exact ⟨rfl, rfl⟩))
    (fun os started H enc _ => lifted os started H enc)

/-- THE STATEMENT. -/
theorem proved : Rows.FnValueEndFindsTheEndOfAnEncodedValueSaid := over
end Go.Proofs.Qxb6001451a.lawA
