/-
  LAW B (seat b6001451a): 'Rows.FnValueEndWalksTheMembersOfAContainerSaid'.
-/
import Derived.Test.Qxb6001451aRows
import Derived.Test.Qxb6001451aOpen
import Derived.Test.Qxb6001451aWalkB2
import Derived.WalkKit
import Derived.ProofKit
import Derived.OpenShut
import Derived.ShutString
import Derived.ChangeOld
import Derived.Below
namespace Go.Proofs.Qxb6001451a.lawB
open Go.ChangeShapes Go.WideShapes Go.ChangeAt Go.RowKit
set_option linter.unusedVariables false

theorem own : ownKnob Try.prog.godebug = none := by kernel_rfl
theorem laidOut : laidOutB Try.prog = true := by kernel_rfl

theorem bare_rep (kind : Int) (a : Option Addr) (cap B : Nat) (w : World) : Rep B w 1 (cont 0 kind []) (.agg #[.int .i64 kind, .string ⟨#[]⟩, .string ⟨#[]⟩, .slice a 0 cap]) :=
  ⟨a, cap, rfl, Nat.zero_le _, Nat.zero_le _, Nat.zero_le _, fun h => absurd rfl h⟩

set_option maxHeartbeats 1000000 in
set_option maxRecDepth 100000 in
theorem bare_arr (a : Option Addr) (cap : Nat) (w : World) :
    Calls Try.prog 9 #[.slice a 0 cap, .bool false] w fun e w' => e = .returned (.bool true) ∧ Below w.heap.size w w' := by
  go_enter Try.func9, Try.ntmps9
  go_wp2_with fail
  refine wp_loop_rounds 1 ?_
  rw [rounds_succ]
  go_wp2_with fail
  refine (appendValue_nil 1 (cont 0 2 []) _ w.heap.size _ (bare_rep 2 a cap _ _) (by simp) (cont_need 0 2 [] (by simp))).mono ?_
  rw [cont_arr]
  rintro e wd ⟨gd, cp, rfl, HRD, hg1, hg2, hbd⟩
  have q1 : wd.cell? ⟨gd, 1, none⟩ = some (.int .u8 93) := HRD.out 1 (by simp [Pl.joinA])
  have HB := mkHid (((Below.refl _ _).alloc (Nat.le_refl _) _).trans (hbd.mono (by simp)))
  simp only [Pl.joinA, List.nil_append, List.length_cons, List.length_nil]
  clear HRD hbd hg1 hg2
  go_wp2_with fail
  refine wp_loop_rounds 1 ?_
  rw [rounds_succ]
  go_wp2_with fail
  go_ret
  exact ⟨rfl, HB.out⟩

set_option maxHeartbeats 1000000 in
set_option maxRecDepth 100000 in
theorem bare_obj (a : Option Addr) (cap : Nat) (w : World) :
    Calls Try.prog 9 #[.slice a 0 cap, .bool true] w fun e w' => e = .returned (.bool true) ∧ Below w.heap.size w w' := by
  go_enter Try.func9, Try.ntmps9
  go_wp2_with fail
  refine wp_loop_rounds 1 ?_
  rw [rounds_succ]
  go_wp2_with fail
  refine (appendValue_nil 1 (cont 0 3 []) _ w.heap.size _ (bare_rep 3 a cap _ _) (by simp) (cont_need 0 3 [] (by simp))).mono ?_
  rw [cont_obj]
  rintro e wd ⟨gd, cp, rfl, HRD, hg1, hg2, hbd⟩
  have q1 : wd.cell? ⟨gd, 1, none⟩ = some (.int .u8 125) := HRD.out 1 (by simp [Pl.joinA])
  have HB := mkHid (((Below.refl _ _).alloc (Nat.le_refl _) _).trans (hbd.mono (by simp)))
  simp only [Pl.joinA, List.nil_append, List.length_cons, List.length_nil]
  clear HRD hbd hg1 hg2
  go_wp2_with fail
  refine wp_loop_rounds 1 ?_
  rw [rounds_succ]
  go_wp2_with fail
  go_ret
  exact ⟨rfl, HB.out⟩

/-- What the walk is told of a slice of JSON values that came in. -/
def Items (w : World) (a : Option Addr) (len : Nat) : Prop := len ≤ maxLen ∧ (len = 0 ∨ ∃ n items b off, a = some ⟨b, off, none⟩ ∧ len = items.length ∧ b < w.heap.size ∧ ItemsAt w.heap.size w n items b off)

theorem walk (a : Option Addr) (len cap : Nat) (obj : Bool) (w : World) (h : Items w a len) :
    Calls Try.prog 9 #[.slice a len cap, .bool obj] w fun e w' => e = .returned (.bool true) ∧ Below w.heap.size w w' := by
  obtain ⟨hm, h⟩ := h
  by_cases hl : 16384 < len
  · exact lawB_long a len cap obj w hl hm
  by_cases hz : len = 0
  · subst hz
    cases obj with
    | false => exact bare_arr a cap w
    | true => exact bare_obj a cap w
  · rcases h with h | ⟨n, items, b, off, rfl, rfl, hb, hit⟩
    · exact absurd h hz
    · cases obj with
      | false => exact lawB_arr n items b off cap w hit hb (by omega) (by omega)
      | true => exact lawB_obj n items b off cap w hit hb (by omega) (by omega)

theorem items_of_trod {H : Type} {enc : TypeId × Value → H} {W : World} {a : Option Addr} {len cap : Nat} {d : DataW H} {ps : List MemPlace} (h : DataW.Trod enc Try.prog W 0 (fun _ => true) true 51 (.slice a len cap) d ps) : Items W a len := by
  obtain ⟨fuel, hf⟩ := h
  have hf' : DataW.trod enc Try.prog W 0 (fun _ => true) true fuel 51 [.slice a len cap] = some (d, ps) := by simpa [Value.cells] using hf
  -- a JSON value whose items they are
  have hx : DataW.trod enc Try.prog W 0 (fun _ => true) true (fuel + 1 + 1) 53 [.int .i64 0, .string ⟨#[]⟩, .string ⟨#[]⟩, .slice a len cap] = some (.agg [.lit (.int .i64 0), .lit (.string []), .lit (.string []), d], ps) := by
    have h0 : DataW.trod enc Try.prog W 0 (fun _ => true) true (fuel + 1) 3 [.int .i64 0] = some (.lit (.int .i64 0), []) := by simp [DataW.trod, Try.underlying3]; decide
    have h1 : DataW.trod enc Try.prog W 0 (fun _ => true) true (fuel + 1) 9 [.string ⟨#[]⟩] = some (.lit (.string []), []) := by
      simp [DataW.trod, Try.underlying9]
      exact Nat.zero_le _
    have h3 := DataW.trod_le (show fuel ≤ fuel + 1 by omega) hf'
    rw [DataW.trod_step]
    unfold DataW.trodStep
    simp only [Try.underlying53]
    rw [if_pos (by rw [cells53]; rfl)]
    simp [cells3, cells9, cells51, h0, h1, h3]
  obtain ⟨x, a', cap', hv, _, _, hlm, hit⟩ := rep_of_trod _ _ _ hx
  simp at hv
  obtain ⟨_, _, _, rfl, hle, rfl⟩ := hv
  refine ⟨by rw [hle]; exact hlm, ?_⟩
  by_cases hz : len = 0
  · exact .inl hz
  · obtain ⟨b, off, rfl, hb, hc⟩ := hit (by omega)
    exact .inr ⟨_, _, b, off, rfl, hle, hb, hc⟩

set_option maxRecDepth 100000 in
theorem lifted (os : Os) (started : os.Started) (H : Type) (enc : TypeId × Value → H) :
    ReturnsInHanded {} Try.checked os 9 .any (Rows.fnValueEndWalksTheMembersOfAContainerSpec.pre6 enc Try.prog Try.f9 Rows.fnValueEndWalksTheMembersOfAContainerRow.domain false) (Rows.fnValueEndWalksTheMembersOfAContainerSpec.post enc Try.prog Try.f9 false true false false) := by
  refine returnsInHanded_of_change (C := Try.checked) own started (by kernel_rfl) Try.func9
    (ChangeSpec.witness6 (enc := enc) (C := Try.checked) false ⟨#[], #[.slice none 0 0, .bool false], []⟩ 8 (by kernel_rfl) (by kernel_rfl) (by kernel_rfl) (by kernel_rfl)) ?_
  intro W base args ds gs before hval0 hW hcnd _
  have hval : ∀ (j : Nat) t v, Try.f9.params[j]? = some t → args[j]? = some v → Value.okWide Try.prog W .any base t v := hval0
  have hW' := hW
  obtain ⟨p, q, hA0, hV, rfl, hfz, hnd⟩ := hW
  have hA : DataW.TrodAll enc Try.prog W 0 (fun _ => true) true Try.f9.params.toList args.toList ds p := hA0
  rw [Try.params9] at hA hval
  obtain ⟨v0, vs0, d0, ds0, p0, q0, hargs, rfl, rfl, h0, r0⟩ := trodAll_cons hA
  obtain ⟨v1, vs1, d1, ds1, p1, q1, rfl, rfl, rfl, h1, r1⟩ := trodAll_cons r0
  obtain ⟨rfl, rfl, rfl⟩ := trodAll_nil r1
  obtain rfl : args = #[v0, v1] := by cases args; simp_all
  obtain ⟨rfl, rfl⟩ := trodVars_none hV
  obtain ⟨a0, len0, cap0, rfl⟩ := okWide_slice Try.underlying51 (hval 0 51 v0 rfl rfl)
  have k0 := h0
  have lt0 : ∀ x ∈ p0, x.block < W.heap.size := by obtain ⟨m, hm⟩ := k0; exact DataW.trod_lt m _ _ _ hm
  have w0 := items_of_trod h0
  obtain ⟨x1, rfl, rfl, rfl⟩ := open_bool Try.underlying4 (hval 1 4 v1 rfl rfl) h1
  clear hA0 hval0
  refine (walk a0 len0 cap0 x1 W w0).mono fun e W' ⟨he, bel⟩ => ?_
  subst he
  exact ⟨_, rfl, _, _, _, [], _, [], hW', trodAll_mk1 (shut_bool Try.underlying4 _), (trodAll_cons_mk (Below.trod laidOut (by kernel_rfl) (of_decide_eq_true (by kernel_rfl)) k0 bel lt0) (trodAll_cons_mk (shut_bool Try.underlying4 _) trodAll_mk0)), rfl, bel.frame _, fun h => by cases h⟩

theorem over : Rows.fnValueEndWalksTheMembersOfAContainerRow.holds Try.pinned (OpenSpec.ofChange Rows.fnValueEndWalksTheMembersOfAContainerSpec) :=
  OpenClaim.holds_of_wide 9 Try.f9 rfl rfl rfl rfl rfl rfl rfl ⟨rfl, rfl, rfl, rfl, rfl⟩ rfl rfl rfl rfl rfl (by kernel_rfl) Try.func9 (by kernel_rfl)
    (of_decide_eq_true (by kernel_rfl)) (by unfold Func.isWrapper; first | (rw [if_pos (by decide +kernel)]; kernel_rfl) | (rw [if_neg (by decide +kernel)]; exact ⟨rfl, rfl⟩))
    (fun os started H enc _ => lifted os started H enc)

/-- THE STATEMENT. -/
theorem proved : Rows.FnValueEndWalksTheMembersOfAContainerSaid := over
end Go.Proofs.Qxb6001451a.lawB
