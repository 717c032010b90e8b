/-
  FROM A READING TO WHAT THE WALKS ARE TOLD (seat b6001451a): slices of bytes, JSON values.
-/
import Derived.Test.Qxb6001451aWalkA
import Derived.ProofKit
import Derived.OpenShut
import Derived.ChangeOld
namespace Go.Proofs.Qxb6001451a
open Go.ChangeShapes Go.WideShapes Go.ChangeAt Go.RowKit

theorem cells53 : Try.prog.cellsOf 53 = 4 := by kernel_rfl
theorem cells3 : Try.prog.cellsOf 3 = 1 := by kernel_rfl
theorem cells9 : Try.prog.cellsOf 9 = 1 := by kernel_rfl
theorem cells51 : Try.prog.cellsOf 51 = 1 := by kernel_rfl
theorem cells5 : Try.prog.cellsOf 5 = 1 := by kernel_rfl

/-- One list for all. -/
theorem list_of {α : Type} {p : Nat → α → Prop} : ∀ len : Nat, (∀ i, i < len → ∃ x, p i x) → ∃ l : List α, l.length = len ∧ ∀ (i : Nat) (h : i < l.length), p i l[i]
  | 0, _ => ⟨[], rfl, fun i h => by simp at h⟩
  | len + 1, h => by
    obtain ⟨l, hl, hp⟩ := list_of len fun i hi => h i (by omega)
    obtain ⟨x, hx⟩ := h len (by omega)
    refine ⟨l ++ [x], by simp [hl], fun i hi => ?_⟩
    by_cases hi' : i < l.length
    · rw [List.getElem_append_left hi']; exact hp i hi'
    · have : i = len := by simp at hi; omega
      subst this
      rw [List.getElem_append_right (by omega)]
      simpa [hl] using hx

theorem four_of {α : Type} (l : List α) (h : l.length = 4) : ∃ a b c d, l = [a, b, c, d] := by
  match l, h with
  | [a, b, c, d], _ => exact ⟨a, b, c, d, rfl⟩

section
variable {H : Type} {enc : TypeId × Value → H} {W : World}

theorem under53 : ∃ f0 f1 f2 f3, Try.prog.underlying 53 = some (.struct #[f0, f1, f2, f3]) ∧ f0.type = 3 ∧ f0.offset = 0 ∧ f1.type = 9 ∧ f1.offset = 1 ∧ f2.type = 9 ∧ f2.offset = 2 ∧ f3.type = 51 ∧ f3.offset = 3 :=
  ⟨_, _, _, _, Try.underlying53, rfl, rfl, rfl, rfl, rfl, rfl, rfl, rfl⟩

/-- What reads as a JSON value is one. -/
theorem rep_of_trod : ∀ (fuel : Nat) (cs : List Value) (d : DataW H × List MemPlace), DataW.trod enc Try.prog W 0 (fun _ => true) true fuel 53 cs = some d → ∃ x : Pl.JT fuel, Rep W.heap.size W fuel x (.agg cs.toArray)
  | 0, cs, d, h => by simp [DataW.trod] at h
  | f + 1, cs, d, h => by
    obtain ⟨f0, f1, f2, f3, hu, t0, o0, t1, o1, t2, o2, t3, o3⟩ := under53
    obtain ⟨xs, n, hn, _, hl, hxl, hf⟩ := DataW.trod_struct hu h
    obtain rfl : f = n := by omega
    rw [cells53] at hl
    obtain ⟨c0, c1, c2, c3, rfl⟩ := four_of cs hl
    have hx4 : xs.length = 4 := by simpa using hxl
    obtain ⟨y0, y1, y2, y3, rfl⟩ := four_of xs hx4
    have e0 := hf 0 f0 rfl
    have e1 := hf 1 f1 rfl
    have e2 := hf 2 f2 rfl
    have e3 := hf 3 f3 rfl
    rw [t0, o0, cells3] at e0
    rw [t1, o1, cells9] at e1
    rw [t2, o2, cells9] at e2
    rw [t3, o3, cells51] at e3
    simp at e0 e1 e2 e3
    obtain ⟨kind, hk, _, _⟩ := DataW.trod_int Try.underlying3 e0
    obtain ⟨key, hkey, _, hks⟩ := DataW.trod_string Try.underlying9 e1
    obtain ⟨text, htext, _, hts⟩ := DataW.trod_string Try.underlying9 e2
    simp at hk hkey htext
    subst hk hkey htext
    rcases DataW.trod_slice Try.underlying51 e3 with ⟨hs, _⟩ | ⟨a, len, cap, elems, rest, n', hn', hs, _, _, hlc, hcm, hel, hget, _, _⟩
    · simp at hs
      subst hs
      exact ⟨(⟨kind, key, text, []⟩ : Pl.Jn (Pl.JT f)), none, 0, rfl, hks, hts, by show (0 : Nat) ≤ maxLen; omega, fun h => absurd rfl h⟩
    · simp at hs
      subst hs
      have hitem : ∀ i, i < len → ∃ x : Pl.JT f, ∃ c0 c1 c2 c3, W.cell? (a.add (i * 4 + 0)) = some c0 ∧ W.cell? (a.add (i * 4 + 1)) = some c1 ∧ W.cell? (a.add (i * 4 + 2)) = some c2 ∧ W.cell? (a.add (i * 4 + 3)) = some c3 ∧ Rep W.heap.size W f x (.agg #[c0, c1, c2, c3]) := by
        intro i hi
        have hg := hget i hi
        rw [List.getElem?_eq_getElem (by omega), cells53] at hg
        obtain ⟨cs', h1, h2⟩ := Option.bind_eq_some_iff.1 hg
        obtain ⟨_, hl4, hcell⟩ := World.cells?_some h1
        obtain ⟨c0, c1, c2, c3, rfl⟩ := four_of cs' hl4
        obtain ⟨x, hx⟩ := rep_of_trod f _ _ (DataW.trod_le (show n' ≤ f by omega) h2)
        have ha : ∀ j, (a.add (i * 4)).add j = a.add (i * 4 + j) := fun j => by
          unfold Addr.add
          by_cases h1 : i * 4 = 0 <;> by_cases h2 : j = 0 <;> simp [h1, h2, Nat.add_assoc]
        refine ⟨x, c0, c1, c2, c3, ?_, ?_, ?_, ?_, hx⟩
        · rw [← ha]; exact hcell 0 (by omega)
        · rw [← ha]; exact hcell 1 (by omega)
        · rw [← ha]; exact hcell 2 (by omega)
        · rw [← ha]; exact hcell 3 (by omega)
      obtain ⟨items, hil, hit⟩ := list_of len hitem
      subst hil
      refine ⟨(⟨kind, key, text, items⟩ : Pl.Jn (Pl.JT f)), some a, cap, rfl, hks, hts, by show items.length ≤ maxLen; omega, fun hne => ?_⟩
      have hne' : items.length ≠ 0 := hne
      obtain ⟨b, off, spot⟩ := a
      have hs : spot = none := by
        obtain ⟨c0, _, _, _, h0, _⟩ := hit 0 (by omega)
        simpa [Addr.add] using World.cell?_spot h0
      subst hs
      refine ⟨b, off, rfl, ?_, fun i hi => ?_⟩
      · obtain ⟨c0, _, _, _, h0, _⟩ := hit 0 (by omega)
        have := World.block_lt_of_cell? W _ h0
        simpa [Addr.add_lit] using this
      · obtain ⟨c0, c1, c2, c3, h0, h1, h2, h3, hr⟩ := hit i hi
        simp only [Addr.add_lit] at h0 h1 h2 h3
        exact ⟨c0, c1, c2, c3, by simpa using h0, by simpa [Nat.add_assoc] using h1, by simpa [Nat.add_assoc] using h2, by simpa [Nat.add_assoc] using h3, hr⟩

/-- A slice of bytes that can be read. -/
theorem view_of_trod {a : Option Addr} {len cap : Nat} {d : DataW H} {ps : List MemPlace} (h : DataW.Trod enc Try.prog W 0 (fun _ => true) true 50 (.slice a len cap) d ps) : ∃ Z, View W a len cap Z := by
  obtain ⟨fuel, hf⟩ := h
  rcases open_ints Try.underlying50 Try.underlying5 cells5 hf with ⟨hcs, _⟩ | ⟨x, l, c, zs, hcs, _, hl, hm, hz, _, hcell, hwz⟩
  · simp [Value.cells] at hcs
    obtain ⟨rfl, rfl, rfl⟩ := hcs
    exact ⟨[], rfl, Nat.zero_le _, fun _ => ⟨rfl, rfl⟩, fun ad h => (by cases h), (by simp)⟩
  · simp [Value.cells] at hcs
    obtain ⟨rfl, rfl, rfl⟩ := hcs
    have hz' : zs.length = cap := by simpa using hz
    refine ⟨zs.take len, by simp; omega, by omega, fun h => (by cases h), ?_, ?_⟩
    · intro ad had j u hu
      obtain rfl := Option.some.inj had
      have hj : j < len := by
        have := (List.getElem?_eq_some_iff.1 hu).1
        simp at this; omega
      rw [hcell j (by omega), ← hu]
      simp [List.getD, hj, show j < zs.length by omega]
    · intro c hc
      have := hwz c (List.mem_of_mem_take hc)
      have h2 := bounds_u8 this
      exact h2
end
end Go.Proofs.Qxb6001451a
