/-
  WHAT THE TWO LAWS' WALKS SHARE (seat b6001451a): slices that came in, slices that the call makes.
-/
import Derived.Test.Qxb6001451aApp5
namespace Go.Proofs.Qxb6001451a
open Go.RowKit

/-- What a walk is told of a slice of bytes that came in: Z are its elements. -/
structure View (w : World) (a : Option Addr) (len cap : Nat) (Z : List Int) : Prop where
  hlen : len = Z.length
  hmax : len ≤ maxLen
  hnil : a = none → len = 0 ∧ cap = 0
  hcell : ∀ ad, a = some ad → ∀ j u, (Z.map (Value.int .u8))[j]? = some u → w.cell? (ad.add j) = some u
  hbyte : ∀ c ∈ Z, 0 ≤ c ∧ c ≤ 255

theorem View.below {w w' : World} {a : Option Addr} {len cap : Nat} {Z : List Int} (h : View w a len cap Z) (hb : Below w.heap.size w w') : View w' a len cap Z :=
  ⟨h.hlen, h.hmax, h.hnil, fun ad ha j u hu => cell_later hb (h.hcell ad ha j u hu), h.hbyte⟩

theorem View.first {w : World} {a : Option Addr} {len cap : Nat} {Z : List Int} (h : View w a len cap Z) (hl : 0 < len) : ∃ b off, a = some ⟨b, off, none⟩ ∧ w.cell? ⟨b, off, none⟩ = some (.int .u8 (Z.getD 0 0)) := by
  cases a with
  | none => have := (h.hnil rfl).1; omega
  | some ad =>
    have hz : 0 < Z.length := by rw [← h.hlen]; exact hl
    have hc := h.hcell ad rfl 0 (.int .u8 (Z.getD 0 0)) (by simp [List.getD, hz])
    obtain ⟨b, off, spot⟩ := ad
    have hs : spot = none := by simpa [Addr.add] using World.cell?_spot hc
    subst hs
    exact ⟨b, off, rfl, by simpa [Addr.add] using hc⟩

theorem Own.shape {base : Nat} {w : World} {v : Value} {bs : List Int} (h : Own base w v bs) (hne : bs ≠ []) : ∃ g cap, v = .slice (some ⟨g, 0, none⟩) bs.length cap ∧ base ≤ g ∧ g < w.heap.size ∧ Row w g 0 bs := by
  rcases h.2 with ⟨_, h0⟩ | ⟨g, cap, cur, rfl, hb, hh, _⟩
  · exact absurd (List.eq_nil_of_length_eq_zero h0) hne
  · refine ⟨g, cap, rfl, hb, lt_of_block hh, fun i hi => ?_⟩
    have := World.ownsRow.cellAt h i (by simpa using hi)
    rw [Nat.zero_add, this]
    simp [List.getD, hi]

/-- 'append' WITHIN THE CAPACITY, of bytes. -/
theorem appF (w : World) {ops : Array Oper} {rest : List Oper} {o : Oper} {a : Act} {Q : Exit → Act → World → Prop} (hgd : o.guard = none) (s x : Operand)
    (ho : o.op = .call { callee := .builtin .append, args := #[s, x], argTypes := #[50, 50] })
    (base g k cap : Nat) (bs news : List Int) (hs : a.eval s = .slice (some ⟨g, 0, none⟩) k cap) (hk : k = bs.length) (hown : Own base w (.slice (some ⟨g, 0, none⟩) k cap) bs)
    (ao : Option Addr) (m c : Nat) (hx : a.eval x = .slice ao m c) (hm : m = news.length) (hnone : ao = none → m = 0 ∧ c = 0)
    (hc : ∀ ad, ao = some ad → ∀ j u, (news.map (Value.int .u8))[j]? = some u → w.cell? (ad.add j) = some u) (b1 : k + m ≤ cap)
    (h : ∀ w', Own base w' (.slice (some ⟨g, 0, none⟩) (k + m) cap) (bs ++ news) → Kp base w w' → wpList Try.prog ops Q rest (a.put o.dst (.slice (some ⟨g, 0, none⟩) (k + m) cap)) w') :
    wpList Try.prog ops Q (o :: rest) a w := by
  obtain ⟨i0, hi, hz0, hz1, hz2⟩ := info_parts info5
  unfold Own at hown
  rw [← hk] at hown
  refine wpList_append_fits_any w hgd s x 50 ho base 5 i0 1 Try.underlying50 hi hz1 g k cap _ hs hown ao m c (news.map (Value.int .u8)) hx (by simp [hm]) hnone hc (ints_oneCell _ _) b1 ?_
  intro w' h1 h2
  refine h w' ?_ (Kp.grown hown h2)
  unfold Own
  rw [List.length_append, ← hk, ← hm, List.map_append]
  exact h1

/-- 'make([]byte, 0, n)'. -/
theorem mk0 (w : World) {ops : Array Oper} {rest : List Oper} {o : Oper} {a : Act} {Q : Exit → Act → World → Prop} (hgd : o.guard = none) (l c : Operand)
    (ho : o.op = Op.makeSlice 50 l c) (C : Int) (n : Nat) (hl : a.eval l = .int .i64 0) (hc : a.eval c = .int .i64 C) (hC : C = (n : Int)) (hn : n ≤ 281474976710656)
    (h : ∀ w', Own w.heap.size w' (.slice (some ⟨w.heap.size, 0, none⟩) 0 n) [] → Below w.heap.size w w' → w.heap.size < w'.heap.size → wpList Try.prog ops Q rest (a.put o.dst (.slice (some ⟨w.heap.size, 0, none⟩) 0 n)) w') :
    wpList Try.prog ops Q (o :: rest) a w := by
  obtain ⟨i0, hi, hz0, hz1, hz2⟩ := info_parts info5
  refine wpList_make_own w hgd l c 50 ho w.heap.size 5 i0 (.int .u8 0) 1 Try.underlying50 hi hz0 hz1 .i64 .i64 C n hl hc hC (by rw [hz2]; omega) (by unfold maxLen; omega) (Nat.le_refl _) ?_
  intro w' h1 h2
  exact h w' h1 ((Below.refl _ _).grown h2 (Nat.le_refl _) (by simp)) (World.ownsRow.lt h1 _ rfl).2

theorem Rep.mono {B B' : Nat} (hB : B ≤ B') {w : World} : ∀ (n : Nat) (x : Pl.JT n) (v : Value), Rep B w n x v → Rep B' w n x v
  | 0, _, _, h => h.elim
  | n + 1, x, v, h => by
    obtain ⟨a, cap, hv, h1, h2, h3, h4⟩ := h
    refine ⟨a, cap, hv, h1, h2, h3, fun hne => ?_⟩
    obtain ⟨b, off, ha, hbB, hc⟩ := h4 hne
    refine ⟨b, off, ha, by omega, fun i hi => ?_⟩
    obtain ⟨c0, c1, c2, c3, e0, e1, e2, e3, hr⟩ := hc i hi
    exact ⟨c0, c1, c2, c3, e0, e1, e2, e3, Rep.mono hB n _ _ hr⟩

theorem encS_ne (l : List Int) : Pl.encS l ≠ [] := by simp [Pl.encS]
theorem encV_ne : ∀ (n : Nat) (x : Pl.JT n), Pl.encV n x ≠ []
  | 0, x => nomatch x
  | n + 1, x => by
    show Pl.encJ n (Pl.encV n) (Pl.nodeOf x) ≠ []
    unfold Pl.encJ
    split
    · exact encS_ne _
    · split
      · simp
      · split
        · simp
        · exact Pl.encN_ne _

/-- appendValue(nil, v). -/
theorem appendValue_nil (n : Nat) (x : Pl.JT n) (u : Value) (B : Nat) (w : World) (hr : Rep B w n x u) (hB : B ≤ w.heap.size) (hsz : need n x ≤ 140737488355328) :
    Calls Try.prog 27 #[.slice none 0 0, u] w fun e w' => ∃ g cp, e = .returned (.slice (some ⟨g, 0, none⟩) (Pl.encV n x).length cp) ∧ Hid (Row w' g 0 (Pl.encV n x)) ∧ w.heap.size ≤ g ∧ g < w'.heap.size ∧ Below w.heap.size w w' := by
  refine (appendValue_any n x u w.heap.size (.slice none 0 0) [] w (Rep.mono hB n x u hr) (Own.nil _ _) (Nat.le_refl _) (by simpa using hsz)).mono ?_
  rintro e w' ⟨v', rfl, hown, hk⟩
  obtain ⟨g, cp, rfl, h1, h2, h3⟩ := Own.shape hown (by simpa using encV_ne n x)
  exact ⟨g, cp, rfl, h3, h1, h2, hk.below (Nat.le_refl _)⟩

theorem enc_bytes (s : ByteArray) : ∀ c ∈ Pl.byt s, 0 ≤ c ∧ c ≤ 255 := by
  intro c hc
  obtain ⟨u, _, rfl⟩ := List.mem_map.1 hc
  have := UInt8.toNat_lt u
  omega
theorem encS_bytes (l : List Int) (h : ∀ c ∈ l, 0 ≤ c ∧ c ≤ 255) : ∀ c ∈ Pl.encS l, 0 ≤ c ∧ c ≤ 255 := by
  intro c hc
  simp only [Pl.encS, List.mem_cons, List.mem_append, List.mem_nil_iff, or_false, Pl.escS, List.mem_flatMap] at hc
  rcases hc with rfl | ⟨d, hd, hc⟩ | rfl
  · omega
  · split at hc
    · simp at hc
      rcases hc with rfl | rfl
      · omega
      · exact h _ hd
    · simp at hc; subst hc; exact h _ hd
  · omega
theorem encN_bytes (l : List Int) (h : ∀ c ∈ l, 0 ≤ c ∧ c ≤ 255) : ∀ c ∈ Pl.encN l, 0 ≤ c ∧ c ≤ 255 := by
  intro c hc
  unfold Pl.encN at hc
  split at hc
  · simp at hc; omega
  · exact h _ (List.mem_filter.1 hc).1
theorem join_bytes {α : Type} (f : α → List Int) : ∀ (l : List α) (first : Bool), (∀ x ∈ l, ∀ c ∈ f x, 0 ≤ c ∧ c ≤ 255) → ∀ c ∈ Pl.joinA f first l, 0 ≤ c ∧ c ≤ 255
  | [], _, _ => by simp [Pl.joinA]
  | x :: t, first, h => by
    intro c hc
    simp only [Pl.joinA, List.mem_append] at hc
    rcases hc with (hc | hc) | hc
    · split at hc
      · simp at hc
      · simp at hc; omega
    · exact h x (by simp) c hc
    · exact join_bytes f t false (fun y hy => h y (by simp [hy])) c hc
theorem encV_bytes : ∀ (n : Nat) (x : Pl.JT n), ∀ c ∈ Pl.encV n x, 0 ≤ c ∧ c ≤ 255
  | 0, x => nomatch x
  | n + 1, x => by
    have hm : ∀ obj, ∀ y ∈ (Pl.nodeOf x).items, ∀ c ∈ Pl.memA n (Pl.encV n) obj y, 0 ≤ c ∧ c ≤ 255 := by
      intro obj y _ c hc
      unfold Pl.memA at hc
      split at hc
      · simp only [List.mem_append, List.mem_cons, List.mem_nil_iff, or_false] at hc
        rcases hc with (hc | rfl) | hc
        · exact encS_bytes _ (enc_bytes _) c hc
        · omega
        · exact encV_bytes n y c hc
      · exact encV_bytes n y c hc
    show ∀ c ∈ Pl.encJ n (Pl.encV n) (Pl.nodeOf x), 0 ≤ c ∧ c ≤ 255
    intro c hc
    unfold Pl.encJ at hc
    split at hc
    · exact encS_bytes _ (enc_bytes _) c hc
    · split at hc
      · simp only [List.mem_cons, List.mem_append, List.mem_nil_iff, or_false] at hc
        rcases hc with rfl | hc | rfl
        · omega
        · exact join_bytes _ _ _ (hm false) c hc
        · omega
      · split at hc
        · simp only [List.mem_cons, List.mem_append, List.mem_nil_iff, or_false] at hc
          rcases hc with rfl | hc | rfl
          · omega
          · exact join_bytes _ _ _ (hm true) c hc
          · omega
        · exact encN_bytes _ (enc_bytes _) c hc
end Go.Proofs.Qxb6001451a
