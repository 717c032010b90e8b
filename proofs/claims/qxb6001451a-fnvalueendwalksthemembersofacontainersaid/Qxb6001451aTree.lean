/-
  THE TREE IN MEMORY (seat b6001451a), and the guard's count: jvBytes.
-/
import Derived.Test.Qxb6001451aApp2
namespace Go.Proofs.Qxb6001451a
open Go.RowKit

/-- The struct value v is the JSON value t, and all that it leads to lies below block B. -/
def Rep (B : Nat) (w : World) : (n : Nat) → Pl.JT n → Value → Prop
  | 0, _, _ => False
  | n + 1, t, v => ∃ (a : Option Addr) (cap : Nat), v = .agg #[.int .i64 (Pl.nodeOf t).kind, .string (Pl.nodeOf t).key, .string (Pl.nodeOf t).text, .slice a (Pl.nodeOf t).items.length cap] ∧
      (Pl.nodeOf t).key.size ≤ maxLen ∧ (Pl.nodeOf t).text.size ≤ maxLen ∧ (Pl.nodeOf t).items.length ≤ maxLen ∧
      ((Pl.nodeOf t).items.length ≠ 0 → ∃ b off, a = some ⟨b, off, none⟩ ∧ b < B ∧ ∀ (i : Nat) (h : i < (Pl.nodeOf t).items.length), ∃ c0 c1 c2 c3,
        w.cell? ⟨b, off + i * 4, none⟩ = some c0 ∧ w.cell? ⟨b, off + i * 4 + 1, none⟩ = some c1 ∧ w.cell? ⟨b, off + i * 4 + 2, none⟩ = some c2 ∧ w.cell? ⟨b, off + i * 4 + 3, none⟩ = some c3 ∧
        Rep B w n (Pl.nodeOf t).items[i] (.agg #[c0, c1, c2, c3]))

theorem Rep.below {B : Nat} {w w' : World} (hb : Below B w w') : ∀ (n : Nat) (t : Pl.JT n) (v : Value), Rep B w n t v → Rep B w' n t v
  | 0, _, _, h => h.elim
  | n + 1, t, v, h => by
    obtain ⟨a, cap, hv, h1, h2, h3, h4⟩ := h
    refine ⟨a, cap, hv, h1, h2, h3, fun hne => ?_⟩
    obtain ⟨b, off, ha, hbB, hc⟩ := h4 hne
    refine ⟨b, off, ha, hbB, fun i hi => ?_⟩
    obtain ⟨c0, c1, c2, c3, e0, e1, e2, e3, hr⟩ := hc i hi
    exact ⟨c0, c1, c2, c3, (hb.cell (p := ⟨b, _, none⟩) hbB).trans e0, (hb.cell (p := ⟨b, _, none⟩) hbB).trans e1, (hb.cell (p := ⟨b, _, none⟩) hbB).trans e2, (hb.cell (p := ⟨b, _, none⟩) hbB).trans e3, Rep.below hb n _ _ hr⟩

theorem jvL_end {α : Type} (f : α → Int → Int) (l : List α) (k : Nat) (h : l.length ≤ k) (acc b : Int) : Pl.jvL f (l.drop k) acc b = acc := by
  rw [List.drop_eq_nil_of_le h]; rfl
theorem jvL_neg {α : Type} (f : α → Int → Int) (l : List α) (k : Nat) (h : k < l.length) (acc b : Int) (hm : f l[k] (b - acc) < 0) : Pl.jvL f (l.drop k) acc b = -1 := by
  rw [List.drop_eq_getElem_cons h]; simp only [Pl.jvL]; rw [if_pos hm]
theorem jvL_go {α : Type} (f : α → Int → Int) (l : List α) (k : Nat) (h : k < l.length) (acc b : Int) (hm : ¬ f l[k] (b - acc) < 0) : Pl.jvL f (l.drop k) acc b = Pl.jvL f (l.drop (k + 1)) (acc + f l[k] (b - acc)) b := by
  rw [List.drop_eq_getElem_cons h]; simp only [Pl.jvL]; rw [if_neg hm]

/-- The box in which a struct parameter is laid. -/
def box (kind : Int) (key text : ByteArray) (a : Option Addr) (len cap : Nat) : Obj := .cells #[.int .i64 kind, .string key, .string text, .slice a len cap] 53

theorem box_cells (kind : Int) (key text : ByteArray) (a : Option Addr) (len cap : Nat) (w : World) :
    (w.alloc (box kind key text a len cap)).cell? ⟨w.heap.size, 0, none⟩ = some (.int .i64 kind) ∧ (w.alloc (box kind key text a len cap)).cell? ⟨w.heap.size, 1, none⟩ = some (.string key) ∧
    (w.alloc (box kind key text a len cap)).cell? ⟨w.heap.size, 2, none⟩ = some (.string text) ∧ (w.alloc (box kind key text a len cap)).cell? ⟨w.heap.size, 3, none⟩ = some (.slice a len cap) := by
  unfold box
  refine ⟨?_, ?_, ?_, ?_⟩ <;> simp

/-- What jvBytes does at the values of depth n. -/
def JvAt (n : Nat) : Prop := ∀ (x : Pl.JT n) (v : Value) (B : Nat) (w : World) (budget : Int), Rep B w n x v → B ≤ w.heap.size → -1099511627776 ≤ budget → budget ≤ 1099511627776 →
  Calls Try.prog 25 #[v, .int .i64 budget] w fun e w' => e = .returned (.int .i64 (Pl.jvB n x budget)) ∧ Below w.heap.size w w'

set_option maxHeartbeats 2000000 in
theorem jv_core (n : Nat) (ih : JvAt n) (kind : Int) (key text : ByteArray) (items : List (Pl.JT n)) (b off cap : Nat) (B : Nat) (w : World) (budget : Int)
    (hks : key.size ≤ maxLen) (hts : text.size ≤ maxLen) (hls : items.length ≤ maxLen)
    (hc : ∀ (i : Nat) (h : i < items.length), ∃ c0 c1 c2 c3, w.cell? ⟨b, off + i * 4, none⟩ = some c0 ∧ w.cell? ⟨b, off + i * 4 + 1, none⟩ = some c1 ∧ w.cell? ⟨b, off + i * 4 + 2, none⟩ = some c2 ∧ w.cell? ⟨b, off + i * 4 + 3, none⟩ = some c3 ∧ Rep B w n items[i] (.agg #[c0, c1, c2, c3]))
    (hbB : b < B) (hB : B ≤ w.heap.size) (h0 : -1099511627776 ≤ budget) (h1 : budget ≤ 1099511627776) :
    Calls Try.prog 25 #[.agg #[.int .i64 kind, .string key, .string text, .slice (some ⟨b, off, none⟩) items.length cap], .int .i64 budget] w fun e w' => e = .returned (.int .i64 (Pl.jvJ n (Pl.jvB n) ⟨kind, key, text, items⟩ budget)) ∧ Below w.heap.size w w' := by
  unfold maxLen at hks hts hls
  have HJ := mkHid (show Pl.jvJ n (Pl.jvB n) ⟨kind, key, text, items⟩ budget = _ from by unfold Pl.jvJ; exact rfl)
  obtain ⟨J, hJ⟩ : ∃ J, J = Pl.jvJ n (Pl.jvB n) ⟨kind, key, text, items⟩ budget := ⟨_, rfl⟩
  rw [← hJ] at HJ ⊢
  dsimp only at HJ
  clear hJ
  obtain ⟨len, hlen⟩ : ∃ len, len = items.length := ⟨_, rfl⟩
  rw [← hlen] at hls HJ ⊢
  have HL := mkHid hlen
  have HC := mkHid hc
  have IH := mkHid ih
  clear hlen hc ih
  by_cases g1 : budget < 0
  · have HE := mkHid (show (-1 : Int) = J by rw [HJ.out, if_pos (.inl g1)])
    clear HJ
    go_enter Try.func25, Try.ntmps25
    go_wp2_with fail
    go_ret
    exact ⟨ret_int HE.out, (Below.refl _ _).alloc (Nat.le_refl _) _⟩
  by_cases g2 : budget < key.size
  · have HE := mkHid (show (-1 : Int) = J by rw [HJ.out, if_pos (.inr g2)])
    clear HJ
    go_enter Try.func25, Try.ntmps25
    go_wp2_with fail
    go_ret
    exact ⟨ret_int HE.out, (Below.refl _ _).alloc (Nat.le_refl _) _⟩
  by_cases g3 : budget - key.size < text.size
  · have HE := mkHid (show (-1 : Int) = J by rw [HJ.out, if_neg (by omega), if_pos g3])
    clear HJ
    go_enter Try.func25, Try.ntmps25
    go_wp2_with fail
    go_ret
    exact ⟨ret_int HE.out, (Below.refl _ _).alloc (Nat.le_refl _) _⟩
  by_cases g4 : (budget - (key.size + text.size)) / 64 < len
  · have HE := mkHid (show (-1 : Int) = J by rw [HJ.out, if_neg (by omega), if_neg g3, if_pos g4])
    clear HJ
    go_enter Try.func25, Try.ntmps25
    go_wp2_with fail
    go_ret
    exact ⟨ret_int HE.out, (Below.refl _ _).alloc (Nat.le_refl _) _⟩
  have HE := mkHid (show J = Pl.jvL (Pl.jvB n) items (key.size + text.size + 64 * len) budget by rw [HJ.out, if_neg (by omega), if_neg g3, if_neg g4])
  clear HJ
  go_enter Try.func25, Try.ntmps25
  go_wp2_with fail
  go_loopw [5, 49] (fun nn c wr => ∃ (acc : Int) (k : Nat), k ≤ len ∧ c = .int .i64 k ∧ nn = .int .i64 acc ∧ 0 ≤ acc ∧ acc ≤ budget ∧ Hid (J = Pl.jvL (Pl.jvB n) (items.drop k) acc budget) ∧ Hid (Below (w.heap.size + 1) (w.alloc (box kind key text (some ⟨b, off, none⟩) len cap)) wr)) (fun _ c _ => len - (intOf c).toNat)
  case atStart => exact ⟨_, 0, Nat.zero_le _, rfl, rfl, by omega, by omega, by simpa using HE, Below.refl _ _⟩
  case round =>
    obtain ⟨acc, k, hk, rfl, rfl, ha0, ha1, HA, HB⟩ := hrel
    by_cases hlt : k < len
    · have hlt2 : k < items.length := by rw [← HL.out]; exact hlt
      have hbw : Below w.heap.size w wr := ((Below.refl _ _).alloc (Nat.le_refl _) _).trans (HB.out.mono (by omega))
      obtain ⟨c0, c1, c2, c3, e0, e1, e2, e3, hr⟩ := HC.out k hlt2
      have f0 := (hbw.cell (p := ⟨b, off + k * 4, none⟩) (by exact Nat.lt_of_lt_of_le hbB hB)).trans e0
      have f1 := (hbw.cell (p := ⟨b, off + k * 4 + 1, none⟩) (by exact Nat.lt_of_lt_of_le hbB hB)).trans e1
      have f2 := (hbw.cell (p := ⟨b, off + k * 4 + 2, none⟩) (by exact Nat.lt_of_lt_of_le hbB hB)).trans e2
      have f3 := (hbw.cell (p := ⟨b, off + k * 4 + 3, none⟩) (by exact Nat.lt_of_lt_of_le hbB hB)).trans e3
      have q3 := (HB.out.cell (p := ⟨w.heap.size, 3, none⟩) (by simp)).trans (box_cells kind key text (some ⟨b, off, none⟩) len cap w).2.2.2
      have hsz : w.heap.size + 1 ≤ wr.heap.size := by have := HB.out.size; simpa using this
      have CL := mkHid (IH.out items[k] (.agg #[c0, c1, c2, c3]) B wr (budget - acc) (Rep.below (hbw.mono hB) n _ _ hr) (by omega) (by omega) (by omega))
      have GE := mkHid (Pl.jvB_ge n items[k] (budget - acc))
      have GN := mkHid (jvL_neg (Pl.jvB n) items k hlt2 acc budget)
      have GO := mkHid (jvL_go (Pl.jvB n) items k hlt2 acc budget)
      obtain ⟨m, hm⟩ : ∃ m, m = Pl.jvB n items[k] (budget - acc) := ⟨_, rfl⟩
      rw [← hm] at CL GE GN GO
      clear e0 e1 e2 e3 hr hm hbw
      have hlt' : ((k : Nat) : Int) < (len : Int) := by omega
      by_cases hneg : m < 0
      · have HX := mkHid (show (-1 : Int) = J by rw [HA.out, GN.out hneg])
        go_wp2_with (go_at_call 25; refine CL.out.mono ?_; rintro e w' ⟨rfl, hb2⟩)
        go_ret
        exact ⟨ret_int HX.out, (((Below.refl _ _).alloc (Nat.le_refl _) _).trans (HB.out.mono (by omega))).trans (hb2.mono (by omega))⟩
      · have HX := mkHid (HA.out.trans (GO.out hneg))
        have hm2 := (GE.out (by omega)).2
        go_wp2_with (go_at_call 25; refine CL.out.mono ?_; rintro e w' ⟨rfl, hb2⟩)
        go_roundw
        case rel => exact ⟨acc + m, k + 1, by omega, by go_num, rfl, by omega, by omega, HX, HB.out.trans (hb2.mono (by omega))⟩
        case measure => simp [intOf]; omega
    · have hge : ¬ ((k : Nat) : Int) < (len : Int) := by omega
      have HX := mkHid (show acc = J by rw [HA.out, jvL_end _ _ _ (by rw [← HL.out]; omega)])
      go_wp2_with fail
      go_ret
      exact ⟨ret_int HX.out, ((Below.refl _ _).alloc (Nat.le_refl _) _).trans (HB.out.mono (by omega))⟩

set_option maxHeartbeats 2000000 in
/-- .. where there are no items, whatever the slice's address. -/
theorem jv_bare (n : Nat) (kind : Int) (key text : ByteArray) (a : Option Addr) (cap : Nat) (w : World) (budget : Int)
    (hks : key.size ≤ maxLen) (hts : text.size ≤ maxLen) (h0 : -1099511627776 ≤ budget) (h1 : budget ≤ 1099511627776) :
    Calls Try.prog 25 #[.agg #[.int .i64 kind, .string key, .string text, .slice a 0 cap], .int .i64 budget] w fun e w' => e = .returned (.int .i64 (Pl.jvJ n (Pl.jvB n) ⟨kind, key, text, []⟩ budget)) ∧ Below w.heap.size w w' := by
  unfold maxLen at hks hts
  have HJ := mkHid (show Pl.jvJ n (Pl.jvB n) ⟨kind, key, text, []⟩ budget = _ from by unfold Pl.jvJ; exact rfl)
  obtain ⟨J, hJ⟩ : ∃ J, J = Pl.jvJ n (Pl.jvB n) ⟨kind, key, text, []⟩ budget := ⟨_, rfl⟩
  rw [← hJ] at HJ ⊢
  dsimp only at HJ
  clear hJ
  by_cases g1 : budget < 0
  · have HE := mkHid (show (-1 : Int) = J by rw [HJ.out, if_pos (.inl g1)])
    clear HJ
    go_enter Try.func25, Try.ntmps25
    go_wp2_with fail
    go_ret
    exact ⟨ret_int HE.out, (Below.refl _ _).alloc (Nat.le_refl _) _⟩
  by_cases g2 : budget < key.size
  · have HE := mkHid (show (-1 : Int) = J by rw [HJ.out, if_pos (.inr g2)])
    clear HJ
    go_enter Try.func25, Try.ntmps25
    go_wp2_with fail
    go_ret
    exact ⟨ret_int HE.out, (Below.refl _ _).alloc (Nat.le_refl _) _⟩
  by_cases g3 : budget - key.size < text.size
  · have HE := mkHid (show (-1 : Int) = J by rw [HJ.out, if_neg (by omega), if_pos g3])
    clear HJ
    go_enter Try.func25, Try.ntmps25
    go_wp2_with fail
    go_ret
    exact ⟨ret_int HE.out, (Below.refl _ _).alloc (Nat.le_refl _) _⟩
  have HE := mkHid (show (key.size : Int) + text.size = J by rw [HJ.out, if_neg (by omega), if_neg g3, if_neg (by simp; omega)]; simp [Pl.jvL])
  clear HJ
  have g4 : ¬ (budget - (key.size + text.size)) / 64 < 0 := by omega
  go_enter Try.func25, Try.ntmps25
  go_wp2_with fail
  refine wp_loop_rounds 1 ?_
  rw [rounds_succ]
  go_wp2_with fail
  go_ret
  exact ⟨ret_int (by have := HE.out; omega), (Below.refl _ _).alloc (Nat.le_refl _) _⟩

theorem jvBytes_any : ∀ n, JvAt n
  | 0 => fun x _ _ _ _ h => h.elim
  | n + 1 => by
    intro x v B w budget hr hB h0 h1
    obtain ⟨a, cap, rfl, hks, hts, hls, hit⟩ := hr
    have e : Pl.jvB (n + 1) x budget = Pl.jvJ n (Pl.jvB n) (Pl.nodeOf x) budget := rfl
    rw [e]
    generalize Pl.nodeOf x = t at *
    obtain ⟨kind, key, text, items⟩ := t
    dsimp only at *
    by_cases hz : items.length = 0
    · have hz' : items = [] := List.eq_nil_of_length_eq_zero hz
      subst hz'
      exact jv_bare n kind key text a cap w budget hks hts h0 h1
    · obtain ⟨b, off, rfl, hbB, hc⟩ := hit hz
      exact jv_core n (jvBytes_any n) kind key text items b off cap B w budget hks hts hls hc hbB hB h0 h1
end Go.Proofs.Qxb6001451a
