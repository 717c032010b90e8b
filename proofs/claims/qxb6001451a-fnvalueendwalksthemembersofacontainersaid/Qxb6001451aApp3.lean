/-
  THE WALKS OF THE WRITER (seat b6001451a), part 3: appendValue, by induction on the depth.
-/
import Derived.Test.Qxb6001451aTree
namespace Go.Proofs.Qxb6001451a
open Go.RowKit

/-! ### What room a value's text needs -/

def need : (n : Nat) → Pl.JT n → Nat
  | 0, t => nomatch t
  | n + 1, t => 2 * (Pl.nodeOf t).text.size + 4 + ((Pl.nodeOf t).items.map fun x => 2 * (Pl.keyOf n x).size + 4 + need n x).sum

def itemNeed (n : Nat) (x : Pl.JT n) : Nat := 2 * (Pl.keyOf n x).size + 4 + need n x

theorem sum_take {α : Type} (f : α → Nat) : ∀ (l : List α) (k : Nat) (h : k < l.length), ((l.take k).map f).sum + f l[k] ≤ (l.map f).sum
  | [], k, h => by simp at h
  | x :: t, 0, _ => by simp
  | x :: t, k + 1, h => by
    have := sum_take f t k (by simpa using h)
    simp only [List.take_succ_cons, List.map_cons, List.sum_cons, List.getElem_cons_succ]
    omega
theorem sum_take_le {α : Type} (f : α → Nat) : ∀ (l : List α) (k : Nat), ((l.take k).map f).sum ≤ (l.map f).sum
  | [], k => by simp
  | x :: t, 0 => by simp
  | x :: t, k + 1 => by
    have := sum_take_le f t k
    simp only [List.take_succ_cons, List.map_cons, List.sum_cons]
    omega

theorem join_need (n : Nat) (he : ∀ x : Pl.JT n, (Pl.encV n x).length ≤ need n x) (obj : Bool) (l : List (Pl.JT n)) : (Pl.joinA (Pl.memA n (Pl.encV n) obj) true l).length ≤ (l.map (itemNeed n)).sum := by
  refine Nat.le_trans (Pl.joinA_len _ _ _) (Pl.sum_le _ _ _ fun x _ => ?_)
  have h1 := he x
  have h2 := Pl.encS_len (Pl.byt (Pl.keyOf n x))
  rw [Pl.byt_len] at h2
  unfold Pl.memA itemNeed
  split
  · simp only [List.length_append, List.length_cons, List.length_nil]; omega
  · omega

theorem encV_need : ∀ (n : Nat) (x : Pl.JT n), (Pl.encV n x).length ≤ need n x
  | 0, t => nomatch t
  | n + 1, t => by
    have hj := fun obj => join_need n (encV_need n) obj (Pl.nodeOf t).items
    have h1 := hj false
    have h2 := hj true
    have h3 := Pl.encS_len (Pl.byt (Pl.nodeOf t).text)
    have h4 := Pl.encN_len (Pl.byt (Pl.nodeOf t).text)
    rw [Pl.byt_len] at h3 h4
    show (Pl.encJ n (Pl.encV n) (Pl.nodeOf t)).length ≤ 2 * (Pl.nodeOf t).text.size + 4 + ((Pl.nodeOf t).items.map (itemNeed n)).sum
    unfold Pl.encJ
    split
    · omega
    · split
      · simp only [List.length_cons, List.length_append, List.length_nil]; omega
      · split
        · simp only [List.length_cons, List.length_append, List.length_nil]; omega
        · omega

theorem sum_eight {α : Type} (f : α → Nat) : ∀ l : List α, (l.map fun x => 2 * f x + 8).sum = 2 * (l.map f).sum + 8 * l.length
  | [] => by simp
  | x :: t => by
    have := sum_eight f t
    simp only [List.map_cons, List.sum_cons, List.length_cons]; omega

theorem need_wt : ∀ (n : Nat) (x : Pl.JT n), need n x + 2 * (Pl.keyOf n x).size ≤ 2 * Pl.wt n x + 4
  | 0, t => nomatch t
  | n + 1, t => by
    have h : ((Pl.nodeOf t).items.map (itemNeed n)).sum ≤ 2 * ((Pl.nodeOf t).items.map (Pl.wt n)).sum + 8 * (Pl.nodeOf t).items.length := by
      rw [← sum_eight]
      refine Pl.sum_le _ _ _ fun x _ => ?_
      have := need_wt n x
      unfold itemNeed
      omega
    show 2 * (Pl.nodeOf t).text.size + 4 + ((Pl.nodeOf t).items.map (itemNeed n)).sum + 2 * (Pl.nodeOf t).key.size ≤ 2 * ((Pl.nodeOf t).key.size + (Pl.nodeOf t).text.size + 64 * (Pl.nodeOf t).items.length + ((Pl.nodeOf t).items.map (Pl.wt n)).sum) + 4
    omega

/-! ### The items in memory -/

def ItemsAt (B : Nat) (w : World) (n : Nat) (items : List (Pl.JT n)) (b off : Nat) : Prop := ∀ (i : Nat) (h : i < items.length), ∃ c0 c1 c2 c3,
  w.cell? ⟨b, off + i * 4, none⟩ = some c0 ∧ w.cell? ⟨b, off + i * 4 + 1, none⟩ = some c1 ∧ w.cell? ⟨b, off + i * 4 + 2, none⟩ = some c2 ∧ w.cell? ⟨b, off + i * 4 + 3, none⟩ = some c3 ∧ Rep B w n items[i] (.agg #[c0, c1, c2, c3])

theorem ItemsAt.below {B n b off : Nat} {w w' : World} {items : List (Pl.JT n)} (h : ItemsAt B w n items b off) (hb : b < B) (hw : Below B w w') : ItemsAt B w' n items b off := by
  intro i hi
  obtain ⟨c0, c1, c2, c3, e0, e1, e2, e3, hr⟩ := h i hi
  exact ⟨c0, c1, c2, c3, (hw.cell (p := ⟨b, _, none⟩) hb).trans e0, (hw.cell (p := ⟨b, _, none⟩) hb).trans e1, (hw.cell (p := ⟨b, _, none⟩) hb).trans e2, (hw.cell (p := ⟨b, _, none⟩) hb).trans e3, Rep.below hw n _ _ hr⟩

theorem Rep.key {B : Nat} {w : World} : ∀ (n : Nat) (x : Pl.JT n) (c0 c1 c2 c3 : Value), Rep B w n x (.agg #[c0, c1, c2, c3]) → c1 = .string (Pl.keyOf n x) ∧ (Pl.keyOf n x).size ≤ maxLen
  | 0, _, _, _, _, _, h => h.elim
  | n + 1, x, c0, c1, c2, c3, h => by
    obtain ⟨a, cap, hv, h1, _⟩ := h
    simp at hv
    exact ⟨hv.2.1, h1⟩

/-- The box stays: it is no row of bytes. -/
theorem box_kept {base : Nat} {w w' : World} {kind : Int} {key text : ByteArray} {a : Option Addr} {len cap : Nat} (h : Kp base (w.alloc (box kind key text a len cap)) w') : w'.cell? ⟨w.heap.size, 3, none⟩ = some (.slice a len cap) := by
  have hb := h.block w.heap.size (by simp) (.inr fun cur => by
    rw [show (w.alloc (box kind key text a len cap)).heap[w.heap.size]? = some (box kind key text a len cap) from heap_alloc_new w _]
    simp [box])
  exact (World.cell?_of_block (a := ⟨w.heap.size, 3, none⟩) hb).trans (box_cells kind key text a len cap w).2.2.2

/-- What appendValue does at the values of depth n. -/
def AvAt (n : Nat) : Prop := ∀ (x : Pl.JT n) (u : Value) (base : Nat) (v : Value) (bs : List Int) (w : World), Rep base w n x u → Own base w v bs → base ≤ w.heap.size → bs.length + need n x ≤ 140737488355328 →
  Calls Try.prog 27 #[v, u] w fun e w' => ∃ v', e = .returned v' ∧ Own base w' v' (bs ++ Pl.encV n x) ∧ Kp base w w'

set_option maxHeartbeats 1000000 in
theorem av_str (base : Nat) (v : Value) (bs : List Int) (w : World) (key text : ByteArray) (a : Option Addr) (len cap : Nat) (hown : Own base w v bs) (hb : base ≤ w.heap.size) (hsz : bs.length + 2 * text.size + 4 ≤ 140737488355328) :
    Calls Try.prog 27 #[v, .agg #[.int .i64 1, .string key, .string text, .slice a len cap]] w fun e w' => ∃ v', e = .returned v' ∧ Own base w' v' (bs ++ Pl.encS (Pl.byt text)) ∧ Kp base w w' := by
  have C := mkHid (fun o => appendString_any base v bs text (w.alloc o) (hown.alloc o) (by simp; omega) (by omega))
  go_enter Try.func27, Try.ntmps27
  go_wp2_with (go_at_call 29; refine (C.out _).mono ?_; rintro e w' ⟨v', rfl, h1, h2⟩)
  go_ret
  exact ⟨v', rfl, h1, ((Kp.refl base w).alloc _).trans h2⟩

set_option maxHeartbeats 1000000 in
theorem av_num (base : Nat) (v : Value) (bs : List Int) (w : World) (kind : Int) (key text : ByteArray) (a : Option Addr) (len cap : Nat) (hown : Own base w v bs) (hb : base ≤ w.heap.size) (hsz : bs.length + 2 * text.size + 4 ≤ 140737488355328)
    (k1 : (kind == 1) = false) (k2 : (kind == 2) = false) (k3 : (kind == 3) = false) :
    Calls Try.prog 27 #[v, .agg #[.int .i64 kind, .string key, .string text, .slice a len cap]] w fun e w' => ∃ v', e = .returned v' ∧ Own base w' v' (bs ++ Pl.encN (Pl.byt text)) ∧ Kp base w w' := by
  have C := mkHid (fun o => appendScalar_any base v bs text (w.alloc o) (hown.alloc o) (by simp; omega) (by omega))
  go_enter Try.func27, Try.ntmps27
  go_wp2_with (go_at_call 34; refine (C.out _).mono ?_; rintro e w' ⟨v', rfl, h1, h2⟩)
  go_ret
  exact ⟨v', rfl, h1, ((Kp.refl base w).alloc _).trans h2⟩
end Go.Proofs.Qxb6001451a
