/-
  THE WRITER'S HELPERS (seat b6600962a, law 6): appendClose, appendPiece, delimiterAt.
-/
import Derived.Test.Qxb6600962aWrite
namespace Go.Proofs.Qxb6600962a
open Go.RowKit

set_option maxHeartbeats 1000000 in
theorem close_any (base : Nat) (w0 w : World) (g0 g1 g2 C0 C1 n : Nat) (o ks : List Int) (fs : List Bool) (c : Int) (HN : Len n o) (HS : Hid (St base w0 w g0 g1 g2 C0 C1 o ks fs)) (hcap : n + 1 ≤ C0) :
    Calls Try.prog 26 #[.slice (some ⟨g0, 0, none⟩) n C0, .int .u8 c] w fun e w' => ∃ n' d, e = .returned (.slice (some ⟨g0, 0, none⟩) n' C0) ∧ Bd n' (n + 1) ∧ Len n' (o ++ [d]) ∧ Hid (d = 125 ∨ d = 93) ∧ Hid (St base w0 w' g0 g1 g2 C0 C1 (o ++ [d]) ks fs) := by
  by_cases hc : c = 91
  · have t : (c == 91) = true := by simp [hc]
    clear hc
    go_enter Try.func26, Try.ntmps26
    go_wp2_with (at_builtin; refine appO base w0 _ rfl _ _ rfl g0 g1 g2 C0 C1 n o ks fs rfl HN HS _ _ _ rfl rfl rfl rfl hcap ?_; intro n' w' e1 e2 hs)
    go_ret
    exact ⟨n', 93, rfl, Nat.le_of_eq e1.out, e2, .inr rfl, hs⟩
  · have t : (c == 91) = false := by simp [hc]
    clear hc
    go_enter Try.func26, Try.ntmps26
    go_wp2_with (at_builtin; refine appO base w0 _ rfl _ _ rfl g0 g1 g2 C0 C1 n o ks fs rfl HN HS _ _ _ rfl rfl rfl rfl hcap ?_; intro n' w' e1 e2 hs)
    go_ret
    exact ⟨n', 125, rfl, Nat.le_of_eq e1.out, e2, .inl rfl, hs⟩

set_option maxHeartbeats 1000000 in
theorem delim_any (c : Int) (w : World) (h0 : 0 ≤ c) (h1 : c ≤ 255) :
    Calls Try.prog 19 #[.int .u8 c] w fun e w' => ∃ d, e = .returned (.int .u8 d) ∧ Hid (Pl.isDel d = true) ∧ Hid (0 ≤ d ∧ d ≤ 255) ∧ w = w' := by
  have HM : Hid (c % 8 = 0 ∨ c % 8 = 1 ∨ c % 8 = 2 ∨ c % 8 = 3 ∨ c % 8 = 4 ∨ c % 8 = 5 ∨ c % 8 = 6 ∨ c % 8 = 7) := by show _ ∨ _; omega
  go_enter Try.func19, Try.ntmps19
  rcases HM.out with h | h | h | h | h | h | h | h
  all_goals
    go_wp2_with fail
    go_ret
    exact ⟨_, rfl, mkHid (by decide), mkHid (by decide), rfl⟩

set_option maxHeartbeats 2000000 in
theorem piece_any (base : Nat) (w0 w : World) (g0 g1 g2 C0 C1 n : Nat) (o ks : List Int) (fs : List Bool) (c : Int) (h0 : 0 ≤ c) (h1 : c ≤ 255) (HN : Len n o) (HS : Hid (St base w0 w g0 g1 g2 C0 C1 o ks fs)) (hcap : n + 7 ≤ C0) :
    Calls Try.prog 27 #[.slice (some ⟨g0, 0, none⟩) n C0, .int .u8 c] w fun e w' => ∃ n' p, e = .returned (.slice (some ⟨g0, 0, none⟩) n' C0) ∧ Bd n' (n + 7) ∧ Len n' (o ++ p) ∧ Hid (Pl.Str p) ∧ Hid (St base w0 w' g0 g1 g2 C0 C1 (o ++ p) ks fs) := by
  have HM : Hid (c % 8 = 0 ∨ c % 8 = 1 ∨ c % 8 = 2 ∨ c % 8 = 3 ∨ c % 8 = 4 ∨ c % 8 = 5 ∨ c % 8 = 6 ∨ c % 8 = 7) := by show _ ∨ _; omega
  have HE : Bd n n := Nat.le_refl n
  go_enter Try.func27, Try.ntmps27
  rcases HM.out with h | h | h | h | h | h | h | h
  all_goals
    clear HM
    go_wp2_with (at_builtin; refine appO base w0 _ rfl _ _ rfl g0 g1 g2 C0 C1 _ _ ks fs rfl HN HS _ _ _ rfl rfl (by rfl) (by rfl) (by have := HE.out; omega) ?_; clear HN HS; intro n2 w2 HF HN HS; replace HE := HE.add HF.out; clear HF)
    have HB : Bd n2 (n + 7) := by have := HE.out; show _ ≤ _; omega
    clear HE
    go_ret
    refine ⟨n2, ?_⟩
    simp only [newsOf, List.append_assoc] at HN HS
  · exact ⟨_, rfl, HB, HN, Pl.str0, HS⟩
  · exact ⟨_, rfl, HB, HN, Pl.str1, HS⟩
  · exact ⟨_, rfl, HB, HN, Pl.str2, HS⟩
  · exact ⟨_, rfl, HB, HN, Pl.str3, HS⟩
  · exact ⟨_, rfl, HB, HN, Pl.str4, HS⟩
  · exact ⟨_, rfl, HB, HN, Pl.str5, HS⟩
  · exact ⟨_, rfl, HB, HN, Pl.str6, HS⟩
  · exact ⟨_, rfl, HB, HN, Pl.str7, HS⟩
end Go.Proofs.Qxb6600962a
