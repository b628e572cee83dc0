/-
  The law at whatever input: the early returns, and the main road.
-/
import Derived.Test.Qxb6002372aVarLaw
namespace Go.Proofs.Qxb6002372a
open Go.RowKit

theorem natInt_bne {a b : Nat} (h : ¬ a = b) : ((a : Int) != (b : Int)) = true := by
  have : ¬ (a : Int) = b := by omega
  simpa using this

set_option maxRecDepth 100000 in
theorem law_any (w : World) (S : Nat → ByteArray) (G : Nat → List Int) (T : Nat → Int) (a0 : Option Addr) (n0 c0 : Nat) (h0 : StrsAt w a0 n0 S) (b0 : n0 ≤ maxLen) (a1 : Option Addr) (n1 c1 : Nat) (h1 : GuidsAt w a1 n1 G) (b1 : n1 ≤ maxLen) (hG : ∀ i, i < n1 → G16 (gcells (G i)))
    (a2 : Option Addr) (n2 c2 : Nat) (h2 : BytesAt w a2 n2 T) (b2 : n2 ≤ maxLen) :
    Calls Try.prog 10 #[.slice a0 n0 c0, .slice a1 n1 c1, .slice a2 n2 c2] w fun e w' => e = .returned (.bool true) ∧ Below w.heap.size w w' := by
  by_cases hmain : n0 ≤ 4096 ∧ n1 = n0 ∧ n2 = n0
  · obtain ⟨hn, rfl, rfl⟩ := hmain
    exact law_main w _ hn S G T (fun i hi => ⟨(by obtain ⟨_, _, _, h⟩ := h0 i hi; exact h), hG i hi⟩) a0 c0 h0 a1 c1 h1 a2 c2 h2
  · have h31 := zbytes_any w a0 n0 c0 S h0 b0 a1 n1 c1 b1 a2 n2 c2 b2
    have h32 := zrec_any w a0 n0 c0 S h0 b0 a1 n1 c1 b1 a2 n2 c2 b2
    unfold maxLen at b0 b1 b2
    clear h0 h1 h2 hG
    by_cases e0 : 4096 < n0
    · clear hmain
      go_enter Try.func10, Try.ntmps10
      go_wp2_with (first
        | (go_at_call 31; refine h31.mono ?_; rintro e w' ⟨⟨b, rfl⟩, rfl⟩)
        | (go_at_call 32; refine h32.mono ?_; rintro e w' ⟨⟨z, rfl⟩, rfl⟩))
      all_goals (go_ret; exact ⟨rfl, Below.refl _ _⟩)
    · by_cases e1 : 4096 < n1
      · clear hmain
        go_enter Try.func10, Try.ntmps10
        go_wp2_with (first
          | (go_at_call 31; refine h31.mono ?_; rintro e w' ⟨⟨b, rfl⟩, rfl⟩)
          | (go_at_call 32; refine h32.mono ?_; rintro e w' ⟨⟨z, rfl⟩, rfl⟩))
        all_goals (go_ret; exact ⟨rfl, Below.refl _ _⟩)
      · by_cases e2 : 4096 < n2
        · clear hmain
          go_enter Try.func10, Try.ntmps10
          go_wp2_with (first
            | (go_at_call 31; refine h31.mono ?_; rintro e w' ⟨⟨b, rfl⟩, rfl⟩)
            | (go_at_call 32; refine h32.mono ?_; rintro e w' ⟨⟨z, rfl⟩, rfl⟩))
          all_goals (go_ret; exact ⟨rfl, Below.refl _ _⟩)
        · by_cases e3 : n1 = n0
          · have e4 : ¬ n2 = n0 := fun h => hmain ⟨by omega, e3, h⟩
            subst e3
            clear hmain
            have f3 := natInt_bne e4
            go_enter Try.func10, Try.ntmps10
            go_wp2_with (first
              | (go_at_call 31; refine h31.mono ?_; rintro e w' ⟨⟨b, rfl⟩, rfl⟩)
              | (go_at_call 32; refine h32.mono ?_; rintro e w' ⟨⟨z, rfl⟩, rfl⟩))
            all_goals (go_ret; exact ⟨rfl, Below.refl _ _⟩)
          · clear hmain
            have f3 := natInt_bne e3
            go_enter Try.func10, Try.ntmps10
            go_wp2_with (first
              | (go_at_call 31; refine h31.mono ?_; rintro e w' ⟨⟨b, rfl⟩, rfl⟩)
              | (go_at_call 32; refine h32.mono ?_; rintro e w' ⟨⟨z, rfl⟩, rfl⟩))
            all_goals (go_ret; exact ⟨rfl, Below.refl _ _⟩)

end Go.Proofs.Qxb6002372a
