/-
  The two counters of bytes ahead of the law: they read, and return something.
-/
import Derived.Test.Qxb6002372aVarKit
import Derived.WalkSpells
import Derived.WalkLawsBesides
namespace Go.Proofs.Qxb6002372a
open Go.RowKit

/-- 'xs[k]' where there is an element k: whatever the address is called. -/
theorem run_ix {P : Program} {t e : TypeId} {sz : Nat} (ht : P.underlying t = some (.slice e)) (hs : ∀ w, (sizeOf e).run P w = .ok sz w) {ao : Option Addr} {x : Addr} (hx : ao = some x) {n k : Nat} (hk : k < n) (cap : Nat) (w : World) :
    (Instr.indexAt t (.slice ao n cap) (.int .i64 (k : Int))).run P w = .ok (.pointer (some (x.add (k * sz)))) w := by
  subst hx
  have h1 : (0 : Int) ≤ k ∧ (k : Int) < n := by omega
  simp [Instr.indexAt, asIntOf, run_underlying ht, hs, Result.andThen, h1]
  intro h
  omega

/-- The slice's n elements are the strings S 0, S 1, .. -/
def StrsAt (w : World) (ao : Option Addr) (n : Nat) (S : Nat → ByteArray) : Prop := ∀ i, i < n → ∃ x, ao = some x ∧ w.cell? (x.add i) = some (.string (S i)) ∧ (S i).size ≤ maxLen

set_option maxRecDepth 100000 in
theorem zbytes_any (w : World) (a0 : Option Addr) (n0 c0 : Nat) (S : Nat → ByteArray) (h0 : StrsAt w a0 n0 S) (hn0 : n0 ≤ maxLen) (a1 : Option Addr) (n1 c1 : Nat) (hn1 : n1 ≤ maxLen) (a2 : Option Addr) (n2 c2 : Nat) (hn2 : n2 ≤ maxLen) :
    Calls Try.prog 31 #[.slice a0 n0 c0, .slice a1 n1 c1, .slice a2 n2 c2] w fun e w' => (∃ b, e = .returned (.bool b)) ∧ w = w' := by
  unfold maxLen at hn0 hn1 hn2
  by_cases hb : n0 ≤ 1048576
  · go_enter Try.func31, Try.ntmps31
    go_wp2
    go_loopw [7, 8] (fun s i wr => ∃ (z k : Nat), z ≤ 1048576 ∧ k ≤ n0 ∧ s = .int .i64 z ∧ i = .int .i64 k ∧ w = wr) (fun _ i _ => n0 - (intOf i).toNat)
    case atStart => exact ⟨n0, 0, hb, Nat.zero_le _, rfl, rfl, rfl⟩
    case round =>
      obtain ⟨z, k, hz, hk, rfl, rfl, rfl⟩ := hrel
      by_cases hlt : k < n0
      · obtain ⟨x, hx, hc, hsz⟩ := h0 k hlt
        have hix := fun w => run_ix (P := Try.prog) Try.underlying32 Try.sizeOf9 hx hlt c0 w
        rw [Nat.mul_one] at hix
        unfold maxLen at hsz
        have H : Hid (a0 = some x) := hx
        clear hx h0
        go_wp2
        all_goals first
          | (go_ret; exact ⟨⟨_, rfl⟩, rfl⟩)
          | (go_roundw
             case measure => simp [intOf]; omega
             case rel => exact ⟨z + (S k).size, k + 1, by omega, by omega, by go_num, by go_num, by simp⟩)
      · go_wp2
        all_goals (go_ret; exact ⟨⟨_, rfl⟩, rfl⟩)
  · go_enter Try.func31, Try.ntmps31
    go_wp2
    go_ret
    exact ⟨⟨_, rfl⟩, rfl⟩

set_option maxRecDepth 100000 in
theorem zrec_any (w : World) (a0 : Option Addr) (n0 c0 : Nat) (S : Nat → ByteArray) (h0 : StrsAt w a0 n0 S) (hn0 : n0 ≤ maxLen) (a1 : Option Addr) (n1 c1 : Nat) (hn1 : n1 ≤ maxLen) (a2 : Option Addr) (n2 c2 : Nat) (hn2 : n2 ≤ maxLen) :
    Calls Try.prog 32 #[.slice a0 n0 c0, .slice a1 n1 c1, .slice a2 n2 c2] w fun e w' => (∃ z : Int, e = .returned (.int .i64 z)) ∧ w = w' := by
  unfold maxLen at hn0 hn1 hn2
  by_cases hb : n0 ≤ 65536 ∧ n1 ≤ 65536 ∧ n2 ≤ 1048576
  · obtain ⟨b0, b1, b2⟩ := hb
    go_enter Try.func32, Try.ntmps32
    go_wp2
    go_loopw [7, 8] (fun s i wr => ∃ (z k : Nat), z ≤ 4194304 ∧ k ≤ n0 ∧ s = .int .i64 z ∧ i = .int .i64 k ∧ w = wr) (fun _ i _ => n0 - (intOf i).toNat)
    case atStart => exact ⟨16 * n0 + 16 * n1 + n2, 0, by omega, Nat.zero_le _, by go_num, rfl, rfl⟩
    case round =>
      obtain ⟨z, k, hz, hk, rfl, rfl, rfl⟩ := hrel
      by_cases hlt : k < n0
      · obtain ⟨x, hx, hc, hsz⟩ := h0 k hlt
        have hix := fun w => run_ix (P := Try.prog) Try.underlying32 Try.sizeOf9 hx hlt c0 w
        rw [Nat.mul_one] at hix
        unfold maxLen at hsz
        have H : Hid (a0 = some x) := hx
        clear hx h0
        go_wp2
        all_goals first
          | (go_ret; exact ⟨⟨_, rfl⟩, rfl⟩)
          | (go_roundw
             case measure => simp [intOf]; omega
             case rel => exact ⟨z + (S k).size, k + 1, by omega, by omega, by go_num, by go_num, by simp⟩)
      · go_wp2
        go_ret
        exact ⟨⟨_, rfl⟩, rfl⟩
  · go_enter Try.func32, Try.ntmps32
    by_cases h1 : 65536 < n0
    · go_wp2
      go_ret
      exact ⟨⟨_, rfl⟩, rfl⟩
    · by_cases h2 : 65536 < n1
      · go_wp2
        go_ret
        exact ⟨⟨_, rfl⟩, rfl⟩
      · have h3 : 1048576 < n2 := by omega
        go_wp2
        go_ret
        exact ⟨⟨_, rfl⟩, rfl⟩

end Go.Proofs.Qxb6002372a
