/-
  'FnScanStringReadsWhatQuoteWrote': the walk.
-/
import Derived.Test.Qxb6601642aScan
namespace Go.Proofs.Qxb6601642a
open Go.RowKit

set_option maxRecDepth 100000 in
set_option maxHeartbeats 4000000 in
theorem scan_law (pre v rest : ByteArray) (q : UInt8) (esc : Bool) (w : World) (hlen : pre.size + 2 * v.size + 2 + rest.size ≤ 1048576) (hr : ∀ h : 0 < rest.size, rest[0].toNat ≠ q.toNat) :
    Calls Try.prog 6 #[.string pre, .string v, .string rest, .int .u8 q.toNat, .bool esc] w fun e w' => e = .returned (.bool true) ∧ Below w.heap.size w w' := by
  obtain ⟨E, hE⟩ : ∃ E : ByteArray, E = ⟨(qs q esc v.data.toList).toArray⟩ := ⟨_, rfl⟩
  have hEd : E.data.toList = qs q esc v.data.toList := by rw [hE]
  have hEs : E.size = 2 + (qb q esc v.data.toList).length := by
    have : E.size = E.data.toList.length := by simp
    rw [this, hEd]
    simp only [qs, List.length_cons, List.length_append, List.length_nil]
    omega
  have hqb := qb_le q esc v.data.toList
  have hvl : v.data.toList.length = v.size := by simp
  have HQ := quote_any v q esc w (by omega)
  rw [← hE] at HQ
  have hEle : E.size ≤ 2 + 2 * v.size := by omega
  obtain ⟨S, hS⟩ : ∃ S : ByteArray, S = pre ++ E ++ rest := ⟨_, rfl⟩
  have hSs : S.size = pre.size + E.size + rest.size := by rw [hS, ByteArray.size_append, ByteArray.size_append]
  have hSd : S.data.toList.drop pre.size = q :: (qb q esc v.data.toList ++ (q :: rest.data.toList)) := by
    have e : S.data.toList = pre.data.toList ++ (E.data.toList ++ rest.data.toList) := by rw [hS]; simp
    have e2 : pre.size = pre.data.toList.length := by simp
    rw [e, e2, List.drop_left, hEd]
    simp [qs]
  have hrest : ∀ c r, rest.data.toList = c :: r → c ≠ q := by
    intro c r h x
    have hl : 0 < rest.size := by
      have : rest.size = rest.data.toList.length := by simp
      rw [this, h]; simp
    have e : rest[0] = rest.data.toList[0]'(by simpa using hl) := rfl
    apply hr hl
    rw [e]
    simp [h, x]
  have HZ := fun wx => zscan_any S pre.size q esc v.data.toList rest.data.toList wx (by omega) hSd hrest
  have HEN : Hid (pre.size + 2 + (qb q esc v.data.toList).length = pre.size + E.size) := by show _ = _; omega
  rw [HEN.out] at HZ
  have eb : (⟨v.data.toList.toArray⟩ : ByteArray) = v := by simp
  rw [eb] at HZ
  have hadd1 : ∀ wx : World, (Op.stringOp .add pre E).run Try.prog wx = .ok (.string (pre ++ E)) wx := fun wx => run_string_add_sum wx pre E (by omega)
  have hadd2 : ∀ wx : World, (Op.stringOp .add (pre ++ E) rest).run Try.prog wx = .ok (.string S) wx := fun wx => by rw [run_string_add_sum wx (pre ++ E) rest (by rw [ByteArray.size_append]; omega), hS]
  have HZH : Hid _ := HZ
  clear HZ eb hSd hrest hSs hS hE hEd hEs hqb hvl HEN
  by_cases h0 : 0 < rest.size
  · have hne := hr h0
    have hql := q.toNat_lt
    have hb : ((rest[0].toNat : Int) == (q.toNat : Int)) = false := by rw [beq_eq_false_iff_ne]; omega
    clear hr hne
    go_enter Try.func6, Try.ntmps6
    go_wp2_with (first | (go_at_call 14; refine HQ.mono ?_; rintro e w1 ⟨rfl, hb1⟩) | (go_at_call 15; refine (HZH.out _).mono ?_; rintro e w2 ⟨rfl, hb2⟩) | (go_at_call 13; go_in))
    go_ret
    exact ⟨by simp, hb1.trans (hb2.mono hb1.size)⟩
  · clear hr
    go_enter Try.func6, Try.ntmps6
    go_wp2_with (first | (go_at_call 14; refine HQ.mono ?_; rintro e w1 ⟨rfl, hb1⟩) | (go_at_call 15; refine (HZH.out _).mono ?_; rintro e w2 ⟨rfl, hb2⟩) | (go_at_call 13; go_in))
    go_ret
    exact ⟨by simp, hb1.trans (hb2.mono hb1.size)⟩
end Go.Proofs.Qxb6601642a
