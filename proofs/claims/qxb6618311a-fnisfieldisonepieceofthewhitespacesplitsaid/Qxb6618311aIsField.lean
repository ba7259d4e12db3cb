/- IsField (6) of the seat b6618311a: 'isFld', at every string. -/
import Derived.Test.Qxb6618311aLeaves
namespace Go.Proofs.Qxb6618311a.Sp
open Go.RowKit Go.Proofs.Qxb6618311a.Pl

set_option maxHeartbeats 400000 in
theorem isField_any (s : ByteArray) (w : World) :
    Calls Try.prog 6 #[.string s] w fun e w' => e = .returned (.bool (isFld s)) ∧ Below w.heap.size w w' := by
  cases hem : s.toList.isEmpty
  · have hz : s.size ≠ 0 := by rw [Lib.toList_data] at hem; rw [Lib.size_eq]; intro h; rw [List.length_eq_zero_iff.1 h] at hem; simp at hem
    go_enter Try.func6, Try.ntmps6
    go_wp2_with (go_at_call 7; refine (ContainsFunc_any _ _).mono ?_; rintro e w' ⟨rfl, hb⟩)
    go_ret
    exact ⟨by simp [isFld, hz], hb⟩
  · have hz : s.size = 0 := by rw [Lib.toList_data] at hem; rw [Lib.size_eq]; rw [List.isEmpty_iff.1 hem]; rfl
    go_enter Try.func6, Try.ntmps6
    go_wp2_with (go_at_call 7; refine (ContainsFunc_any _ _).mono ?_; rintro e w' ⟨rfl, hb⟩)
    go_ret
    exact ⟨by simp [isFld, hz], Below.refl _ _⟩
end Go.Proofs.Qxb6618311a.Sp
