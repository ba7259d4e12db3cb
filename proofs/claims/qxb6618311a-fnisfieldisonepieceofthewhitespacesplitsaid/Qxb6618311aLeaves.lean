/- THE LEAVES of the seat b6618311a: contracts of isSeparatorByte (5), isFieldSeparator (8), strings.indexFunc (10), IndexFunc (9), ContainsFunc (7), IsField (6). -/
import Derived.Test.Qxb6618311aRows
import Derived.Test.Qxb6618311aPlain
import Derived.WalkKit
import Derived.WalkSpells
import Derived.WalkLawsBesides
import Derived.Lib.OthersKept
import Derived.Lib.TrimU
import Derived.Deep.LoopGhost
namespace Go.Proofs.Qxb6618311a.Sp
open Go.RowKit Go.Proofs.Qxb6618311a.Pl

theorem belowN {B : Nat} {a w : World} (h : Below B a w) (q : Nat) : Below B a (w.drewN q) := ⟨h.os, h.tape, h.output, h.size, h.block⟩

theorem sep_form (n : Nat) : sepN n = ((n : Int) == 32 || (decide ((9 : Int) ≤ (n : Int)) && decide ((n : Int) ≤ 13))) := by
  unfold sepN
  rw [Bool.eq_iff_iff]; simp; omega

set_option maxHeartbeats 400000 in
theorem sepByte_any (n : Nat) (w : World) :
    Calls Try.prog 5 #[.int .u8 (n : Int)] w fun e w' => e = .returned (.bool (sepN n)) ∧ w' = w := by
  rw [sep_form]
  by_cases h1 : (n : Int) = 32
  · have b1 : ((n : Int) == 32) = true := by simpa using h1
    rw [b1]
    clear h1
    go_enter Try.func5, Try.ntmps5
    go_wp2
    go_ret
    exact ⟨rfl, rfl⟩
  · have b1 : ((n : Int) == 32) = false := by simpa using h1
    rw [b1]
    clear h1
    by_cases h2 : (9 : Int) ≤ (n : Int)
    · go_enter Try.func5, Try.ntmps5
      go_wp2
      go_ret
      exact ⟨by simp [h2], rfl⟩
    · go_enter Try.func5, Try.ntmps5
      go_wp2
      go_ret
      exact ⟨by simp; omega, rfl⟩

set_option maxHeartbeats 400000 in
theorem fieldSep_any (n : Nat) (w : World) :
    Calls Try.prog 8 #[.int .i32 (n : Int)] w fun e w' => e = .returned (.bool (sepN n)) ∧ w' = w := by
  cases hs : sepN n
  · have h : ¬ ((n : Int) = 32) ∧ ¬ ((n : Int) = 9) ∧ ¬ ((n : Int) = 10) ∧ ¬ ((n : Int) = 11) ∧ ¬ ((n : Int) = 12) ∧ ¬ ((n : Int) = 13) := by
      simp [sepN] at hs; omega
    obtain ⟨h1, h2, h3, h4, h5, h6⟩ := h
    have b1 : ((n : Int) == 32) = false := by simpa using h1
    have b2 : ((n : Int) == 9) = false := by simpa using h2
    have b3 : ((n : Int) == 10) = false := by simpa using h3
    have b4 : ((n : Int) == 11) = false := by simpa using h4
    have b5 : ((n : Int) == 12) = false := by simpa using h5
    have b6 : ((n : Int) == 13) = false := by simpa using h6
    clear hs h1 h2 h3 h4 h5 h6
    go_enter Try.func8, Try.ntmps8
    go_wp2
    go_ret
    exact ⟨rfl, rfl⟩
  · have h : n = 32 ∨ n = 9 ∨ n = 10 ∨ n = 11 ∨ n = 12 ∨ n = 13 := by
      simp [sepN] at hs; omega
    clear hs
    rcases h with rfl | rfl | rfl | rfl | rfl | rfl
    all_goals
      go_enter Try.func8, Try.ntmps8
      go_wp2
      go_ret
      exact ⟨rfl, rfl⟩

set_option maxHeartbeats 400000 in
/-- strings.indexFunc(s, isFieldSeparator, true): not below 0 just where a white-space byte stands. -/
theorem indexFunc_any (s : ByteArray) (w : World) :
    Calls Try.prog 10 #[.string s, .func (.func 8) #[] #[], .bool true] w fun e w' => ∃ r : Int, e = .returned (.int .i64 r) ∧ (hasSep s = true ∧ 0 ≤ r ∨ hasSep s = false ∧ r < 0) ∧ Below w.heap.size w w' := by
  go_enter Try.func10, Try.ntmps10
  go_wp2
  go_loopg [] s.size (fun gf wx => ∃ pos : Nat, wx.heap[w.heap.size]? = some (.stringIter s pos) ∧ Below w.heap.size w wx ∧ (∀ i, i < pos → sepAt s i = false) ∧ s.size ≤ pos + gf)
  case atStart => exact ⟨0, World.iter_heap w s 0, (Below.refl _ w).alloc (Nat.le_refl _) _, fun i hi => by omega, by omega⟩
  case round =>
    obtain ⟨pos, hit, hbw, hno, hfu⟩ := hrel
    by_cases hps : pos < s.size
    · obtain ⟨g', rfl⟩ : ∃ g', gk = g' + 1 := ⟨gk - 1, by omega⟩
      have hnx : ∀ ty, (Instr.next (.pointer (some ⟨w.heap.size, 0, none⟩)) true ty).run Try.prog wr = _ := fun ty => Lib.run_next_any_at wr w.heap.size s pos ty hit hps
      have hwd := Lib.width_pos s pos
      have hyes := rune_sep s pos
      have hnot := rune_not s pos
      obtain ⟨R, hR⟩ : ∃ R, (Utf8.decode s pos).1 = R := ⟨_, rfl⟩
      obtain ⟨K, hK⟩ : ∃ K, (Utf8.decode s pos).2 = K := ⟨_, rfl⟩
      rw [hR, hK] at hnx
      rw [hR] at hyes hnot
      rw [hK] at hwd hnot
      clear hR hK
      have hit2 := Lib.iterAt_heap wr w.heap.size s pos (pos + K) hit
      have hbw2 := Lib.below_iterAt hbw (k := w.heap.size) (Nat.le_refl _) s (pos + K)
      obtain ⟨W, hWd⟩ : ∃ W, wr.iterAt w.heap.size s (pos + K) = W := ⟨_, rfl⟩
      rw [hWd] at hnx hit2 hbw2
      clear hWd
      have cS := fieldSep_any R W
      have HN : Hid (∀ i, i < pos → sepAt s i = false) := hno
      have HY : Hid (sepN R = true → sepAt s pos = true) := hyes
      have HO : Hid (sepN R = false → ∀ (i : Nat), pos ≤ i → i < pos + K → sepAt s i = false) := hnot
      clear hno hyes hnot
      cases hsp : sepN R <;> rw [hsp] at cS
      · have HS : Hid (sepN R = false) := hsp
        clear hsp
        go_wp2_with (go_at_call 8; refine cS.mono ?_; rintro e W' ⟨rfl, rfl⟩)
        go_roundg g'
        case measure => omega
        case rel => exact ⟨pos + K, hit2, hbw2, fun i hi => if h : i < pos then HN.out i h else HO.out HS.out i (by omega) hi, by omega⟩
      · have HS : Hid (sepN R = true) := hsp
        clear hsp
        go_wp2_with (go_at_call 8; refine cS.mono ?_; rintro e W' ⟨rfl, rfl⟩)
        go_ret
        exact ⟨_, rfl, .inl ⟨hasSep_yes hps (HY.out HS.out), by omega⟩, hbw2⟩
    · have hnx : ∀ ty, (Instr.next (.pointer (some ⟨w.heap.size, 0, none⟩)) true ty).run Try.prog wr = _ := fun ty => Lib.run_next_end_at wr w.heap.size s pos ty hit hps
      have HN : Hid (∀ i, i < pos → sepAt s i = false) := hno
      clear hno
      go_wp2
      go_ret
      exact ⟨_, rfl, .inr ⟨hasSep_no fun i hi => HN.out i (by omega), by omega⟩, hbw⟩

set_option maxHeartbeats 400000 in
theorem IndexFunc_any (s : ByteArray) (w : World) :
    Calls Try.prog 9 #[.string s, .func (.func 8) #[] #[]] w fun e w' => ∃ r : Int, e = .returned (.int .i64 r) ∧ (hasSep s = true ∧ 0 ≤ r ∨ hasSep s = false ∧ r < 0) ∧ Below w.heap.size w w' := by
  go_enter Try.func9, Try.ntmps9
  go_wp2_with (go_at_call 10; refine (indexFunc_any _ _).mono ?_; rintro e w' ⟨r, rfl, hr, hb⟩)
  go_ret
  exact ⟨r, rfl, hr, hb⟩

set_option maxHeartbeats 400000 in
theorem ContainsFunc_any (s : ByteArray) (w : World) :
    Calls Try.prog 7 #[.string s, .func (.func 8) #[] #[]] w fun e w' => e = .returned (.bool (hasSep s)) ∧ Below w.heap.size w w' := by
  go_enter Try.func7, Try.ntmps7
  go_wp2_with (go_at_call 9; refine (IndexFunc_any _ _).mono ?_; rintro e w' ⟨r, rfl, hr, hb⟩)
  go_ret
  rcases hr with ⟨h1, h2⟩ | ⟨h1, h2⟩
  · exact ⟨by rw [h1]; simp [h2], hb⟩
  · exact ⟨by rw [h1]; simp [h2], hb⟩
end Go.Proofs.Qxb6618311a.Sp
