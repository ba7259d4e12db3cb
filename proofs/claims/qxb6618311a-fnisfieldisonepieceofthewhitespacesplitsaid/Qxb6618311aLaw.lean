/- THE LAW's WALK (3) of the seat b6618311a. -/
import Derived.Test.Qxb6618311aIsField
namespace Go.Proofs.Qxb6618311a.Sp
open Go.RowKit Go.Proofs.Qxb6618311a.Pl

theorem sepAt_of (s : ByteArray) (k : Nat) (h : k < s.size) : sepAt s k = sepN s[k].toNat := by
  unfold sepAt; rw [Pl.get_at s k h]

theorem bnext {B : Nat} {a b c : World} (h : Below B a b) (hB : B ≤ b.heap.size) (k : Below b.heap.size b c) : Below B a c := h.trans (k.mono hB)

set_option maxHeartbeats 1000000 in
theorem law_any (s : ByteArray) (hs : s.size ≤ maxLen) (w : World) :
    Calls Try.prog 3 #[.string s] w fun e w' => e = .returned (.bool true) ∧ Below w.heap.size w w' := by
  unfold maxLen at hs
  by_cases hbig : (1048576 : Int) < (s.size : Int)
  · go_enter Try.func3, Try.ntmps3
    go_wp2
    go_ret
    exact ⟨rfl, Below.refl _ _⟩
  · go_enter Try.func3, Try.ntmps3
    go_wp2
    go_loopw [4, 5] (fun st i wx => ∃ (k : Nat) (c : Int), k ≤ s.size ∧ i = .int .i64 k ∧ st = .int .i64 c ∧ Cut s k c ∧ Below w.heap.size w wx) (fun _ i _ => s.size - (intOf i).toNat)
    case atStart => exact ⟨0, -1, Nat.zero_le _, rfl, rfl, .inl ⟨rfl, .inl rfl⟩, Below.refl _ _⟩
    case round =>
      obtain ⟨k, c, hk, rfl, rfl, hcut, hb⟩ := hrel
      by_cases hlt : k < s.size
      · have hat := sepAt_of s k hlt
        rcases hcut with ⟨rfl, hc⟩ | ⟨j, rfl, hj, hall, hc⟩
        · cases hsp : sepN s[k].toNat
          · have HC : Hid (Cut s (k + 1) (k : Int)) := .inr ⟨k, rfl, by omega, fun i h1 h2 => by rw [show i = k from by omega, hat]; exact hsp, hc⟩
            clear hat hc
            go_wp2_with (go_at_call 5; refine (sepByte_any _ _).mono ?_; rintro e w' ⟨rfl, rfl⟩)
            go_roundw
            case rel => exact ⟨k + 1, k, by omega, by go_num, rfl, HC.out, hb⟩
            case measure => simp [intOf]; omega
          · have HC : Hid (Cut s (k + 1) (-1)) := .inl ⟨rfl, .inr (by rw [Nat.add_sub_cancel, hat]; exact hsp)⟩
            have hf : isFld (s.extract k (k + 1)) = false := fld_no s k (k + 1) k (by omega) (by omega) (by omega) (by rw [hat]; exact hsp)
            clear hat hc
            go_wp2_with (first | (go_at_call 5; refine (sepByte_any _ _).mono ?_; rintro e w' ⟨rfl, rfl⟩) | (go_at_call 6; refine (isField_any _ _).mono ?_; rintro e w2 ⟨rfl, hb2⟩))
            go_roundw
            case rel => exact ⟨k + 1, -1, by omega, by go_num, rfl, HC.out, bnext hb hb.size hb2⟩
            case measure => simp [intOf]; omega
        · cases hsp : sepN s[k].toNat
          · have HC : Hid (Cut s (k + 1) (j : Int)) := .inr ⟨j, rfl, by omega, fun i h1 h2 => if h : i < k then hall i h1 h else by rw [show i = k from by omega, hat]; exact hsp, hc⟩
            clear hat hc hall
            go_wp2_with (go_at_call 5; refine (sepByte_any _ _).mono ?_; rintro e w' ⟨rfl, rfl⟩)
            go_roundw
            case rel => exact ⟨k + 1, j, by omega, by go_num, rfl, HC.out, hb⟩
            case measure => simp [intOf]; omega
          · have HC : Hid (Cut s (k + 1) (-1)) := .inl ⟨rfl, .inr (by rw [Nat.add_sub_cancel, hat]; exact hsp)⟩
            have hf : isFld (s.extract k (k + 1)) = false := fld_no s k (k + 1) k (by omega) (by omega) (by omega) (by rw [hat]; exact hsp)
            have hf1 : isFld (s.extract j k) = true := fld_yes s j k (by omega) (by omega) hall
            have hf2 : isFld (s.extract j (k + 1)) = false := fld_no s j (k + 1) k (by omega) (by omega) (by omega) (by rw [hat]; exact hsp)
            clear hat hc hall
            go_wp2_with (go_at_call 5; refine (sepByte_any _ _).mono ?_; rintro e w' ⟨rfl, rfl⟩)
            refine (isField_any _ _).mono ?_
            rintro e w2 ⟨rfl, hb2⟩
            go_wp2_with fail
            refine (isField_any _ _).mono ?_
            rintro e w3 ⟨rfl, hb3⟩
            go_wp2_with fail
            refine (isField_any _ _).mono ?_
            rintro e w4 ⟨rfl, hb4⟩
            go_wp2_with fail
            have hB2 := bnext hb hb.size hb2
            have hB3 := bnext hB2 hB2.size hb3
            have hB4 := bnext hB3 hB3.size hb4
            go_roundw
            case rel => exact ⟨k + 1, -1, by omega, by go_num, rfl, HC.out, hB4⟩
            case measure => simp [intOf]; omega
      · have hkn : k = s.size := by omega
        subst hkn
        rcases hcut with ⟨rfl, hc⟩ | ⟨j, rfl, hj, hall, hc⟩
        · have hw : isFld s = false := by
            rcases hc with h0 | h1
            · exact whole_empty s h0
            · by_cases h0 : s.size = 0
              · exact whole_empty s h0
              · exact whole_no s (s.size - 1) (by omega) h1
          clear hc
          go_wp2_with (go_at_call 6; refine (isField_any _ _).mono ?_; rintro e w2 ⟨rfl, hb2⟩)
          go_ret
          exact ⟨rfl, bnext hb hb.size hb2⟩
        · have hf1 : isFld (s.extract j s.size) = true := fld_yes s j s.size (by omega) (by omega) hall
          by_cases hj0 : j = 0
          · subst hj0
            have hw : isFld s = true := whole_yes s (by omega) (fun i hi => hall i (Nat.zero_le _) hi)
            clear hc hall
            go_wp2_with fail
            refine (isField_any _ _).mono ?_
            rintro e w2 ⟨rfl, hb2⟩
            go_wp2_with fail
            refine (isField_any _ _).mono ?_
            rintro e w3 ⟨rfl, hb3⟩
            go_wp2_with fail
            have hB2 := bnext hb hb.size hb2
            have hB3 := bnext hB2 hB2.size hb3
            go_ret
            exact ⟨rfl, hB3⟩
          · have hw : isFld s = false := by
              rcases hc with h0 | h1
              · exact absurd h0 hj0
              · exact whole_no s (j - 1) (by omega) h1
            have hjb : ((j : Int) == 0) = false := by simpa using hj0
            clear hc hall
            go_wp2_with fail
            refine (isField_any _ _).mono ?_
            rintro e w2 ⟨rfl, hb2⟩
            go_wp2_with fail
            refine (isField_any _ _).mono ?_
            rintro e w3 ⟨rfl, hb3⟩
            go_wp2_with fail
            have hB2 := bnext hb hb.size hb2
            have hB3 := bnext hB2 hB2.size hb3
            go_ret
            exact ⟨rfl, hB3⟩
end Go.Proofs.Qxb6618311a.Sp
