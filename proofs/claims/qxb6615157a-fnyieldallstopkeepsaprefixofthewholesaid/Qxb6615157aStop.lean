/- FnYieldAllStopKeepsAPrefixOfTheWhole (4): the walk. -/
import Derived.Test.Qxb6615157aStream
import Derived.Deep.DeepCutAuto
namespace Go.Proofs.Qxb6615157a.Ya
open Go.RowKit

set_option maxRecDepth 100000 in
set_option maxHeartbeats 1000000 in
theorem stop_big (a0 a1 : Option Addr) (len cap0 n cap1 : Nat) (stop : Int) (w : World) (hl : len ≤ 9223372036854775807) (hn : n ≤ 9223372036854775807)
    (hbig : (1048576 : Int) < (len : Int) ∨ (1048576 - (len : Int)) / 16 < (n : Int)) :
    Calls Try.prog 4 #[.slice a0 len cap0, .slice a1 n cap1, .int .i64 stop] w fun e w' => e = .returned (.bool true) ∧ Below w.heap.size w w' := by
  by_cases h1 : (1048576 : Int) < (len : Int)
  · clear hbig
    go_enter Try.func4, Try.ntmps4
    go_wp2
    go_ret
    exact ⟨rfl, Below.refl _ _⟩
  · by_cases h2 : (1048576 : Int) < (n : Int)
    · clear hbig
      go_enter Try.func4, Try.ntmps4
      go_wp2
      go_ret
      exact ⟨rfl, Below.refl _ _⟩
    · by_cases h3 : (1048576 : Int) < (len : Int) + (n : Int)
      · clear hbig
        go_enter Try.func4, Try.ntmps4
        go_wp2
        go_ret
        exact ⟨rfl, Below.refl _ _⟩
      · have h4 : (1048576 - (len : Int)) / 16 < (n : Int) := by omega
        clear hbig
        go_enter Try.func4, Try.ntmps4
        go_wp2
        go_ret
        exact ⟨rfl, Below.refl _ _⟩

set_option maxRecDepth 100000 in
set_option maxHeartbeats 1000000 in
theorem stop_unfit (a0 a1 : Option Addr) (len cap0 n cap1 : Nat) (stop : Int) (f g : Nat → Int) (w : World)
    (h1 : (len : Int) ≤ 1048576) (h4 : (n : Int) ≤ (1048576 - (len : Int)) / 16)
    (hS : PairsAt w (.slice a1 n cap1) n f g) (hno : ¬ ∀ i, i < n → Fits len f g i) :
    Calls Try.prog 4 #[.slice a0 len cap0, .slice a1 n cap1, .int .i64 stop] w fun e w' => e = .returned (.bool true) ∧ Below w.heap.size w w' := by
  have cF := fit_any a0 len cap0 n (.slice a1 n cap1) f g w (by omega) (by omega) hS
  have HN : Hid (¬ ∀ i, i < n → Fits len f g i) := hno
  clear hno hS
  go_enter Try.func4, Try.ntmps4
  go_wp2_with (go_at_call 10; go_in)
  refine cF.mono ?_
  rintro e w2 ⟨⟨hf, _⟩ | ⟨_, rfl⟩, q, rfl⟩
  · exact absurd hf HN.out
  · clear cF
    go_wp2
    go_ret
    exact ⟨rfl, belowN (Below.refl _ _) q⟩

/-- What one round of the sum reads. -/
theorem sum_facts {w : World} {sa : Option Addr} {n k : Nat} {f g : Nat → Int} (hS : SpansAt w (.slice sa n n) n f g) (hk : k < n) :
    ∃ sb, sa = some ⟨sb, 0, none⟩ ∧ w.cell? ⟨sb, k * 2, none⟩ = some (.int .i64 (f k)) ∧ w.cell? ⟨sb, k * 2 + 1, none⟩ = some (.int .i64 (g k)) := by
  obtain ⟨sa', hs, h1⟩ := hS
  simp only [Value.slice.injEq, and_true] at hs
  subst hs
  rcases h1 with h1 | ⟨sb, rfl, h1⟩
  · omega
  · exact ⟨sb, rfl, (h1 k hk).1, (h1 k hk).2⟩

/-- The text's pieces. -/
def Told (w : World) (P : Nat → Value) (n : Nat) (z f g : Nat → Int) : Prop := ∀ i, i < n → RowAt w (P i) ((g i).toNat - (f i).toNat) (fun j => .int .u8 (z ((f i).toNat + j)))
theorem Told.later {w w' : World} {P : Nat → Value} {n : Nat} {z f g : Nat → Int} (h : Told w P n z f g) (hb : Below w.heap.size w w') : Told w' P n z f g := fun i hi => (h i hi).later hb
theorem Told.drewN {w : World} {P : Nat → Value} {n : Nat} {z f g : Nat → Int} (h : Told w P n z f g) (q : Nat) : Told (w.drewN q) P n z f g := h
theorem Told.pieces {w : World} {P : Nat → Value} {n len : Nat} {z f g : Nat → Int} (h : Told w P n z f g) (hl : len ≤ 1048576) (hf : ∀ i, i < n → Fits len f g i) : Pieces w P n :=
  fun i hi => ⟨_, _, by have := hf i hi; unfold Fits at this; omega, h i hi⟩
theorem TextAt.drewN {w : World} {v : Value} {len : Nat} {z : Nat → Int} (h : TextAt w v len z) (q : Nat) : TextAt (w.drewN q) v len z := h

set_option maxRecDepth 100000 in
set_option maxHeartbeats 4000000 in
theorem stop_main (a0 a1 : Option Addr) (len cap0 n cap1 : Nat) (stop : Int) (z f g : Nat → Int) (w : World)
    (h1 : (len : Int) ≤ 1048576) (h4 : (n : Int) ≤ (1048576 - (len : Int)) / 16)
    (hT : RowAt w (.slice a0 len cap0) len (fun i => .int .u8 (z i))) (hT0 : a0 = none → len = 0 ∧ cap0 = 0)
    (hS : PairsAt w (.slice a1 n cap1) n f g) (hS0 : a1 = none → n = 0 ∧ cap1 = 0) (hfit : ∀ i, i < n → Fits len f g i) :
    Calls Try.prog 4 #[.slice a0 len cap0, .slice a1 n cap1, .int .i64 stop] w fun e w' => e = .returned (.bool true) ∧ Below w.heap.size w w' := by
  have cF := fit_yes a0 len cap0 n (.slice a1 n cap1) f g w (by omega) (by omega) hS hfit
  have HF : Hid (∀ i, i < n → Fits len f g i) := hfit
  have HT : Hid (RowAt w (.slice a0 len cap0) len (fun i => .int .u8 (z i))) := hT
  have HS : Hid (PairsAt w (.slice a1 n cap1) n f g) := hS
  have HT0 : Hid (a0 = none → len = 0 ∧ cap0 = 0) := hT0
  have HS0 : Hid (a1 = none → n = 0 ∧ cap1 = 0) := hS0
  have hneq := fun wx => run_neq_slice_nil_any (P := Try.prog) wx 22 5 a0 len cap0 0 0 Try.underlying22
  have hneq1 := fun wx => run_neq_slice_nil_any (P := Try.prog) wx 23 30 a1 n cap1 0 0 Try.underlying23
  clear hfit hS hT hT0 hS0
  go_enter Try.func4, Try.ntmps4
  go_wp2_with (go_at_call 10; go_in)
  refine cF.mono ?_
  rintro e w2 ⟨rfl, q, rfl⟩
  clear cF
  go_upto_if 38 with fail
  go_cut [0, 7] (fun T zz wx => TextAt wx T len z ∧ Below w.heap.size w wx)
  case first =>
    cases a0 with
    | none =>
      obtain ⟨e1, e2⟩ := HT0.out rfl
      subst e1; subst e2
      go_wp2_with fail
      go_meet
      case rel =>
        exact ⟨text_nil _ z, belowN (Below.refl _ _) q⟩
    | some ad =>
      obtain ⟨i5, hi5, hz5, hy5, hb5⟩ := info_parts Try.info5
      have hby : i5.bytes * len ≤ 281474976710656 := by rw [hb5]; omega
      go_wp2_with (first | (at_make; refine wpList_make_full _ rfl (.tmp 40) (.tmp 40) 22 rfl w.heap.size 5 i5 (.int .u8 0) 1 Try.underlying22 hi5 hz5 hy5 .i64 .i64 _ _ len rfl rfl rfl rfl hby (by unfold maxLen; omega) (by simp) ?_; intro w3 hown3 hgrow3) | (refine wpList_copy_all rfl (.tmp 42) (.tmp 43) 22 rfl 5 1 Try.underlying22 Try.size5 w.heap.size len _ _ w.heap.size _ rfl rfl hown3 (bcells z len) (bcells_len z len) (text_src HT.out (fun a v h => old_cell hgrow3 h)) (bcells_one z len) ?_; intro w4 HG4 hs4 hb4))
      go_meet
      case rel =>
        exact ⟨text_made HG4.out, ((belowN (Below.refl _ _) q).grown hgrow3 (by simp) (by simp)).trans hb4⟩
  case rest =>
    obtain ⟨hTx, hbx⟩ := hcut
    have HTx : Hid (TextAt wc u0 len z) := hTx
    have HBx : Hid (Below w.heap.size w wc) := hbx
    clear hTx hbx
    go_upto_if 47 with fail
    go_cut [1, 8] (fun S zz wx => SpansAt wx S n f g ∧ TextAt wx u0 len z ∧ Below w.heap.size w wx)
    case first =>
      cases a1 with
      | none =>
        obtain ⟨e1, e2⟩ := HS0.out rfl
        subst e1; subst e2
        go_wp2_with fail
        go_meet
        case rel =>
          exact ⟨spans_nil _ f g, HTx.out, HBx.out⟩
      | some ad =>
        obtain ⟨i3, hi3, hz3, hy3, hb3⟩ := info_parts Try.info30
        have hby : i3.bytes * n ≤ 281474976710656 := by rw [hb3]; omega
        have hsz := HBx.out.size
        go_wp2_with (first | (at_make; refine wpList_make_full _ rfl (.tmp 49) (.tmp 49) 23 rfl wc.heap.size 30 i3 (.agg #[.int .i64 0, .int .i64 0]) 2 Try.underlying23 hi3 hz3 hy3 .i64 .i64 _ _ n rfl rfl rfl rfl hby (by unfold maxLen; omega) (Nat.le_refl _) ?_; intro w3 hown3 hgrow3) | (refine wpList_copy_all rfl (.tmp 51) (.tmp 52) 23 rfl 30 2 Try.underlying23 Try.size30 wc.heap.size n _ _ wc.heap.size _ rfl rfl hown3 (pcells f g n) (pcells_len f g n) (spans_src HS.out (fun a v h => old_cell hgrow3 ((HBx.out.cell (World.block_lt_of_cell? w a h)).trans h))) (pcells_one f g n) ?_; intro w4 HG4 hs4 hb4))
        go_meet
        case rel =>
          have hb34 : Below wc.heap.size wc w4 := ((Below.refl _ _).grown hgrow3 (Nat.le_refl _) (by simp)).trans hb4
          exact ⟨spans_made HG4.out, HTx.out.later hb34, bnext HBx.out hsz hb34⟩
    case rest =>
      obtain ⟨hSx, hTy, hby⟩ := hcut
      obtain ⟨P, hcuts, hP⟩ := pieces_of (by omega) hTy HF.out
      have hSy := hSx
      obtain ⟨sa, hSv, hsc⟩ := hSx
      subst hSv
      have hn1 : n ≤ 1048576 := by omega
      have hl1 : len ≤ 1048576 := by omega
      have HS : Hid (SpansAt wc (.slice sa n n) n f g) := hSy
      have HT : Hid (TextAt wc u0 len z) := hTy
      have HP : Hid (Told wc P n z f g) := hP
      have HC : Hid (Cuts u0 f g P n) := hcuts
      have HB : Hid (Below w.heap.size w wc) := hby
      clear HTx HBx HS0 hneq hneq1 hSy hcuts hP hTy hby hsc HT0
      go_wp2_with fail
      go_loopw [9, 10] (fun s i wr => ∃ (k q : Nat) (x : Int), k ≤ n ∧ 0 ≤ x ∧ x ≤ 1048576 ∧ s = .int .i64 x ∧ i = .int .i64 k ∧ wr = wc.drewN q) (fun _ i _ => n - (intOf i).toNat)
      case atStart => exact ⟨0, 0, 0, Nat.zero_le _, by omega, by omega, rfl, rfl, rfl⟩
      case round =>
        obtain ⟨k, q, x, hk, hx0, hx1, rfl, rfl, hq⟩ := hrel
        by_cases hlt : k < n
        · obtain ⟨sb, r2, r4, r5⟩ := sum_facts HS.out hlt
          subst r2
          obtain ⟨f1, f2, f3⟩ := HF.out k hlt
          replace r4 : wr.cell? ⟨sb, k * 2, none⟩ = some (.int .i64 (f k)) := by rw [hq]; exact r4
          replace r5 : wr.cell? ⟨sb, k * 2 + 1, none⟩ = some (.int .i64 (g k)) := by rw [hq]; exact r5
          obtain ⟨y1, hy1⟩ : ∃ y, f k = y := ⟨_, rfl⟩
          obtain ⟨y2, hy2⟩ : ∃ y, g k = y := ⟨_, rfl⟩
          rw [hy1] at r4 f1 f2
          rw [hy2] at r5 f2 f3
          have HQ : Hid (wr = wc.drewN q) := hq
          have hp : (k : Int) < (n : Int) := by omega
          clear hq hy1 hy2
          by_cases hbg : (1048576 : Int) < x + (y2 - y1)
          · go_wp2
            go_quiet (fail)
            go_wp2
            go_ret
            exact ⟨rfl, by rw [HQ.out]; exact belowN (belowN HB.out q) nq⟩
          · go_wp2
            go_quiet (fail)
            go_wp2
            go_roundw
            case rel => exact ⟨k + 1, q + nq, x + (y2 - y1), by omega, by omega, by omega, rfl, by go_num, by rw [HQ.out, World.drewN_drewN]⟩
            case measure => simp [intOf]; omega
        · have hkn : k = n := by omega
          subst hkn
          have HK : Hid (SpansAt wr (.slice sa k k) k f g ∧ TextAt wr u0 len z ∧ Told wr P k z f g) := by rw [hq]; exact ⟨HS.out.drewN q, HT.out.drewN q, HP.out.drewN q⟩
          have HBr : Hid (Below w.heap.size w wr) := by rw [hq]; exact belowN HB.out q
          clear hq HS HT HP HB hlt hk
          by_cases hst : stop ≤ 0
          · have e1 : decide (1 ≤ stop) = false := by simp; omega
            go_wp2_with fail
            refine (zz_go _ _ _ k f g P _ hn1 (pairs_low HK.out.1 (Nat.le_refl _)) HC.out (.inl (Int.le_refl 0))).mono ?_
            rintro e w5 ⟨v5, rfl, hG5, hb5⟩
            have HG5 : Hid (GotAt w5 v5 P k) := hG5
            have HB5 : Hid (Below wr.heap.size wr w5) := hb5
            clear hG5 hb5
            obtain ⟨ad5, cap5, hv5, hcap5⟩ := HG5.out.shape2
            subst hv5
            go_wp2_with fail
            refine (zz_go _ _ _ k f g P _ hn1 (pairs_low (HK.out.1.later HB5.out) (Nat.le_refl _)) HC.out (by omega)).mono ?_
            rintro e w6 ⟨v6, rfl, hG6, hb6⟩
            have HG6 : Hid (GotAt w6 v6 P k) := hG6
            have HB6 : Hid (Below w5.heap.size w5 w6) := hb6
            clear hG6 hb6
            obtain ⟨ad6, cap6, hv6⟩ := HG6.out.shape
            subst hv6
            have HB56 : Hid (Below wr.heap.size wr w6) := bnext HB5.out HB5.out.size HB6.out
            go_wp2_with fail
            refine (stream_any hn1 hl1 (HG5.out.later HB6.out) (HK.out.2.1.later HB56.out) (HK.out.1.later HB56.out) HF.out (HK.out.2.2.later HB56.out)).mono ?_
            rintro e w7 ⟨rfl, q7, rfl⟩
            go_wp2_with fail
            refine (same_rows _ _ k P _ (by omega) ((got_low (k := k) HG6.out (Nat.le_refl _)).drewN q7) ((got_low (k := k) (HG5.out.later HB6.out) (by omega)).drewN q7) (fun i hi => ((HK.out.2.2.later HB56.out).pieces hl1 HF.out).drewN q7 i (by omega))).mono ?_
            rintro e w9 ⟨rfl, q9, rfl⟩
            go_wp2
            go_ret
            exact ⟨rfl, belowN (bnext HBr.out HBr.out.size HB56.out) _⟩
          · by_cases hst2 : (k : Int) < stop
            · have e1 : decide (1 ≤ stop) = true := by simp; omega
              go_wp2_with fail
              refine (zz_go _ _ _ k f g P _ hn1 (pairs_low HK.out.1 (Nat.le_refl _)) HC.out (.inl (Int.le_refl 0))).mono ?_
              rintro e w5 ⟨v5, rfl, hG5, hb5⟩
              have HG5 : Hid (GotAt w5 v5 P k) := hG5
              have HB5 : Hid (Below wr.heap.size wr w5) := hb5
              clear hG5 hb5
              obtain ⟨ad5, cap5, hv5, hcap5⟩ := HG5.out.shape2
              subst hv5
              go_wp2_with fail
              refine (zz_go _ _ _ k f g P _ hn1 (pairs_low (HK.out.1.later HB5.out) (Nat.le_refl _)) HC.out (by omega)).mono ?_
              rintro e w6 ⟨v6, rfl, hG6, hb6⟩
              have HG6 : Hid (GotAt w6 v6 P k) := hG6
              have HB6 : Hid (Below w5.heap.size w5 w6) := hb6
              clear hG6 hb6
              obtain ⟨ad6, cap6, hv6⟩ := HG6.out.shape
              subst hv6
              have HB56 : Hid (Below wr.heap.size wr w6) := bnext HB5.out HB5.out.size HB6.out
              go_wp2_with fail
              refine (stream_any hn1 hl1 (HG5.out.later HB6.out) (HK.out.2.1.later HB56.out) (HK.out.1.later HB56.out) HF.out (HK.out.2.2.later HB56.out)).mono ?_
              rintro e w7 ⟨rfl, q7, rfl⟩
              go_wp2_with fail
              refine (same_rows _ _ k P _ (by omega) ((got_low (k := k) HG6.out (Nat.le_refl _)).drewN q7) ((got_low (k := k) (HG5.out.later HB6.out) (by omega)).drewN q7) (fun i hi => ((HK.out.2.2.later HB56.out).pieces hl1 HF.out).drewN q7 i (by omega))).mono ?_
              rintro e w9 ⟨rfl, q9, rfl⟩
              go_wp2
              go_ret
              exact ⟨rfl, belowN (bnext HBr.out HBr.out.size HB56.out) _⟩
            · obtain ⟨s, rfl⟩ := Int.eq_ofNat_of_zero_le (show 0 ≤ stop by omega)
              have e1 : decide ((1 : Int) ≤ (s : Int)) = true := by simp; omega
              have hsn : s ≤ k := by omega
              have hsn' : (s : Int) ≤ (k : Int) := by omega
              have hs0 : 1 ≤ s := by omega
              go_wp2_with fail
              refine (zz_go _ _ _ k f g P _ hn1 (pairs_low HK.out.1 (Nat.le_refl _)) HC.out (.inl (Int.le_refl 0))).mono ?_
              rintro e w5 ⟨v5, rfl, hG5, hb5⟩
              have HG5 : Hid (GotAt w5 v5 P k) := hG5
              have HB5 : Hid (Below wr.heap.size wr w5) := hb5
              clear hG5 hb5
              obtain ⟨ad5, cap5, hv5, hcap5⟩ := HG5.out.shape2
              subst hv5
              go_wp2_with fail
              refine (zz_stop _ _ s k f g P _ hn1 (pairs_low (HK.out.1.later HB5.out) (Nat.le_refl _)) HC.out (by omega) (by omega)).mono ?_
              rintro e w6 ⟨v6, rfl, hG6, hb6⟩
              have HG6 : Hid (GotAt w6 v6 P s) := hG6
              have HB6 : Hid (Below w5.heap.size w5 w6) := hb6
              clear hG6 hb6
              obtain ⟨ad6, cap6, hv6⟩ := HG6.out.shape
              subst hv6
              have HB56 : Hid (Below wr.heap.size wr w6) := bnext HB5.out HB5.out.size HB6.out
              go_wp2_with fail
              refine (stream_any hn1 hl1 (HG5.out.later HB6.out) (HK.out.2.1.later HB56.out) (HK.out.1.later HB56.out) HF.out (HK.out.2.2.later HB56.out)).mono ?_
              rintro e w7 ⟨rfl, q7, rfl⟩
              go_wp2_with fail
              refine (same_rows _ _ s P _ (by omega) ((got_low (k := s) HG6.out (Nat.le_refl _)).drewN q7) ((got_low (k := s) (HG5.out.later HB6.out) (by omega)).drewN q7) (fun i hi => ((HK.out.2.2.later HB56.out).pieces hl1 HF.out).drewN q7 i (by omega))).mono ?_
              rintro e w9 ⟨rfl, q9, rfl⟩
              go_wp2
              go_ret
              exact ⟨rfl, belowN (bnext HBr.out HBr.out.size HB56.out) _⟩
end Go.Proofs.Qxb6615157a.Ya
