/- FnYieldAllCutAnywhere (3), the main way. -/
import Derived.Test.Qxb6615157aCutEarly
namespace Go.Proofs.Qxb6615157a.Ya
open Go.RowKit

set_option maxRecDepth 100000 in
set_option maxHeartbeats 4000000 in
theorem cut_main (a0 a1 : Option Addr) (len cap0 n cap1 c : Nat) (stop : Int) (z f g : Nat → Int) (w : World)
    (h1 : (len : Int) ≤ 1048576) (h4 : (n : Int) ≤ (1048576 - (len : Int)) / 16) (hcn : c ≤ n) (hs1 : -9223372036854775808 ≤ stop) (hs2 : stop ≤ 9223372036854775807)
    (hT : RowAt w (.slice a0 len cap0) len (fun i => .int .u8 (z i))) (hT0 : a0 = none → len = 0 ∧ cap0 = 0) 
    (hS : PairsAt w (.slice a1 n cap1) n f g) (hS0 : a1 = none → n = 0 ∧ cap1 = 0) (hfit : ∀ i, i < n → Fits len f g i) :
    Calls Try.prog 3 #[.slice a0 len cap0, .slice a1 n cap1, .int .i64 stop, .int .i64 (c : Int)] w fun e w' => e = .returned (.bool true) ∧ Below w.heap.size w w' := by
  have d0 : decide ((c : Int) < 0) = false := by simp
  have hcn' : (c : Int) ≤ (n : Int) := by omega
  have cF := fit_yes a0 len cap0 n (.slice a1 n cap1) f g w (by omega) (by omega) hS hfit
  have HF : Hid (∀ i, i < n → Fits len f g i) := hfit
  have HT : Hid (RowAt w (.slice a0 len cap0) len (fun i => .int .u8 (z i))) := hT
  have HS : Hid (PairsAt w (.slice a1 n cap1) n f g) := hS
  have HT0 : Hid (a0 = none → len = 0 ∧ cap0 = 0) := hT0
  have HS0 : Hid (a1 = none → n = 0 ∧ cap1 = 0) := hS0
  have hneq := fun wx => run_neq_slice_nil_any (P := Try.prog) wx 22 5 a0 len cap0 0 0 Try.underlying22
  have hneq1 := fun wx => run_neq_slice_nil_any (P := Try.prog) wx 23 30 a1 n cap1 0 0 Try.underlying23
  clear hfit hS hT hT0 hS0
  go_enter Try.func3, Try.ntmps3
  go_wp2_with (go_at_call 5; go_in)
  refine cF.mono ?_
  rintro e w2 ⟨rfl, q, rfl⟩
  clear cF
  go_upto_if 51 with fail
  go_cut [0, 9] (fun T zz wx => TextAt wx T len z ∧ Below w.heap.size w wx)
  case first =>
    cases a0 with
    | none =>
      obtain ⟨e1, e2⟩ := HT0.out rfl
      subst e1; subst e2
      go_wp2_with fail
      go_meet
      case rel =>
        exact ⟨text_nil _ z, belowN (Below.refl _ _) q⟩
    | some ad =>
      obtain ⟨i5, hi5, hz5, hy5, hb5⟩ := info_parts Try.info5
      have hby : i5.bytes * len ≤ 281474976710656 := by rw [hb5]; omega
      go_wp2_with (first | (at_make; refine wpList_make_full _ rfl (.tmp 53) (.tmp 53) 22 rfl w.heap.size 5 i5 (.int .u8 0) 1 Try.underlying22 hi5 hz5 hy5 .i64 .i64 _ _ len rfl rfl rfl rfl hby (by unfold maxLen; omega) (by simp) ?_; intro w3 hown3 hgrow3) | (refine wpList_copy_all rfl (.tmp 55) (.tmp 56) 22 rfl 5 1 Try.underlying22 Try.size5 w.heap.size len _ _ w.heap.size _ rfl rfl hown3 (bcells z len) (bcells_len z len) (text_src HT.out (fun a v h => old_cell hgrow3 h)) (bcells_one z len) ?_; intro w4 HG4 hs4 hb4))
      go_meet
      case rel =>
        exact ⟨text_made HG4.out, ((belowN (Below.refl _ _) q).grown hgrow3 (by simp) (by simp)).trans hb4⟩
  case rest =>
    obtain ⟨hTx, hbx⟩ := hcut
    have HTx : Hid (TextAt wc u0 len z) := hTx
    have HBx : Hid (Below w.heap.size w wc) := hbx
    clear hTx hbx
    go_upto_if 60 with fail
    go_cut [1, 10] (fun S zz wx => SpansAt wx S n f g ∧ TextAt wx u0 len z ∧ Below w.heap.size w wx)
    case first =>
      cases a1 with
      | none =>
        obtain ⟨e1, e2⟩ := HS0.out rfl
        subst e1; subst e2
        go_wp2_with fail
        go_meet
        case rel =>
          exact ⟨spans_nil _ f g, HTx.out, HBx.out⟩
      | some ad =>
        obtain ⟨i3, hi3, hz3, hy3, hb3⟩ := info_parts Try.info30
        have hby : i3.bytes * n ≤ 281474976710656 := by rw [hb3]; omega
        have hsz := HBx.out.size
        go_wp2_with (first | (at_make; refine wpList_make_full _ rfl (.tmp 62) (.tmp 62) 23 rfl wc.heap.size 30 i3 (.agg #[.int .i64 0, .int .i64 0]) 2 Try.underlying23 hi3 hz3 hy3 .i64 .i64 _ _ n rfl rfl rfl rfl hby (by unfold maxLen; omega) (Nat.le_refl _) ?_; intro w3 hown3 hgrow3) | (refine wpList_copy_all rfl (.tmp 64) (.tmp 65) 23 rfl 30 2 Try.underlying23 Try.size30 wc.heap.size n _ _ wc.heap.size _ rfl rfl hown3 (pcells f g n) (pcells_len f g n) (spans_src HS.out (fun a v h => old_cell hgrow3 ((HBx.out.cell (World.block_lt_of_cell? w a h)).trans h))) (pcells_one f g n) ?_; intro w4 HG4 hs4 hb4))
        go_meet
        case rel =>
          have hb34 : Below wc.heap.size wc w4 := ((Below.refl _ _).grown hgrow3 (Nat.le_refl _) (by simp)).trans hb4
          exact ⟨spans_made HG4.out, HTx.out.later hb34, bnext HBx.out hsz hb34⟩
    case rest =>
      obtain ⟨hSx, hTy, hby⟩ := hcut
      obtain ⟨P, hcuts, hP⟩ := pieces_of (by omega) hTy HF.out
      have hPs : Pieces wc P n := fun i hi => ⟨_, _, by have := HF.out i hi; unfold Fits at this; omega, hP i hi⟩
      have hSy := hSx
      obtain ⟨sa, hSv, hsc⟩ := hSx
      subst hSv
      have hn1 : n ≤ 1048576 := by omega
      have hc1 : c ≤ 1048576 := by omega
      have HS : Hid (SpansAt wc (.slice sa n n) n f g) := hSy
      have HP : Hid (Pieces wc P n) := hPs
      have HC : Hid (Cuts u0 f g P n) := hcuts
      have HB : Hid (Below w.heap.size w wc) := hby
      clear HTx HBx HT HS0 hneq hneq1 hSy hcuts hP hPs hTy hby hsc HT0 HF
      by_cases hst : stop ≤ 0
      · have e1 : decide (1 ≤ stop) = false := by simp; omega
        by_cases hce : c < n
        · have hce' : ¬ n = c := by omega
          go_wp2_with fail
          refine (zz_go _ _ _ n f g P _ hn1 (pairs_low HS.out (Nat.le_refl _)) HC.out (by omega)).mono ?_
          rintro e w5 ⟨v5, rfl, hG5, hb5⟩
          have HG5 : Hid (GotAt w5 v5 P n) := hG5
          have HB5 : Hid (Below wc.heap.size wc w5) := hb5
          clear hG5 hb5
          obtain ⟨ad5, cap5, hv5, hcap5⟩ := HG5.out.shape2
          subst hv5
          go_wp2_with fail
          refine (zz_go _ _ _ c f g P _ hc1 (pairs_low (HS.out.later HB5.out) hcn) (cuts_low HC.out hcn) (by omega)).mono ?_
          rintro e w6 ⟨v6, rfl, hG6, hb6⟩
          have HG6 : Hid (GotAt w6 v6 P c) := hG6
          have HB6 : Hid (Below w5.heap.size w5 w6) := hb6
          clear hG6 hb6
          obtain ⟨ad6, cap6, hv6⟩ := HG6.out.shape
          subst hv6
          have HB56 : Hid (Below wc.heap.size wc w6) := bnext HB5.out HB5.out.size HB6.out
          have HK : Hid (GotAt w6 (.slice ad5 n cap5) P n ∧ SpansAt w6 (.slice sa n n) n f g ∧ Pieces w6 P n) := ⟨HG5.out.later HB6.out, HS.out.later HB56.out, HP.out.later HB56.out⟩
          go_wp2_with fail
          go_loopw [18] (fun i wr => ∃ k q : Nat, k ≤ n ∧ i = .int .i64 k ∧ wr = w6.drewN q) (fun i _ => n - (intOf i).toNat)
          case atStart => exact ⟨0, 0, Nat.zero_le _, rfl, rfl⟩
          case round =>
            obtain ⟨k, q, hk, rfl, hq⟩ := hrel
            by_cases hlt : k < n
            · obtain ⟨b, sb, pa, pn, pc, r1, r2, r3, r4, r5, r6, r7⟩ := round_facts HK.out.1 HK.out.2.1 HC.out HK.out.2.2 hlt (by omega)
              subst r1; subst r2
              replace r3 : wr.cell? ⟨b, k, none⟩ = some (.slice pa pn pc) := by rw [hq]; exact r3
              replace r4 : wr.cell? ⟨sb, k * 2, none⟩ = some (.int .i64 (f k)) := by rw [hq]; exact r4
              replace r5 : wr.cell? ⟨sb, k * 2 + 1, none⟩ = some (.int .i64 (g k)) := by rw [hq]; exact r5
              have HP7 : Hid (SomeBytes wr (.slice pa pn pc)) := by rw [hq]; exact r7
              have HQ : Hid (wr = w6.drewN q) := hq
              have hp : (k : Int) < (n : Int) := by omega
              have hp2 : (k : Int) < (n : Int) := by omega
              clear r7 hq
              go_wp2
              go_quiet ((go_at_call 8; refine Calls.quiet_of (eq_self _ _ ?_); exact HP7.out))
              go_wp2
              go_roundw
              case rel => exact ⟨k + 1, q + nq, by omega, by go_num, by rw [HQ.out, World.drewN_drewN]⟩
              case measure => simp [intOf]; omega
            · have hkn : k = n := by omega
              subst hkn
              have HKr : Hid (GotAt wr (.slice ad5 k cap5) P k ∧ SpansAt wr (.slice sa k k) k f g ∧ Pieces wr P k) := by rw [hq]; exact ⟨HK.out.1.drewN q, HK.out.2.1.drewN q, HK.out.2.2.drewN q⟩
              have HGr : Hid (GotAt wr (.slice ad6 c cap6) P c) := by rw [hq]; exact HG6.out.drewN q
              have HBr : Hid (Below w.heap.size w wr) := by rw [hq]; exact belowN (bnext HB.out HB.out.size HB56.out) q
              clear hq HK HG6 HB HB56 HB6 HB5 HG5 HS HP
              go_wp2_with fail
              refine (zz_go _ _ _ (k - c) (fun i => f (c + i)) (fun i => g (c + i)) (fun i => P (c + i)) _ (by omega) (pairs_high HKr.out.2.1 (by omega)) (cuts_high (c := c) HC.out) (by omega)).mono ?_
              rintro e w8 ⟨v8, rfl, hG8, hb8⟩
              have HG8 : Hid (GotAt w8 v8 (fun i => P (c + i)) (k - c)) := hG8
              have HB8 : Hid (Below wr.heap.size wr w8) := hb8
              clear hG8 hb8
              obtain ⟨ad8, cap8, hv8⟩ := HG8.out.shape
              subst hv8
              go_wp2_with fail
              refine (same_rows _ _ c P _ (by omega) (got_low (k := c) (HKr.out.1.later HB8.out) (by omega)) (got_low (k := c) (HGr.out.later HB8.out) (Nat.le_refl _)) (fun i hi => HKr.out.2.2.later HB8.out i (by omega))).mono ?_
              rintro e w9 ⟨rfl, q2, rfl⟩
              go_wp2_with fail
              all_goals
                refine (same_rows _ _ (k - c) (fun i => P (c + i)) _ (by omega) ((got_high (k := c) (HKr.out.1.later HB8.out) (by omega)).drewN q2) ((got_low (k := (k - c)) HG8.out (Nat.le_refl _)).drewN q2) (fun i hi => (HKr.out.2.2.later HB8.out).drewN q2 (c + i) (by omega))).mono ?_
                rintro e w10 ⟨rfl, q3, rfl⟩
                go_wp2
                go_ret
                exact ⟨rfl, belowN (bnext HBr.out HBr.out.size HB8.out) _⟩
        · have hce' : c = n := by omega
          subst hce'
          go_wp2_with fail
          refine (zz_go _ _ _ c f g P _ hn1 (pairs_low HS.out (Nat.le_refl _)) HC.out (by omega)).mono ?_
          rintro e w5 ⟨v5, rfl, hG5, hb5⟩
          have HG5 : Hid (GotAt w5 v5 P c) := hG5
          have HB5 : Hid (Below wc.heap.size wc w5) := hb5
          clear hG5 hb5
          obtain ⟨ad5, cap5, hv5, hcap5⟩ := HG5.out.shape2
          subst hv5
          go_wp2_with fail
          refine (zz_go _ _ _ c f g P _ hc1 (pairs_low (HS.out.later HB5.out) hcn) (cuts_low HC.out hcn) (by omega)).mono ?_
          rintro e w6 ⟨v6, rfl, hG6, hb6⟩
          have HG6 : Hid (GotAt w6 v6 P c) := hG6
          have HB6 : Hid (Below w5.heap.size w5 w6) := hb6
          clear hG6 hb6
          obtain ⟨ad6, cap6, hv6⟩ := HG6.out.shape
          subst hv6
          have HB56 : Hid (Below wc.heap.size wc w6) := bnext HB5.out HB5.out.size HB6.out
          have HK : Hid (GotAt w6 (.slice ad5 c cap5) P c ∧ SpansAt w6 (.slice sa c c) c f g ∧ Pieces w6 P c) := ⟨HG5.out.later HB6.out, HS.out.later HB56.out, HP.out.later HB56.out⟩
          go_wp2_with fail
          go_loopw [18] (fun i wr => ∃ k q : Nat, k ≤ c ∧ i = .int .i64 k ∧ wr = w6.drewN q) (fun i _ => c - (intOf i).toNat)
          case atStart => exact ⟨0, 0, Nat.zero_le _, rfl, rfl⟩
          case round =>
            obtain ⟨k, q, hk, rfl, hq⟩ := hrel
            by_cases hlt : k < c
            · obtain ⟨b, sb, pa, pn, pc, r1, r2, r3, r4, r5, r6, r7⟩ := round_facts HK.out.1 HK.out.2.1 HC.out HK.out.2.2 hlt (by omega)
              subst r1; subst r2
              replace r3 : wr.cell? ⟨b, k, none⟩ = some (.slice pa pn pc) := by rw [hq]; exact r3
              replace r4 : wr.cell? ⟨sb, k * 2, none⟩ = some (.int .i64 (f k)) := by rw [hq]; exact r4
              replace r5 : wr.cell? ⟨sb, k * 2 + 1, none⟩ = some (.int .i64 (g k)) := by rw [hq]; exact r5
              have HP7 : Hid (SomeBytes wr (.slice pa pn pc)) := by rw [hq]; exact r7
              have HQ : Hid (wr = w6.drewN q) := hq
              have hp : (k : Int) < (c : Int) := by omega
              have hp2 : (k : Int) < (c : Int) := by omega
              clear r7 hq
              go_wp2
              go_quiet ((go_at_call 8; refine Calls.quiet_of (eq_self _ _ ?_); exact HP7.out))
              go_wp2
              go_roundw
              case rel => exact ⟨k + 1, q + nq, by omega, by go_num, by rw [HQ.out, World.drewN_drewN]⟩
              case measure => simp [intOf]; omega
            · have hkn : k = c := by omega
              subst hkn
              have HKr : Hid (GotAt wr (.slice ad5 k cap5) P k ∧ SpansAt wr (.slice sa k k) k f g ∧ Pieces wr P k) := by rw [hq]; exact ⟨HK.out.1.drewN q, HK.out.2.1.drewN q, HK.out.2.2.drewN q⟩
              have HGr : Hid (GotAt wr (.slice ad6 k cap6) P k) := by rw [hq]; exact HG6.out.drewN q
              have HBr : Hid (Below w.heap.size w wr) := by rw [hq]; exact belowN (bnext HB.out HB.out.size HB56.out) q
              clear hq HK HG6 HB HB56 HB6 HB5 HG5 HS HP
              go_wp2_with fail
              refine (zz_go _ _ _ 0 (fun i => f (k + i)) (fun i => g (k + i)) (fun i => P (k + i)) _ (by omega) (pairs_end _ _ _ _ _) (cuts_none _ _ _ _) (by omega)).mono ?_
              rintro e w8 ⟨v8, rfl, hG8, hb8⟩
              have HG8 : Hid (GotAt w8 v8 (fun i => P (k + i)) 0) := hG8
              have HB8 : Hid (Below wr.heap.size wr w8) := hb8
              clear hG8 hb8
              obtain ⟨ad8, cap8, hv8⟩ := HG8.out.shape
              subst hv8
              go_wp2_with fail
              refine (same_rows _ _ k P _ (by omega) (got_low (k := k) (HKr.out.1.later HB8.out) (by omega)) (got_low (k := k) (HGr.out.later HB8.out) (Nat.le_refl _)) (fun i hi => HKr.out.2.2.later HB8.out i (by omega))).mono ?_
              rintro e w9 ⟨rfl, q2, rfl⟩
              go_wp2_with fail
              all_goals
                refine (same_rows _ _ 0 (fun i => P (k + i)) _ (by omega) (row_end _ _ _ _) ((got_low (k := 0) HG8.out (Nat.le_refl _)).drewN q2) (fun i hi => (HKr.out.2.2.later HB8.out).drewN q2 (k + i) (by omega))).mono ?_
                rintro e w10 ⟨rfl, q3, rfl⟩
                go_wp2
                go_ret
                exact ⟨rfl, belowN (bnext HBr.out HBr.out.size HB8.out) _⟩
      · by_cases hst2 : (n : Int) < stop
        · have e1 : decide (1 ≤ stop) = true := by simp; omega
          by_cases hce : c < n
          · have hce' : ¬ n = c := by omega
            go_wp2_with fail
            refine (zz_go _ _ _ n f g P _ hn1 (pairs_low HS.out (Nat.le_refl _)) HC.out (by omega)).mono ?_
            rintro e w5 ⟨v5, rfl, hG5, hb5⟩
            have HG5 : Hid (GotAt w5 v5 P n) := hG5
            have HB5 : Hid (Below wc.heap.size wc w5) := hb5
            clear hG5 hb5
            obtain ⟨ad5, cap5, hv5, hcap5⟩ := HG5.out.shape2
            subst hv5
            go_wp2_with fail
            refine (zz_go _ _ _ c f g P _ hc1 (pairs_low (HS.out.later HB5.out) hcn) (cuts_low HC.out hcn) (by omega)).mono ?_
            rintro e w6 ⟨v6, rfl, hG6, hb6⟩
            have HG6 : Hid (GotAt w6 v6 P c) := hG6
            have HB6 : Hid (Below w5.heap.size w5 w6) := hb6
            clear hG6 hb6
            obtain ⟨ad6, cap6, hv6⟩ := HG6.out.shape
            subst hv6
            have HB56 : Hid (Below wc.heap.size wc w6) := bnext HB5.out HB5.out.size HB6.out
            have HK : Hid (GotAt w6 (.slice ad5 n cap5) P n ∧ SpansAt w6 (.slice sa n n) n f g ∧ Pieces w6 P n) := ⟨HG5.out.later HB6.out, HS.out.later HB56.out, HP.out.later HB56.out⟩
            go_wp2_with fail
            go_loopw [18] (fun i wr => ∃ k q : Nat, k ≤ n ∧ i = .int .i64 k ∧ wr = w6.drewN q) (fun i _ => n - (intOf i).toNat)
            case atStart => exact ⟨0, 0, Nat.zero_le _, rfl, rfl⟩
            case round =>
              obtain ⟨k, q, hk, rfl, hq⟩ := hrel
              by_cases hlt : k < n
              · obtain ⟨b, sb, pa, pn, pc, r1, r2, r3, r4, r5, r6, r7⟩ := round_facts HK.out.1 HK.out.2.1 HC.out HK.out.2.2 hlt (by omega)
                subst r1; subst r2
                replace r3 : wr.cell? ⟨b, k, none⟩ = some (.slice pa pn pc) := by rw [hq]; exact r3
                replace r4 : wr.cell? ⟨sb, k * 2, none⟩ = some (.int .i64 (f k)) := by rw [hq]; exact r4
                replace r5 : wr.cell? ⟨sb, k * 2 + 1, none⟩ = some (.int .i64 (g k)) := by rw [hq]; exact r5
                have HP7 : Hid (SomeBytes wr (.slice pa pn pc)) := by rw [hq]; exact r7
                have HQ : Hid (wr = w6.drewN q) := hq
                have hp : (k : Int) < (n : Int) := by omega
                have hp2 : (k : Int) < (n : Int) := by omega
                clear r7 hq
                go_wp2
                go_quiet ((go_at_call 8; refine Calls.quiet_of (eq_self _ _ ?_); exact HP7.out))
                go_wp2
                go_roundw
                case rel => exact ⟨k + 1, q + nq, by omega, by go_num, by rw [HQ.out, World.drewN_drewN]⟩
                case measure => simp [intOf]; omega
              · have hkn : k = n := by omega
                subst hkn
                have HKr : Hid (GotAt wr (.slice ad5 k cap5) P k ∧ SpansAt wr (.slice sa k k) k f g ∧ Pieces wr P k) := by rw [hq]; exact ⟨HK.out.1.drewN q, HK.out.2.1.drewN q, HK.out.2.2.drewN q⟩
                have HGr : Hid (GotAt wr (.slice ad6 c cap6) P c) := by rw [hq]; exact HG6.out.drewN q
                have HBr : Hid (Below w.heap.size w wr) := by rw [hq]; exact belowN (bnext HB.out HB.out.size HB56.out) q
                clear hq HK HG6 HB HB56 HB6 HB5 HG5 HS HP
                go_wp2_with fail
                refine (zz_go _ _ _ (k - c) (fun i => f (c + i)) (fun i => g (c + i)) (fun i => P (c + i)) _ (by omega) (pairs_high HKr.out.2.1 (by omega)) (cuts_high (c := c) HC.out) (by omega)).mono ?_
                rintro e w8 ⟨v8, rfl, hG8, hb8⟩
                have HG8 : Hid (GotAt w8 v8 (fun i => P (c + i)) (k - c)) := hG8
                have HB8 : Hid (Below wr.heap.size wr w8) := hb8
                clear hG8 hb8
                obtain ⟨ad8, cap8, hv8⟩ := HG8.out.shape
                subst hv8
                go_wp2_with fail
                refine (same_rows _ _ c P _ (by omega) (got_low (k := c) (HKr.out.1.later HB8.out) (by omega)) (got_low (k := c) (HGr.out.later HB8.out) (Nat.le_refl _)) (fun i hi => HKr.out.2.2.later HB8.out i (by omega))).mono ?_
                rintro e w9 ⟨rfl, q2, rfl⟩
                go_wp2_with fail
                all_goals
                  refine (same_rows _ _ (k - c) (fun i => P (c + i)) _ (by omega) ((got_high (k := c) (HKr.out.1.later HB8.out) (by omega)).drewN q2) ((got_low (k := (k - c)) HG8.out (Nat.le_refl _)).drewN q2) (fun i hi => (HKr.out.2.2.later HB8.out).drewN q2 (c + i) (by omega))).mono ?_
                  rintro e w10 ⟨rfl, q3, rfl⟩
                  go_wp2
                  go_ret
                  exact ⟨rfl, belowN (bnext HBr.out HBr.out.size HB8.out) _⟩
          · have hce' : c = n := by omega
            subst hce'
            go_wp2_with fail
            refine (zz_go _ _ _ c f g P _ hn1 (pairs_low HS.out (Nat.le_refl _)) HC.out (by omega)).mono ?_
            rintro e w5 ⟨v5, rfl, hG5, hb5⟩
            have HG5 : Hid (GotAt w5 v5 P c) := hG5
            have HB5 : Hid (Below wc.heap.size wc w5) := hb5
            clear hG5 hb5
            obtain ⟨ad5, cap5, hv5, hcap5⟩ := HG5.out.shape2
            subst hv5
            go_wp2_with fail
            refine (zz_go _ _ _ c f g P _ hc1 (pairs_low (HS.out.later HB5.out) hcn) (cuts_low HC.out hcn) (by omega)).mono ?_
            rintro e w6 ⟨v6, rfl, hG6, hb6⟩
            have HG6 : Hid (GotAt w6 v6 P c) := hG6
            have HB6 : Hid (Below w5.heap.size w5 w6) := hb6
            clear hG6 hb6
            obtain ⟨ad6, cap6, hv6⟩ := HG6.out.shape
            subst hv6
            have HB56 : Hid (Below wc.heap.size wc w6) := bnext HB5.out HB5.out.size HB6.out
            have HK : Hid (GotAt w6 (.slice ad5 c cap5) P c ∧ SpansAt w6 (.slice sa c c) c f g ∧ Pieces w6 P c) := ⟨HG5.out.later HB6.out, HS.out.later HB56.out, HP.out.later HB56.out⟩
            go_wp2_with fail
            go_loopw [18] (fun i wr => ∃ k q : Nat, k ≤ c ∧ i = .int .i64 k ∧ wr = w6.drewN q) (fun i _ => c - (intOf i).toNat)
            case atStart => exact ⟨0, 0, Nat.zero_le _, rfl, rfl⟩
            case round =>
              obtain ⟨k, q, hk, rfl, hq⟩ := hrel
              by_cases hlt : k < c
              · obtain ⟨b, sb, pa, pn, pc, r1, r2, r3, r4, r5, r6, r7⟩ := round_facts HK.out.1 HK.out.2.1 HC.out HK.out.2.2 hlt (by omega)
                subst r1; subst r2
                replace r3 : wr.cell? ⟨b, k, none⟩ = some (.slice pa pn pc) := by rw [hq]; exact r3
                replace r4 : wr.cell? ⟨sb, k * 2, none⟩ = some (.int .i64 (f k)) := by rw [hq]; exact r4
                replace r5 : wr.cell? ⟨sb, k * 2 + 1, none⟩ = some (.int .i64 (g k)) := by rw [hq]; exact r5
                have HP7 : Hid (SomeBytes wr (.slice pa pn pc)) := by rw [hq]; exact r7
                have HQ : Hid (wr = w6.drewN q) := hq
                have hp : (k : Int) < (c : Int) := by omega
                have hp2 : (k : Int) < (c : Int) := by omega
                clear r7 hq
                go_wp2
                go_quiet ((go_at_call 8; refine Calls.quiet_of (eq_self _ _ ?_); exact HP7.out))
                go_wp2
                go_roundw
                case rel => exact ⟨k + 1, q + nq, by omega, by go_num, by rw [HQ.out, World.drewN_drewN]⟩
                case measure => simp [intOf]; omega
              · have hkn : k = c := by omega
                subst hkn
                have HKr : Hid (GotAt wr (.slice ad5 k cap5) P k ∧ SpansAt wr (.slice sa k k) k f g ∧ Pieces wr P k) := by rw [hq]; exact ⟨HK.out.1.drewN q, HK.out.2.1.drewN q, HK.out.2.2.drewN q⟩
                have HGr : Hid (GotAt wr (.slice ad6 k cap6) P k) := by rw [hq]; exact HG6.out.drewN q
                have HBr : Hid (Below w.heap.size w wr) := by rw [hq]; exact belowN (bnext HB.out HB.out.size HB56.out) q
                clear hq HK HG6 HB HB56 HB6 HB5 HG5 HS HP
                go_wp2_with fail
                refine (zz_go _ _ _ 0 (fun i => f (k + i)) (fun i => g (k + i)) (fun i => P (k + i)) _ (by omega) (pairs_end _ _ _ _ _) (cuts_none _ _ _ _) (by omega)).mono ?_
                rintro e w8 ⟨v8, rfl, hG8, hb8⟩
                have HG8 : Hid (GotAt w8 v8 (fun i => P (k + i)) 0) := hG8
                have HB8 : Hid (Below wr.heap.size wr w8) := hb8
                clear hG8 hb8
                obtain ⟨ad8, cap8, hv8⟩ := HG8.out.shape
                subst hv8
                go_wp2_with fail
                refine (same_rows _ _ k P _ (by omega) (got_low (k := k) (HKr.out.1.later HB8.out) (by omega)) (got_low (k := k) (HGr.out.later HB8.out) (Nat.le_refl _)) (fun i hi => HKr.out.2.2.later HB8.out i (by omega))).mono ?_
                rintro e w9 ⟨rfl, q2, rfl⟩
                go_wp2_with fail
                all_goals
                  refine (same_rows _ _ 0 (fun i => P (k + i)) _ (by omega) (row_end _ _ _ _) ((got_low (k := 0) HG8.out (Nat.le_refl _)).drewN q2) (fun i hi => (HKr.out.2.2.later HB8.out).drewN q2 (k + i) (by omega))).mono ?_
                  rintro e w10 ⟨rfl, q3, rfl⟩
                  go_wp2
                  go_ret
                  exact ⟨rfl, belowN (bnext HBr.out HBr.out.size HB8.out) _⟩
        · obtain ⟨s, rfl⟩ := Int.eq_ofNat_of_zero_le (show 0 ≤ stop by omega)
          have e1 : decide ((1 : Int) ≤ (s : Int)) = true := by simp; omega
          have hsn : s ≤ n := by omega
          have hsn' : (s : Int) ≤ (n : Int) := by omega
          have hs0 : 1 ≤ s := by omega
          by_cases hsc : s ≤ c
          · go_wp2_with fail
            refine (zz_stop _ _ s n f g P _ hn1 (pairs_low HS.out (Nat.le_refl _)) HC.out (by omega) (by omega)).mono ?_
            rintro e w5 ⟨v5, rfl, hG5, hb5⟩
            have HG5 : Hid (GotAt w5 v5 P s) := hG5
            have HB5 : Hid (Below wc.heap.size wc w5) := hb5
            clear hG5 hb5
            obtain ⟨ad5, cap5, hv5, hcap5⟩ := HG5.out.shape2
            subst hv5
            go_wp2_with fail
            refine (zz_stop _ _ s c f g P _ hc1 (pairs_low (HS.out.later HB5.out) hcn) (cuts_low HC.out hcn) (by omega) (by omega)).mono ?_
            rintro e w6 ⟨v6, rfl, hG6, hb6⟩
            have HG6 : Hid (GotAt w6 v6 P s) := hG6
            have HB6 : Hid (Below w5.heap.size w5 w6) := hb6
            clear hG6 hb6
            obtain ⟨ad6, cap6, hv6⟩ := HG6.out.shape
            subst hv6
            have HB56 : Hid (Below wc.heap.size wc w6) := bnext HB5.out HB5.out.size HB6.out
            have HK : Hid (GotAt w6 (.slice ad5 s cap5) P s ∧ SpansAt w6 (.slice sa n n) n f g ∧ Pieces w6 P n) := ⟨HG5.out.later HB6.out, HS.out.later HB56.out, HP.out.later HB56.out⟩
            go_wp2_with fail
            go_loopw [18] (fun i wr => ∃ k q : Nat, k ≤ s ∧ i = .int .i64 k ∧ wr = w6.drewN q) (fun i _ => s - (intOf i).toNat)
            case atStart => exact ⟨0, 0, Nat.zero_le _, rfl, rfl⟩
            case round =>
              obtain ⟨k, q, hk, rfl, hq⟩ := hrel
              by_cases hlt : k < s
              · obtain ⟨b, sb, pa, pn, pc, r1, r2, r3, r4, r5, r6, r7⟩ := round_facts HK.out.1 HK.out.2.1 HC.out HK.out.2.2 hlt (by omega)
                subst r1; subst r2
                replace r3 : wr.cell? ⟨b, k, none⟩ = some (.slice pa pn pc) := by rw [hq]; exact r3
                replace r4 : wr.cell? ⟨sb, k * 2, none⟩ = some (.int .i64 (f k)) := by rw [hq]; exact r4
                replace r5 : wr.cell? ⟨sb, k * 2 + 1, none⟩ = some (.int .i64 (g k)) := by rw [hq]; exact r5
                have HP7 : Hid (SomeBytes wr (.slice pa pn pc)) := by rw [hq]; exact r7
                have HQ : Hid (wr = w6.drewN q) := hq
                have hp : (k : Int) < (n : Int) := by omega
                have hp2 : (k : Int) < (s : Int) := by omega
                clear r7 hq
                go_wp2
                go_quiet ((go_at_call 8; refine Calls.quiet_of (eq_self _ _ ?_); exact HP7.out))
                go_wp2
                go_roundw
                case rel => exact ⟨k + 1, q + nq, by omega, by go_num, by rw [HQ.out, World.drewN_drewN]⟩
                case measure => simp [intOf]; omega
              · have hkn : k = s := by omega
                subst hkn
                have HKr : Hid (GotAt wr (.slice ad5 k cap5) P k ∧ SpansAt wr (.slice sa n n) n f g ∧ Pieces wr P n) := by rw [hq]; exact ⟨HK.out.1.drewN q, HK.out.2.1.drewN q, HK.out.2.2.drewN q⟩
                have HGr : Hid (GotAt wr (.slice ad6 k cap6) P k) := by rw [hq]; exact HG6.out.drewN q
                have HBr : Hid (Below w.heap.size w wr) := by rw [hq]; exact belowN (bnext HB.out HB.out.size HB56.out) q
                clear hq HK HG6 HB HB56 HB6 HB5 HG5 HS HP
                go_wp2_with fail
                refine (same_rows _ _ k P _ (by omega) (got_low (k := k) HKr.out.1 (Nat.le_refl _)) (got_low (k := k) HGr.out (Nat.le_refl _)) (fun i hi => HKr.out.2.2 i (by omega))).mono ?_
                rintro e w9 ⟨rfl, q2, rfl⟩
                go_wp2
                go_ret
                exact ⟨rfl, belowN HBr.out q2⟩
          · have hce' : ¬ n = c := by omega
            go_wp2_with fail
            refine (zz_stop _ _ s n f g P _ hn1 (pairs_low HS.out (Nat.le_refl _)) HC.out (by omega) (by omega)).mono ?_
            rintro e w5 ⟨v5, rfl, hG5, hb5⟩
            have HG5 : Hid (GotAt w5 v5 P s) := hG5
            have HB5 : Hid (Below wc.heap.size wc w5) := hb5
            clear hG5 hb5
            obtain ⟨ad5, cap5, hv5, hcap5⟩ := HG5.out.shape2
            subst hv5
            go_wp2_with fail
            refine (zz_go _ _ _ c f g P _ hc1 (pairs_low (HS.out.later HB5.out) hcn) (cuts_low HC.out hcn) (by omega)).mono ?_
            rintro e w6 ⟨v6, rfl, hG6, hb6⟩
            have HG6 : Hid (GotAt w6 v6 P c) := hG6
            have HB6 : Hid (Below w5.heap.size w5 w6) := hb6
            clear hG6 hb6
            obtain ⟨ad6, cap6, hv6⟩ := HG6.out.shape
            subst hv6
            have HB56 : Hid (Below wc.heap.size wc w6) := bnext HB5.out HB5.out.size HB6.out
            have HK : Hid (GotAt w6 (.slice ad5 s cap5) P s ∧ SpansAt w6 (.slice sa n n) n f g ∧ Pieces w6 P n) := ⟨HG5.out.later HB6.out, HS.out.later HB56.out, HP.out.later HB56.out⟩
            go_wp2_with fail
            go_loopw [18] (fun i wr => ∃ k q : Nat, k ≤ s ∧ i = .int .i64 k ∧ wr = w6.drewN q) (fun i _ => s - (intOf i).toNat)
            case atStart => exact ⟨0, 0, Nat.zero_le _, rfl, rfl⟩
            case round =>
              obtain ⟨k, q, hk, rfl, hq⟩ := hrel
              by_cases hlt : k < s
              · obtain ⟨b, sb, pa, pn, pc, r1, r2, r3, r4, r5, r6, r7⟩ := round_facts HK.out.1 HK.out.2.1 HC.out HK.out.2.2 hlt (by omega)
                subst r1; subst r2
                replace r3 : wr.cell? ⟨b, k, none⟩ = some (.slice pa pn pc) := by rw [hq]; exact r3
                replace r4 : wr.cell? ⟨sb, k * 2, none⟩ = some (.int .i64 (f k)) := by rw [hq]; exact r4
                replace r5 : wr.cell? ⟨sb, k * 2 + 1, none⟩ = some (.int .i64 (g k)) := by rw [hq]; exact r5
                have HP7 : Hid (SomeBytes wr (.slice pa pn pc)) := by rw [hq]; exact r7
                have HQ : Hid (wr = w6.drewN q) := hq
                have hp : (k : Int) < (n : Int) := by omega
                have hp2 : (k : Int) < (s : Int) := by omega
                clear r7 hq
                go_wp2
                go_quiet ((go_at_call 8; refine Calls.quiet_of (eq_self _ _ ?_); exact HP7.out))
                go_wp2
                go_roundw
                case rel => exact ⟨k + 1, q + nq, by omega, by go_num, by rw [HQ.out, World.drewN_drewN]⟩
                case measure => simp [intOf]; omega
              · have hkn : k = s := by omega
                subst hkn
                have HKr : Hid (GotAt wr (.slice ad5 k cap5) P k ∧ SpansAt wr (.slice sa n n) n f g ∧ Pieces wr P n) := by rw [hq]; exact ⟨HK.out.1.drewN q, HK.out.2.1.drewN q, HK.out.2.2.drewN q⟩
                have HGr : Hid (GotAt wr (.slice ad6 c cap6) P c) := by rw [hq]; exact HG6.out.drewN q
                have HBr : Hid (Below w.heap.size w wr) := by rw [hq]; exact belowN (bnext HB.out HB.out.size HB56.out) q
                clear hq HK HG6 HB HB56 HB6 HB5 HG5 HS HP
                go_wp2_with fail
                rw [show ((k : Nat) : Int) - (c : Int) = ((k - c : Nat) : Int) from by omega]
                refine (zz_stop _ _ (k - c) (n - c) (fun i => f (c + i)) (fun i => g (c + i)) (fun i => P (c + i)) _ (by omega) (pairs_high HKr.out.2.1 (by omega)) (cuts_high (c := c) HC.out) (by omega) (by omega)).mono ?_
                rintro e w8 ⟨v8, rfl, hG8, hb8⟩
                have HG8 : Hid (GotAt w8 v8 (fun i => P (c + i)) (k - c)) := hG8
                have HB8 : Hid (Below wr.heap.size wr w8) := hb8
                clear hG8 hb8
                obtain ⟨ad8, cap8, hv8⟩ := HG8.out.shape
                subst hv8
                go_wp2_with fail
                refine (same_rows _ _ c P _ (by omega) (got_low (k := c) (HKr.out.1.later HB8.out) (by omega)) (got_low (k := c) (HGr.out.later HB8.out) (Nat.le_refl _)) (fun i hi => HKr.out.2.2.later HB8.out i (by omega))).mono ?_
                rintro e w9 ⟨rfl, q2, rfl⟩
                go_wp2_with fail
                all_goals
                  refine (same_rows _ _ (k - c) (fun i => P (c + i)) _ (by omega) ((got_high (k := c) (HKr.out.1.later HB8.out) (by omega)).drewN q2) ((got_low (k := (k - c)) HG8.out (Nat.le_refl _)).drewN q2) (fun i hi => (HKr.out.2.2.later HB8.out).drewN q2 (c + i) (by omega))).mono ?_
                  rintro e w10 ⟨rfl, q3, rfl⟩
                  go_wp2
                  go_ret
                  exact ⟨rfl, belowN (bnext HBr.out HBr.out.size HB8.out) _⟩
end Go.Proofs.Qxb6615157a.Ya
