/- FnHasFindingLimitInsertedAnywhere (3) of the seat b6616722a: the walk. -/
import Derived.Test.Qxb6616722aBuild
import Derived.Test.Qxb6616722aBytes
import Derived.Test.Qxb6616722aGrown
namespace Go.Proofs.Qxb6616722a.Hf
open Go.RowKit Go.Proofs.Qxb6616722a.Pl

theorem Try.info3 : (Try.prog.info? 3).map (fun i => (i.zero, i.size, i.bytes)) = some (some (.int .i64 0), 1, 8) := by kernel_rfl

/-- The answer of HasFinding, by what the arguments hold. -/
def answer (stale bu : Bool) (bN : Bool) (nL nM nB nV : Nat) (l m b : Nat → Int) (r : Nat → ByteArray) : Bool :=
  finds stale bu (some1 (fun i => m i == 1) nM) bN (some1 (fun i => l i == 1) nL) (some1 (fun i => b i != 4) nB) (some1 (fun i => !((r i).toList == [97, 103, 114, 101, 101, 115])) nV)

theorem answer_law (stale bu bN : Bool) (nL nM nB nV k : Nat) (l m b : Nat → Int) (r : Nat → ByteArray) (x : Int) (hk : k ≤ nL) :
    (answer stale bu bN (nL + 1) nM nB nV (ins l k x) m b r == (answer stale bu bN nL nM nB nV l m b r || ((x == 1) && bN && !bu))) = true := by
  unfold answer
  rw [some1_ins l k nL x hk]
  exact law _ _ _ _ _ _ _ _

/-- buildReport, then HasFinding. -/
structure Built (w w' : World) (stale bu : Bool) (aL aM aB aV : Option Addr) (nL nM nB nV : Nat) (l m b : Nat → Int) (r : Nat → ByteArray) (bL bM bB bV : Option Addr) : Prop where
  rep : Rep w' w.heap.size stale bu (.slice bL nL nL) (.slice bM nM nM) (.slice bB nB nB) (.slice bV nV nV)
  fL : FieldIs w' (.slice bL nL nL) aL.isNone nL 41 zL 6 (fun i => .int .i64 (l i))
  fM : FieldIs w' (.slice bM nM nM) aM.isNone nM 43 zM 8 (fun i => .int .i64 (m i))
  fB : FieldIs w' (.slice bB nB nB) aB.isNone nB 46 zB 3 (fun i => .int .i64 (b i))
  fV : FieldIs w' (.slice bV nV nV) aV.isNone nV 49 zV 5 (fun i => .string (r i))
  nB : bB.isNone = aB.isNone
  below : Below w.heap.size w w'

theorem built_any (stale bu : Bool) (aL aM aB aV : Option Addr) (nL cL nM cM nB cB nV cV : Nat) (l m b : Nat → Int) (r : Nat → ByteArray) (w : World)
    (h1 : nL ≤ 1048577) (h2 : nM ≤ 1048577) (h3 : nB ≤ 1048577) (h4 : nV ≤ 1048577)
    (hL : RowAt w (.slice aL nL cL) nL (fun i => .int .i64 (l i))) (hM : RowAt w (.slice aM nM cM) nM (fun i => .int .i64 (m i))) (hB : RowAt w (.slice aB nB cB) nB (fun i => .int .i64 (b i))) (hV : RowAt w (.slice aV nV cV) nV (fun i => .string (r i)))
    (zL0 : aL = none → nL = 0) (zM0 : aM = none → nM = 0) (zB0 : aB = none → nB = 0) (zV0 : aV = none → nV = 0) :
    Calls Try.prog 6 #[.bool stale, .bool bu, .slice aL nL cL, .slice aM nM cM, .slice aB nB cB, .slice aV nV cV] w fun e w' =>
      e = .returned (.pointer (some ⟨w.heap.size, 0, none⟩)) ∧ ∃ bL bM bB bV, Built w w' stale bu aL aM aB aV nL nM nB nV l m b r bL bM bB bV := by
  refine (build_any stale bu aL aM aB aV nL cL nM cM nB cB nV cV l m b r w h1 h2 h3 h4 hL hM hB hV zL0 zM0 zB0 zV0).mono ?_
  rintro e w' ⟨vL, vM, vB, vV, he, hR, fL, fM, fB, fV, hb⟩
  obtain ⟨bL, rfl, _⟩ := fL.shape
  obtain ⟨bM, rfl, _⟩ := fM.shape
  obtain ⟨bB, rfl, hn⟩ := fB.shape
  obtain ⟨bV, rfl, _⟩ := fV.shape
  exact ⟨he, bL, bM, bB, bV, hR, fL, fM, fB, fV, hn, hb⟩

theorem found_any {w w' : World} {stale bu : Bool} {aL aM aB aV : Option Addr} {nL nM nB nV : Nat} {l m b : Nat → Int} {r : Nat → ByteArray} {bL bM bB bV : Option Addr}
    (h : Built w w' stale bu aL aM aB aV nL nM nB nV l m b r bL bM bB bV) (h1 : nL ≤ 1048577) (h2 : nM ≤ 1048577) (h3 : nB ≤ 1048577) (h4 : nV ≤ 1048577) :
    Calls Try.prog 7 #[.pointer (some ⟨w.heap.size, 0, none⟩)] w' fun e w'' => e = .returned (.bool (answer stale bu aB.isNone nL nM nB nV l m b r)) ∧ Below w'.heap.size w' w'' :=
  has_any w.heap.size stale bu bL bM bB bV nL nM nB nV _ _ _ _ l m b r w' h.rep h1 h2 h3 h4 h.fL h.fM h.fB h.fV h.nB

set_option maxRecDepth 100000 in
set_option maxHeartbeats 4000000 in
theorem law_any (stale bu : Bool) (aL aM aB aV : Option Addr) (nL cL nM cM nB cB nV cV : Nat) (at0 status : Int) (l m b : Nat → Int) (r : Nat → ByteArray) (w : World)
    (h1 : nL ≤ 9223372036854775807) (h2 : nM ≤ 9223372036854775807) (h3 : nB ≤ 9223372036854775807) (h4 : nV ≤ 9223372036854775807)
    (hL : RowAt w (.slice aL nL cL) nL (fun i => .int .i64 (l i))) (hM : RowAt w (.slice aM nM cM) nM (fun i => .int .i64 (m i))) (hB : RowAt w (.slice aB nB cB) nB (fun i => .int .i64 (b i))) (hV : RowAt w (.slice aV nV cV) nV (fun i => .string (r i)))
    (zL0 : aL = none → nL = 0 ∧ cL = 0) (zM0 : aM = none → nM = 0) (zB0 : aB = none → nB = 0) (zV0 : aV = none → nV = 0) :
    Calls Try.prog 3 #[.bool stale, .bool bu, .slice aL nL cL, .slice aM nM cM, .slice aB nB cB, .slice aV nV cV, .int .i64 at0, .int .i64 status] w fun e w' => e = .returned (.bool true) ∧ Below w.heap.size w w' := by
  have HL : Hid (RowAt w (.slice aL nL cL) nL (fun i => .int .i64 (l i))) := hL
  have HM : Hid (RowAt w (.slice aM nM cM) nM (fun i => .int .i64 (m i))) := hM
  have HB : Hid (RowAt w (.slice aB nB cB) nB (fun i => .int .i64 (b i))) := hB
  have HV : Hid (RowAt w (.slice aV nV cV) nV (fun i => .string (r i))) := hV
  have HL0 : Hid (aL = none → nL = 0 ∧ cL = 0) := zL0
  have HM0 : Hid (aM = none → nM = 0) := zM0
  have HB0 : Hid (aB = none → nB = 0) := zB0
  have HV0 : Hid (aV = none → nV = 0) := zV0
  have c4 := bytes_any stale bu aL aM aB aV nL cL nM cM nB cB nV cV at0 status r w h1 h2 h3 h4 hV
  have heq := fun wx => Lib.run_eql_slice_nil (P := Try.prog) wx 22 3 aB nB cB 0 0 Try.underlying22
  clear hL hM hB hV zL0 zM0 zB0 zV0
  go_enter Try.func3, Try.ntmps3
  go_wp2_with fail
  refine c4.mono ?_
  rintro e w1 ⟨b1, rfl, rfl, hb1⟩
  clear c4
  cases b1
  · go_wp2
    go_ret
    exact ⟨rfl, Below.refl _ _⟩
  · obtain ⟨g1, g2, g3, g4⟩ := hb1 rfl
    clear hb1 h1 h2 h3 h4
    have hcL : nL ≤ cL := by obtain ⟨_, _, hv, hc, _⟩ := HL.out; simp only [Value.slice.injEq] at hv; omega
    have c5 := report_any aL aM aB aV nL cL nM cM nB cB nV cV r w1 g1 g2 g3 g4 HV.out
    go_wp2_with fail
    refine c5.mono ?_
    rintro e w2 ⟨x, rfl, rfl⟩
    clear c5
    by_cases hx : (1048576 : Int) < x
    · go_wp2
      go_ret
      exact ⟨rfl, Below.refl _ _⟩
    · by_cases ha0 : at0 < 0
      · have d0 : decide (at0 < 0) = true := by simpa using ha0
        go_wp2
        go_ret
        exact ⟨rfl, Below.refl _ _⟩
      · have d0 : decide (at0 < 0) = false := by simpa using ha0
        by_cases ha1 : (nL : Int) < at0
        · go_wp2
          go_ret
          exact ⟨rfl, Below.refl _ _⟩
        · obtain ⟨k, rfl⟩ := Int.eq_ofNat_of_zero_le (show 0 ≤ at0 by omega)
          have hk : k ≤ nL := by omega
          clear ha0 ha1
          go_wp2_with fail
          refine (built_any stale bu aL aM aB aV nL cL nM cM nB cB nV cV l m b r _ (by omega) (by omega) (by omega) (by omega) HL.out HM.out HB.out HV.out (fun h => (HL0.out h).1) HM0.out HB0.out HV0.out).mono ?_
          rintro e w3 ⟨rfl, bL, bM, bB, bV, hBt⟩
          go_wp2_with fail
          refine (found_any hBt (by omega) (by omega) (by omega) (by omega)).mono ?_
          rintro e w4 ⟨rfl, hb4⟩
          have HW : Hid (Below w2.heap.size w2 w4) := hBt.below.trans (hb4.mono hBt.below.size)
          have hlaw := answer_law stale bu aB.isNone nL nM nB nV k l m b r status hk
          clear hBt hb4
          generalize answer stale bu aB.isNone nL nM nB nV l m b r = bf at *
          have HLaw : Hid ((answer stale bu aB.isNone (nL + 1) nM nB nV (ins l k status) m b r == (bf || ((status == 1) && aB.isNone && !bu))) = true) := hlaw
          clear hlaw
          obtain ⟨i3, hi3, hz3, hy3, hb3⟩ := info_parts Try.info3
          have hby : i3.bytes * (nL + 1) ≤ 281474976710656 := by rw [hb3]; omega
          have HO : Hid (Keeps w2 w4) := Keeps.of_below HW.out
          have hsz := HW.out.size
          go_wp2_with (first | (at_make; refine wpList_make_own _ rfl _ _ 22 rfl w4.heap.size 3 i3 (.int .i64 0) 1 Try.underlying22 hi3 hz3 hy3 _ _ _ (nL + 1) rfl rfl (by omega) hby (by unfold maxLen; omega) (Nat.le_refl _) ?_; intro w5 hown5 hgrow5; have HO5 : Hid (Keeps w2 w5) := HO.out.none hgrow5) | (at_builtin; refine wpList_append_fits_any _ rfl (.tmp 57) (.tmp 60) 22 rfl w4.heap.size 3 i3 1 Try.underlying22 hi3 hy3 w4.heap.size 0 (nL + 1) _ rfl hown5 _ k _ (seg l 0 k) rfl (seg_len l 0 k) (fun h => by have := HL0.out h; omega) (low_cells HL.out hk HO5.out) (seg_one l 0 k) (by omega) ?_; intro w6 hown6 hgrow6; simp only [Nat.zero_add, List.nil_append] at hown6; have HO6 : Hid (Keeps w2 w6) := HO5.out.row hgrow6 hsz) | (at_builtin; refine wpList_append_fits _ rfl (.tmp 62) (.tmp 64) 22 rfl w4.heap.size 3 i3 1 Try.underlying22 hi3 hy3 w4.heap.size k (nL + 1) _ rfl (hown6.alloc _) ⟨w6.heap.size, 0, none⟩ 1 1 [.int .i64 status] rfl rfl (by intro j u hj; match j, hj with | 0, hj => simp at hj; subst hj; simp [Addr.add]) (by intro u hu; simp at hu; subst hu; rfl) (by omega) ?_; intro w7 hown7 hgrow7; have HO7 : Hid (Keeps w2 w7) := (HO6.out.alloc _).row hgrow7 hsz) | (at_builtin; refine wpList_append_fits_any _ rfl (.tmp 66) (.tmp 69) 22 rfl w4.heap.size 3 i3 1 Try.underlying22 hi3 hy3 w4.heap.size (k + 1) (nL + 1) _ rfl hown7 _ (nL - k) _ (seg l k (nL - k)) rfl (seg_len l k (nL - k)) (by intro h; have := HL0.out (cut_none h); omega) (high_cells HL.out HO7.out (by intro h; rw [if_neg (by omega)])) (seg_one l k (nL - k)) (by omega) ?_; intro w8 hown8 hgrow8))
          all_goals
            have HR8 : Hid (RowAt w8 (.slice (some ⟨w4.heap.size, 0, none⟩) (nL + 1) (nL + 1)) (nL + 1) (fun i => .int .i64 (ins l k status i))) := grown_row hk (by omega) hown8
            have hB5 : Below w2.heap.size w2 w5 := HW.out.grown hgrow5 hsz (by simp)
            have hB6 : Below w2.heap.size w2 w6 := hB5.grown hgrow6 (Nat.le_trans hsz hgrow5.size) (fun j hj => by simp only [Option.some.injEq] at hj; omega)
            have hB7 : Below w2.heap.size w2 w7 := (hB6.alloc hB6.size _).grown hgrow7 (by simp; have := hB6.size; omega) (fun j hj => by simp only [Option.some.injEq] at hj; omega)
            have HB8 : Hid (Below w2.heap.size w2 w8) := hB7.grown hgrow8 hB7.size (fun j hj => by simp only [Option.some.injEq] at hj; omega)
            clear hB5 hB6 hB7 hown5 hown6 hown7 hown8 hgrow5 hgrow6 hgrow7 hgrow8 HO HO5 HO6 HO7
            rw [show k + 1 + (nL - k) = nL + 1 from by omega]
            refine (built_any stale bu (some ⟨w4.heap.size, 0, none⟩) aM aB aV (nL + 1) (nL + 1) nM cM nB cB nV cV (ins l k status) m b r _ (by omega) (by omega) (by omega) (by omega) HR8.out (HM.out.later HB8.out) (HB.out.later HB8.out) (HV.out.later HB8.out) (by simp) HM0.out HB0.out HV0.out).mono ?_
            rintro e w9 ⟨rfl, bL9, bM9, bB9, bV9, hBt⟩
            go_wp2_with fail
            refine (found_any hBt (by omega) (by omega) (by omega) (by omega)).mono ?_
            rintro e w10 ⟨rfl, hb10⟩
            have HF : Hid (Below w2.heap.size w2 w10) := bnext (bnext HB8.out HB8.out.size hBt.below) (bnext HB8.out HB8.out.size hBt.below).size hb10
            have hl2 := HLaw.out
            clear HLaw hBt hb10 HR8 HB8
            generalize answer stale bu aB.isNone (nL + 1) nM nB nV (ins l k status) m b r = af at *
            cases hs1 : (status == 1) <;> cases hbn : aB.isNone <;> cases bu <;> cases bf <;> cases af <;> rw [hs1, hbn] at hl2 <;> first | (exfalso; revert hl2; decide) | skip
            all_goals
              clear hl2
              go_wp2
              go_ret
              exact ⟨rfl, HF.out⟩
end Go.Proofs.Qxb6616722a.Hf
