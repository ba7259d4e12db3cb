/- buildReport (6) of the seat b6616722a. -/
import Derived.Test.Qxb6616722aBuildParts
import Derived.RegionTactic
import Derived.BigRegion
namespace Go.Proofs.Qxb6616722a.Hf
open Go.RowKit

set_option maxRecDepth 100000 in
set_option maxHeartbeats 2000000 in
theorem build_any (stale bu : Bool) (aL aM aB aV : Option Addr) (nL cL nM cM nB cB nV cV : Nat) (l m b : Nat → Int) (r : Nat → ByteArray) (w : World)
    (h1 : nL ≤ 1048577) (h2 : nM ≤ 1048577) (h3 : nB ≤ 1048577) (h4 : nV ≤ 1048577)
    (hL : RowAt w (.slice aL nL cL) nL (fun i => .int .i64 (l i))) (hM : RowAt w (.slice aM nM cM) nM (fun i => .int .i64 (m i))) (hB : RowAt w (.slice aB nB cB) nB (fun i => .int .i64 (b i))) (hV : RowAt w (.slice aV nV cV) nV (fun i => .string (r i)))
    (zL0 : aL = none → nL = 0) (zM0 : aM = none → nM = 0) (zB0 : aB = none → nB = 0) (zV0 : aV = none → nV = 0) :
    Calls Try.prog 6 #[.bool stale, .bool bu, .slice aL nL cL, .slice aM nM cM, .slice aB nB cB, .slice aV nV cV] w fun e w' =>
      ∃ vL vM vB vV, e = .returned (.pointer (some ⟨w.heap.size, 0, none⟩)) ∧ Rep w' w.heap.size stale bu vL vM vB vV ∧ FieldIs w' vL aL.isNone nL 41 zL 6 (fun i => .int .i64 (l i)) ∧ FieldIs w' vM aM.isNone nM 43 zM 8 (fun i => .int .i64 (m i)) ∧
        FieldIs w' vB aB.isNone nB 46 zB 3 (fun i => .int .i64 (b i)) ∧ FieldIs w' vV aV.isNone nV 49 zV 5 (fun i => .string (r i)) ∧ Below w.heap.size w w' := by
  have HL : Hid (RowAt w (.slice aL nL cL) nL (fun i => .int .i64 (l i))) := hL
  have HM : Hid (RowAt w (.slice aM nM cM) nM (fun i => .int .i64 (m i))) := hM
  have HB : Hid (RowAt w (.slice aB nB cB) nB (fun i => .int .i64 (b i))) := hB
  have HV : Hid (RowAt w (.slice aV nV cV) nV (fun i => .string (r i))) := hV
  have HL0 : Hid (aL = none → nL = 0) := zL0
  have HM0 : Hid (aM = none → nM = 0) := zM0
  have HB0 : Hid (aB = none → nB = 0) := zB0
  have HV0 : Hid (aV = none → nV = 0) := zV0
  have hq1 := fun wx => run_neq_slice_nil_any (P := Try.prog) wx 22 3 aL nL cL 0 0 Try.underlying22
  have hq2 := fun wx => run_neq_slice_nil_any (P := Try.prog) wx 22 3 aM nM cM 0 0 Try.underlying22
  have hq3 := fun wx => run_neq_slice_nil_any (P := Try.prog) wx 22 3 aB nB cB 0 0 Try.underlying22
  have hq4 := fun wx => run_neq_slice_nil_any (P := Try.prog) wx 23 9 aV nV cV 0 0 Try.underlying23
  clear hL hM hB hV zL0 zM0 zB0 zV0
  have HRc : Hid (Rep (w.alloc (.cells (repCells stale bu (.slice none 0 0) (.slice none 0 0) (.slice none 0 0) (.slice none 0 0)) 38)) w.heap.size stale bu (.slice none 0 0) (.slice none 0 0) (.slice none 0 0) (.slice none 0 0)) := heap_alloc_new w _
  have HBc : Hid (Below w.heap.size w (w.alloc (.cells (repCells stale bu (.slice none 0 0) (.slice none 0 0) (.slice none 0 0) (.slice none 0 0)) 38))) := (Below.refl _ w).alloc (Nat.le_refl _) _
  have HSz : Hid (w.heap.size < (w.alloc (.cells (repCells stale bu (.slice none 0 0) (.slice none 0 0) (.slice none 0 0) (.slice none 0 0)) 38)).heap.size) := by show w.heap.size < _; simp
  go_enter Try.func6, Try.ntmps6
  go_upto_if 30 with fail
  go_cut [14] (fun i wx => ∃ vL, Rep wx w.heap.size stale bu vL (.slice none 0 0) (.slice none 0 0) (.slice none 0 0) ∧ FieldIs wx vL aL.isNone nL 41 zL 6 (fun i => .int .i64 (l i)) ∧ Below w.heap.size w wx ∧ w.heap.size < wx.heap.size)
  case first =>
    cases aL with
    | none =>
      have e1 := HL0.out rfl
      subst e1
      go_wp2_with fail
      go_meet
      case rel =>
        exact ⟨ _, HRc.out, .inl ⟨rfl, rfl, rfl⟩, HBc.out, HSz.out⟩
    | some ad =>
      obtain ⟨i1, hi1, hz1, hy1, hb1⟩ := info_parts Try.info41
      have hby : i1.bytes * nL ≤ 281474976710656 := by rw [hb1]; omega
      go_wp2_with (at_make; refine wpList_make_full _ rfl (.tmp 33) (.tmp 33) 33 rfl 0 41 i1 (.agg zL) 7 Try.underlying33 hi1 hz1 hy1 .i64 .i64 _ _ nL rfl rfl rfl rfl hby (by unfold maxLen; omega) (Nat.zero_le _) ?_; intro w3 hown3 hgrow3; have HR3 : Hid (Rep w3 w.heap.size stale bu (.slice none 0 0) (.slice none 0 0) (.slice none 0 0) (.slice none 0 0)) := HRc.out.block (grown_block hgrow3 HSz.out); obtain ⟨_, _, cI, _, _, _⟩ := HR3.out.cells; have fI := HR3.out.free 12)
      have HGs : Hid ((w.alloc (.cells (repCells stale bu (.slice none 0 0) (.slice none 0 0) (.slice none 0 0) (.slice none 0 0)) 38)).heap.size = (w.heap.size + 1)) := by show (w.alloc (.cells (repCells stale bu (.slice none 0 0) (.slice none 0 0) (.slice none 0 0) (.slice none 0 0)) 38)).heap.size = (w.heap.size + 1); simp
      have hRg : w.heap.size ≠ (w.heap.size + 1) := by have := HSz.out; rw [HGs.out] at this; omega
      have HG2 : Hid (w.heap.size ≤ (w.heap.size + 1)) := by have := HSz.out; rw [HGs.out] at this; exact Nat.le_of_lt this
      have HR4 : Hid (Rep (w3.setCell ⟨w.heap.size, 12, none⟩ (.slice (some ⟨(w.heap.size + 1), 0, none⟩) nL nL)) w.heap.size stale bu (.slice (some ⟨(w.heap.size + 1), 0, none⟩) nL nL) (.slice none 0 0) (.slice none 0 0) (.slice none 0 0)) := HR3.out.setL _
      have HB4 : Hid (Below w.heap.size w (w3.setCell ⟨w.heap.size, 12, none⟩ (.slice (some ⟨(w.heap.size + 1), 0, none⟩) nL nL))) := (HBc.out.grown hgrow3 (Nat.le_of_lt HSz.out) (by simp)).setCell (Nat.le_refl _) _
      have HN4 : Hid (RowBlock (w3.setCell ⟨w.heap.size, 12, none⟩ (.slice (some ⟨(w.heap.size + 1), 0, none⟩) nL nL)) (w.heap.size + 1) 41 zL 6 nL 0 (fun i => .int .i64 (l i))) := (row_made (z := zL) 6 (fun i => .int .i64 (l i)) rfl HGs.out hown3).block (Below.heap_setCell _ _ _ _ (Ne.symm hRg))
      have HK4 : Hid (∀ k, k < (w.alloc (.cells (repCells stale bu (.slice none 0 0) (.slice none 0 0) (.slice none 0 0) (.slice none 0 0)) 38)).heap.size → k ≠ w.heap.size → (w3.setCell ⟨w.heap.size, 12, none⟩ (.slice (some ⟨(w.heap.size + 1), 0, none⟩) nL nL)).heap[k]? = (w.alloc (.cells (repCells stale bu (.slice none 0 0) (.slice none 0 0) (.slice none 0 0) (.slice none 0 0)) 38)).heap[k]?) := fun k h1 h2 => (Below.heap_setCell _ _ _ _ h2).trans (grown_block hgrow3 h1)
      have HS4 : Hid (w.heap.size < (w3.setCell ⟨w.heap.size, 12, none⟩ (.slice (some ⟨(w.heap.size + 1), 0, none⟩) nL nL)).heap.size) := Nat.lt_of_lt_of_le HSz.out (by have := hgrow3.size; simpa using this)
      clear hown3 hgrow3 cI fI HR3
      generalize (w3.setCell ⟨w.heap.size, 12, none⟩ (.slice (some ⟨(w.heap.size + 1), 0, none⟩) nL nL)) = w4 at *
      go_loopw [14] (fun i wr => ∃ k : Nat, k ≤ nL ∧ i = .int .i64 k ∧ But (w.heap.size + 1) w4 wr ∧ RowBlock wr (w.heap.size + 1) 41 zL 6 nL k (fun i => .int .i64 (l i))) (fun i _ => nL - (intOf i).toNat)
      case atStart => exact ⟨0, Nat.zero_le _, rfl, But.refl _ _, HN4.out⟩
      case round =>
        obtain ⟨k, hk, rfl, hbut, hrow⟩ := hrel
        have HU : Hid (But (w.heap.size + 1) w4 wr) := hbut
        have HW : Hid (RowBlock wr (w.heap.size + 1) 41 zL 6 nL k (fun i => .int .i64 (l i))) := hrow
        clear hbut hrow
        by_cases hlt : k < nL
        · obtain ⟨d0, d1, d2, d3, d4, d5, d6⟩ := lim_cells HW.out hlt
          rw [if_neg (Nat.lt_irrefl k)] at d6
          have f6 := HW.out.free (k * 7 + 6)
          obtain ⟨_, _, cI, _, _, _⟩ := (HR4.out.block (HU.out.block w.heap.size hRg)).cells
          obtain ⟨lb, lo, had, hsrc⟩ := HL.out.cellAt hlt
          simp only [Option.some.injEq] at had
          subst had
          have hs : wr.cell? ⟨lb, lo + k, none⟩ = some (.int .i64 (l k)) := ((HU.out.below HB4.out HG2.out).cell (p := ⟨lb, lo + k, none⟩) (World.block_lt_of_cell? w _ hsrc)).trans hsrc
          have hp : (k : Int) < (nL : Int) := by omega
          have hlb : lb ≠ (w.heap.size + 1) := by have := World.block_lt_of_cell? w _ hsrc; have h2 := HSz.out; rw [HGs.out] at h2; simp at this; omega
          have HN1 : Hid (RowBlock (wr.setCell ⟨(w.heap.size + 1), k * 7 + 6, none⟩ (.int .i64 (l k))) (w.heap.size + 1) 41 zL 6 nL (k + 1) (fun i => .int .i64 (l i))) := HW.out.set (by decide)
          have HU1 : Hid (But (w.heap.size + 1) w4 (wr.setCell ⟨(w.heap.size + 1), k * 7 + 6, none⟩ (.int .i64 (l k)))) := HU.out.setCell _ _
          clear d0 d1 d2 d3 d4 d5 hsrc
          go_wp2
          go_region
          all_goals
            go_wp2
            go_roundw
            case rel => exact ⟨k + 1, by omega, by go_num, HU1.out.drew, HN1.out⟩
            case measure => simp [intOf]; omega
        · have hkn : k = nL := by omega
          subst hkn
          go_wp2_with fail
          go_meet
          case rel =>
            have hkeep : ∀ j, j < (w.alloc (.cells (repCells stale bu (.slice none 0 0) (.slice none 0 0) (.slice none 0 0) (.slice none 0 0)) 38)).heap.size → j ≠ w.heap.size → wr.heap[j]? = (w.alloc (.cells (repCells stale bu (.slice none 0 0) (.slice none 0 0) (.slice none 0 0) (.slice none 0 0)) 38)).heap[j]? := fun j h1 h2 => (HU.out.block j (by simp at h1; omega)).trans (HK4.out j h1 h2)
            exact ⟨ _, HR4.out.block (HU.out.block w.heap.size hRg), .inr ⟨rfl, (w.heap.size + 1), rfl, HW.out⟩, HU.out.below HB4.out HG2.out, by rw [HU.out.size]; exact HS4.out⟩
  case rest =>
    obtain ⟨vL, hcR, hcFL, hcB, hcS⟩ := hcut
    clear HRc HBc HSz
    have HRc : Hid (Rep wc w.heap.size stale bu vL (.slice none 0 0) (.slice none 0 0) (.slice none 0 0)) := hcR
    have HBc : Hid (Below w.heap.size w wc) := hcB
    have HSz : Hid (w.heap.size < wc.heap.size) := hcS
    have HFL : Hid (FieldIs wc vL aL.isNone nL 41 zL 6 (fun i => .int .i64 (l i))) := hcFL
    clear hcR hcB hcS hcFL hq1
    go_upto_if 55 with fail
    go_cut [15] (fun i wx => ∃ vL vM, Rep wx w.heap.size stale bu vL vM (.slice none 0 0) (.slice none 0 0) ∧ FieldIs wx vL aL.isNone nL 41 zL 6 (fun i => .int .i64 (l i)) ∧ FieldIs wx vM aM.isNone nM 43 zM 8 (fun i => .int .i64 (m i)) ∧ Below w.heap.size w wx ∧ w.heap.size < wx.heap.size)
    case first =>
      cases aM with
      | none =>
        have e1 := HM0.out rfl
        subst e1
        go_wp2_with fail
        go_meet
        case rel =>
          exact ⟨vL, _, HRc.out, HFL.out, .inl ⟨rfl, rfl, rfl⟩, HBc.out, HSz.out⟩
      | some ad =>
        obtain ⟨i1, hi1, hz1, hy1, hb1⟩ := info_parts Try.info43
        have hby : i1.bytes * nM ≤ 281474976710656 := by rw [hb1]; omega
        go_wp2_with (at_make; refine wpList_make_full _ rfl (.tmp 58) (.tmp 58) 34 rfl 0 43 i1 (.agg zM) 10 Try.underlying34 hi1 hz1 hy1 .i64 .i64 _ _ nM rfl rfl rfl rfl hby (by unfold maxLen; omega) (Nat.zero_le _) ?_; intro w3 hown3 hgrow3; have HR3 : Hid (Rep w3 w.heap.size stale bu vL (.slice none 0 0) (.slice none 0 0) (.slice none 0 0)) := HRc.out.block (grown_block hgrow3 HSz.out); obtain ⟨_, _, _, cI, _, _⟩ := HR3.out.cells; have fI := HR3.out.free 13)
        have HGs : Hid (wc.heap.size = wc.heap.size) := by show wc.heap.size = wc.heap.size; simp
        have hRg : w.heap.size ≠ wc.heap.size := by have := HSz.out; rw [HGs.out] at this; omega
        have HG2 : Hid (w.heap.size ≤ wc.heap.size) := by have := HSz.out; rw [HGs.out] at this; exact Nat.le_of_lt this
        have HR4 : Hid (Rep (w3.setCell ⟨w.heap.size, 13, none⟩ (.slice (some ⟨wc.heap.size, 0, none⟩) nM nM)) w.heap.size stale bu vL (.slice (some ⟨wc.heap.size, 0, none⟩) nM nM) (.slice none 0 0) (.slice none 0 0)) := HR3.out.setM _
        have HB4 : Hid (Below w.heap.size w (w3.setCell ⟨w.heap.size, 13, none⟩ (.slice (some ⟨wc.heap.size, 0, none⟩) nM nM))) := (HBc.out.grown hgrow3 (Nat.le_of_lt HSz.out) (by simp)).setCell (Nat.le_refl _) _
        have HN4 : Hid (RowBlock (w3.setCell ⟨w.heap.size, 13, none⟩ (.slice (some ⟨wc.heap.size, 0, none⟩) nM nM)) wc.heap.size 43 zM 8 nM 0 (fun i => .int .i64 (m i))) := (row_made (z := zM) 8 (fun i => .int .i64 (m i)) rfl HGs.out hown3).block (Below.heap_setCell _ _ _ _ (Ne.symm hRg))
        have HK4 : Hid (∀ k, k < wc.heap.size → k ≠ w.heap.size → (w3.setCell ⟨w.heap.size, 13, none⟩ (.slice (some ⟨wc.heap.size, 0, none⟩) nM nM)).heap[k]? = wc.heap[k]?) := fun k h1 h2 => (Below.heap_setCell _ _ _ _ h2).trans (grown_block hgrow3 h1)
        have HS4 : Hid (w.heap.size < (w3.setCell ⟨w.heap.size, 13, none⟩ (.slice (some ⟨wc.heap.size, 0, none⟩) nM nM)).heap.size) := Nat.lt_of_lt_of_le HSz.out (by have := hgrow3.size; simpa using this)
        clear hown3 hgrow3 cI fI HR3
        generalize (w3.setCell ⟨w.heap.size, 13, none⟩ (.slice (some ⟨wc.heap.size, 0, none⟩) nM nM)) = w4 at *
        go_loopw [15] (fun i wr => ∃ k : Nat, k ≤ nM ∧ i = .int .i64 k ∧ But wc.heap.size w4 wr ∧ RowBlock wr wc.heap.size 43 zM 8 nM k (fun i => .int .i64 (m i))) (fun i _ => nM - (intOf i).toNat)
        case atStart => exact ⟨0, Nat.zero_le _, rfl, But.refl _ _, HN4.out⟩
        case round =>
          obtain ⟨k, hk, rfl, hbut, hrow⟩ := hrel
          have HU : Hid (But wc.heap.size w4 wr) := hbut
          have HW : Hid (RowBlock wr wc.heap.size 43 zM 8 nM k (fun i => .int .i64 (m i))) := hrow
          clear hbut hrow
          by_cases hlt : k < nM
          · obtain ⟨d0, d1, d2, d3, d4, d5, d6, d7, d8, d9⟩ := man_cells HW.out hlt
            rw [if_neg (Nat.lt_irrefl k)] at d8
            have f6 := HW.out.free (k * 10 + 8)
            obtain ⟨_, _, _, cI, _, _⟩ := (HR4.out.block (HU.out.block w.heap.size hRg)).cells
            obtain ⟨lb, lo, had, hsrc⟩ := HM.out.cellAt hlt
            simp only [Option.some.injEq] at had
            subst had
            have hs : wr.cell? ⟨lb, lo + k, none⟩ = some (.int .i64 (m k)) := ((HU.out.below HB4.out HG2.out).cell (p := ⟨lb, lo + k, none⟩) (World.block_lt_of_cell? w _ hsrc)).trans hsrc
            have hp : (k : Int) < (nM : Int) := by omega
            have hlb : lb ≠ wc.heap.size := by have := World.block_lt_of_cell? w _ hsrc; have h2 := HSz.out; rw [HGs.out] at h2; simp at this; omega
            have HN1 : Hid (RowBlock (wr.setCell ⟨wc.heap.size, k * 10 + 8, none⟩ (.int .i64 (m k))) wc.heap.size 43 zM 8 nM (k + 1) (fun i => .int .i64 (m i))) := HW.out.set (by decide)
            have HU1 : Hid (But wc.heap.size w4 (wr.setCell ⟨wc.heap.size, k * 10 + 8, none⟩ (.int .i64 (m k)))) := HU.out.setCell _ _
            clear d0 d1 d2 d3 d4 d5 d6 d7 d9 hsrc
            go_wp2
            go_region
            all_goals
              go_wp2
              go_roundw
              case rel => exact ⟨k + 1, by omega, by go_num, HU1.out.drew, HN1.out⟩
              case measure => simp [intOf]; omega
          · have hkn : k = nM := by omega
            subst hkn
            go_wp2_with fail
            go_meet
            case rel =>
              have hkeep : ∀ j, j < wc.heap.size → j ≠ w.heap.size → wr.heap[j]? = wc.heap[j]? := fun j h1 h2 => (HU.out.block j (by omega)).trans (HK4.out j h1 h2)
              exact ⟨vL, _, HR4.out.block (HU.out.block w.heap.size hRg), HFL.out.kept HRc.out (by decide) hkeep, .inr ⟨rfl, wc.heap.size, rfl, HW.out⟩, HU.out.below HB4.out HG2.out, by rw [HU.out.size]; exact HS4.out⟩
    case rest =>
      obtain ⟨vL, vM, hcR, hcFL, hcFM, hcB, hcS⟩ := hcut
      clear HRc HBc HSz HFL
      have HRc : Hid (Rep wc w.heap.size stale bu vL vM (.slice none 0 0) (.slice none 0 0)) := hcR
      have HBc : Hid (Below w.heap.size w wc) := hcB
      have HSz : Hid (w.heap.size < wc.heap.size) := hcS
      have HFL : Hid (FieldIs wc vL aL.isNone nL 41 zL 6 (fun i => .int .i64 (l i))) := hcFL
      have HFM : Hid (FieldIs wc vM aM.isNone nM 43 zM 8 (fun i => .int .i64 (m i))) := hcFM
      clear hcR hcB hcS hcFL hcFM hq2
      go_upto_if 80 with fail
      go_cut [16] (fun i wx => ∃ vL vM vB, Rep wx w.heap.size stale bu vL vM vB (.slice none 0 0) ∧ FieldIs wx vL aL.isNone nL 41 zL 6 (fun i => .int .i64 (l i)) ∧ FieldIs wx vM aM.isNone nM 43 zM 8 (fun i => .int .i64 (m i)) ∧ FieldIs wx vB aB.isNone nB 46 zB 3 (fun i => .int .i64 (b i)) ∧ Below w.heap.size w wx ∧ w.heap.size < wx.heap.size)
      case first =>
        cases aB with
        | none =>
          have e1 := HB0.out rfl
          subst e1
          go_wp2_with fail
          go_meet
          case rel =>
            exact ⟨vL, vM, _, HRc.out, HFL.out, HFM.out, .inl ⟨rfl, rfl, rfl⟩, HBc.out, HSz.out⟩
        | some ad =>
          obtain ⟨i1, hi1, hz1, hy1, hb1⟩ := info_parts Try.info46
          have hby : i1.bytes * nB ≤ 281474976710656 := by rw [hb1]; omega
          go_wp2_with (at_make; refine wpList_make_full _ rfl (.tmp 83) (.tmp 83) 35 rfl 0 46 i1 (.agg zB) 7 Try.underlying35 hi1 hz1 hy1 .i64 .i64 _ _ nB rfl rfl rfl rfl hby (by unfold maxLen; omega) (Nat.zero_le _) ?_; intro w3 hown3 hgrow3; have HR3 : Hid (Rep w3 w.heap.size stale bu vL vM (.slice none 0 0) (.slice none 0 0)) := HRc.out.block (grown_block hgrow3 HSz.out); obtain ⟨_, _, _, _, cI, _⟩ := HR3.out.cells; have fI := HR3.out.free 14)
          have HGs : Hid (wc.heap.size = wc.heap.size) := by show wc.heap.size = wc.heap.size; simp
          have hRg : w.heap.size ≠ wc.heap.size := by have := HSz.out; rw [HGs.out] at this; omega
          have HG2 : Hid (w.heap.size ≤ wc.heap.size) := by have := HSz.out; rw [HGs.out] at this; exact Nat.le_of_lt this
          have HR4 : Hid (Rep (w3.setCell ⟨w.heap.size, 14, none⟩ (.slice (some ⟨wc.heap.size, 0, none⟩) nB nB)) w.heap.size stale bu vL vM (.slice (some ⟨wc.heap.size, 0, none⟩) nB nB) (.slice none 0 0)) := HR3.out.setB _
          have HB4 : Hid (Below w.heap.size w (w3.setCell ⟨w.heap.size, 14, none⟩ (.slice (some ⟨wc.heap.size, 0, none⟩) nB nB))) := (HBc.out.grown hgrow3 (Nat.le_of_lt HSz.out) (by simp)).setCell (Nat.le_refl _) _
          have HN4 : Hid (RowBlock (w3.setCell ⟨w.heap.size, 14, none⟩ (.slice (some ⟨wc.heap.size, 0, none⟩) nB nB)) wc.heap.size 46 zB 3 nB 0 (fun i => .int .i64 (b i))) := (row_made (z := zB) 3 (fun i => .int .i64 (b i)) rfl HGs.out hown3).block (Below.heap_setCell _ _ _ _ (Ne.symm hRg))
          have HK4 : Hid (∀ k, k < wc.heap.size → k ≠ w.heap.size → (w3.setCell ⟨w.heap.size, 14, none⟩ (.slice (some ⟨wc.heap.size, 0, none⟩) nB nB)).heap[k]? = wc.heap[k]?) := fun k h1 h2 => (Below.heap_setCell _ _ _ _ h2).trans (grown_block hgrow3 h1)
          have HS4 : Hid (w.heap.size < (w3.setCell ⟨w.heap.size, 14, none⟩ (.slice (some ⟨wc.heap.size, 0, none⟩) nB nB)).heap.size) := Nat.lt_of_lt_of_le HSz.out (by have := hgrow3.size; simpa using this)
          clear hown3 hgrow3 cI fI HR3
          generalize (w3.setCell ⟨w.heap.size, 14, none⟩ (.slice (some ⟨wc.heap.size, 0, none⟩) nB nB)) = w4 at *
          go_loopw [16] (fun i wr => ∃ k : Nat, k ≤ nB ∧ i = .int .i64 k ∧ But wc.heap.size w4 wr ∧ RowBlock wr wc.heap.size 46 zB 3 nB k (fun i => .int .i64 (b i))) (fun i _ => nB - (intOf i).toNat)
          case atStart => exact ⟨0, Nat.zero_le _, rfl, But.refl _ _, HN4.out⟩
          case round =>
            obtain ⟨k, hk, rfl, hbut, hrow⟩ := hrel
            have HU : Hid (But wc.heap.size w4 wr) := hbut
            have HW : Hid (RowBlock wr wc.heap.size 46 zB 3 nB k (fun i => .int .i64 (b i))) := hrow
            clear hbut hrow
            by_cases hlt : k < nB
            · obtain ⟨d0, d1, d2, d3, d4, d5, d6⟩ := bre_cells HW.out hlt
              rw [if_neg (Nat.lt_irrefl k)] at d3
              have f6 := HW.out.free (k * 7 + 3)
              obtain ⟨_, _, _, _, cI, _⟩ := (HR4.out.block (HU.out.block w.heap.size hRg)).cells
              obtain ⟨lb, lo, had, hsrc⟩ := HB.out.cellAt hlt
              simp only [Option.some.injEq] at had
              subst had
              have hs : wr.cell? ⟨lb, lo + k, none⟩ = some (.int .i64 (b k)) := ((HU.out.below HB4.out HG2.out).cell (p := ⟨lb, lo + k, none⟩) (World.block_lt_of_cell? w _ hsrc)).trans hsrc
              have hp : (k : Int) < (nB : Int) := by omega
              have hlb : lb ≠ wc.heap.size := by have := World.block_lt_of_cell? w _ hsrc; have h2 := HSz.out; rw [HGs.out] at h2; simp at this; omega
              have HN1 : Hid (RowBlock (wr.setCell ⟨wc.heap.size, k * 7 + 3, none⟩ (.int .i64 (b k))) wc.heap.size 46 zB 3 nB (k + 1) (fun i => .int .i64 (b i))) := HW.out.set (by decide)
              have HU1 : Hid (But wc.heap.size w4 (wr.setCell ⟨wc.heap.size, k * 7 + 3, none⟩ (.int .i64 (b k)))) := HU.out.setCell _ _
              clear d0 d1 d2 d4 d5 d6 hsrc
              go_wp2
              go_region
              all_goals
                go_wp2
                go_roundw
                case rel => exact ⟨k + 1, by omega, by go_num, HU1.out.drew, HN1.out⟩
                case measure => simp [intOf]; omega
            · have hkn : k = nB := by omega
              subst hkn
              go_wp2_with fail
              go_meet
              case rel =>
                have hkeep : ∀ j, j < wc.heap.size → j ≠ w.heap.size → wr.heap[j]? = wc.heap[j]? := fun j h1 h2 => (HU.out.block j (by omega)).trans (HK4.out j h1 h2)
                exact ⟨vL, vM, _, HR4.out.block (HU.out.block w.heap.size hRg), HFL.out.kept HRc.out (by decide) hkeep, HFM.out.kept HRc.out (by decide) hkeep, .inr ⟨rfl, wc.heap.size, rfl, HW.out⟩, HU.out.below HB4.out HG2.out, by rw [HU.out.size]; exact HS4.out⟩
      case rest =>
        obtain ⟨vL, vM, vB, hcR, hcFL, hcFM, hcFB, hcB, hcS⟩ := hcut
        clear HRc HBc HSz HFL HFM
        have HRc : Hid (Rep wc w.heap.size stale bu vL vM vB (.slice none 0 0)) := hcR
        have HBc : Hid (Below w.heap.size w wc) := hcB
        have HSz : Hid (w.heap.size < wc.heap.size) := hcS
        have HFL : Hid (FieldIs wc vL aL.isNone nL 41 zL 6 (fun i => .int .i64 (l i))) := hcFL
        have HFM : Hid (FieldIs wc vM aM.isNone nM 43 zM 8 (fun i => .int .i64 (m i))) := hcFM
        have HFB : Hid (FieldIs wc vB aB.isNone nB 46 zB 3 (fun i => .int .i64 (b i))) := hcFB
        clear hcR hcB hcS hcFL hcFM hcFB hq3
        go_upto_if 105 with fail
        go_cut [17] (fun i wx => ∃ vL vM vB vV, Rep wx w.heap.size stale bu vL vM vB vV ∧ FieldIs wx vL aL.isNone nL 41 zL 6 (fun i => .int .i64 (l i)) ∧ FieldIs wx vM aM.isNone nM 43 zM 8 (fun i => .int .i64 (m i)) ∧ FieldIs wx vB aB.isNone nB 46 zB 3 (fun i => .int .i64 (b i)) ∧ FieldIs wx vV aV.isNone nV 49 zV 5 (fun i => .string (r i)) ∧ Below w.heap.size w wx ∧ w.heap.size < wx.heap.size)
        case first =>
          cases aV with
          | none =>
            have e1 := HV0.out rfl
            subst e1
            go_wp2_with fail
            go_meet
            case rel =>
              exact ⟨vL, vM, vB, _, HRc.out, HFL.out, HFM.out, HFB.out, .inl ⟨rfl, rfl, rfl⟩, HBc.out, HSz.out⟩
          | some ad =>
            obtain ⟨i1, hi1, hz1, hy1, hb1⟩ := info_parts Try.info49
            have hby : i1.bytes * nV ≤ 281474976710656 := by rw [hb1]; omega
            go_wp2_with (at_make; refine wpList_make_full _ rfl (.tmp 108) (.tmp 108) 36 rfl 0 49 i1 (.agg zV) 6 Try.underlying36 hi1 hz1 hy1 .i64 .i64 _ _ nV rfl rfl rfl rfl hby (by unfold maxLen; omega) (Nat.zero_le _) ?_; intro w3 hown3 hgrow3; have HR3 : Hid (Rep w3 w.heap.size stale bu vL vM vB (.slice none 0 0)) := HRc.out.block (grown_block hgrow3 HSz.out); obtain ⟨_, _, _, _, _, cI⟩ := HR3.out.cells; have fI := HR3.out.free 15)
            have HGs : Hid (wc.heap.size = wc.heap.size) := by show wc.heap.size = wc.heap.size; simp
            have hRg : w.heap.size ≠ wc.heap.size := by have := HSz.out; rw [HGs.out] at this; omega
            have HG2 : Hid (w.heap.size ≤ wc.heap.size) := by have := HSz.out; rw [HGs.out] at this; exact Nat.le_of_lt this
            have HR4 : Hid (Rep (w3.setCell ⟨w.heap.size, 15, none⟩ (.slice (some ⟨wc.heap.size, 0, none⟩) nV nV)) w.heap.size stale bu vL vM vB (.slice (some ⟨wc.heap.size, 0, none⟩) nV nV)) := HR3.out.setV _
            have HB4 : Hid (Below w.heap.size w (w3.setCell ⟨w.heap.size, 15, none⟩ (.slice (some ⟨wc.heap.size, 0, none⟩) nV nV))) := (HBc.out.grown hgrow3 (Nat.le_of_lt HSz.out) (by simp)).setCell (Nat.le_refl _) _
            have HN4 : Hid (RowBlock (w3.setCell ⟨w.heap.size, 15, none⟩ (.slice (some ⟨wc.heap.size, 0, none⟩) nV nV)) wc.heap.size 49 zV 5 nV 0 (fun i => .string (r i))) := (row_made (z := zV) 5 (fun i => .string (r i)) rfl HGs.out hown3).block (Below.heap_setCell _ _ _ _ (Ne.symm hRg))
            have HK4 : Hid (∀ k, k < wc.heap.size → k ≠ w.heap.size → (w3.setCell ⟨w.heap.size, 15, none⟩ (.slice (some ⟨wc.heap.size, 0, none⟩) nV nV)).heap[k]? = wc.heap[k]?) := fun k h1 h2 => (Below.heap_setCell _ _ _ _ h2).trans (grown_block hgrow3 h1)
            have HS4 : Hid (w.heap.size < (w3.setCell ⟨w.heap.size, 15, none⟩ (.slice (some ⟨wc.heap.size, 0, none⟩) nV nV)).heap.size) := Nat.lt_of_lt_of_le HSz.out (by have := hgrow3.size; simpa using this)
            clear hown3 hgrow3 cI fI HR3
            generalize (w3.setCell ⟨w.heap.size, 15, none⟩ (.slice (some ⟨wc.heap.size, 0, none⟩) nV nV)) = w4 at *
            go_loopw [17] (fun i wr => ∃ k : Nat, k ≤ nV ∧ i = .int .i64 k ∧ But wc.heap.size w4 wr ∧ RowBlock wr wc.heap.size 49 zV 5 nV k (fun i => .string (r i))) (fun i _ => nV - (intOf i).toNat)
            case atStart => exact ⟨0, Nat.zero_le _, rfl, But.refl _ _, HN4.out⟩
            case round =>
              obtain ⟨k, hk, rfl, hbut, hrow⟩ := hrel
              have HU : Hid (But wc.heap.size w4 wr) := hbut
              have HW : Hid (RowBlock wr wc.heap.size 49 zV 5 nV k (fun i => .string (r i))) := hrow
              clear hbut hrow
              by_cases hlt : k < nV
              · obtain ⟨d0, d1, d2, d3, d4, d5⟩ := rev_cells HW.out hlt
                rw [if_neg (Nat.lt_irrefl k)] at d5
                have f6 := HW.out.free (k * 6 + 5)
                obtain ⟨_, _, _, _, _, cI⟩ := (HR4.out.block (HU.out.block w.heap.size hRg)).cells
                obtain ⟨lb, lo, had, hsrc⟩ := HV.out.cellAt hlt
                simp only [Option.some.injEq] at had
                subst had
                have hs : wr.cell? ⟨lb, lo + k, none⟩ = some (.string (r k)) := ((HU.out.below HB4.out HG2.out).cell (p := ⟨lb, lo + k, none⟩) (World.block_lt_of_cell? w _ hsrc)).trans hsrc
                have hp : (k : Int) < (nV : Int) := by omega
                have hlb : lb ≠ wc.heap.size := by have := World.block_lt_of_cell? w _ hsrc; have h2 := HSz.out; rw [HGs.out] at h2; simp at this; omega
                have HN1 : Hid (RowBlock (wr.setCell ⟨wc.heap.size, k * 6 + 5, none⟩ (.string (r k))) wc.heap.size 49 zV 5 nV (k + 1) (fun i => .string (r i))) := HW.out.set (by decide)
                have HU1 : Hid (But wc.heap.size w4 (wr.setCell ⟨wc.heap.size, k * 6 + 5, none⟩ (.string (r k)))) := HU.out.setCell _ _
                clear d0 d1 d2 d3 d4 hsrc
                go_wp2
                go_region
                all_goals
                  go_wp2
                  go_roundw
                  case rel => exact ⟨k + 1, by omega, by go_num, HU1.out.drew, HN1.out⟩
                  case measure => simp [intOf]; omega
              · have hkn : k = nV := by omega
                subst hkn
                go_wp2_with fail
                go_meet
                case rel =>
                  have hkeep : ∀ j, j < wc.heap.size → j ≠ w.heap.size → wr.heap[j]? = wc.heap[j]? := fun j h1 h2 => (HU.out.block j (by omega)).trans (HK4.out j h1 h2)
                  exact ⟨vL, vM, vB, _, HR4.out.block (HU.out.block w.heap.size hRg), HFL.out.kept HRc.out (by decide) hkeep, HFM.out.kept HRc.out (by decide) hkeep, HFB.out.kept HRc.out (by decide) hkeep, .inr ⟨rfl, wc.heap.size, rfl, HW.out⟩, HU.out.below HB4.out HG2.out, by rw [HU.out.size]; exact HS4.out⟩
        case rest =>
          obtain ⟨vL, vM, vB, vV, hcR, hcFL, hcFM, hcFB, hcFV, hcB, hcS⟩ := hcut
          clear HRc HBc HSz HFL HFM HFB
          have HRc : Hid (Rep wc w.heap.size stale bu vL vM vB vV) := hcR
          have HBc : Hid (Below w.heap.size w wc) := hcB
          have HSz : Hid (w.heap.size < wc.heap.size) := hcS
          have HFL : Hid (FieldIs wc vL aL.isNone nL 41 zL 6 (fun i => .int .i64 (l i))) := hcFL
          have HFM : Hid (FieldIs wc vM aM.isNone nM 43 zM 8 (fun i => .int .i64 (m i))) := hcFM
          have HFB : Hid (FieldIs wc vB aB.isNone nB 46 zB 3 (fun i => .int .i64 (b i))) := hcFB
          have HFV : Hid (FieldIs wc vV aV.isNone nV 49 zV 5 (fun i => .string (r i))) := hcFV
          clear hcR hcB hcS hcFL hcFM hcFB hcFV hq4
          go_wp2
          go_ret
          exact ⟨vL, vM, vB, vV, rfl, HRc.out, HFL.out, HFM.out, HFB.out, HFV.out, HBc.out⟩
end Go.Proofs.Qxb6616722a.Hf
