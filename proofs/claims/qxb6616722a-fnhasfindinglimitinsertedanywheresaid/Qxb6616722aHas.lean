/- (*Report).HasFinding (7) of the seat b6616722a. -/
import Derived.Test.Qxb6616722aAny
import Derived.Deep.DeepCutAuto
namespace Go.Proofs.Qxb6616722a.Hf
open Go.RowKit Go.Proofs.Qxb6616722a.Pl

/-- A report's sixteen cells. -/
def repCells (stale bu : Bool) (vL vM vB vV : Value) : Array Value :=
  #[.string ⟨#[]⟩, .string ⟨#[]⟩, .slice none 0 0, .string ⟨#[]⟩, .string ⟨#[]⟩, .string ⟨#[]⟩, .slice none 0 0, .int .i64 0, .string ⟨#[]⟩, .string ⟨#[]⟩, .bool stale, .bool bu, vL, vM, vB, vV]

/-- Block R holds a report. -/
def Rep (w : World) (R : Nat) (stale bu : Bool) (vL vM vB vV : Value) : Prop := w.heap[R]? = some (.cells (repCells stale bu vL vM vB vV) 38 (0, 0))

theorem Rep.cells {w : World} {R : Nat} {stale bu : Bool} {vL vM vB vV : Value} (h : Rep w R stale bu vL vM vB vV) :
    w.cell? ⟨R, 10, none⟩ = some (.bool stale) ∧ w.cell? ⟨R, 11, none⟩ = some (.bool bu) ∧ w.cell? ⟨R, 12, none⟩ = some vL ∧ w.cell? ⟨R, 13, none⟩ = some vM ∧ w.cell? ⟨R, 14, none⟩ = some vB ∧ w.cell? ⟨R, 15, none⟩ = some vV := by
  have hg : w.heap[R]? = some (.cells (repCells stale bu vL vM vB vV) 38 (0, 0)) := h
  refine ⟨?_, ?_, ?_, ?_, ?_, ?_⟩ <;> simp [World.cell?, hg, repCells]

theorem Rep.later {w w' : World} {R : Nat} {stale bu : Bool} {vL vM vB vV : Value} (h : Rep w R stale bu vL vM vB vV) (hb : Below w.heap.size w w') : Rep w' R stale bu vL vM vB vV := by
  have hg : w.heap[R]? = some (.cells (repCells stale bu vL vM vB vV) 38 (0, 0)) := h
  exact (hb.block R (lt_of_block hg)).trans hg

theorem FieldIs.shape {w : World} {x : Value} {isNil : Bool} {n T : Nat} {z : Array Value} {pos : Nat} {v : Nat → Value} (h : FieldIs w x isNil n T z pos v) : ∃ a, x = .slice a n n ∧ a.isNone = isNil := by
  rcases h with ⟨h1, h2, h3⟩ | ⟨h1, g, h2, _⟩
  · subst h2; exact ⟨none, h3, h1.symm⟩
  · exact ⟨_, h2, h1.symm⟩

theorem FieldIs.row {w : World} {a : Option Addr} {isNil : Bool} {n T k : Nat} {z : Array Value} {pos : Nat} {v : Nat → Value} (h : FieldIs w (.slice a n n) isNil n T z pos v) (hk : k < n) : ∃ g, a = some ⟨g, 0, none⟩ ∧ RowBlock w g T z pos n n v := by
  rcases h with ⟨_, h2, _⟩ | ⟨_, g, h2, h3⟩
  · omega
  · simp only [Value.slice.injEq, and_true] at h2
    exact ⟨g, h2, h3⟩

set_option maxRecDepth 100000 in
set_option maxHeartbeats 2000000 in
theorem has_any (R : Nat) (stale bu : Bool) (aL aM aB aV : Option Addr) (nL nM nB nV : Nat) (lN mN bN vN : Bool) (l m b : Nat → Int) (r : Nat → ByteArray) (w : World)
    (hR : Rep w R stale bu (.slice aL nL nL) (.slice aM nM nM) (.slice aB nB nB) (.slice aV nV nV)) (h1 : nL ≤ 1048577) (h2 : nM ≤ 1048577) (h3 : nB ≤ 1048577) (h4 : nV ≤ 1048577)
    (hL : FieldIs w (.slice aL nL nL) lN nL 41 zL 6 (fun i => .int .i64 (l i))) (hM : FieldIs w (.slice aM nM nM) mN nM 43 zM 8 (fun i => .int .i64 (m i)))
    (hB : FieldIs w (.slice aB nB nB) bN nB 46 zB 3 (fun i => .int .i64 (b i))) (hV : FieldIs w (.slice aV nV nV) vN nV 49 zV 5 (fun i => .string (r i))) (hbn : aB.isNone = bN) :
    Calls Try.prog 7 #[.pointer (some ⟨R, 0, none⟩)] w fun e w' =>
      e = .returned (.bool (finds stale bu (some1 (fun i => m i == 1) nM) bN (some1 (fun i => l i == 1) nL) (some1 (fun i => b i != 4) nB) (some1 (fun i => !((r i).toList == [97, 103, 114, 101, 101, 115])) nV))) ∧ Below w.heap.size w w' := by
  obtain ⟨c10, c11, c12, c13, c14, c15⟩ := hR.cells
  have hRlt : R < w.heap.size := lt_of_block hR
  have HR : Hid (Rep w R stale bu (.slice aL nL nL) (.slice aM nM nM) (.slice aB nB nB) (.slice aV nV nV)) := hR
  have HL : Hid (FieldIs w (.slice aL nL nL) lN nL 41 zL 6 (fun i => .int .i64 (l i))) := hL
  have HM : Hid (FieldIs w (.slice aM nM nM) mN nM 43 zM 8 (fun i => .int .i64 (m i))) := hM
  have HB : Hid (FieldIs w (.slice aB nB nB) bN nB 46 zB 3 (fun i => .int .i64 (b i))) := hB
  have HV : Hid (FieldIs w (.slice aV nV nV) vN nV 49 zV 5 (fun i => .string (r i))) := hV
  have cM := any_field _ _ nM m w h2 hM
  have heq := fun wx => Lib.run_eql_slice_nil (P := Try.prog) wx 35 46 aB nB nB 0 0 Try.underlying35
  clear hR hL hM hB hV
  cases stale
  · obtain ⟨mm, hmm⟩ : ∃ mm, some1 (fun i => m i == 1) nM = mm := ⟨_, rfl⟩
    rw [hmm] at cM ⊢
    clear hmm
    cases mm
    · cases bN
      · go_enter Try.func7, Try.ntmps7
        go_wp2_with fail
        refine cM.mono ?_
        rintro e w1 ⟨rfl, hbx⟩
        clear cM c10 c11 c12 c13 c14 c15
        obtain ⟨c10, c11, c12, c13, c14, c15⟩ := (HR.out.later hbx).cells
        go_wp2_with fail
        go_loopw [51] (fun i wr => ∃ k : Nat, k ≤ nB ∧ i = .int .i64 k ∧ Below w.heap.size w wr ∧ ∀ j, j < k → (b j != 4) = false) (fun i _ => nB - (intOf i).toNat)
        case atStart => exact ⟨0, Nat.zero_le _, rfl, hbx, fun j hj => by omega⟩
        case round =>
          obtain ⟨k, hk, rfl, hb, hno⟩ := hrel
          have HN : Hid (∀ j, j < k → (b j != 4) = false) := hno
          clear hno
          by_cases hlt : k < nB
          · obtain ⟨g, hgv, hRr⟩ := (HB.out.later hb).row hlt
            obtain ⟨d0, d1, d2, d3, d4, d5, d6⟩ := bre_cells hRr hlt
            rw [if_pos hlt] at d3
            subst hgv
            obtain ⟨x, hx⟩ : ∃ x, b k = x := ⟨_, rfl⟩
            rw [hx] at d3
            have HX : Hid (b k = x) := hx
            have hp : (k : Int) < (nB : Int) := by omega
            clear hRr hx
            cases hq : (x != 4)
            · go_wp2
              go_roundw
              case rel => exact ⟨k + 1, by omega, by go_num, hb.alloc hb.size _, fun j hj => if h : j < k then HN.out j h else by rw [show j = k from by omega, HX.out]; exact hq⟩
              case measure => simp [intOf]; omega
            · have hyes : some1 (fun i => b i != 4) nB = true := some1_yes hlt (by rw [HX.out]; exact hq)
              have HY : Hid (some1 (fun i => b i != 4) nB = true) := hyes
              clear hyes
              go_wp2
              go_ret
              exact ⟨by rw [HY.out]; simp [finds], hb.alloc hb.size _⟩
          · have HNo2 : Hid (some1 (fun i => b i != 4) nB = false) := some1_no fun i hi => HN.out i (by omega)
            clear HN hbx c10 c11 c12 c13 c14 c15
            obtain ⟨c10, c11, c12, c13, c14, c15⟩ := (HR.out.later hb).cells
            have hbx : Below w.heap.size w wr := hb
            clear hb
            go_wp2_with fail
            go_loopw [64] (fun i wr => ∃ k : Nat, k ≤ nV ∧ i = .int .i64 k ∧ Below w.heap.size w wr ∧ ∀ j, j < k → (!((r j).toList == [97, 103, 114, 101, 101, 115])) = false) (fun i _ => nV - (intOf i).toNat)
            case atStart => exact ⟨0, Nat.zero_le _, rfl, hbx, fun j hj => by omega⟩
            case round =>
              obtain ⟨k, hk, rfl, hb, hno⟩ := hrel
              have HN : Hid (∀ j, j < k → (!((r j).toList == [97, 103, 114, 101, 101, 115])) = false) := hno
              clear hno
              by_cases hlt : k < nV
              · obtain ⟨g, hgv, hRr⟩ := (HV.out.later hb).row hlt
                obtain ⟨d0, d1, d2, d3, d4, d5⟩ := rev_cells hRr hlt
                rw [if_pos hlt] at d5
                subst hgv
                obtain ⟨x, hx⟩ : ∃ x, r k = x := ⟨_, rfl⟩
                rw [hx] at d5
                have HX : Hid (r k = x) := hx
                have hp : (k : Int) < (nV : Int) := by omega
                clear hRr hx
                cases hq : (x.toList == [97, 103, 114, 101, 101, 115])
                · have hyes : some1 (fun i => !((r i).toList == [97, 103, 114, 101, 101, 115])) nV = true := some1_yes hlt (by rw [HX.out, hq]; rfl)
                  have HY : Hid (some1 (fun i => !((r i).toList == [97, 103, 114, 101, 101, 115])) nV = true) := hyes
                  clear hyes
                  go_wp2
                  go_ret
                  exact ⟨by rw [HY.out]; simp [finds], hb.alloc hb.size _⟩
                · have HQ : Hid ((!(x.toList == [97, 103, 114, 101, 101, 115])) = false) := by show (!(x.toList == [97, 103, 114, 101, 101, 115])) = false; rw [hq]; rfl
                  go_wp2
                  go_roundw
                  case rel => exact ⟨k + 1, by omega, by go_num, hb.alloc hb.size _, fun j hj => if h : j < k then HN.out j h else by rw [show j = k from by omega, HX.out]; exact HQ.out⟩
                  case measure => simp [intOf]; omega
              · have HNo3 : Hid (some1 (fun i => !((r i).toList == [97, 103, 114, 101, 101, 115])) nV = false) := some1_no fun i hi => HN.out i (by omega)
                clear HN
                go_wp2
                go_ret
                exact ⟨by rw [HNo2.out, HNo3.out]; simp [finds], hb⟩
      · cases bu
        · go_enter Try.func7, Try.ntmps7
          go_wp2_with fail
          refine cM.mono ?_
          rintro e w1 ⟨rfl, hbx⟩
          clear cM c10 c11 c12 c13 c14 c15
          obtain ⟨c10, c11, c12, c13, c14, c15⟩ := (HR.out.later hbx).cells
          go_wp2_with fail
          go_loopw [38] (fun i wr => ∃ k : Nat, k ≤ nL ∧ i = .int .i64 k ∧ Below w.heap.size w wr ∧ ∀ j, j < k → (l j == 1) = false) (fun i _ => nL - (intOf i).toNat)
          case atStart => exact ⟨0, Nat.zero_le _, rfl, hbx, fun j hj => by omega⟩
          case round =>
            obtain ⟨k, hk, rfl, hb, hno⟩ := hrel
            have HN : Hid (∀ j, j < k → (l j == 1) = false) := hno
            clear hno
            by_cases hlt : k < nL
            · obtain ⟨g, hgv, hRr⟩ := (HL.out.later hb).row hlt
              obtain ⟨d0, d1, d2, d3, d4, d5, d6⟩ := lim_cells hRr hlt
              rw [if_pos hlt] at d6
              subst hgv
              obtain ⟨x, hx⟩ : ∃ x, l k = x := ⟨_, rfl⟩
              rw [hx] at d6
              have HX : Hid (l k = x) := hx
              have hp : (k : Int) < (nL : Int) := by omega
              clear hRr hx
              cases hq : (x == 1)
              · go_wp2
                go_roundw
                case rel => exact ⟨k + 1, by omega, by go_num, hb.alloc hb.size _, fun j hj => if h : j < k then HN.out j h else by rw [show j = k from by omega, HX.out]; exact hq⟩
                case measure => simp [intOf]; omega
              · have hyes : some1 (fun i => l i == 1) nL = true := some1_yes hlt (by rw [HX.out]; exact hq)
                have HY : Hid (some1 (fun i => l i == 1) nL = true) := hyes
                clear hyes
                go_wp2
                go_ret
                exact ⟨by rw [HY.out]; simp [finds], hb.alloc hb.size _⟩
            · have HNo : Hid (some1 (fun i => l i == 1) nL = false) := some1_no fun i hi => HN.out i (by omega)
              clear HN hbx c10 c11 c12 c13 c14 c15
              obtain ⟨c10, c11, c12, c13, c14, c15⟩ := (HR.out.later hb).cells
              have hbx : Below w.heap.size w wr := hb
              clear hb
              go_wp2_with fail
              go_loopw [51] (fun i wr => ∃ k : Nat, k ≤ nB ∧ i = .int .i64 k ∧ Below w.heap.size w wr ∧ ∀ j, j < k → (b j != 4) = false) (fun i _ => nB - (intOf i).toNat)
              case atStart => exact ⟨0, Nat.zero_le _, rfl, hbx, fun j hj => by omega⟩
              case round =>
                obtain ⟨k, hk, rfl, hb, hno⟩ := hrel
                have HN : Hid (∀ j, j < k → (b j != 4) = false) := hno
                clear hno
                by_cases hlt : k < nB
                · obtain ⟨g, hgv, hRr⟩ := (HB.out.later hb).row hlt
                  obtain ⟨d0, d1, d2, d3, d4, d5, d6⟩ := bre_cells hRr hlt
                  rw [if_pos hlt] at d3
                  subst hgv
                  obtain ⟨x, hx⟩ : ∃ x, b k = x := ⟨_, rfl⟩
                  rw [hx] at d3
                  have HX : Hid (b k = x) := hx
                  have hp : (k : Int) < (nB : Int) := by omega
                  clear hRr hx
                  cases hq : (x != 4)
                  · go_wp2
                    go_roundw
                    case rel => exact ⟨k + 1, by omega, by go_num, hb.alloc hb.size _, fun j hj => if h : j < k then HN.out j h else by rw [show j = k from by omega, HX.out]; exact hq⟩
                    case measure => simp [intOf]; omega
                  · have hyes : some1 (fun i => b i != 4) nB = true := some1_yes hlt (by rw [HX.out]; exact hq)
                    have HY : Hid (some1 (fun i => b i != 4) nB = true) := hyes
                    clear hyes
                    go_wp2
                    go_ret
                    exact ⟨by rw [HY.out]; simp [finds], hb.alloc hb.size _⟩
                · have HNo2 : Hid (some1 (fun i => b i != 4) nB = false) := some1_no fun i hi => HN.out i (by omega)
                  clear HN hbx c10 c11 c12 c13 c14 c15
                  obtain ⟨c10, c11, c12, c13, c14, c15⟩ := (HR.out.later hb).cells
                  have hbx : Below w.heap.size w wr := hb
                  clear hb
                  go_wp2_with fail
                  go_loopw [64] (fun i wr => ∃ k : Nat, k ≤ nV ∧ i = .int .i64 k ∧ Below w.heap.size w wr ∧ ∀ j, j < k → (!((r j).toList == [97, 103, 114, 101, 101, 115])) = false) (fun i _ => nV - (intOf i).toNat)
                  case atStart => exact ⟨0, Nat.zero_le _, rfl, hbx, fun j hj => by omega⟩
                  case round =>
                    obtain ⟨k, hk, rfl, hb, hno⟩ := hrel
                    have HN : Hid (∀ j, j < k → (!((r j).toList == [97, 103, 114, 101, 101, 115])) = false) := hno
                    clear hno
                    by_cases hlt : k < nV
                    · obtain ⟨g, hgv, hRr⟩ := (HV.out.later hb).row hlt
                      obtain ⟨d0, d1, d2, d3, d4, d5⟩ := rev_cells hRr hlt
                      rw [if_pos hlt] at d5
                      subst hgv
                      obtain ⟨x, hx⟩ : ∃ x, r k = x := ⟨_, rfl⟩
                      rw [hx] at d5
                      have HX : Hid (r k = x) := hx
                      have hp : (k : Int) < (nV : Int) := by omega
                      clear hRr hx
                      cases hq : (x.toList == [97, 103, 114, 101, 101, 115])
                      · have hyes : some1 (fun i => !((r i).toList == [97, 103, 114, 101, 101, 115])) nV = true := some1_yes hlt (by rw [HX.out, hq]; rfl)
                        have HY : Hid (some1 (fun i => !((r i).toList == [97, 103, 114, 101, 101, 115])) nV = true) := hyes
                        clear hyes
                        go_wp2
                        go_ret
                        exact ⟨by rw [HY.out]; simp [finds], hb.alloc hb.size _⟩
                      · have HQ : Hid ((!(x.toList == [97, 103, 114, 101, 101, 115])) = false) := by show (!(x.toList == [97, 103, 114, 101, 101, 115])) = false; rw [hq]; rfl
                        go_wp2
                        go_roundw
                        case rel => exact ⟨k + 1, by omega, by go_num, hb.alloc hb.size _, fun j hj => if h : j < k then HN.out j h else by rw [show j = k from by omega, HX.out]; exact HQ.out⟩
                        case measure => simp [intOf]; omega
                    · have HNo3 : Hid (some1 (fun i => !((r i).toList == [97, 103, 114, 101, 101, 115])) nV = false) := some1_no fun i hi => HN.out i (by omega)
                      clear HN
                      go_wp2
                      go_ret
                      exact ⟨by rw [HNo.out, HNo2.out, HNo3.out]; simp [finds], hb⟩
        · go_enter Try.func7, Try.ntmps7
          go_wp2_with fail
          refine cM.mono ?_
          rintro e w1 ⟨rfl, hbx⟩
          clear cM c10 c11 c12 c13 c14 c15
          obtain ⟨c10, c11, c12, c13, c14, c15⟩ := (HR.out.later hbx).cells
          go_wp2_with fail
          go_loopw [51] (fun i wr => ∃ k : Nat, k ≤ nB ∧ i = .int .i64 k ∧ Below w.heap.size w wr ∧ ∀ j, j < k → (b j != 4) = false) (fun i _ => nB - (intOf i).toNat)
          case atStart => exact ⟨0, Nat.zero_le _, rfl, hbx, fun j hj => by omega⟩
          case round =>
            obtain ⟨k, hk, rfl, hb, hno⟩ := hrel
            have HN : Hid (∀ j, j < k → (b j != 4) = false) := hno
            clear hno
            by_cases hlt : k < nB
            · obtain ⟨g, hgv, hRr⟩ := (HB.out.later hb).row hlt
              obtain ⟨d0, d1, d2, d3, d4, d5, d6⟩ := bre_cells hRr hlt
              rw [if_pos hlt] at d3
              subst hgv
              obtain ⟨x, hx⟩ : ∃ x, b k = x := ⟨_, rfl⟩
              rw [hx] at d3
              have HX : Hid (b k = x) := hx
              have hp : (k : Int) < (nB : Int) := by omega
              clear hRr hx
              cases hq : (x != 4)
              · go_wp2
                go_roundw
                case rel => exact ⟨k + 1, by omega, by go_num, hb.alloc hb.size _, fun j hj => if h : j < k then HN.out j h else by rw [show j = k from by omega, HX.out]; exact hq⟩
                case measure => simp [intOf]; omega
              · have hyes : some1 (fun i => b i != 4) nB = true := some1_yes hlt (by rw [HX.out]; exact hq)
                have HY : Hid (some1 (fun i => b i != 4) nB = true) := hyes
                clear hyes
                go_wp2
                go_ret
                exact ⟨by rw [HY.out]; simp [finds], hb.alloc hb.size _⟩
            · have HNo2 : Hid (some1 (fun i => b i != 4) nB = false) := some1_no fun i hi => HN.out i (by omega)
              clear HN hbx c10 c11 c12 c13 c14 c15
              obtain ⟨c10, c11, c12, c13, c14, c15⟩ := (HR.out.later hb).cells
              have hbx : Below w.heap.size w wr := hb
              clear hb
              go_wp2_with fail
              go_loopw [64] (fun i wr => ∃ k : Nat, k ≤ nV ∧ i = .int .i64 k ∧ Below w.heap.size w wr ∧ ∀ j, j < k → (!((r j).toList == [97, 103, 114, 101, 101, 115])) = false) (fun i _ => nV - (intOf i).toNat)
              case atStart => exact ⟨0, Nat.zero_le _, rfl, hbx, fun j hj => by omega⟩
              case round =>
                obtain ⟨k, hk, rfl, hb, hno⟩ := hrel
                have HN : Hid (∀ j, j < k → (!((r j).toList == [97, 103, 114, 101, 101, 115])) = false) := hno
                clear hno
                by_cases hlt : k < nV
                · obtain ⟨g, hgv, hRr⟩ := (HV.out.later hb).row hlt
                  obtain ⟨d0, d1, d2, d3, d4, d5⟩ := rev_cells hRr hlt
                  rw [if_pos hlt] at d5
                  subst hgv
                  obtain ⟨x, hx⟩ : ∃ x, r k = x := ⟨_, rfl⟩
                  rw [hx] at d5
                  have HX : Hid (r k = x) := hx
                  have hp : (k : Int) < (nV : Int) := by omega
                  clear hRr hx
                  cases hq : (x.toList == [97, 103, 114, 101, 101, 115])
                  · have hyes : some1 (fun i => !((r i).toList == [97, 103, 114, 101, 101, 115])) nV = true := some1_yes hlt (by rw [HX.out, hq]; rfl)
                    have HY : Hid (some1 (fun i => !((r i).toList == [97, 103, 114, 101, 101, 115])) nV = true) := hyes
                    clear hyes
                    go_wp2
                    go_ret
                    exact ⟨by rw [HY.out]; simp [finds], hb.alloc hb.size _⟩
                  · have HQ : Hid ((!(x.toList == [97, 103, 114, 101, 101, 115])) = false) := by show (!(x.toList == [97, 103, 114, 101, 101, 115])) = false; rw [hq]; rfl
                    go_wp2
                    go_roundw
                    case rel => exact ⟨k + 1, by omega, by go_num, hb.alloc hb.size _, fun j hj => if h : j < k then HN.out j h else by rw [show j = k from by omega, HX.out]; exact HQ.out⟩
                    case measure => simp [intOf]; omega
                · have HNo3 : Hid (some1 (fun i => !((r i).toList == [97, 103, 114, 101, 101, 115])) nV = false) := some1_no fun i hi => HN.out i (by omega)
                  clear HN
                  go_wp2
                  go_ret
                  exact ⟨by rw [HNo2.out, HNo3.out]; simp [finds], hb⟩
    · go_enter Try.func7, Try.ntmps7
      go_wp2_with fail
      refine cM.mono ?_
      rintro e w1 ⟨rfl, hb1⟩
      go_wp2
      go_ret
      exact ⟨by simp [finds], hb1⟩
  · go_enter Try.func7, Try.ntmps7
    go_wp2
    go_ret
    exact ⟨by simp [finds], Below.refl _ _⟩
end Go.Proofs.Qxb6616722a.Hf
