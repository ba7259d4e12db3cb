/- zzB1StreamEq (11) of the seat b6615157a: where piece i is text[F i : F i + L i] and span i is (F i, F i + L i): true. -/
import Derived.Test.Qxb6615157aParts
namespace Go.Proofs.Qxb6615157a.Ya
open Go.RowKit

/-! ### the plain part: places in a stream that is cut into pieces -/
/-- How many bytes the first i pieces hold. -/
def offs (L : Nat → Nat) : Nat → Nat
  | 0 => 0
  | i + 1 => offs L i + L i

/-- Byte p of the stream is byte pj of piece pi (or the end of that piece; or the end of all). -/
def Place (L : Nat → Nat) (n pi pj p : Nat) : Prop := pi ≤ n ∧ offs L pi + pj = p ∧ (pi < n → pj ≤ L pi) ∧ (pi = n → pj = 0)

theorem offs_mono (L : Nat → Nat) {i j : Nat} (h : i ≤ j) : offs L i ≤ offs L j := by
  induction j with
  | zero => have : i = 0 := by omega
            subst this; exact Nat.le_refl _
  | succ j ih =>
    by_cases h' : i ≤ j
    · have := ih h'; simp only [offs]; omega
    · have : i = j + 1 := by omega
      subst this; exact Nat.le_refl _

theorem place_start (L : Nat → Nat) (n : Nat) : Place L n 0 0 (offs L 0) := ⟨Nat.zero_le _, rfl, fun _ => Nat.zero_le _, fun _ => rfl⟩

theorem place_skip {L : Nat → Nat} {n pi pj p : Nat} (h : Place L n pi pj p) (h1 : pi < n) (h2 : L pi ≤ pj) : Place L n (pi + 1) 0 p := by
  obtain ⟨_, a, b, _⟩ := h
  have := b h1
  exact ⟨h1, by simp only [offs]; omega, fun _ => Nat.zero_le _, fun _ => rfl⟩

theorem place_here {L : Nat → Nat} {n pi pj s d : Nat} (h : Place L n pi pj (offs L s + d)) (hx : ¬ (pi < n ∧ L pi ≤ pj)) (hs : s < n) (hd : d < L s) : pi = s ∧ pj = d := by
  obtain ⟨h0, a, b, c⟩ := h
  have hsn := offs_mono L (show s + 1 ≤ n from hs)
  simp only [offs] at hsn
  have hlt : pi < n := by
    rcases Nat.lt_or_ge pi n with h | h
    · exact h
    · have : pi = n := by omega
      have := c this
      subst_vars
      omega
  have hpj : pj < L pi := by
    rcases Nat.lt_or_ge pj (L pi) with h | h
    · exact h
    · exact absurd ⟨hlt, h⟩ hx
  have e : pi = s := by
    rcases Nat.lt_trichotomy pi s with h | h | h
    · have := offs_mono L (show pi + 1 ≤ s from h)
      simp only [offs] at this
      omega
    · exact h
    · have := offs_mono L (show s + 1 ≤ pi from h)
      simp only [offs] at this
      omega
  subst e
  exact ⟨rfl, by omega⟩

theorem place_step {L : Nat → Nat} {n s d : Nat} (hs : s < n) (hd : d < L s) : Place L n s (d + 1) (offs L s + (d + 1)) :=
  ⟨by omega, rfl, fun _ => hd, fun h => by omega⟩

theorem place_end {L : Nat → Nat} {n pi pj : Nat} (h : Place L n pi pj (offs L n)) (hx : ¬ (pi < n ∧ L pi ≤ pj)) : pi = n := by
  obtain ⟨h0, a, b, c⟩ := h
  rcases Nat.lt_or_ge pi n with hlt | hge
  · have hpj : pj < L pi := by
      rcases Nat.lt_or_ge pj (L pi) with h | h
      · exact h
      · exact absurd ⟨hlt, h⟩ hx
    have := offs_mono L (show pi + 1 ≤ n from hlt)
    simp only [offs] at this
    omega
  · omega

theorem place_bound {L : Nat → Nat} {n pi pj p M : Nat} (h : Place L n pi pj p) (hL : ∀ i, i < n → L i ≤ M) : pi ≤ n ∧ pj ≤ M := by
  obtain ⟨h0, _, b, c⟩ := h
  refine ⟨h0, ?_⟩
  rcases Nat.lt_or_ge pi n with h | h
  · exact Nat.le_trans (b h) (hL pi h)
  · rw [c (by omega)]; exact Nat.zero_le _

/-! ### the walk -/
set_option maxRecDepth 100000 in
set_option maxHeartbeats 2000000 in
theorem stream_some (pb pc tb sb sc tc n : Nat) (F L : Nat → Nat) (Z : Nat → Int) (ad : Nat → Option Addr) (cp : Nat → Nat) (ba bo : Nat → Nat) (ta : Option Addr) (len : Nat) (w : World) (hn : n ≤ 1048576) (hlen : len ≤ 1048576)
    (hp : ∀ i, i < n → w.cell? ⟨pb, i, none⟩ = some (.slice (ad i) (L i) (cp i)))
    (hb : ∀ i j, i < n → j < L i → ad i = some ⟨ba i, bo i, none⟩ ∧ w.cell? ⟨ba i, bo i + j, none⟩ = some (.int .u8 (Z (F i + j))))
    (ht : ∀ i, i < len → ta = some ⟨tb, 0, none⟩ ∧ w.cell? ⟨tb, i, none⟩ = some (.int .u8 (Z i)))
    (hs1 : ∀ i, i < n → w.cell? ⟨sb, i * 2, none⟩ = some (.int .i64 (F i : Int))) (hs2 : ∀ i, i < n → w.cell? ⟨sb, i * 2 + 1, none⟩ = some (.int .i64 ((F i + L i : Nat) : Int)))
    (hF : ∀ i, i < n → F i + L i ≤ len) :
    Calls Try.prog 11 #[.slice (some ⟨pb, 0, none⟩) n pc, .slice ta len tc, .slice (some ⟨sb, 0, none⟩) n sc] w fun e w' => e = .returned (.bool true) ∧ ∃ q, w' = w.drewN q := by
  go_enter Try.func11, Try.ntmps11
  go_wp2
  go_loopw [7, 8, 9] (fun a b s wr => ∃ pi pj k q : Nat, k ≤ n ∧ a = .int .i64 pi ∧ b = .int .i64 pj ∧ s = .int .i64 k ∧ Place L n pi pj (offs L k) ∧ wr = w.drewN q) (fun _ _ s _ => n - (intOf s).toNat)
  case atStart => exact ⟨0, 0, 0, 0, Nat.zero_le _, rfl, rfl, rfl, place_start L n, rfl⟩
  case round =>
    obtain ⟨pi, pj, k, q, hk, rfl, rfl, rfl, hpl, rfl⟩ := hrel
    have HP : Hid (Place L n pi pj (offs L k)) := hpl
    clear hpl
    by_cases hlt : k < n
    · have c1 := hs1 k hlt
      have c2 := hs2 k hlt
      have hFk := hF k hlt
      have hp1 : (k : Int) < (n : Int) := by omega
      go_wp2
      go_loopw [7, 8, 10] (fun a b t wr => ∃ pi pj d q : Nat, d ≤ L k ∧ a = .int .i64 pi ∧ b = .int .i64 pj ∧ t = .int .i64 ((F k + d : Nat) : Int) ∧ Place L n pi pj (offs L k + d) ∧ wr = w.drewN q) (fun _ _ t _ => F k + L k - (intOf t).toNat)
      case atStart => exact ⟨pi, pj, 0, q, Nat.zero_le _, rfl, rfl, rfl, HP.out, rfl⟩
      case round =>
        obtain ⟨pi, pj, d, q, hd, rfl, rfl, rfl, hpl, rfl⟩ := hrel
        have HP : Hid (Place L n pi pj (offs L k + d)) := hpl
        clear hpl
        by_cases hdl : d < L k
        · go_wp2
          go_loop [7, 8] (fun a b => ∃ pi pj : Nat, a = .int .i64 pi ∧ b = .int .i64 pj ∧ Place L n pi pj (offs L k + d)) (fun a _ => n - (intOf a).toNat)
          case atStart => exact ⟨pi, pj, rfl, rfl, HP.out⟩
          case round =>
            obtain ⟨pi, pj, rfl, rfl, hpl⟩ := hrel
            obtain ⟨hb1, hb2⟩ := place_bound hpl (M := 1048576) (fun i hi => by have := hF i hi; omega)
            by_cases hsk : pi < n ∧ L pi ≤ pj
            · obtain ⟨hs1', hs2'⟩ := hsk
              have HP2 : Hid (Place L n (pi + 1) 0 (offs L k + d)) := place_skip hpl hs1' hs2'
              have c3 := hp pi hs1'
              have hp2 : (pi : Int) < (n : Int) := by omega
              have hp3 : ((L pi : Nat) : Int) ≤ (pj : Int) := by omega
              clear hpl
              go_wp2
              go_round
              case rel => exact ⟨pi + 1, 0, by go_num, rfl, HP2.out⟩
              case measure => simp [intOf]; omega
            · obtain ⟨e1, e2⟩ := place_here hpl hsk hlt hdl
              subst e1; subst e2
              have HP2 : Hid (Place L n pi (pj + 1) (offs L pi + (pj + 1))) := place_step hlt hdl
              have c3 := hp pi hlt
              obtain ⟨c4, c5⟩ := hb pi pj hlt hdl
              rw [c4] at c3
              obtain ⟨c7, c6⟩ := ht (F pi + pj) (by omega)
              subst c7
              have hp3 : (pj : Int) < (L pi : Int) := by omega
              have hp4 : ((F pi : Int) + (pj : Int)) < (len : Int) := by omega
              have hg1 : decide ((n : Int) ≤ (pi : Int)) = false := by simp; omega
              have hp5 : (pi : Int) < (n : Int) := by omega
              have hp6 : (0 : Int) ≤ (F pi : Int) + (pj : Int) := by omega
              have hp7 : ((F pi : Int) + (pj : Int)).toNat = F pi + pj := by omega
              clear hpl hsk c4 hp hb ht hs1 hs2 hF
              go_wp2
              go_quiet (fail)
              go_wp2
              go_roundw
              case rel => exact ⟨pi, pj + 1, pj + 1, q + nq, by omega, rfl, by go_num, by go_num, HP2.out, rfl⟩
              case measure => simp [intOf]; omega
        · have hdk : d = L k := by omega
          subst hdk
          go_wp2
          go_roundw
          case rel => exact ⟨pi, pj, k + 1, q, by omega, rfl, rfl, by go_num, HP.out, rfl⟩
          case measure => simp [intOf]; omega
    · have hkn : k = n := by omega
      subst hkn
      go_wp2
      go_loop [7, 8] (fun a b => ∃ pi pj : Nat, a = .int .i64 pi ∧ b = .int .i64 pj ∧ Place L k pi pj (offs L k)) (fun a _ => k - (intOf a).toNat)
      case atStart => exact ⟨pi, pj, rfl, rfl, HP.out⟩
      case round =>
        obtain ⟨pi, pj, rfl, rfl, hpl⟩ := hrel
        obtain ⟨hb1, hb2⟩ := place_bound hpl (M := 1048576) (fun i hi => by have := hF i hi; omega)
        by_cases hsk : pi < k ∧ L pi ≤ pj
        · obtain ⟨hs1', hs2'⟩ := hsk
          have HP2 : Hid (Place L k (pi + 1) 0 (offs L k)) := place_skip hpl hs1' hs2'
          have c3 := hp pi hs1'
          have hp2 : (pi : Int) < (k : Int) := by omega
          have hp3 : ((L pi : Nat) : Int) ≤ (pj : Int) := by omega
          clear hpl
          go_wp2
          go_round
          case rel => exact ⟨pi + 1, 0, by go_num, rfl, HP2.out⟩
          case measure => simp [intOf]; omega
        · have e1 := place_end hpl hsk
          subst e1
          clear hpl hsk
          go_wp2
          go_ret
          exact ⟨by simp, q, rfl⟩

set_option maxHeartbeats 400000 in
theorem stream_none (a1 a2 a3 : Option Addr) (c1 len tc c3 : Nat) (w : World) :
    Calls Try.prog 11 #[.slice a1 0 c1, .slice a2 len tc, .slice a3 0 c3] w fun e w' => e = .returned (.bool true) ∧ ∃ q, w' = w.drewN q := by
  go_enter Try.func11, Try.ntmps11
  go_wp2
  refine wp_loop_rounds 1 ?_
  rw [rounds_succ]
  go_wp2
  refine wp_loop_rounds 1 ?_
  rw [rounds_succ]
  go_wp2
  go_ret
  exact ⟨rfl, 0, rfl⟩

/-- zzB1StreamEq at the pieces that yieldAll has kept. -/
theorem stream_any {v T S : Value} {len n : Nat} {P : Nat → Value} {z f g : Nat → Int} {w : World} (hn : n ≤ 1048576) (hlen : len ≤ 1048576) (hG : GotAt w v P n) (hT : TextAt w T len z) (hS : SpansAt w S n f g)
    (hf : ∀ i, i < n → Fits len f g i) (hP : ∀ i, i < n → RowAt w (P i) ((g i).toNat - (f i).toNat) (fun j => .int .u8 (z ((f i).toNat + j)))) :
    Calls Try.prog 11 #[v, T, S] w fun e w' => e = .returned (.bool true) ∧ ∃ q, w' = w.drewN q := by
  obtain ⟨ad, cap, rfl, _, _, h0⟩ := hG
  obtain ⟨ta, rfl, hT⟩ := hT
  obtain ⟨sa, rfl, hS⟩ := hS
  by_cases hz : n = 0
  · subst hz; exact stream_none ad ta sa cap len len 0 w
  · rcases h0 with h | ⟨pb, rfl, hp⟩
    · exact absurd h hz
    · rcases hS with h | ⟨sb, rfl, hs⟩
      · exact absurd h hz
      · obtain ⟨q, hq⟩ := Go.Deep.choose_lt (α := Option Addr × Nat × Nat × Nat) (n := n) (p := fun i q => P i = .slice q.1 ((g i).toNat - (f i).toNat) q.2.1 ∧ ∀ j, j < (g i).toNat - (f i).toNat → q.1 = some ⟨q.2.2.1, q.2.2.2, none⟩ ∧ w.cell? ⟨q.2.2.1, q.2.2.2 + j, none⟩ = some (.int .u8 (z ((f i).toNat + j)))) (fun i hi => by
          obtain ⟨pa, pc, hv, h1⟩ := hP i hi
          rcases h1 with h1 | ⟨b, off, rfl, h1⟩
          · exact ⟨(pa, pc, 0, 0), hv, fun j hj => by omega⟩
          · exact ⟨(some ⟨b, off, none⟩, pc, b, off), hv, fun j hj => ⟨rfl, h1 j hj⟩⟩)
        obtain ⟨tb, ht⟩ : ∃ tb, ∀ i, i < len → ta = some ⟨tb, 0, none⟩ ∧ w.cell? ⟨tb, i, none⟩ = some (.int .u8 (z i)) := by
          rcases hT with h | ⟨tb, rfl, h⟩
          · exact ⟨0, fun i hi => by omega⟩
          · exact ⟨tb, fun i hi => ⟨rfl, h i hi⟩⟩
        refine stream_some pb cap tb sb n len n (fun i => (f i).toNat) (fun i => (g i).toNat - (f i).toNat) z (fun i => (q i).1) (fun i => (q i).2.1) (fun i => (q i).2.2.1) (fun i => (q i).2.2.2) ta len w hn hlen ?_ ?_ ht ?_ ?_ ?_
        · intro i hi
          have := hp i hi
          rw [(hq i hi).1] at this
          exact this
        · intro i j hi hj
          exact (hq i hi).2 j hj
        · intro i hi
          have h1 := (hs i hi).1
          obtain ⟨f1, f2, f3⟩ := hf i hi
          rw [show (((f i).toNat : Nat) : Int) = f i from by omega]
          exact h1
        · intro i hi
          have h1 := (hs i hi).2
          obtain ⟨f1, f2, f3⟩ := hf i hi
          rw [show (((f i).toNat + ((g i).toNat - (f i).toNat) : Nat) : Int) = g i from by omega]
          exact h1
        · intro i hi
          obtain ⟨f1, f2, f3⟩ := hf i hi
          show (f i).toNat + ((g i).toNat - (f i).toNat) ≤ len
          omega
end Go.Proofs.Qxb6615157a.Ya
