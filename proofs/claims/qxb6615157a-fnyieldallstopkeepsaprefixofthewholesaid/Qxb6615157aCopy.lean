/- 'zzc := make([]T, len(x)); copy(zzc, x)': the copy as a law for the walk, T of whatever size; and a slice of pairs that came in, opened. No program in sight. -/
import Derived.Test.Qxb6615157aMem
import Derived.Laws.CopyOwn
import Derived.Deep.Slices
import Derived.OpenShut
namespace Go.Proofs.Qxb6615157a.Ya
open Go.RowKit

theorem run_copy_rowN (P : Program) (w : World) (dT sT ty elem : TypeId) (size g dLen dCap : Nat) (a : Addr) (sLen sCap : Nat) (cur : Array Value) (t : TypeId) (cs : List Value)
    (hu : P.underlying dT = some (.slice elem)) (hs : (P.info? elem).map (·.size) = some size)
    (hg : w.heap[g]? = some (.cells cur t (0, 0))) (hn : cs.length = Nat.min sLen dLen * size)
    (hsrc : ∀ j v, cs[j]? = some v → w.cell? (a.add j) = some v) (hfit : cs.length = cur.size) (h1 : ∀ v ∈ cs, v.oneCell' = true) :
    (Builtin.copy_ #[dT, sT] ty #[.slice (some ⟨g, 0, none⟩) dLen dCap, .slice (some a) sLen sCap]).run P w =
      .ok (goInt (Nat.min sLen dLen)) (w.setRow g cs.toArray) := by
  have hl := run_loadCells_list (P := P) w a cs hsrc
  have hst := run_storeCells_at P g 0 t cs 0 cur w hg (by simp; omega) h1
  have e : (cur.toList.take (0 + 0) ++ cs ++ cur.toList.drop (0 + 0 + cs.length)) = cs := by
    have : cur.toList.drop (0 + 0 + cs.length) = [] := List.drop_eq_nil_of_le (by simp; omega)
    rw [this]; simp
  rw [e] at hst
  cases hq : P.info? elem with
  | none => simp [hq] at hs
  | some i =>
    have hi : i.size = size := by simpa [hq] using hs
    simp [Builtin.copy_, run_underlying hu, Builtin.lenOf, Builtin.firstCells, sizeOf, typeInfo, hq, hi, ← hn, hl, hst]

theorem run_copy_zero (P : Program) (w : World) (dT sT ty elem : TypeId) (dp sp : Option Addr) (dLen dCap sLen sCap : Nat)
    (hu : P.underlying dT = some (.slice elem)) (hs : ((P.info? elem).map (·.size)).isSome = true) (hn : Nat.min sLen dLen = 0) :
    (Builtin.copy_ #[dT, sT] ty #[.slice dp dLen dCap, .slice sp sLen sCap]).run P w = .ok (goInt 0) w := by
  cases hq : P.info? elem with
  | none => simp [hq] at hs
  | some i =>
    cases dp <;> cases sp <;> simp [Builtin.copy_, run_underlying hu, Builtin.lenOf, Builtin.firstCells, sizeOf, typeInfo, hq, hn, storeCells, loadCells, loadCellsFrom]

/-- The copy of a whole slice into a row that has just been made for it. -/
theorem wpList_copy_all {P : Program} {w : World} {ops : Array Oper} {rest : List Oper} {o : Oper} {a : Act} {Q : Exit → Act → World → Prop} (hgd : o.guard = none) (d s : Operand) (T : TypeId)
    (ho : o.op = .call { callee := .builtin .copy, args := #[d, s], argTypes := #[T, T] }) (elem : TypeId) (size : Nat) (hu : P.underlying T = some (.slice elem)) (hsz : (P.info? elem).map (·.size) = some size)
    (g n : Nat) (sp : Option Addr) (sc base : Nat) (xs : List Value) (hd : a.eval d = .slice (some ⟨g, 0, none⟩) n n) (hs : a.eval s = .slice sp n sc)
    (hown : w.ownsRow base elem size (.slice (some ⟨g, 0, none⟩) n n) n xs) (cs : List Value) (hn : cs.length = n * size)
    (hsrc : n = 0 ∨ ∃ ad, sp = some ad ∧ ∀ j v, cs[j]? = some v → w.cell? (ad.add j) = some v) (h1 : ∀ v ∈ cs, v.oneCell' = true)
    (h : ∀ w', Hid (w'.heap[g]? = some (.cells cs.toArray elem (0, 0))) → w'.heap.size = w.heap.size → Below g w w' → wpList P ops Q rest (a.put o.dst (goInt n)) w') :
    wpList P ops Q (o :: rest) a w := by
  obtain ⟨_, h2⟩ := hown
  rcases h2 with ⟨h2, _⟩ | ⟨g', cap, cur, hv, _, hh, _, _, hcs, _⟩
  · simp at h2
  · simp only [Value.slice.injEq, Option.some.injEq, Addr.mk.injEq, true_and, and_true] at hv
    obtain ⟨rfl, rfl⟩ := hv
    refine wpList_plain hgd fun K hK => ?_
    rcases hsrc with h0 | ⟨ad, rfl, hsrc⟩
    · subst h0
      have hrun := run_copy_zero P w T T o.type elem (some ⟨g, 0, none⟩) sp 0 0 0 sc hu (by rw [hsz]; rfl) (by simp)
      unfold Oper.wp
      simp [execOp, ho, resolve, invoke, builtin, hd, hs, hrun, Result.andThen]
      have e1 : cur = #[] := Array.eq_empty_of_size_eq_zero (by simpa using hcs)
      have e2 : cs = [] := List.eq_nil_of_length_eq_zero (by simpa using hn)
      refine hK _ _ (h w ?_ rfl (Below.refl _ _))
      show w.heap[g]? = _
      rw [hh, e1, e2]
    · have hrun := run_copy_rowN P w T T o.type elem size g n n ad n sc cur elem cs hu hsz hh (by simpa using hn) hsrc (by rw [hn, hcs]) h1
      unfold Oper.wp
      simp [execOp, ho, resolve, invoke, builtin, hd, hs, hrun, Result.andThen]
      refine hK _ _ ?_
      have := h (w.setRow g cs.toArray) (setRow_heap w g _ _ elem _ hh) (by simp [World.setRow]) ⟨rfl, rfl, rfl, by simp [World.setRow], fun k hk => setRow_other w g k _ (by omega)⟩
      simpa using this

section
variable {H : Type} {enc : TypeId × Value → H} {P : Program} {w : World} {base : Nat} {spare : Nat → Bool} {held : Bool}

theorem addr_add (b off i : Nat) : (⟨b, off, none⟩ : Addr).add i = ⟨b, off + i, none⟩ := by
  unfold Addr.add; split <;> simp_all

/-- A slice of arrays of two int64s that came in. -/
theorem open_pairs {t e k : TypeId} {fuel len cap : Nat} {a : Option Addr} {x : DataW H × List MemPlace} (ht : P.underlying t = some (.slice e)) (he : P.underlying e = some (.array 2 k)) (hk : P.underlying k = some (.int .i64))
    (ce : P.cellsOf e = 2) (ck : P.cellsOf k = 1) (h : DataW.trod enc P w base spare held fuel t [.slice a len cap] = some x) :
    ∃ f g : Nat → Int, PairsAt w (.slice a len cap) len f g ∧ cap ≤ maxLen ∧ (a = none → len = 0 ∧ cap = 0) := by
  rcases Go.Deep.open_slice ht h with ⟨hcs, _⟩ | ⟨ad, l, c, m, n, D, Pl, hcs, hb, hl, hm, hmm, _, hx⟩
  · simp at hcs
    obtain ⟨rfl, rfl, rfl⟩ := hcs
    exact ⟨fun _ => 0, fun _ => 0, ⟨none, 0, rfl, Nat.le_refl _, .inl rfl⟩, Nat.zero_le _, fun _ => ⟨rfl, rfl⟩⟩
  · simp at hcs
    obtain ⟨rfl, rfl, rfl⟩ := hcs
    have hlm : len ≤ m := by rw [hmm]; split <;> omega
    have each : ∀ i, i < len → ∃ q : Int × Int, w.cell? (ad.add (i * 2)) = some (.int .i64 q.1) ∧ w.cell? (ad.add (i * 2 + 1)) = some (.int .i64 q.2) := by
      intro i hi
      obtain ⟨cs', h1, h2⟩ := hx i (by omega)
      rw [ce] at h1
      obtain ⟨_, hlen, hcell⟩ := World.cells?_some h1
      obtain ⟨xs, k', hk', hxy, _, hxl, hf⟩ := DataW.trod_array he h2
      match xs, hxl, cs', hlen with
      | [y0, y1], _, [v0, v1], _ =>
        have g0 := hf 0 (by omega)
        have g1 := hf 1 (by omega)
        simp [ck] at g0 g1
        have e0 := hcell 0 (by omega)
        have e1 := hcell 1 (by omega)
        rw [Go.Deep.add_add] at e0 e1
        obtain ⟨x0, hv0, _⟩ := DataW.trod_int hk g0
        obtain ⟨x1, hv1, _⟩ := DataW.trod_int hk g1
        simp at hv0 hv1
        subst hv0 hv1
        exact ⟨(x0, x1), by simpa using e0, by simpa using e1⟩
    obtain ⟨q, hq⟩ := Go.Deep.choose_lt each
    refine ⟨fun i => (q i).1, fun i => (q i).2, ⟨some ad, cap, rfl, hl, ?_⟩, hm, fun h => by simp at h⟩
    by_cases h0 : len = 0
    · exact .inl h0
    · right
      obtain ⟨b, off, spot⟩ := ad
      have hs := World.cell?_spot (hq 0 (by omega)).1
      have hs' : spot = none := by simpa [Addr.add] using hs
      subst hs'
      refine ⟨b, off, rfl, fun i hi => ?_⟩
      have := hq i hi
      rw [addr_add, addr_add] at this
      exact this
end
end Go.Proofs.Qxb6615157a.Ya
