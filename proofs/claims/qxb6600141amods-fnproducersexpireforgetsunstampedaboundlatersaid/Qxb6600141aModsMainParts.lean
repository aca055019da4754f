/-
  WHAT THE LAWS OVER THE PRODUCERS SHARE: counts in a map; 'len' of a map; a slice cut at its head.
-/
import Derived.Test.Qxb6600141aModsProducersOf
import Derived.Test.Qxb6600141aModsClone
import Derived.Test.Qxb6600141aModsLatest
import Derived.Test.Qxb6600141aModsExpire
import Derived.BigQuiet
import Derived.Deep.QuietTactic
namespace Go.Proofs.Qxb6600141aMods
open Go.RowKit
set_option linter.unusedVariables false

/-- A slice cut at its head's first n. -/
theorem slice_head (w : World) (k : IntKind) (a : Option Addr) (l n : Nat) (zs : List Int) (hz : zs.length = l) (hr : Row w k a zs) (hn : n ≤ l) (w' : World) : (Instr.slice 29 (.slice a l l) none (some (.int .i64 n)) none).run Trym.prog w' = .ok (.slice a n l) w' := by
  have hs : (sizeOf 2).run Trym.prog w' = .ok 1 w' := by kernel_rfl
  have he : Trym.prog.elem 29 = 2 := by kernel_rfl
  rw [run_slice_h w' 29 a l l (by rw [he]; exact Trym.underlying29) .i64 n (by omega) (by omega), he, hs]
  simp only [Result.andThen, sliced, Int.toNat_natCast, Nat.zero_mul, Nat.sub_zero]
  congr 2
  split
  · rfl
  · rename_i h
    rcases hr.1 with h1 | ⟨b, off, h1, _⟩
    · rw [h1] at hz; simp at hz; omega
    · rw [h1]; simp [Addr.add]

/-- The counts as what a map[int64]int holds. -/
def cntF (ids : List Int) (k : Nat) : Int → Option Value := fun x => if cnt ids k x = 0 then none else some (.int .i64 (cnt ids k x))

theorem cntF_getD (ids : List Int) (k : Nat) (x : Int) : (cntF ids k x).getD (.int .i64 0) = .int .i64 (cnt ids k x) := by
  unfold cntF
  split
  · rename_i h; rw [h]; rfl
  · rfl

theorem cntF_zero (ids : List Int) : (fun _ => none) = cntF ids 0 := by funext x; rfl

theorem cntF_upd (ids : List Int) (k : Nat) : upd (cntF ids k) (ids.getD k 0) (.int .i64 ((cnt ids k (ids.getD k 0) : Int) + 1)) = cntF ids (k + 1) := by
  funext y
  unfold upd cntF
  by_cases e : y = ids.getD k 0
  · subst e
    simp [cnt]
  · have e' : ¬ ids.getD k 0 = y := fun h => e h.symm
    simp only [e, if_false, cnt, e', Nat.add_zero]

theorem wpList_len_raw (w : World) {ops : Array Oper} {rest : List Oper} {o : Oper} {a : Act} {Q : Exit → Act → World → Prop} (hg : o.guard = none) (m : Operand) (t : TypeId) (hop : o.op = Op.call { callee := Callee.builtin Builtin.len, args := #[m], argTypes := #[t] })
    (e : TypeId) (ht : Trym.prog.underlying t = some (.map 2 e)) (b n : Nat) (F : Int → Option Value) (hm : a.eval m = .map (some b)) (h : MapIs w b n F) (N : Nat) (hN : ∀ ks : List Int, ks.Nodup → (∀ x, x ∈ ks ↔ (F x).isSome = true) → ks.length = N)
    (hK : wpList Trym.prog ops Q rest (a.put o.dst (.int .i64 N)) w) :
    wpList Trym.prog ops Q (o :: rest) a w := by
  refine wpList_plain hg fun K' hK' => ?_
  obtain ⟨ks, k1, k2, _, hrun⟩ := h.len ht o.type
  have e1 := hN ks k1 k2
  subst e1
  unfold Oper.wp
  simp [execOp, hop, resolve, invoke, builtin, hm, hrun, Result.andThen]
  exact hK' _ _ hK

/-- 'make(map[int64]T, n)'. -/
theorem run_makeMap_hint (w : World) (t e : TypeId) (n : Int) (ht : Trym.prog.underlying t = some (.map 2 e)) : (Instr.makeMap t (some (.int .i64 n))).run Trym.prog w = .ok (.map (some w.heap.size)) (w.alloc (.map #[] 0)) := by
  simp [Instr.makeMap, run_underlying ht, asInt, asIntOf, Result.andThen]

theorem grp_of_mem {ids offs lats : List Int} {n : Nat} {x : Int} {p : Int × Int} (h : p ∈ grp ids offs lats n x) : ∃ i, i < n ∧ p = (offs.getD i 0, lats.getD i 0) := by
  obtain ⟨j, hj, e⟩ := List.getElem_of_mem h
  obtain ⟨i, h1, rfl, h3⟩ := grp_mem hj
  have := grp_at (ids := ids) (offs := offs) (lats := lats) h1
  rw [h3, List.getElem?_eq_getElem hj, e] at this
  exact ⟨i, h1, Option.some.inj this⟩

theorem getD_mem {l : List Int} {i : Nat} (h : i < l.length) : l.getD i 0 ∈ l := by
  rw [List.getD, List.getElem?_eq_getElem h]; simp

theorem grp_wf {ids offs lats : List Int} {n : Nat} (hl : offs.length = n) (hw : ∀ o ∈ offs, (Lit.int .i64 o).wf = true) : ∀ x, ∀ p ∈ grp ids offs lats n x, (Lit.int .i64 p.1).wf = true := by
  intro x p hp
  obtain ⟨i, h1, rfl⟩ := grp_of_mem hp
  exact hw _ (getD_mem (by omega))

theorem grp_len_le {ids offs lats : List Int} {n : Nat} (hn : n ≤ 65536) : ∀ x, (grp ids offs lats n x).length ≤ 65536 := fun x => by
  rw [grp_length]; have := cnt_le (ids := ids) n x; omega

/-- A row's cells, where there is one. -/
theorem Row.cells {w : World} {k : IntKind} {a : Option Addr} {zs : List Int} {n : Nat} (h : Row w k a zs) (hz : zs.length = n) (hn : 0 < n) : ∃ b off, a = some ⟨b, off, none⟩ ∧ b < w.heap.size ∧ ∀ i, i < n → w.cell? ⟨b, off + i, none⟩ = some (.int k (zs.getD i 0)) := by
  rcases h.1 with h1 | ⟨b, off, h1, h2, h3⟩
  · rw [h1] at hz; simp at hz; omega
  · exact ⟨b, off, h1, h2, fun i hi => h3 i (by omega)⟩

theorem below_of_drew {B : Nat} {w w' : World} (h : Below B w.drew w') : Below B w w' := ⟨h.os, h.tape, h.output, h.size, h.block⟩

theorem wrap_small (C : Nat) (h : C ≤ 65536) : IntKind.i64.wrap ((C : Int) + 1) = (C : Int) + 1 := by
  rw [IntKind.wrap_i64]; omega

/-- WHAT 'm[ids[i]] = m[ids[i]] + 1' WANTS AND LEAVES, behind the region's draw. -/
theorem count_step {wr : World} {M k : Nat} {ids : List Int} {X : Int} (hm : MapIs wr M k (cntF ids k)) (hk : k ≤ 65536) (hX : ids.getD k 0 = X) (hw : (Lit.int .i64 X).wf = true) :
    ∃ (C : Nat) (v : World), cnt ids k X = C ∧ C ≤ k ∧ (Instr.lookup 38 (.map (some M)) (.int .i64 X) false).run Trym.prog wr.drew = .ok (.int .i64 C) wr.drew ∧
      (Instr.mapUpdate 38 (.map (some M)) (.int .i64 X) (.int .i64 (IntKind.i64.wrap ((C : Int) + 1)))).run Trym.prog wr.drew = .ok () v ∧ MapIs v M (k + 1) (cntF ids (k + 1)) ∧ wr.grownBy v (some M) ∧ v.heap.size = wr.heap.size := by
  have hc := cnt_le (ids := ids) k X
  have hl := (show MapIs wr.drew _ _ _ from hm).look Trym.underlying38 (zero3 _) hw
  rw [cntF_getD] at hl
  obtain ⟨v, h1, h2, h3, h4⟩ := (show MapIs wr.drew _ _ _ from hm).store Trym.underlying38 (by unfold maxLen; omega) hw (.int .i64 (IntKind.i64.wrap ((cnt ids k X : Int) + 1)))
  refine ⟨cnt ids k X, v, rfl, hc, hl, h1, ?_, ⟨h3.os, h3.tape, h3.output, h3.size, h3.block⟩, h4⟩
  rw [wrap_small _ (by omega)] at h2
  have := cntF_upd ids k
  rw [hX] at this
  rw [← this]
  exact h2

/-- The same outside a region that draws, the look-up and the store apart. -/
theorem count_plain {wr : World} {M k : Nat} {ids : List Int} {X : Int} (hm : MapIs wr M k (cntF ids k)) (hk : k ≤ 65536) (hX : ids.getD k 0 = X) (hw : (Lit.int .i64 X).wf = true) :
    ∃ (C : Nat) (v : World), cnt ids k X = C ∧ C ≤ k ∧ (Instr.lookup 38 (.map (some M)) (.int .i64 X) false).run Trym.prog wr = .ok (.int .i64 C) wr ∧
      (Instr.mapUpdate 38 (.map (some M)) (.int .i64 X) (.int .i64 ((C : Int) + 1))).run Trym.prog wr = .ok () v ∧ MapIs v M (k + 1) (cntF ids (k + 1)) ∧ wr.grownBy v (some M) ∧ v.heap.size = wr.heap.size := by
  have hc := cnt_le (ids := ids) k X
  have hl := hm.look Trym.underlying38 (zero3 _) hw
  rw [cntF_getD] at hl
  obtain ⟨v, h1, h2, h3, h4⟩ := hm.store Trym.underlying38 (by unfold maxLen; omega) hw (.int .i64 ((cnt ids k X : Int) + 1))
  refine ⟨cnt ids k X, v, rfl, hc, hl, h1, ?_, h3, h4⟩
  have := cntF_upd ids k
  rw [hX] at this
  rw [← this]
  exact h2

/-- The set that the law gathers. -/
def wantS (ids offs : List Int) (n : Nat) : Nat → Int → Bool
  | 0 => fun _ => false
  | k + 1 => if (cnt ids n (ids.getD k 0) : Int) - cnt ids k (ids.getD k 0) - 1 < 5 then addS (wantS ids offs n k) (offs.getD k 0) else wantS ids offs n k

theorem wantS_iff {ids offs : List Int} {n : Nat} (k : Nat) (o : Int) : wantS ids offs n k o = true ↔ ∃ i, i < k ∧ (cnt ids n (ids.getD i 0) : Int) - cnt ids i (ids.getD i 0) - 1 < 5 ∧ offs.getD i 0 = o := by
  induction k with
  | zero =>
    constructor
    · intro h; cases h
    · rintro ⟨i, h, _⟩; omega
  | succ k ih =>
    simp only [wantS]
    by_cases hc : (cnt ids n (ids.getD k 0) : Int) - cnt ids k (ids.getD k 0) - 1 < 5
    · rw [if_pos hc]
      unfold addS
      rw [Bool.or_eq_true, ih]
      constructor
      · rintro (⟨i, h1, h2⟩ | h)
        · exact ⟨i, by omega, h2⟩
        · exact ⟨k, by omega, hc, (by simpa using h : o = _).symm⟩
      · rintro ⟨i, h1, h2, h3⟩
        by_cases e : i = k
        · subst e; exact .inr (by rw [h3]; simp)
        · exact .inl ⟨i, by omega, h2, h3⟩
    · rw [if_neg hc, ih]
      constructor
      · rintro ⟨i, h1, h2⟩; exact ⟨i, by omega, h2⟩
      · rintro ⟨i, h1, h2, h3⟩
        by_cases e : i = k
        · subst e; exact absurd h2 hc
        · exact ⟨i, by omega, h2, h3⟩

/-- THE PLAIN LAW: of each producer the last five, and no other. -/
theorem want_is {ids offs lats : List Int} {n : Nat} {S : Int → Bool} (hS : ∀ o, S o = true ↔ ∃ x, ∃ p ∈ lastFive (grp ids offs lats n x), p.1 = o) : wantS ids offs n n = S := by
  funext o
  rw [Bool.eq_iff_iff, wantS_iff, hS]
  constructor
  · rintro ⟨i, h1, h2, rfl⟩
    have hat := grp_at (ids := ids) (offs := offs) (lats := lats) h1
    have hl := grp_length (ids := ids) (offs := offs) (lats := lats) n (ids.getD i 0)
    refine ⟨ids.getD i 0, (offs.getD i 0, lats.getD i 0), ?_, rfl⟩
    unfold lastFive
    refine List.mem_of_getElem? (i := cnt ids i (ids.getD i 0) - ((grp ids offs lats n (ids.getD i 0)).length - 5)) ?_
    rw [List.getElem?_drop]
    have := cnt_lt (ids := ids) h1
    rw [show (grp ids offs lats n (ids.getD i 0)).length - 5 + (cnt ids i (ids.getD i 0) - ((grp ids offs lats n (ids.getD i 0)).length - 5)) = cnt ids i (ids.getD i 0) by omega]
    exact hat
  · rintro ⟨x, p, hp, rfl⟩
    unfold lastFive at hp
    obtain ⟨j, hj⟩ := List.getElem?_of_mem hp
    rw [List.getElem?_drop] at hj
    have hlt := (List.getElem?_eq_some_iff.1 hj).1
    obtain ⟨i, h1, rfl, h3⟩ := grp_mem hlt
    have hat := grp_at (ids := ids) (offs := offs) (lats := lats) h1
    rw [h3, hj] at hat
    have e := Option.some.inj hat
    rw [grp_length] at h3 hlt
    refine ⟨i, h1, by omega, by rw [e]⟩

end Go.Proofs.Qxb6600141aMods
