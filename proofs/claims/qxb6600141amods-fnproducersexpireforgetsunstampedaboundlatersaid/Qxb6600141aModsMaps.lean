/-
  MAPS KEYED BY int64, AS FUNCTIONS FROM NUMBERS TO SOME VALUE OR NONE. The kit's 'ownsMap' at a reader that looks at no world ('rawElem': an element reads as itself), so that elements of whatever kind (integers, bools, slices of structs) go by the same laws.
-/
import Derived.Test.Qxb6600141aModsBase
import Derived.Maps.RangeWalk
import Derived.Maps.AppendAt
import Derived.Deep.Draws
namespace Go.Proofs.Qxb6600141aMods
open Go.RowKit
open Go.WideElems (rg_of rd_key)

/-- An element reads as itself. -/
def rawElem (v : Value) : Option (DataW Value × List MemPlace) := some (.held v, [])

theorem law2 : Maps.Keyed Trym.prog 2 := Maps.int_keyed Trym.underlying2

theorem key2 {x : Int} (hx : (Lit.int .i64 x).wf = true) : keyOf Trym.prog 2 (.int .i64 x) = some (.int .i64 x) := Maps.keyOf_int_mk Trym.underlying2 hx

theorem isKey (x : Int) : WideAt.IsKeyLit (.int .i64 x) := trivial

theorem lit_ne {x y : Int} (h : x ≠ y) : Lit.int .i64 x ≠ Lit.int .i64 y := fun e => h (by cases e; rfl)

/-- The datum D is the function F. -/
structure Reads (D : DataW Value) (F : Int → Option Value) : Prop where
  isMap : Maps.IsMap D
  has : ∀ x, (Lit.int .i64 x).wf = true → Maps.has D (.int .i64 x) = (F x).isSome
  at_ : ∀ x v z, F x = some v → D.atKey (.int .i64 x) z = .held v
  wf : ∀ x v, F x = some v → (Lit.int .i64 x).wf = true

def upd (F : Int → Option Value) (x : Int) (v : Value) : Int → Option Value := fun y => if y = x then some v else F y
def cut (F : Int → Option Value) (x : Int) : Int → Option Value := fun y => if y = x then none else F y

theorem Reads.put {D : DataW Value} {F : Int → Option Value} (h : Reads D F) {x : Int} (hx : (Lit.int .i64 x).wf = true) (v : Value) : Reads (D.put (.int .i64 x) (.held v)) (upd F x v) := by
  refine ⟨h.isMap.put _ _, fun y hy => ?_, fun y u z hu => ?_, fun y u hu => ?_⟩
  · by_cases e : y = x
    · subst e
      rw [Maps.has_put_same h.isMap (isKey _)]
      simp [upd]
    · rw [Maps.has_put_other (lit_ne e), h.has y hy]
      simp [upd, e]
  · by_cases e : y = x
    · subst e
      rw [Maps.atKey_put_same h.isMap (isKey _)]
      simp [upd] at hu
      rw [hu]
    · rw [Maps.atKey_put_other (lit_ne e)]
      exact h.at_ y u z (by simpa [upd, e] using hu)
  · by_cases e : y = x
    · subst e; exact hx
    · exact h.wf y u (by simpa [upd, e] using hu)

theorem Reads.del {D : DataW Value} {F : Int → Option Value} (h : Reads D F) (x : Int) : Reads (D.del (.int .i64 x)) (cut F x) := by
  refine ⟨h.isMap.del _, fun y hy => ?_, fun y u z hu => ?_, fun y u hu => ?_⟩
  · by_cases e : y = x
    · subst e
      rw [Maps.has_del_same]
      simp [cut]
    · rw [Maps.has_del_other (lit_ne e), h.has y hy]
      simp [cut, e]
  · by_cases e : y = x
    · subst e; simp [cut] at hu
    · rw [Maps.atKey_del_other (lit_ne e)]
      exact h.at_ y u z (by simpa [cut, e] using hu)
  · by_cases e : y = x
    · subst e; simp [cut] at hu
    · exact h.wf y u (by simpa [cut, e] using hu)

/-- BLOCK b OF w IS A MAP OF AT MOST n ENTRIES, THE FUNCTION F. -/
def MapIs (w : World) (b n : Nat) (F : Int → Option Value) : Prop := ∃ D, w.ownsMap Trym.prog 2 rawElem b n D ∧ Reads D F

theorem MapIs.made (w : World) : MapIs (w.alloc (.map #[] 0)) w.heap.size 0 (fun _ => none) :=
  ⟨_, World.ownsMap_made w _ _ _, ⟨⟨[], rfl⟩, fun _ _ => rfl, (fun _ _ _ h => by cases h), (fun _ _ h => by cases h)⟩⟩

theorem MapIs.lt {w : World} {b n : Nat} {F : Int → Option Value} (h : MapIs w b n F) : b < w.heap.size := let ⟨_, h1, _⟩ := h; h1.lt

theorem MapIs.wf {w : World} {b n : Nat} {F : Int → Option Value} (h : MapIs w b n F) {x : Int} {v : Value} (hv : F x = some v) : (Lit.int .i64 x).wf = true := let ⟨_, _, h2⟩ := h; h2.wf x v hv

theorem MapIs.mono {w : World} {b n n' : Nat} {F : Int → Option Value} (h : MapIs w b n F) (hn : n ≤ n') : MapIs w b n' F := let ⟨D, h1, h2⟩ := h; ⟨D, h1.mono hn, h2⟩

theorem MapIs.block {w w' : World} {b n : Nat} {F : Int → Option Value} (h : MapIs w b n F) (hb : w'.heap[b]? = w.heap[b]?) : MapIs w' b n F := by
  obtain ⟨D, ⟨es, clock, h1, h2⟩, hR⟩ := h
  exact ⟨D, ⟨es, clock, hb.trans h1, h2⟩, hR⟩

theorem MapIs.kept {w w' : World} {b n : Nat} {F : Int → Option Value} {row : Option Nat} (h : MapIs w b n F) (hg : w.grownBy w' row) (hne : some b ≠ row) : MapIs w' b n F :=
  h.block (hg.block b h.lt hne)

theorem MapIs.below {w w' : World} {b n B : Nat} {F : Int → Option Value} (h : MapIs w b n F) (hg : Below B w w') (hb : b < B) : MapIs w' b n F := h.block (hg.block b hb)

theorem MapIs.of_eq {w : World} {b n : Nat} {F F' : Int → Option Value} (h : MapIs w b n F) (e : ∀ x, F x = F' x) : MapIs w b n F' := by
  have : F = F' := funext e
  exact this ▸ h

/-- 'm[k]'. -/
theorem MapIs.look {w : World} {b n : Nat} {F : Int → Option Value} {t e : TypeId} {z : Value} (h : MapIs w b n F) (ht : Trym.prog.underlying t = some (.map 2 e)) (hz : (zeroValue e).run Trym.prog w = .ok z w) {x : Int} (hx : (Lit.int .i64 x).wf = true) :
    (Instr.lookup t (.map (some b)) (.int .i64 x) false).run Trym.prog w = .ok ((F x).getD z) w := by
  obtain ⟨D, h1, h2⟩ := h
  obtain ⟨v, ps, hrun, hv⟩ := h1.lookup law2 ht hz (zd := .held z) (zp := []) rfl (key2 hx)
  rw [hrun]
  have hv' : v = (F x).getD z := by
    simp only [rawElem, Option.some.injEq, Prod.mk.injEq] at hv
    cases hF : F x with
    | none =>
      have hh := h2.has x hx
      rw [hF] at hh
      rw [Maps.atKey_of_not_has (by simpa using hh)] at hv
      exact (DataW.held.injEq _ _ ▸ hv.1)
    | some u =>
      rw [h2.at_ x u _ hF] at hv
      exact (DataW.held.injEq _ _ ▸ hv.1)
  rw [hv']

/-- 'v, ok := m[k]'. -/
theorem MapIs.look_ok {w : World} {b n : Nat} {F : Int → Option Value} {t e : TypeId} {z : Value} (h : MapIs w b n F) (ht : Trym.prog.underlying t = some (.map 2 e)) (hz : (zeroValue e).run Trym.prog w = .ok z w) {x : Int} (hx : (Lit.int .i64 x).wf = true) :
    (Instr.lookup t (.map (some b)) (.int .i64 x) true).run Trym.prog w = .ok (.tuple #[(F x).getD z, .bool (F x).isSome]) w := by
  obtain ⟨D, h1, h2⟩ := h
  obtain ⟨v, ps, hrun, hv⟩ := h1.look_ok law2 ht hz (zd := .held z) (zp := []) rfl (key2 hx)
  rw [hrun, h2.has x hx]
  have hv' : v = (F x).getD z := by
    simp only [rawElem, Option.some.injEq, Prod.mk.injEq] at hv
    cases hF : F x with
    | none =>
      have hh := h2.has x hx
      rw [hF] at hh
      rw [Maps.atKey_of_not_has (by simpa using hh)] at hv
      exact (DataW.held.injEq _ _ ▸ hv.1)
    | some u =>
      rw [h2.at_ x u _ hF] at hv
      exact (DataW.held.injEq _ _ ▸ hv.1)
  rw [hv']

/-- 'm[k] = v'. -/
theorem MapIs.store {w : World} {b n : Nat} {F : Int → Option Value} {t e : TypeId} (h : MapIs w b n F) (ht : Trym.prog.underlying t = some (.map 2 e)) (hn : n < maxLen) {x : Int} (hx : (Lit.int .i64 x).wf = true) (v : Value) :
    ∃ w', (Instr.mapUpdate t (.map (some b)) (.int .i64 x) v).run Trym.prog w = .ok () w' ∧ MapIs w' b (n + 1) (upd F x v) ∧ w.grownBy w' (some b) ∧ w'.heap.size = w.heap.size := by
  obtain ⟨D, h1, h2⟩ := h
  obtain ⟨w', hrun, r1, r2⟩ := h1.store law2 ht hn (key2 hx) (d := .held v) (ps := []) rfl
  refine ⟨w', hrun, ⟨_, r1, h2.put hx v⟩, r2.grown, ?_⟩
  obtain ⟨es, clock, es', clock', _, rfl⟩ := r2
  simp [ChangeMaps.setBlock]

/-- The numbers that are keys. -/
def keyNum : Lit → Int | .int _ x => x | _ => 0

theorem keys_of {w : World} {b n : Nat} {D : DataW Value} {F : Int → Option Value} (h : w.ownsMap Trym.prog 2 rawElem b n D) (hR : Reads D F) : ∃ ks : List Int, ks.Nodup ∧ (∀ x, x ∈ ks ↔ (F x).isSome = true) ∧ Maps.size D = ks.length := by
  obtain ⟨es, rfl, hp, _⟩ := h.entries law2
  have hint : ∀ p ∈ es, ∃ x, p.1 = .int .i64 x ∧ (Lit.int .i64 x).wf = true := by
    obtain ⟨es0, clock, _, F0, _, e⟩ := h
    cases e
    intro p hp
    obtain ⟨y, hy, rfl⟩ := List.mem_map.1 (mem_sorted.1 hp)
    obtain ⟨y0, hy0⟩ := F0.reads y hy
    rw [rg_of hy0]
    obtain ⟨x, _, h2, h3⟩ := Maps.keyOf_int_inv Trym.underlying2 (rd_key hy0)
    exact ⟨x, h2, h3⟩
  refine ⟨es.map (fun p => keyNum p.1), ?_, fun x => ?_, by simp [Maps.size]⟩
  · rw [List.Nodup, List.pairwise_map]
    refine List.Pairwise.imp_of_mem ?_ hp
    intro p q hp hq hne e
    obtain ⟨x, hx, _⟩ := hint p hp
    obtain ⟨y, hy, _⟩ := hint q hq
    rw [hx, hy] at e
    simp [keyNum] at e
    exact hne (by rw [hx, hy, e])
  · constructor
    · intro hx
      obtain ⟨p, hp, rfl⟩ := List.mem_map.1 hx
      obtain ⟨y, hy, hw⟩ := hint p hp
      rw [hy]
      show (F y).isSome = true
      rw [← hR.has y hw]
      exact List.any_eq_true.2 ⟨p, hp, by rw [hy]; exact WideAt.sameKey_self (isKey _)⟩
    · intro hx
      obtain ⟨v, hv⟩ := Option.isSome_iff_exists.1 hx
      have hh := hR.has x (hR.wf x v hv)
      rw [hx] at hh
      obtain ⟨p, hp, hs⟩ := List.any_eq_true.1 hh
      have e1 := WideAt.sameKey_eq hs
      exact List.mem_map.2 ⟨p, hp, by rw [e1]; rfl⟩

/-- 'len(m)': the number of keys. -/
theorem MapIs.len {w : World} {b n : Nat} {F : Int → Option Value} {t e : TypeId} (h : MapIs w b n F) (ht : Trym.prog.underlying t = some (.map 2 e)) (ty : TypeId) :
    ∃ ks : List Int, ks.Nodup ∧ (∀ x, x ∈ ks ↔ (F x).isSome = true) ∧ ks.length ≤ n ∧ (Builtin.len_ #[t] ty #[.map (some b)]).run Trym.prog w = .ok (.int .i64 ks.length) w := by
  obtain ⟨D, h1, h2⟩ := h
  obtain ⟨ks, k1, k2, k3⟩ := keys_of h1 h2
  exact ⟨ks, k1, k2, by rw [← k3]; exact h1.size_le, by rw [← k3]; exact h1.len ht ty⟩

/-- 'for k, v := range m' UNDER WAY: 'left x': the entry at x is still to come; cnt: how many are. -/
def RangeIs (w : World) (b r n : Nat) (F : Int → Option Value) (left : Int → Bool) (cnt : Nat) : Prop :=
  ∃ D L, w.ranges Trym.prog 2 rawElem b r n D L cnt ∧ Reads D F ∧ (∀ x, (Lit.int .i64 x).wf = true → L (.int .i64 x) = left x) ∧ ∀ x, left x = true → (F x).isSome = true

theorem RangeIs.map {w : World} {b r n : Nat} {F : Int → Option Value} {left : Int → Bool} {cnt : Nat} (h : RangeIs w b r n F left cnt) : MapIs w b n F := let ⟨D, _, h1, h2, _⟩ := h; ⟨D, h1.owns, h2⟩

theorem RangeIs.left_eq {w : World} {b r n : Nat} {F : Int → Option Value} {left : Int → Bool} {cnt : Nat} (h : RangeIs w b r n F left cnt) : w.rangeLeft b r = cnt := let ⟨_, _, h1, _⟩ := h; h1.left_eq

theorem RangeIs.ne {w : World} {b r n : Nat} {F : Int → Option Value} {left : Int → Bool} {cnt : Nat} (h : RangeIs w b r n F left cnt) : r ≠ b := let ⟨_, _, h1, _⟩ := h; h1.ne

theorem RangeIs.lt {w : World} {b r n : Nat} {F : Int → Option Value} {left : Int → Bool} {cnt : Nat} (h : RangeIs w b r n F left cnt) : r < w.heap.size := let ⟨_, _, h1, _⟩ := h; h1.lt

theorem RangeIs.kept {w w' : World} {b r n : Nat} {F : Int → Option Value} {left : Int → Bool} {cnt : Nat} {row : Option Nat} (h : RangeIs w b r n F left cnt) (hg : w.grownBy w' row) (hb : some b ≠ row) (hr : some r ≠ row) : RangeIs w' b r n F left cnt :=
  let ⟨D, L, h1, h2⟩ := h; ⟨D, L, h1.kept hg hb hr, h2⟩

/-- The key x has come. -/
def strike (left : Int → Bool) (x : Int) : Int → Bool := fun y => left y && !(y == x)

section
variable (w : World) {ops : Array Oper} {rest : List Oper} {o : Oper} {a : Act} {Q : Exit → Act → World → Prop}

theorem wpList_range_raw (hg : o.guard = none) (m : Operand) (t : TypeId) (hop : o.op = Op.range t m) (e : TypeId) (ht : Trym.prog.underlying t = some (.map 2 e)) (b n : Nat) (F : Int → Option Value)
    (hm : a.eval m = .map (some b)) (hown : MapIs w b n F)
    (hK : ∀ (w' : World) (ks : List Int), ks.Nodup → (∀ x, x ∈ ks ↔ (F x).isSome = true) → ks.length ≤ n → RangeIs w' b w.heap.size n F (fun x => (F x).isSome) ks.length → w.grownBy w' none → w'.heap.size = w.heap.size + 1 → wpList Trym.prog ops Q rest (a.put o.dst (.pointer (some ⟨w.heap.size, 0, none⟩))) w') :
    wpList Trym.prog ops Q (o :: rest) a w := by
  obtain ⟨D, h1, h2⟩ := hown
  obtain ⟨ks, k1, k2, k3⟩ := keys_of h1 h2
  refine wpList_range_own w hg m t hop 2 e law2 ht rawElem b n D hm h1 (fun w' r1 r2 r3 => hK w' ks k1 k2 (by rw [← k3]; exact h1.size_le) ⟨D, Maps.has D, k3 ▸ r1, h2, fun x hx => h2.has x hx, fun x hx => hx⟩ r2 r3)

theorem wpList_next_raw {β : Type} (hg : o.guard = none) (it : Operand) (hop : o.op = Op.next it false) (mkV : β → Value) (b r n : Nat) (F : Int → Option Value) (left : Int → Bool) (cnt : Nat)
    (hF : ∀ x v, F x = some v → ∃ c, v = mkV c)
    (hit : a.eval it = .pointer (some ⟨r, 0, none⟩)) (h : RangeIs w b r n F left cnt)
    (hDone : cnt = 0 → (∀ x, left x = false) → wpList Trym.prog ops Q rest (a.put o.dst (.tuple #[.bool false])) w)
    (hMore : ∀ (x : Int) (c : β) (w' : World) (cnt' : Nat), (Lit.int .i64 x).wf = true → left x = true → F x = some (mkV c) → RangeIs w' b r n F (strike left x) cnt' → cnt' < cnt →
      w.grownBy w' (some r) → w'.heap.size = w.heap.size → (Instr.entry (.pointer (some ⟨r, 0, none⟩))).run Trym.prog w' = .ok (.tuple #[.int .i64 x, mkV c]) w' → wpList Trym.prog ops Q rest (a.put o.dst (.tuple #[.bool true, .int .i64 x, mkV c])) w') :
    wpList Trym.prog ops Q (o :: rest) a w := by
  obtain ⟨D, L, h1, h2, h3, h4⟩ := h
  refine wpList_plain hg fun K' hK' => ?_
  unfold Oper.wp
  rcases h1.next law2 o.type with ⟨h0, hl, hrun⟩ | ⟨key, v, kl, y, w', cnt', hkey, hlk, hv, hat, hrun, hrg, hlt, hgr, hsz, hen⟩
  · simp [execOp, hop, hit, hrun, Result.andThen]
    refine hK' _ _ (hDone h0 (fun x => ?_))
    cases hx : left x
    · rfl
    · obtain ⟨u, hu⟩ := Option.isSome_iff_exists.1 (h4 x hx)
      have := h3 x (h2.wf x u hu)
      rw [hl, hx] at this
      cases this
  · obtain ⟨x, rfl, rfl, hwx⟩ := Maps.keyOf_int_inv Trym.underlying2 hkey
    have hlx : left x = true := by rw [← h3 x hwx]; exact hlk
    have hFx : F x = some v := by
      obtain ⟨u, hu⟩ := Option.isSome_iff_exists.1 (h4 x hlx)
      have e1 := h2.at_ x u .nil hu
      rw [hat] at e1
      simp only [rawElem, Option.some.injEq] at hv
      rw [← hv] at e1
      rw [hu]
      exact congrArg some (DataW.held.injEq _ _ ▸ e1.symm)
    obtain ⟨c, rfl⟩ := hF x v hFx
    simp [execOp, hop, hit, hrun, Result.andThen]
    refine hK' _ _ (hMore x c w' cnt' hwx hlx hFx ⟨D, _, hrg, h2, fun y hy => ?_, fun y hy => ?_⟩ hlt hgr hsz hen)
    · show (L (.int .i64 y) && !(Lit.int .i64 y).sameKey (.int .i64 x)) = strike left x y
      rw [h3 y hy]
      unfold strike
      by_cases e : y = x
      · subst e
        rw [WideAt.sameKey_self (isKey _)]
        simp
      · rw [Maps.sameKey_ne (lit_ne e)]
        simp [e]
    · unfold strike at hy
      simp only [Bool.and_eq_true] at hy
      exact h4 y hy.1

theorem wpList_store_raw (hg : o.guard = none) (m x v : Operand) (t : TypeId) (hop : o.op = Op.mapUpdate t m x v) (e : TypeId) (ht : Trym.prog.underlying t = some (.map 2 e)) (b n : Nat) (F : Int → Option Value)
    (hm : a.eval m = .map (some b)) (h : MapIs w b n F) (hn : n < maxLen) (k : Int) (hk : (Lit.int .i64 k).wf = true) (hx : a.eval x = .int .i64 k) (u : Value) (hv : a.eval v = u)
    (hK : ∀ w', MapIs w' b (n + 1) (upd F k u) → w.grownBy w' (some b) → w'.heap.size = w.heap.size → wpList Trym.prog ops Q rest (a.put o.dst undef) w') :
    wpList Trym.prog ops Q (o :: rest) a w := by
  refine wpList_plain hg fun K' hK' => ?_
  obtain ⟨w', hrun, r1, r2, r3⟩ := h.store ht hn hk u
  unfold Oper.wp
  simp [execOp, hop, hm, hx, hv, hrun, Result.andThen]
  exact hK' _ _ (hK w' r1 r2 r3)

theorem wpList_delete_raw (hg : o.guard = none) (m x : Operand) (t : TypeId) (hop : o.op = Op.call { callee := Callee.builtin Builtin.delete, args := #[m, x], argTypes := #[t, 2] })
    (e : TypeId) (ht : Trym.prog.underlying t = some (.map 2 e)) (b r n : Nat) (F : Int → Option Value) (left : Int → Bool) (cnt : Nat)
    (hm : a.eval m = .map (some b)) (h : RangeIs w b r n F left cnt) (k : Int) (hk : (Lit.int .i64 k).wf = true) (hx : a.eval x = .int .i64 k) (hl : left k = false)
    (hK : ∀ w' cnt', RangeIs w' b r n (cut F k) left cnt' → cnt' ≤ cnt → w.grownBy w' (some b) → w'.heap.size = w.heap.size → wpList Trym.prog ops Q rest (a.put o.dst (.tuple #[])) w') :
    wpList Trym.prog ops Q (o :: rest) a w := by
  obtain ⟨D, L, h1, h2, h3, h4⟩ := h
  refine wpList_delete_ranges w hg m x t 2 hop e law2 ht rawElem b r n D L cnt hm h1 _ _ hx (key2 hk) (fun w' cnt' r1 r2 r3 => hK w' cnt' ⟨_, _, r1, h2.del k, fun y hy => ?_, fun y hy => ?_⟩ r2 r3.grown ?_)
  · show (L (.int .i64 y) && !(Lit.int .i64 y).sameKey (.int .i64 k)) = left y
    rw [h3 y hy]
    by_cases e : y = k
    · subst e
      rw [hl]
      rfl
    · rw [Maps.sameKey_ne (lit_ne e)]
      simp
  · by_cases e : y = k
    · subst e
      rw [hl] at hy
      cases hy
    · simpa [cut, e] using h4 y hy
  · obtain ⟨es, clock, es', clock', _, rfl⟩ := r3
    simp [ChangeMaps.setBlock]
end

end Go.Proofs.Qxb6600141aMods
