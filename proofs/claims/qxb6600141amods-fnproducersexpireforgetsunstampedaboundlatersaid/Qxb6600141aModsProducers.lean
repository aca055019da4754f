/-
  THE PRODUCERS IN MEMORY ('Prods'): a map of slices of structs, each slice in a row of its own.
-/
import Derived.Test.Qxb6600141aModsMaps
import Derived.Test.Qxb6600141aModsPlain
namespace Go.Proofs.Qxb6600141aMods
open Go.RowKit

theorem zero49 (w : World) : (zeroValue 49).run Trym.prog w = .ok (.slice none 0 0) w := by kernel_rfl
theorem zero3 (w : World) : (zeroValue 3).run Trym.prog w = .ok (.int .i64 0) w := by kernel_rfl
theorem zero4 (w : World) : (zeroValue 4).run Trym.prog w = .ok (.bool false) w := by kernel_rfl

/-- One batch's cells. -/
def recOf (p : Int × Int) : List Value := [.int .i64 p.1, .int .i64 p.2, .int .i16 0, .int .i32 0, .int .i32 0]
def recs (l : List (Int × Int)) : List Value := l.flatMap recOf

theorem recs_append (l m : List (Int × Int)) : recs (l ++ m) = recs l ++ recs m := by simp [recs, List.flatMap_append]
theorem recs_one (p : Int × Int) : recs [p] = recOf p := by simp [recs]
theorem recs_length (l : List (Int × Int)) : (recs l).length = l.length * 5 := by
  induction l with
  | nil => rfl
  | cons p l ih => show (recOf p ++ recs l).length = _; simp [ih, recOf]; omega

theorem recs_at (l : List (Int × Int)) (j : Nat) (p : Int × Int) (h : l[j]? = some p) (f : Nat) (hf : f < 5) : (recs l)[j * 5 + f]? = (recOf p)[f]? := by
  induction l generalizing j with
  | nil => simp at h
  | cons q l ih =>
    show (recOf q ++ recs l)[j * 5 + f]? = _
    cases j with
    | zero =>
      simp at h
      subst h
      rw [List.getElem?_append_left (by simp [recOf]; omega)]
      simp
    | succ j =>
      rw [List.getElem?_append_right (by simp [recOf]; omega)]
      have e : (j + 1) * 5 + f - (recOf q).length = j * 5 + f := by simp [recOf]; omega
      rw [e]
      exact ih j (by simpa using h)

/-- What the map holds: at each id with a batch its slice's header. -/
def hdr (G : Int → List (Int × Int)) (blk cap : Int → Nat) : Int → Option Value := fun x => if (G x).length = 0 then none else some (.slice (some ⟨blk x, 0, none⟩) (G x).length (cap x))

/-- BLOCK b IS A MAP OF AT MOST n PRODUCERS; UNDER x LIE THE BATCHES 'G x', IN A ROW OF THEIR OWN BEHIND b. -/
def ProdsAt (w : World) (b n : Nat) (G : Int → List (Int × Int)) (blk cap : Int → Nat) : Prop :=
  MapIs w b n (hdr G blk cap) ∧ (∀ x, (G x).length ≠ 0 → w.ownsRow (b + 1) 52 5 (.slice (some ⟨blk x, 0, none⟩) (G x).length (cap x)) (G x).length (recs (G x))) ∧
  ∀ x y, (G x).length ≠ 0 → (G y).length ≠ 0 → x ≠ y → blk x ≠ blk y

def Prods (w : World) (b n : Nat) (G : Int → List (Int × Int)) : Prop := ∃ blk cap, ProdsAt w b n G blk cap

theorem Prods.made (w : World) : Prods (w.alloc (.map #[] 0)) w.heap.size 0 (fun _ => []) :=
  ⟨fun _ => 0, fun _ => 0, (MapIs.made w).of_eq (fun _ => rfl), (fun _ h => absurd rfl h), (fun _ _ h => absurd rfl h)⟩

theorem Prods.lt {w : World} {b n : Nat} {G : Int → List (Int × Int)} (h : Prods w b n G) : b < w.heap.size := let ⟨_, _, h1, _⟩ := h; h1.lt

theorem Prods.mono {w : World} {b n n' : Nat} {G : Int → List (Int × Int)} (h : Prods w b n G) (hn : n ≤ n') : Prods w b n' G := let ⟨blk, cap, h1, h2⟩ := h; ⟨blk, cap, h1.mono hn, h2⟩

/-- The producers stay while new blocks are made, and while others are written that are none of theirs. -/
theorem Prods.below {w w' : World} {b n : Nat} {G : Int → List (Int × Int)} (h : Prods w b n G) (hg : Below w.heap.size w w') : Prods w' b n G := by
  obtain ⟨blk, cap, h1, h2, h3⟩ := h
  refine ⟨blk, cap, h1.below hg h1.lt, fun x hx => (h2 x hx).kept (row := none) ⟨hg.os, hg.tape, hg.output, hg.size, fun k hk _ => hg.block k hk⟩ (.inr (by simp [Value.ownBlock])), h3⟩

/-- The value under a key, and what it owns. -/
theorem ProdsAt.own {w : World} {b n : Nat} {G : Int → List (Int × Int)} {blk cap : Int → Nat} (h : ProdsAt w b n G blk cap) (x : Int) :
    w.ownsRow (b + 1) 52 5 ((hdr G blk cap x).getD (.slice none 0 0)) (G x).length (recs (G x)) := by
  unfold hdr
  split
  · rename_i h0
    have : G x = [] := List.eq_nil_of_length_eq_zero h0
    rw [this]
    exact World.ownsRow_nil _ _ _ _
  · rename_i h0
    exact h.2.1 x h0

/-- BEHIND 'ps[X] = append(ps[X], p)'. -/
theorem ProdsAt.filed {wr w1 w2 : World} {B n : Nat} {G : Int → List (Int × Int)} {blk cap : Int → Nat} {X : Int} {v : Value} {o : Obj} {g c : Nat} {p : Int × Int} (h : ProdsAt wr B n G blk cap)
    (hv : (hdr G blk cap X).getD (.slice none 0 0) = v) (hown : w1.ownsRow (B + 1) 52 5 (.slice (some ⟨g, 0, none⟩) ((G X).length + 1) c) ((G X).length + 1) (recs (G X) ++ recOf p))
    (hg1 : (wr.alloc o).grownBy w1 v.ownBlock) (hat : v.ownBlock = some g ∨ g = wr.heap.size + 1)
    (hm : MapIs w2 B (n + 1) (upd (hdr G blk cap) X (.slice (some ⟨g, 0, none⟩) ((G X).length + 1) c))) (hg2 : w1.grownBy w2 (some B)) :
    Prods w2 B (n + 1) (fun x => if X = x then G x ++ [p] else G x) := by
  have hbl := h.1.lt
  have hv1 : ∀ y, y ≠ X → (G y).length ≠ 0 → v.ownBlock ≠ some (blk y) := by
    intro y hy hy0 e
    subst hv
    unfold hdr at e
    split at e
    · simp [Value.ownBlock] at e
    · rename_i hX0
      simp [Value.ownBlock] at e
      exact h.2.2 X y hX0 hy0 (Ne.symm hy) e
  refine ⟨fun x => if X = x then g else blk x, fun x => if X = x then c else cap x, hm.of_eq (fun y => ?_), fun y hy => ?_, fun x y hx hy hne => ?_⟩
  · unfold upd hdr
    by_cases e : X = y
    · subst e
      simp
    · have e' : ¬ y = X := fun h => e h.symm
      simp [e, e']
  · have hB2 : ∀ {u : Value} {m : Nat} {xs : List Value}, w1.ownsRow (B + 1) 52 5 u m xs → w2.ownsRow (B + 1) 52 5 u m xs := fun {u m xs} hu => hu.kept hg2 (by
      cases hub : u.ownBlock with
      | none => exact .inl rfl
      | some q => exact .inr (fun e => by have := (hu.lt q hub).1; cases e; omega))
    by_cases e : X = y
    · subst e
      simp only [if_true]
      have := hB2 hown
      rw [recs_append, recs_one]
      simpa using this
    · simp only [e, if_false] at hy ⊢
      have h1 := h.2.1 y hy
      exact hB2 ((h1.alloc o).kept hg1 (.inr (fun e1 => hv1 y (fun e2 => e e2.symm) hy e1.symm)))
  · have hlt : ∀ y, (G y).length ≠ 0 → blk y < wr.heap.size := fun y hy => ((h.2.1 y hy).lt (blk y) rfl).2
    by_cases e1 : X = x
    · subst e1
      simp only [hne, if_true, if_false] at hy ⊢
      rcases hat with ha | ha
      · intro e; exact hv1 y (Ne.symm hne) hy (by rw [ha, e])
      · have := hlt y hy; omega
    · by_cases e2 : X = y
      · subst e2
        simp only [e1, if_true, if_false] at hx ⊢
        rcases hat with ha | ha
        · intro e; exact hv1 x hne hx (by rw [ha, ← e])
        · have := hlt x hx; omega
      · simp only [e1, e2, if_false] at hx hy ⊢
        exact h.2.2 x y hx hy hne

end Go.Proofs.Qxb6600141aMods
