/-
  THE PLAIN LAW of FnProducersExpireKeepsHoldersAndTouchesOnlyMissingStamps; and the readers' contracts in the forms that its walk wants.
-/
import Derived.Test.Qxb6600141aModsMainParts
namespace Go.Proofs.Qxb6600141aMods
open Go.RowKit
set_option linter.unusedVariables false

/-- The numbers rise up to place k. -/
def Rising (zs : List Int) (k : Nat) : Prop := ∀ j, j + 1 < k → zs.getD j 0 < zs.getD (j + 1) 0

theorem Rising.le {zs : List Int} {n : Nat} (h : Rising zs n) : ∀ i j, i ≤ j → j < n → zs.getD i 0 ≤ zs.getD j 0 := by
  intro i j hij
  induction j with
  | zero => intro _; have : i = 0 := by omega
            subst this; exact Int.le_refl _
  | succ j ih =>
    intro hj
    by_cases e : i = j + 1
    · subst e; exact Int.le_refl _
    · have h1 := ih (by omega) (by omega)
      have h2 := h j hj
      omega

theorem Rising.take {zs : List Int} {n : Nat} (h : Rising zs n) : Rising (zs.take n) n := by
  intro j hj
  have := h j hj
  simp only [List.getD, List.getElem?_take, show j < n by omega, show j + 1 < n by omega, if_true] at this ⊢
  exact this

variable {ids offs lats : List Int} {n : Nat} {st no bo : Int}

/-- The last batch of a producer that has one. -/
theorem grp_last {i : Nat} (h : i < n) : ∃ j, i ≤ j ∧ j < n ∧ ids.getD j 0 = ids.getD i 0 ∧ cnt ids j (ids.getD i 0) + 1 = cnt ids n (ids.getD i 0) ∧ (grp ids offs lats n (ids.getD i 0)).getLast? = some (offs.getD j 0, lats.getD j 0) := by
  have hl := grp_length (ids := ids) (offs := offs) (lats := lats) n (ids.getD i 0)
  have hc := cnt_lt (ids := ids) h
  obtain ⟨j, h1, h2, h3⟩ := grp_mem (ids := ids) (offs := offs) (lats := lats) (n := n) (x := ids.getD i 0) (j := cnt ids n (ids.getD i 0) - 1) (by omega)
  have hat := grp_at (ids := ids) (offs := offs) (lats := lats) h1
  rw [h2, h3] at hat
  refine ⟨j, ?_, h1, h2, by omega, ?_⟩
  · by_cases hij : i ≤ j
    · exact hij
    · have h4 := cnt_mono (ids := ids) (show j + 1 ≤ i by omega) (ids.getD i 0)
      have h5 : cnt ids (j + 1) (ids.getD i 0) = cnt ids j (ids.getD i 0) + 1 := by show cnt ids j _ + (if ids.getD j 0 = ids.getD i 0 then 1 else 0) = _; rw [if_pos h2]
      omega
  · rw [List.getLast?_eq_getElem?, hl]
    exact hat

/-- A producer that holds a batch at or behind start stays. -/
theorem exp_holder (hr : Rising offs n) {i : Nat} (h : i < n) (ho : st ≤ offs.getD i 0) : (expOne st no bo (grp ids offs lats n (ids.getD i 0))).length ≠ 0 := by
  obtain ⟨j, h1, h2, _, _, hlast⟩ := grp_last (ids := ids) (offs := offs) (lats := lats) h
  have := hr.le i j h1 h2
  rw [expOne_late hlast (by show st ≤ offs.getD j 0; omega), grp_length]
  have := cnt_lt (ids := ids) h
  omega

theorem expOne_length {l : List (Int × Int)} (h : (expOne st no bo l).length ≠ 0) : (expOne st no bo l).length = l.length := by
  have h0 := expOne_pos h
  have hne : l ≠ [] := fun e => h0 (by rw [e]; rfl)
  have hp := List.getLast?_eq_some_getLast hne
  by_cases h1 : st ≤ (l.getLast hne).1
  · rw [expOne_late hp h1]
  · by_cases h2 : bo < wrap64 (no - if (l.getLast hne).2 < 0 then no else (l.getLast hne).2)
    · rw [expOne_gone hp h1 h2] at h
      exact absurd rfl h
    · rw [expOne_kept hp h1 h2, List.length_append, List.length_dropLast]
      simp only [List.length_singleton]
      omega

/-- OF A PRODUCER THAT IS KEPT EACH BATCH IS AS IT WAS, but for a last one before start that bears no stamp. -/
theorem exp_at {i : Nat} (h : i < n) (hk : (expOne st no bo (grp ids offs lats n (ids.getD i 0))).length ≠ 0) :
    (expOne st no bo (grp ids offs lats n (ids.getD i 0)))[cnt ids i (ids.getD i 0)]? =
      some (offs.getD i 0, if (cnt ids n (ids.getD i 0) : Int) - cnt ids i (ids.getD i 0) - 1 = 0 ∧ lats.getD i 0 < 0 ∧ offs.getD i 0 < st then no else lats.getD i 0) := by
  obtain ⟨j, h1, h2, h3, h4, hlast⟩ := grp_last (ids := ids) (offs := offs) (lats := lats) h
  have hat := grp_at (ids := ids) (offs := offs) (lats := lats) h
  have hl := grp_length (ids := ids) (offs := offs) (lats := lats) n (ids.getD i 0)
  have hc := cnt_lt (ids := ids) h
  -- the last one is i's own just if i is the last
  have hown : cnt ids i (ids.getD i 0) + 1 = cnt ids n (ids.getD i 0) → (offs.getD j 0, lats.getD j 0) = (offs.getD i 0, lats.getD i 0) := by
    intro e
    rw [List.getLast?_eq_getElem?, hl, show cnt ids n (ids.getD i 0) - 1 = cnt ids i (ids.getD i 0) by omega, hat] at hlast
    exact (Option.some.inj hlast).symm
  by_cases hst : st ≤ offs.getD j 0
  · rw [expOne_late hlast hst, hat, if_neg]
    rintro ⟨a1, _, a3⟩
    have := congrArg Prod.fst (hown (by omega))
    simp only at this
    omega
  · by_cases hb : bo < wrap64 (no - if lats.getD j 0 < 0 then no else lats.getD j 0)
    · rw [expOne_gone hlast hst hb] at hk
      exact absurd rfl hk
    · rw [expOne_kept hlast hst hb]
      by_cases e : cnt ids i (ids.getD i 0) + 1 = cnt ids n (ids.getD i 0)
      · have h5 := hown e
        simp only [Prod.mk.injEq] at h5
        rw [List.getElem?_append_right (by rw [List.length_dropLast, hl]; omega)]
        simp only [List.length_dropLast, hl]
        rw [show cnt ids i (ids.getD i 0) - (cnt ids n (ids.getD i 0) - 1) = 0 by omega, List.getElem?_cons_zero, h5.1, h5.2]
        congr 2
        by_cases hT : lats.getD i 0 < 0
        · rw [if_pos hT, if_pos ⟨by omega, hT, by rw [← h5.1]; omega⟩]
        · rw [if_neg hT, if_neg (fun a => hT a.2.1)]
      · rw [List.getElem?_append_left (by rw [List.length_dropLast, hl]; omega), List.getElem?_dropLast, if_pos (by rw [hl]; omega), hat, if_neg]
        rintro ⟨a1, _⟩
        omega

/-- The ids of the first k batches, each once, that the map still has. -/
def firsts (ids : List Int) (B : Int → Bool) : Nat → List Int
  | 0 => []
  | k + 1 => if cnt ids k (ids.getD k 0) = 0 ∧ B (ids.getD k 0) = true then firsts ids B k ++ [ids.getD k 0] else firsts ids B k

theorem mem_firsts {B : Int → Bool} (k : Nat) (x : Int) : x ∈ firsts ids B k ↔ B x = true ∧ 0 < cnt ids k x := by
  induction k with
  | zero => simp [firsts, cnt]
  | succ k ih =>
    simp only [firsts, cnt]
    by_cases e : ids.getD k 0 = x
    · subst e
      rw [if_pos rfl]
      split
      · rename_i h
        rw [List.mem_append, ih]
        constructor
        · intro _; exact ⟨h.2, by omega⟩
        · intro _; exact .inr (by simp)
      · rename_i h
        rw [ih]
        constructor
        · rintro ⟨a, b⟩; exact ⟨a, by omega⟩
        · rintro ⟨a, b⟩
          refine ⟨a, ?_⟩
          by_cases h0 : cnt ids k (ids.getD k 0) = 0
          · exact absurd ⟨h0, a⟩ h
          · omega
    · rw [if_neg e]
      split
      · rw [List.mem_append, ih]
        constructor
        · rintro (h | h)
          · exact ⟨h.1, by omega⟩
          · exact absurd (by simpa using h : x = _).symm e
        · rintro ⟨a, b⟩; exact .inl ⟨a, by omega⟩
      · rw [ih]
        constructor
        · rintro ⟨a, b⟩; exact ⟨a, by omega⟩
        · rintro ⟨a, b⟩; exact ⟨a, by omega⟩

theorem nodup_firsts {B : Int → Bool} (k : Nat) : (firsts ids B k).Nodup := by
  induction k with
  | zero => exact List.nodup_nil
  | succ k ih =>
    simp only [firsts]
    split
    · rename_i h
      rw [List.nodup_append]
      refine ⟨ih, by simp, fun a ha b hb => ?_⟩
      have hb' : b = ids.getD k 0 := by simpa using hb
      subst hb'
      intro e
      subst e
      have := ((mem_firsts (ids := ids) k _).1 ha).2
      omega
    · exact ih

theorem firsts_le {B : Int → Bool} (k : Nat) : (firsts ids B k).length ≤ k := by
  induction k with
  | zero => exact Nat.le_refl _
  | succ k ih =>
    simp only [firsts]
    split
    · simp; omega
    · omega

/-- Does the map still have x? -/
def hasB (G : Int → List (Int × Int)) (x : Int) : Bool := decide ((G x).length ≠ 0)

/-- The producers that are left are those among the ids. -/
theorem firsts_all {G : Int → List (Int × Int)} (hG : ∀ x, (G x).length ≠ 0 → 0 < cnt ids n x) {ks : List Int} (h1 : ks.Nodup) (h2 : ∀ x, x ∈ ks ↔ (G x).length ≠ 0) : ks.length = (firsts ids (hasB G) n).length :=
  len_of_same h1 (nodup_firsts n) (fun x => by
    rw [h2, mem_firsts]
    constructor
    · intro h; exact ⟨by simpa [hasB] using h, hG x h⟩
    · rintro ⟨h, _⟩; simpa [hasB] using h)

/-! ### The readers, in whatever number of draws -/
theorem Prods.draws {w : World} {b n : Nat} {G : Int → List (Int × Int)} (h : Prods w b n G) (m : Nat) : Prods (w.drewN m) b n G := h

theorem has_yes {w : World} {b n : Nat} {G : Int → List (Int × Int)} {x : Int} (hx : (Lit.int .i64 x).wf = true) (hp : Prods w b n G) (h : (G x).length ≠ 0) : Calls Trym.prog 21 #[.map (some b), .int .i64 x] w fun e w' => e = .returned (.bool true) ∧ w = w' :=
  (has_any w b n G x hx hp).mono (fun e w' he => ⟨by rw [he.1]; simp [h], he.2.symm⟩)
theorem has_no {w : World} {b n : Nat} {G : Int → List (Int × Int)} {x : Int} (hx : (Lit.int .i64 x).wf = true) (hp : Prods w b n G) (h : (G x).length = 0) : Calls Trym.prog 21 #[.map (some b), .int .i64 x] w fun e w' => e = .returned (.bool false) ∧ w = w' :=
  (has_any w b n G x hx hp).mono (fun e w' he => ⟨by rw [he.1]; simp [h], he.2.symm⟩)

end Go.Proofs.Qxb6600141aMods
