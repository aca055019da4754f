/-
  THE PLAIN LAW of FnProducersExpireForgetsUnstampedABoundLater.
-/
import Derived.Test.Qxb6600141aModsKeeps
namespace Go.Proofs.Qxb6600141aMods
open Go.RowKit
set_option linter.unusedVariables false

theorem bounds64 {x : Int} (h : (Lit.int .i64 x).wf = true) : -9223372036854775808 ≤ x ∧ x ≤ 9223372036854775807 := by
  simp only [Lit.wf, IntKind.min, IntKind.max, IntKind.signed, IntKind.bits, Bool.and_eq_true, decide_eq_true_eq, if_true] at h
  omega

theorem wrap_in {x : Int} (h : -9223372036854775808 ≤ x ∧ x ≤ 9223372036854775807) : wrap64 x = x := by unfold wrap64; omega

section
variable {st no no2 bo lo ll : Int} {l : List (Int × Int)}

theorem len_pos_of_last (h : l.getLast? = some (lo, ll)) : l.length ≠ 0 := by
  intro h0; rw [List.eq_nil_of_length_eq_zero h0] at h; simp at h

/-- The last batch lies at or behind start: the producer stays, twice. -/
theorem fg_late (h : l.getLast? = some (lo, ll)) (h1 : st ≤ lo) : (expOne st no bo l).length ≠ 0 ∧ (expOne st no2 bo (expOne st no bo l)).length ≠ 0 := by
  have e := expOne_late (no := no) (bo := bo) h h1
  have e2 := expOne_late (no := no2) (bo := bo) h h1
  rw [e, e2]
  exact ⟨len_pos_of_last h, len_pos_of_last h⟩

/-- It lies before start and bears no stamp: it is stamped now .. -/
theorem fg_stamp (h : l.getLast? = some (lo, ll)) (h1 : lo < st) (h2 : ll < 0) (hb : 0 ≤ bo) : expOne st no bo l = l.dropLast ++ [(lo, no)] := by
  rw [expOne_kept h (by show ¬ st ≤ lo; omega) (by show ¬ bo < wrap64 (no - if ll < 0 then no else ll); rw [if_pos h2, Int.sub_self, wrap64_zero]; omega)]
  simp only [if_pos h2]

/-- .. and goes a bound later. -/
theorem fg_stamped (h : l.getLast? = some (lo, ll)) (h1 : lo < st) (h2 : ll < 0) (hb : 0 ≤ bo) (h0 : 0 ≤ no) (h3 : no ≤ no2) (h4 : no2 ≤ 9223372036854775807) :
    (no2 - no ≤ bo → (expOne st no2 bo (expOne st no bo l)).length ≠ 0) ∧ (¬ no2 - no ≤ bo → (expOne st no2 bo (expOne st no bo l)).length = 0) := by
  rw [fg_stamp h h1 h2 hb]
  have hl : (l.dropLast ++ [(lo, no)]).getLast? = some (lo, no) := by simp
  have hw : wrap64 (no2 - if no < 0 then no2 else no) = no2 - no := by rw [if_neg (by omega)]; exact wrap_in (by omega)
  constructor
  · intro h5
    rw [expOne_kept hl (by show ¬ st ≤ lo; omega) (by show ¬ bo < wrap64 (no2 - if no < 0 then no2 else no); rw [hw]; omega)]
    simp
  · intro h5
    rw [expOne_gone hl (by show ¬ st ≤ lo; omega) (by show bo < wrap64 (no2 - if no < 0 then no2 else no); rw [hw]; omega)]
    rfl

theorem fg_old (h : l.getLast? = some (lo, ll)) (h1 : lo < st) (h2 : ¬ ll < 0) (h0 : 0 ≤ no) (h4 : no ≤ 9223372036854775807) (h5 : ll ≤ 9223372036854775807) :
    (no - ll ≤ bo → expOne st no bo l = l) ∧ (¬ no - ll ≤ bo → expOne st no bo l = []) := by
  have hw : wrap64 (no - if ll < 0 then no else ll) = no - ll := by rw [if_neg h2]; exact wrap_in (by omega)
  constructor
  · intro h6
    rw [expOne_kept h (by show ¬ st ≤ lo; omega) (by show ¬ bo < wrap64 (no - if ll < 0 then no else ll); rw [hw]; omega)]
    simp only [if_neg h2]
    exact (getLast_split h).symm
  · intro h6
    exact expOne_gone h (by show ¬ st ≤ lo; omega) (by show bo < wrap64 (no - if ll < 0 then no else ll); rw [hw]; omega)

theorem fg_older (h : l.getLast? = some (lo, ll)) (h1 : lo < st) (h2 : ¬ ll < 0) (hb : 0 ≤ bo) (h0 : 0 ≤ no) (h3 : no ≤ no2) (h4 : no2 ≤ 9223372036854775807) (h5 : ll ≤ 9223372036854775807) :
    (no2 - ll ≤ bo → (expOne st no2 bo (expOne st no bo l)).length ≠ 0) ∧ (¬ no2 - ll ≤ bo → (expOne st no2 bo (expOne st no bo l)).length = 0) := by
  have a := fg_old (no := no) (bo := bo) h h1 h2 h0 (by omega) h5
  have b := fg_old (no := no2) (bo := bo) h h1 h2 (by omega) h4 h5
  constructor
  · intro h6
    rw [a.1 (by omega), b.1 h6]
    exact len_pos_of_last h
  · intro h6
    by_cases h7 : no - ll ≤ bo
    · rw [a.1 h7, b.2 h6]; rfl
    · rw [a.2 h7]; rfl
end

/-- What a reader of the last batch wants. -/
theorem last_at {G : Int → List (Int × Int)} {X : Int} {p : Int × Int} {M : Nat} (h : (G X).getLast? = some p) (hM : (G X).length = M + 1) : (G X)[M]? = some p := by
  rw [← h, List.getLast?_eq_getElem?, hM]; rfl

theorem stamp_at {l : List (Int × Int)} {q : Int × Int} {M : Nat} (hM : l.length = M + 1) : (l.dropLast ++ [q])[M]? = some q := by
  rw [List.getElem?_append_right (by simp; omega)]
  simp [hM]

/-- WHAT A ROUND OF THE LAW's LOOPS READS OF THE PRODUCERS AS THEY WERE: the last batch of batch i's producer. -/
theorem last_reads {w : World} {b n : Nat} {ids offs lats : List Int} {i : Nat} (hp : Prods w b n (grp ids offs lats n)) (hi : i < n) (hn : n ≤ 65536) (hx : (Lit.int .i64 (ids.getD i 0)).wf = true) (hl : lats.length = n) (hw : ∀ x ∈ lats, (Lit.int .i64 x).wf = true) :
    ∃ (lo ll : Int) (M : Nat), M + 1 ≤ 65536 ∧ (grp ids offs lats n (ids.getD i 0)).getLast? = some (lo, ll) ∧ (grp ids offs lats n (ids.getD i 0)).length = M + 1 ∧ ll ≤ 9223372036854775807 ∧ -9223372036854775808 ≤ ll ∧
      Calls Trym.prog 22 #[.map (some b), .int .i64 (ids.getD i 0)] w (fun e w' => e = .returned (.int .i64 ((M : Int) + 1)) ∧ w = w') ∧
      Calls Trym.prog 23 #[.map (some b), .int .i64 (ids.getD i 0), .int .i64 M] w (fun e w' => e = .returned (.int .i64 lo) ∧ w = w') ∧
      Calls Trym.prog 24 #[.map (some b), .int .i64 (ids.getD i 0), .int .i64 M] w (fun e w' => e = .returned (.int .i64 ll) ∧ w = w') := by
  obtain ⟨j, h1, h2, h3, h4, hlast⟩ := grp_last (ids := ids) (offs := offs) (lats := lats) hi
  have hlen := grp_length (ids := ids) (offs := offs) (lats := lats) n (ids.getD i 0)
  have hc := cnt_lt (ids := ids) hi
  have hcn := cnt_le (ids := ids) n (ids.getD i 0)
  have hM : (grp ids offs lats n (ids.getD i 0)).length = (cnt ids n (ids.getD i 0) - 1) + 1 := by omega
  have hat := last_at hlast hM
  have hll := bounds64 (hw _ (getD_mem (l := lats) (i := j) (by omega)))
  refine ⟨offs.getD j 0, lats.getD j 0, cnt ids n (ids.getD i 0) - 1, by omega, hlast, hM, hll.2, hll.1, ?_, ?_, ?_⟩
  · refine (heldLen_any w b n _ _ hx hp).mono (fun e w' he => ⟨?_, he.2.symm⟩)
    rw [he.1, hM]
    rfl
  · exact (heldOffset_any w b n _ _ _ _ hx hp hat (by omega)).mono (fun e w' he => ⟨he.1, he.2.symm⟩)
  · exact (heldLatest_any w b n _ _ _ _ hx hp hat (by omega)).mono (fun e w' he => ⟨he.1, he.2.symm⟩)

end Go.Proofs.Qxb6600141aMods
