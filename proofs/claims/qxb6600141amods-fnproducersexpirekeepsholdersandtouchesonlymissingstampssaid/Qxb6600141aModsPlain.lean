/-
  THE PLAIN MATHEMATICS OF THE PRODUCERS: how often an id has come; what is filed under it; no Go in sight.
-/
import Derived.KernelRfl
namespace Go.Proofs.Qxb6600141aMods

/-- How often x stands among the first k ids. -/
def cnt (ids : List Int) : Nat → Int → Nat
  | 0, _ => 0
  | k + 1, x => cnt ids k x + if ids.getD k 0 = x then 1 else 0

/-- What is filed under x behind the first k batches. -/
def grp (ids offs lats : List Int) : Nat → Int → List (Int × Int)
  | 0, _ => []
  | k + 1, x => if ids.getD k 0 = x then grp ids offs lats k x ++ [(offs.getD k 0, lats.getD k 0)] else grp ids offs lats k x

variable {ids offs lats : List Int}

theorem cnt_le (k : Nat) (x : Int) : cnt ids k x ≤ k := by
  induction k with
  | zero => exact Nat.le_refl _
  | succ k ih => simp only [cnt]; split <;> omega

theorem cnt_mono {i j : Nat} (h : i ≤ j) (x : Int) : cnt ids i x ≤ cnt ids j x := by
  induction j with
  | zero => have : i = 0 := by omega
            subst this; exact Nat.le_refl _
  | succ j ih =>
    by_cases e : i = j + 1
    · subst e; exact Nat.le_refl _
    · have := ih (by omega)
      simp only [cnt]; omega

theorem cnt_lt {i n : Nat} (h : i < n) : cnt ids i (ids.getD i 0) < cnt ids n (ids.getD i 0) := by
  have h1 : cnt ids (i + 1) (ids.getD i 0) = cnt ids i (ids.getD i 0) + 1 := by simp [cnt]
  have h2 := cnt_mono (ids := ids) (show i + 1 ≤ n from h) (ids.getD i 0)
  omega

theorem grp_length (k : Nat) (x : Int) : (grp ids offs lats k x).length = cnt ids k x := by
  induction k with
  | zero => rfl
  | succ k ih =>
    simp only [grp, cnt]
    split <;> simp [ih]

/-- What was filed first stays in its place. -/
theorem grp_prefix {i j : Nat} (h : i ≤ j) (x : Int) : ∃ r, grp ids offs lats j x = grp ids offs lats i x ++ r := by
  induction j with
  | zero => have : i = 0 := by omega
            subst this; exact ⟨[], by simp⟩
  | succ j ih =>
    by_cases e : i = j + 1
    · subst e; exact ⟨[], by simp⟩
    · obtain ⟨r, hr⟩ := ih (by omega)
      simp only [grp]
      split
      · exact ⟨r ++ [(offs.getD j 0, lats.getD j 0)], by rw [hr, List.append_assoc]⟩
      · exact ⟨r, hr⟩

/-- Batch i is the one numbered 'cnt ids i id' of its producer. -/
theorem grp_at {i n : Nat} (h : i < n) : (grp ids offs lats n (ids.getD i 0))[cnt ids i (ids.getD i 0)]? = some (offs.getD i 0, lats.getD i 0) := by
  obtain ⟨r, hr⟩ := grp_prefix (ids := ids) (offs := offs) (lats := lats) (show i + 1 ≤ n from h) (ids.getD i 0)
  have h1 : grp ids offs lats (i + 1) (ids.getD i 0) = grp ids offs lats i (ids.getD i 0) ++ [(offs.getD i 0, lats.getD i 0)] := by simp [grp]
  have hl := grp_length (ids := ids) (offs := offs) (lats := lats) i (ids.getD i 0)
  rw [hr, h1, List.append_assoc, List.getElem?_append_right (by omega), hl]
  simp

/-- Each that is filed is a batch. -/
theorem grp_mem {n : Nat} {x : Int} {j : Nat} (h : j < (grp ids offs lats n x).length) : ∃ i, i < n ∧ ids.getD i 0 = x ∧ cnt ids i x = j := by
  rw [grp_length] at h
  induction n with
  | zero => simp [cnt] at h
  | succ n ih =>
    by_cases h2 : j < cnt ids n x
    · obtain ⟨i, h3, h4⟩ := ih h2
      exact ⟨i, by omega, h4⟩
    · simp only [cnt] at h
      by_cases e : ids.getD n 0 = x
      · rw [if_pos e] at h
        exact ⟨n, by omega, e, by omega⟩
      · rw [if_neg e] at h
        omega

theorem grp_ne_nil {n : Nat} {x : Int} : grp ids offs lats n x ≠ [] ↔ ∃ i, i < n ∧ ids.getD i 0 = x := by
  constructor
  · intro h
    have h0 : 0 < (grp ids offs lats n x).length := List.length_pos_iff.2 h
    obtain ⟨i, h1, h2, _⟩ := grp_mem h0
    exact ⟨i, h1, h2⟩
  · rintro ⟨i, h1, rfl⟩ e
    have := grp_at (ids := ids) (offs := offs) (lats := lats) h1
    rw [e] at this
    simp at this

/-- Two lists without repeats and with the same members are of one length. -/
theorem len_of_same {l m : List Int} (hl : l.Nodup) (hm : m.Nodup) (h : ∀ x, x ∈ l ↔ x ∈ m) : l.length = m.length :=
  ((List.perm_ext_iff_of_nodup hl hm).2 h).length_eq

/-- A list without repeats inside another is no longer than it. -/
theorem len_of_sub {l m : List Int} (hl : l.Nodup) (h : ∀ x ∈ l, x ∈ m) : l.length ≤ m.length := by
  induction l generalizing m with
  | nil => exact Nat.zero_le _
  | cons a l ih =>
    have ha := h a (by simp)
    have h2 : ∀ x ∈ l, x ∈ m.erase a := fun x hx => by
      have hne : x ≠ a := fun e => (List.nodup_cons.1 hl).1 (e ▸ hx)
      exact (List.mem_erase_of_ne hne).2 (h x (by simp [hx]))
    have := ih (List.nodup_cons.1 hl).2 h2
    rw [List.length_erase_of_mem ha] at this
    have hp : 0 < m.length := List.length_pos_of_mem ha
    simp only [List.length_cons]
    omega

end Go.Proofs.Qxb6600141aMods
