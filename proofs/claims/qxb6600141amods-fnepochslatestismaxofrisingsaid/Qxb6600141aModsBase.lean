/-
  WHAT ALL WALKS OF THIS SEAT SHARE: closed facts of the program; a slice of integers that the walk reads ('Row').
-/
import Derived.Test.Qxb6600141aModsRows
import Derived.WalkKit
import Derived.ProofKit
import Derived.OpenShut
import Derived.ShutString
import Derived.ChangeOld
import Derived.Below
import Derived.WalkLawsBesides
import Derived.WalkSpells
namespace Go.Proofs.Qxb6600141aMods
open Go.RowKit

theorem info2 : (Trym.prog.info? 2).map (fun i => (i.zero, i.size, i.bytes)) = some (some (.int .i64 0), 1, 8) := by kernel_rfl
theorem info21 : (Trym.prog.info? 21).map (fun i => (i.zero, i.size, i.bytes)) = some (some (.int .i32 0), 1, 4) := by kernel_rfl
theorem info48 : (Trym.prog.info? 48).map (fun i => (i.zero, i.size, i.bytes)) = some (some (.agg #[.int .i32 0, .int .i64 0]), 2, 16) := by kernel_rfl
theorem info52 : (Trym.prog.info? 52).map (fun i => (i.zero, i.size, i.bytes)) = some (some (.agg #[.int .i64 0, .int .i64 0, .int .i16 0, .int .i32 0, .int .i32 0]), 5, 32) := by kernel_rfl

/-- A fact kept from the walk (the kit's 'Hid'). -/
theorem hide {p : Prop} (h : p) : Hid p := h
theorem unhide {p : Prop} (h : Hid p) : p := h

/-- The slice at 'a' begins with the numbers zs, each within its kind. -/
def Row (w : World) (k : IntKind) (a : Option Addr) (zs : List Int) : Prop :=
  (zs = [] ∨ ∃ b off, a = some ⟨b, off, none⟩ ∧ b < w.heap.size ∧ ∀ i, i < zs.length → w.cell? ⟨b, off + i, none⟩ = some (.int k (zs.getD i 0))) ∧ ∀ n ∈ zs, (Lit.int k n).wf = true

theorem Row.nil (w : World) (k : IntKind) (a : Option Addr) : Row w k a [] := ⟨.inl rfl, by simp⟩

theorem Row.grown {w w' : World} {k : IntKind} {a : Option Addr} {zs : List Int} (h : Row w k a zs) (hg : Below w.heap.size w w') : Row w' k a zs := by
  obtain ⟨h1, h2⟩ := h
  refine ⟨?_, h2⟩
  rcases h1 with h1 | ⟨b, off, h1, h3, h4⟩
  · exact .inl h1
  · exact .inr ⟨b, off, h1, Nat.lt_of_lt_of_le h3 hg.size, fun i hi => (hg.cell (p := ⟨b, off + i, none⟩) h3).trans (h4 i hi)⟩

theorem Row.take {w : World} {k : IntKind} {a : Option Addr} {zs : List Int} (h : Row w k a zs) (n : Nat) : Row w k a (zs.take n) := by
  obtain ⟨h1, h2⟩ := h
  refine ⟨?_, fun x hx => h2 x (List.mem_of_mem_take hx)⟩
  rcases h1 with rfl | ⟨b, off, h1, h3, h4⟩
  · exact .inl (by simp)
  · refine .inr ⟨b, off, h1, h3, fun i hi => ?_⟩
    simp only [List.length_take] at hi
    rw [h4 i (by omega)]
    simp [List.getD, show i < n by omega]

/-- From what the shell's frame hands over to 'Row'. -/
theorem row_of {k : IntKind} {w : World} {a : Option Addr} {len cap : Nat} {zs : List Int}
    (h : (a = none ∧ len = 0 ∧ cap = 0 ∧ zs = []) ∨ ∃ x, a = some x ∧ len ≤ cap ∧ cap ≤ maxLen ∧ zs.length = cap ∧ (∀ i, i < zs.length → w.cell? (x.add i) = some (.int k (zs.getD i 0))) ∧ ∀ n ∈ zs, (Lit.int k n).wf = true) :
    len ≤ maxLen ∧ (zs.take len).length = len ∧ (a = none → len = 0) ∧ Row w k a (zs.take len) := by
  rcases h with ⟨rfl, rfl, rfl, rfl⟩ | ⟨x, rfl, hl, hm, hz, hc, hw⟩
  · exact ⟨Nat.zero_le _, rfl, fun _ => rfl, Row.nil _ _ _⟩
  · refine ⟨Nat.le_trans hl hm, by simp; omega, (fun h => by cases h), ?_⟩
    refine Row.take ⟨?_, hw⟩ len
    by_cases h0 : 0 < zs.length
    · obtain ⟨b, off, rfl, h1⟩ := ints_at hc h0
      refine .inr ⟨b, off, rfl, ?_, h1⟩
      have := h1 0 h0
      exact World.block_lt_of_cell? w _ this
    · exact .inl (List.eq_nil_of_length_eq_zero (by omega))

end Go.Proofs.Qxb6600141aMods
