/-
  zzClone32, zzClone64: the copy reads as the slice did, in memory of its own.
-/
import Derived.Test.Qxb6600141aModsBase
namespace Go.Proofs.Qxb6600141aMods
open Go.RowKit

theorem row_step {k : IntKind} {zs : List Int} {len i : Nat} (hz : zs.length = len) (hi : i < len) :
    ((zs.take i).map (Value.int k) ++ List.replicate (len - i) (Value.int k 0)).set i (Value.int k (zs.getD i 0)) = (zs.take (i + 1)).map (Value.int k) ++ List.replicate (len - (i + 1)) (Value.int k 0) := by
  have e1 : List.replicate (len - i) (Value.int k 0) = .int k 0 :: List.replicate (len - (i + 1)) (Value.int k 0) := by
    rw [show len - i = (len - (i + 1)) + 1 by omega]; rfl
  have e2 : zs.take (i + 1) = zs.take i ++ [zs.getD i 0] := by
    rw [List.take_succ_eq_append_getElem (show i < zs.length by omega)]
    simp [List.getD, show i < zs.length by omega]
  rw [e1, e2, List.set_append_right _ _ (by simp; omega)]
  simp only [List.length_map, List.length_take, show min i zs.length = i by omega, Nat.sub_self, List.set_cons_zero, List.map_append, List.map_cons, List.map_nil, List.append_assoc, List.cons_append, List.nil_append]

theorem row_old {k : IntKind} {zs : List Int} {len i : Nat} (hz : zs.length = len) (hi : i < len) :
    ((zs.take i).map (Value.int k) ++ List.replicate (len - i) (Value.int k 0))[i]? = some (Value.int k 0) := by
  rw [List.getElem?_append_right (by simp; omega)]
  simp [List.getElem?_replicate, show min i zs.length = i by omega]
  omega

set_option maxHeartbeats 400000 in
theorem clone32_any (w : World) (a : Option Addr) (len cap : Nat) (zs : List Int) (hz : zs.length = len) (hl : len ≤ 1048576) (hn : a = none → len = 0) (hr : Row w .i32 a zs) :
    Calls Trym.prog 10 #[.slice a len cap] w fun e w' => ∃ a', e = .returned (.slice a' len len) ∧ (a' = none → len = 0) ∧ Row w' .i32 a' zs ∧ Below w.heap.size w w' := by
  obtain ⟨i0, hi, hz0, hz1, hz2⟩ := info_parts info21
  have hnil := fun w a n c => @Lib.run_eql_slice_nil Trym.prog w 22 21 a n c 0 0 Trym.underlying22
  rcases a with _ | x
  · obtain rfl := hn rfl
    obtain rfl := List.eq_nil_of_length_eq_zero hz
    go_enter Trym.func10, Trym.ntmps10
    go_wp2
    go_ret
    exact ⟨none, rfl, Row.nil _ _ _, Below.refl _ _⟩
  · have hx : 0 < len → ∃ b off, x = ⟨b, off, none⟩ ∧ b < w.heap.size ∧ ∀ i, i < len → w.cell? ⟨b, off + i, none⟩ = some (.int .i32 (zs.getD i 0)) := by
      intro h0
      rcases hr.1 with h1 | ⟨b, off, h1, h2, h3⟩
      · rw [h1] at hz; simp at hz; omega
      · exact ⟨b, off, Option.some.inj h1, h2, fun i hi => h3 i (by omega)⟩
    have hwf := hr.2
    clear hr hn
    go_enter Trym.func10, Trym.ntmps10
    go_wp2_with (at_make; refine wpList_make_full _ rfl _ _ 22 rfl w.heap.size 21 i0 (.int .i32 0) 1 Trym.underlying22 hi hz0 hz1 _ _ _ _ len rfl rfl rfl rfl ?b2 ?b3 (Nat.le_refl _) ?_)
    case b2 => rw [hz2]; omega
    case b3 => unfold maxLen; omega
    intro w0 hown0 hgrow0
    go_wp2
    go_loopw [4] (fun i wr => ∃ k : Nat, k ≤ len ∧ i = .int .i64 k ∧ wr.ownsRow w.heap.size 21 1 (.slice (some ⟨w.heap.size, 0, none⟩) len len) len ((zs.take k).map (Value.int .i32) ++ List.replicate (len - k) (.int .i32 0)) ∧ Below w.heap.size w wr)
      (fun i _ => len - (intOf i).toNat)
    case atStart =>
      refine ⟨0, Nat.zero_le _, rfl, ?_, (Below.refl _ _).grown hgrow0 (Nat.le_refl _) (fun k h => by cases h)⟩
      simpa [toList_madeCells_one] using hown0
    case round =>
      obtain ⟨k, hk, rfl, hown, hnx⟩ := hrel
      by_cases hlt : k < len
      · obtain ⟨b, off, rfl, hb, hc⟩ := hx (by omega)
        have hcx : wr.cell? ⟨b, off + k, none⟩ = some (.int .i32 (zs.getD k 0)) := (hnx.cell (p := ⟨b, off + k, none⟩) hb).trans (hc k hlt)
        have hcc : wr.cell? ⟨w.heap.size, k, none⟩ = some (.int .i32 0) := by rw [hown.cellAt k (by omega)]; exact row_old hz hlt
        have hff := hown.frozenAt k
        have hst := (hown.stored k (.int .i32 (zs.getD k 0))).1
        rw [row_step hz hlt] at hst
        have hkz : k < zs.length := by omega
        go_wp2
        go_roundw
        case rel => exact ⟨k + 1, by omega, by go_num, by simpa [hkz] using hst, hnx.setCell (Nat.le_refl _) _⟩
        case measure => simp [intOf]; omega
      · have hkl : k = len := by omega
        subst hkl
        go_wp2
        go_ret
        refine ⟨some ⟨w.heap.size, 0, none⟩, rfl, (fun h => by cases h), ?_, hnx⟩
        refine ⟨.inr ⟨w.heap.size, 0, rfl, (hown.lt _ rfl).2, fun i hi => ?_⟩, hwf⟩
        rw [Nat.zero_add, hown.cellAt i (by omega)]
        simp [← hz, hi]

set_option maxHeartbeats 400000 in
theorem clone64_any (w : World) (a : Option Addr) (len cap : Nat) (zs : List Int) (hz : zs.length = len) (hl : len ≤ 1048576) (hn : a = none → len = 0) (hr : Row w .i64 a zs) :
    Calls Trym.prog 14 #[.slice a len cap] w fun e w' => ∃ a', e = .returned (.slice a' len len) ∧ (a' = none → len = 0) ∧ Row w' .i64 a' zs ∧ Below w.heap.size w w' := by
  obtain ⟨i0, hi, hz0, hz1, hz2⟩ := info_parts info2
  have hnil := fun w a n c => @Lib.run_eql_slice_nil Trym.prog w 29 2 a n c 0 0 Trym.underlying29
  rcases a with _ | x
  · obtain rfl := hn rfl
    obtain rfl := List.eq_nil_of_length_eq_zero hz
    go_enter Trym.func14, Trym.ntmps14
    go_wp2
    go_ret
    exact ⟨none, rfl, Row.nil _ _ _, Below.refl _ _⟩
  · have hx : 0 < len → ∃ b off, x = ⟨b, off, none⟩ ∧ b < w.heap.size ∧ ∀ i, i < len → w.cell? ⟨b, off + i, none⟩ = some (.int .i64 (zs.getD i 0)) := by
      intro h0
      rcases hr.1 with h1 | ⟨b, off, h1, h2, h3⟩
      · rw [h1] at hz; simp at hz; omega
      · exact ⟨b, off, Option.some.inj h1, h2, fun i hi => h3 i (by omega)⟩
    have hwf := hr.2
    clear hr hn
    go_enter Trym.func14, Trym.ntmps14
    go_wp2_with (at_make; refine wpList_make_full _ rfl _ _ 29 rfl w.heap.size 2 i0 (.int .i64 0) 1 Trym.underlying29 hi hz0 hz1 _ _ _ _ len rfl rfl rfl rfl ?b2 ?b3 (Nat.le_refl _) ?_)
    case b2 => rw [hz2]; omega
    case b3 => unfold maxLen; omega
    intro w0 hown0 hgrow0
    go_wp2
    go_loopw [4] (fun i wr => ∃ k : Nat, k ≤ len ∧ i = .int .i64 k ∧ wr.ownsRow w.heap.size 2 1 (.slice (some ⟨w.heap.size, 0, none⟩) len len) len ((zs.take k).map (Value.int .i64) ++ List.replicate (len - k) (.int .i64 0)) ∧ Below w.heap.size w wr)
      (fun i _ => len - (intOf i).toNat)
    case atStart =>
      refine ⟨0, Nat.zero_le _, rfl, ?_, (Below.refl _ _).grown hgrow0 (Nat.le_refl _) (fun k h => by cases h)⟩
      simpa [toList_madeCells_one] using hown0
    case round =>
      obtain ⟨k, hk, rfl, hown, hnx⟩ := hrel
      by_cases hlt : k < len
      · obtain ⟨b, off, rfl, hb, hc⟩ := hx (by omega)
        have hcx : wr.cell? ⟨b, off + k, none⟩ = some (.int .i64 (zs.getD k 0)) := (hnx.cell (p := ⟨b, off + k, none⟩) hb).trans (hc k hlt)
        have hcc : wr.cell? ⟨w.heap.size, k, none⟩ = some (.int .i64 0) := by rw [hown.cellAt k (by omega)]; exact row_old hz hlt
        have hff := hown.frozenAt k
        have hst := (hown.stored k (.int .i64 (zs.getD k 0))).1
        rw [row_step hz hlt] at hst
        have hkz : k < zs.length := by omega
        go_wp2
        go_roundw
        case rel => exact ⟨k + 1, by omega, by go_num, by simpa [hkz] using hst, hnx.setCell (Nat.le_refl _) _⟩
        case measure => simp [intOf]; omega
      · have hkl : k = len := by omega
        subst hkl
        go_wp2
        go_ret
        refine ⟨some ⟨w.heap.size, 0, none⟩, rfl, (fun h => by cases h), ?_, hnx⟩
        refine ⟨.inr ⟨w.heap.size, 0, rfl, (hown.lt _ rfl).2, fun i hi => ?_⟩, hwf⟩
        rw [Nat.zero_add, hown.cellAt i (by omega)]
        simp [← hz, hi]

end Go.Proofs.Qxb6600141aMods
