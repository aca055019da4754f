/-
  zzBytes_FnEpochsLatestIsMaxOfRising, ZZEpochsOf, ZZEpochsLatest, epochs.latest: their contracts.
-/
import Derived.Test.Qxb6600141aModsClone
namespace Go.Proofs.Qxb6600141aMods
open Go.RowKit

set_option maxHeartbeats 400000 in
theorem bytes9_any (w : World) (a : Option Addr) (len cap : Nat) (hl : len ≤ maxLen) :
    Calls Trym.prog 9 #[.slice a len cap] w fun e w' => ∃ t, e = .returned (.bool t) ∧ w' = w := by
  unfold maxLen at hl
  go_enter Trym.func9, Trym.ntmps9
  go_wp2
  all_goals
    go_ret
    exact ⟨_, rfl, rfl⟩

theorem epoch_step {xs : List Value} {zs : List Int} {len k : Nat} {u : Value} (hlen : xs.length = len * 2) (hkz : k < zs.length) (hlt : k < len) (hxs : ∀ j, j < k → xs[j * 2]? = some (.int .i32 (zs.getD j 0))) :
    ∀ j, j < k + 1 → ((xs.set (k * 2) (.int .i32 zs[k])).set (k * 2 + 1) u)[j * 2]? = some (.int .i32 (zs.getD j 0)) := by
  intro j hj
  rw [List.getElem?_set_ne (by omega)]
  by_cases e : j = k
  · subst e
    rw [List.getElem?_set_self (by omega)]
    simp [List.getD, hkz]
  · rw [List.getElem?_set_ne (by omega)]
    exact hxs j (by omega)

set_option maxHeartbeats 400000 in
theorem epochsOf_any (w : World) (a : Option Addr) (len cap : Nat) (zs : List Int) (hz : zs.length = len) (hl : len ≤ 65536) (hr : Row w .i32 a zs) :
    Calls Trym.prog 12 #[.slice a len cap] w fun e w' => e = .returned (.slice (some ⟨w.heap.size, 0, none⟩) len len) ∧ (∀ j, j < len → w'.cell? ⟨w.heap.size, j * 2, none⟩ = some (.int .i32 (zs.getD j 0))) ∧ w.heap.size < w'.heap.size ∧ Below w.heap.size w w' := by
  obtain ⟨i0, hi, hz0, hz1, hz2⟩ := info_parts info48
  have hx : 0 < len → ∃ b off, a = some ⟨b, off, none⟩ ∧ b < w.heap.size ∧ ∀ i, i < len → w.cell? ⟨b, off + i, none⟩ = some (.int .i32 (zs.getD i 0)) := by
    intro h0
    rcases hr.1 with h1 | ⟨b, off, h1, h2, h3⟩
    · rw [h1] at hz; simp at hz; omega
    · exact ⟨b, off, h1, h2, fun i hi => h3 i (by omega)⟩
  clear hr
  go_enter Trym.func12, Trym.ntmps12
  go_wp2_with (at_make; refine wpList_make_full _ rfl _ _ 27 rfl w.heap.size 48 i0 (.agg #[.int .i32 0, .int .i64 0]) 2 Trym.underlying27 hi hz0 hz1 _ _ _ _ len rfl rfl rfl rfl ?b2 ?b3 (Nat.le_refl _) ?_)
  case b2 => rw [hz2]; omega
  case b3 => unfold maxLen; omega
  intro w0 hown0 hgrow0
  go_wp2
  go_loopw [10] (fun i wr => ∃ (k : Nat) (xs : List Value), k ≤ len ∧ i = .int .i64 k ∧ wr.ownsRow w.heap.size 48 2 (.slice (some ⟨w.heap.size, 0, none⟩) len len) len xs ∧ (∀ j, j < k → xs[j * 2]? = some (.int .i32 (zs.getD j 0))) ∧ Below w.heap.size w wr)
    (fun i _ => len - (intOf i).toNat)
  case atStart => exact ⟨0, _, Nat.zero_le _, rfl, hown0, (fun j hj => by omega), (Below.refl _ _).grown hgrow0 (Nat.le_refl _) (fun k h => by cases h)⟩
  case round =>
    obtain ⟨k, xs, hk, rfl, hown, hxs, hnx⟩ := hrel
    by_cases hlt : k < len
    · obtain ⟨b, off, rfl, hb, hc⟩ := hx (by omega)
      have hcx : wr.cell? ⟨b, off + k, none⟩ = some (.int .i32 (zs.getD k 0)) := (hnx.cell (p := ⟨b, off + k, none⟩) hb).trans (hc k hlt)
      have hkz : k < zs.length := by omega
      have hlen := hown.1
      have hc0 : wr.cell? ⟨w.heap.size, k * 2, none⟩ = some (xs[k * 2]'(by omega)) := by rw [hown.cellAt (k * 2) (by omega)]; simp
      have hc1 : wr.cell? ⟨w.heap.size, k * 2 + 1, none⟩ = some (xs[k * 2 + 1]'(by omega)) := by rw [hown.cellAt (k * 2 + 1) (by omega)]; simp
      have hf0 := hown.frozenAt (k * 2)
      have hf1 := hown.frozenAt (k * 2 + 1)
      have hs1 := (hown.stored (k * 2) (.int .i32 zs[k])).1
      have hs2 := (hs1.stored (k * 2 + 1) (.int .i64 (k : Int))).1
      have hxs' := epoch_step (u := .int .i64 (k : Int)) hlen hkz hlt hxs
      have HS := hide hs2
      have HX := hide hxs'
      clear hs1 hs2 hxs' hx hc
      go_wp2
      go_roundw
      case rel => exact ⟨k + 1, _, by omega, by go_num, unhide HS, unhide HX, (hnx.setCell (Nat.le_refl _) _).setCell (Nat.le_refl _) _⟩
      case measure => simp [intOf]; omega
    · have hkl : k = len := by omega
      subst hkl
      go_wp2
      go_ret
      refine ⟨rfl, fun j hj => ?_, (hown.lt _ rfl).2, hnx⟩
      rw [hown.cellAt (j * 2) (by omega)]
      exact hxs j hj

set_option maxHeartbeats 400000 in
theorem epochsLatest_any (w : World) (b len cap : Nat) (zs : List Int) (hl : len ≤ 65536) (hc : ∀ j, j < len → w.cell? ⟨b, j * 2, none⟩ = some (.int .i32 (zs.getD j 0))) :
    Calls Trym.prog 11 #[.slice (some ⟨b, 0, none⟩) len cap] w fun e w' => e = .returned (.int .i32 (if len = 0 then -1 else zs.getD (len - 1) 0)) ∧ w' = w := by
  by_cases h0 : len = 0
  · subst h0
    go_enter Trym.func11, Trym.ntmps11
    go_wp2
    go_ret
    exact ⟨rfl, rfl⟩
  · obtain ⟨m, rfl⟩ : ∃ m, len = m + 1 := ⟨len - 1, by omega⟩
    have hc' := hc m (by omega)
    clear hc
    go_enter Trym.func11, Trym.ntmps11
    go_wp2
    go_ret
    exact ⟨rfl, rfl⟩
end Go.Proofs.Qxb6600141aMods
