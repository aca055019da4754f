/-
  ZZProducersOf: its contract.
-/
import Derived.Test.Qxb6600141aModsProducers
import Derived.Deep.RegionHeld3
import Derived.Deep.AppendLies
import Derived.Deep.DrawnRows
namespace Go.Proofs.Qxb6600141aMods
open Go.RowKit
attribute [local go_sem ↓] Go.wp_at_zero Go.wp_at_succ

set_option maxRecDepth 100000 in
set_option maxHeartbeats 2000000 in
theorem producersOf_any (w : World) (a0 a1 a2 : Option Addr) (n c0 c1 c2 : Nat) (ids offs lats : List Int) (hn : n ≤ 65536) (h0 : ids.length = n) (h1 : offs.length = n) (h2 : lats.length = n)
    (r0 : Row w .i64 a0 ids) (r1 : Row w .i64 a1 offs) (r2 : Row w .i64 a2 lats) :
    Calls Trym.prog 16 #[.slice a0 n c0, .slice a1 n c1, .slice a2 n c2] w fun e w' => e = .returned (.map (some w.heap.size)) ∧ Prods w' w.heap.size n (grp ids offs lats n) ∧ Below w.heap.size w w' := by
  obtain ⟨i0, hi, hz0, hz1, hz2⟩ := info_parts info52
  have hmm := @run_makeMap Trym.prog
  go_enter Trym.func16, Trym.ntmps16
  go_wp2
  go_loopw [9] (fun i wr => ∃ k : Nat, k ≤ n ∧ i = .int .i64 k ∧ Prods wr w.heap.size k (grp ids offs lats k) ∧ Below w.heap.size w wr) (fun i _ => n - (intOf i).toNat)
  case atStart => exact ⟨0, Nat.zero_le _, rfl, Prods.made w, (Below.refl _ _).alloc (Nat.le_refl _) _⟩
  case round =>
    obtain ⟨k, hk, rfl, hps, hnx⟩ := hrel
    by_cases hlt : k < n
    · obtain ⟨b0, o0, rfl, hb0, hc0⟩ : ∃ b off, a0 = some ⟨b, off, none⟩ ∧ b < w.heap.size ∧ ∀ i, i < n → w.cell? ⟨b, off + i, none⟩ = some (.int .i64 (ids.getD i 0)) := by
        rcases r0.1 with h | ⟨b, off, h, h', h''⟩
        · rw [h] at h0; simp at h0; omega
        · exact ⟨b, off, h, h', fun i hi => h'' i (by omega)⟩
      obtain ⟨b1, o1, rfl, hb1, hc1⟩ : ∃ b off, a1 = some ⟨b, off, none⟩ ∧ b < w.heap.size ∧ ∀ i, i < n → w.cell? ⟨b, off + i, none⟩ = some (.int .i64 (offs.getD i 0)) := by
        rcases r1.1 with h | ⟨b, off, h, h', h''⟩
        · rw [h] at h1; simp at h1; omega
        · exact ⟨b, off, h, h', fun i hi => h'' i (by omega)⟩
      obtain ⟨b2, o2, rfl, hb2, hc2⟩ : ∃ b off, a2 = some ⟨b, off, none⟩ ∧ b < w.heap.size ∧ ∀ i, i < n → w.cell? ⟨b, off + i, none⟩ = some (.int .i64 (lats.getD i 0)) := by
        rcases r2.1 with h | ⟨b, off, h, h', h''⟩
        · rw [h] at h2; simp at h2; omega
        · exact ⟨b, off, h, h', fun i hi => h'' i (by omega)⟩
      have g0 : wr.cell? ⟨b0, o0 + k, none⟩ = some (.int .i64 (ids.getD k 0)) := (hnx.cell (p := ⟨b0, o0 + k, none⟩) hb0).trans (hc0 k hlt)
      have g1 : wr.cell? ⟨b1, o1 + k, none⟩ = some (.int .i64 (offs.getD k 0)) := (hnx.cell (p := ⟨b1, o1 + k, none⟩) hb1).trans (hc1 k hlt)
      have g2 : wr.cell? ⟨b2, o2 + k, none⟩ = some (.int .i64 (lats.getD k 0)) := (hnx.cell (p := ⟨b2, o2 + k, none⟩) hb2).trans (hc2 k hlt)
      have hwX : (Lit.int .i64 (ids.getD k 0)).wf = true := r0.2 _ (by rw [List.getD, List.getElem?_eq_getElem (by omega)]; simp)
      have hgl : (grp ids offs lats k (ids.getD k 0)).length ≤ k := by rw [grp_length]; exact cnt_le k _
      have hnew : ∀ y, grp ids offs lats (k + 1) y = if ids.getD k 0 = y then grp ids offs lats k y ++ [(offs.getD k 0, lats.getD k 0)] else grp ids offs lats k y := fun _ => rfl
      have HN := hide (funext hnew)
      clear hc0 hc1 hc2 hnew r0 r1 r2
      generalize ids.getD k 0 = X at g0 hwX hgl HN
      generalize offs.getD k 0 = O at g1 HN
      generalize lats.getD k 0 = T at g2 HN
      obtain ⟨blk, cap, hpa⟩ := hps
      generalize hG : grp ids offs lats k = G at hpa hgl HN
      clear hG
      obtain ⟨v, hv⟩ : ∃ v, (hdr G blk cap X).getD (.slice none 0 0) = v := ⟨_, rfl⟩
      have hown := hpa.own X
      rw [hv] at hown
      have hsz := hnx.size
      have hbl := hpa.1.lt
      have hlook : ∀ W : World, W.heap[w.heap.size]? = wr.heap[w.heap.size]? → (Instr.lookup 34 (.map (some w.heap.size)) (.int .i64 X) false).run Trym.prog W = .ok v W := fun W hW => by
        have := (hpa.1.block hW).look Trym.underlying34 (zero49 _) hwX
        rw [hv] at this
        exact this
      have hstore : ∀ W : World, W.heap[w.heap.size]? = wr.heap[w.heap.size]? → ∀ u, ∃ w2, (Instr.mapUpdate 34 (.map (some w.heap.size)) (.int .i64 X) u).run Trym.prog W = .ok () w2 ∧ MapIs w2 w.heap.size (k + 1) (upd (hdr G blk cap) X u) ∧ W.grownBy w2 (some w.heap.size) ∧ w2.heap.size = W.heap.size :=
        fun W hW u => (hpa.1.block hW).store Trym.underlying34 (by unfold maxLen; omega) hwX u
      have hne : some w.heap.size ≠ v.ownBlock := fun e => by have := (hown.lt _ e.symm).1; omega
      have hlow : ∀ b, b < w.heap.size → some b ≠ v.ownBlock := fun b hb e => by have := (hown.lt _ e.symm).1; omega
      have hl0 := hlook wr rfl
      have hl1 := hlook wr.drew rfl
      have hl2 := fun m => hlook (wr.drewN m) rfl
      have ha0 := fun o => hlook (wr.alloc o) (Below.heap_alloc _ _ _ hbl)
      have ha1 := fun o => hlook (wr.alloc o).drew (Below.heap_alloc _ _ _ hbl)
      have ha2 := fun o m => hlook ((wr.alloc o).drewN m) (Below.heap_alloc _ _ _ hbl)
      have HS := hide hstore
      clear hlook hstore
      have hlt' : (k : Int) < (n : Int) := by omega
      have hk0 : (0 : Int) ≤ (k : Int) := by omega
      have HV := hide hv
      clear hv hlt
      go_wp2_with fail
      go_region_held3 (fun w' => w'.cell? ⟨b1, o1 + k, none⟩ = some (.int .i64 O) ∧ w'.cell? ⟨b2, o2 + k, none⟩ = some (.int .i64 T))
        (first
          | (go_split_ands
             exact ⟨by go_keep, by go_keep⟩)
          | (go_split_ands
             refine ⟨?_, ?_⟩
             · (rw [hgrow.cell_far _ (by simp; omega) (hlow _ hb1)]; go_keep)
             · (rw [hgrow.cell_far _ (by simp; omega) (hlow _ hb2)]; go_keep))
          | (go_split_ands
             refine ⟨?_, ?_⟩
             · (rw [hg2.cell_far _ hL1 hB3]; rw [hgrow.cell_far _ (by simp; omega) (hlow _ hb1)]; go_keep)
             · (rw [hg2.cell_far _ hL2 hB4]; rw [hgrow.cell_far _ (by simp; omega) (hlow _ hb2)]; go_keep)))
        ((refine step_append_lies _ (by rfl) _ _ _ (by rfl) (w.heap.size + 1) 52 i0 _ 5 32 Trym.underlying49 hi hz0 hz1 hz2 rfl (by omega) v (G X).length (recs (G X)) (by rfl) (by exact hown.alloc _)
            ⟨wr.heap.size, 0, none⟩ 1 1 (recOf (O, T)) (by rfl) (by rfl) (World.news_of_block (cs := #[.int .i64 O, .int .i64 T, .int .i16 0, .int .i32 0, .int .i32 0]) (t := 52) (fr := (0, 0)) (heap_alloc_new wr _)) (by simp [Value.oneCell', recOf])
            (by omega) (by unfold maxLen; omega) (by omega) (by simp; omega) (wr.heap.size + 1) (by simp) ?_; intro g c w1 hown1 hgrow hat hlt1
          have hB1 : w1.heap[w.heap.size]? = wr.heap[w.heap.size]? := (hgrow.block _ (by simp; omega) hne).trans (Below.heap_alloc _ _ _ hbl)
          have hL1 : b1 < w1.heap.size := by have := hgrow.size; simp at this; omega
          have hL2 : b2 < w1.heap.size := by have := hgrow.size; simp at this; omega
          have hB3 : some b1 ≠ some w.heap.size := fun e => by cases e; omega
          have hB4 : some b2 ≠ some w.heap.size := fun e => by cases e; omega
          obtain ⟨w2, hst, hm2, hg2, hs2⟩ := (unhide HS) w1 hB1 (.slice (some ⟨g, 0, none⟩) ((G X).length + 1) c)))
      all_goals
        have hg1 : (wr.alloc (.cells #[.int .i64 O, .int .i64 T, .int .i16 0, .int .i32 0, .int .i32 0] 52)).grownBy w1 v.ownBlock := ⟨hgrow.os, hgrow.tape, hgrow.output, hgrow.size, hgrow.block⟩
        have hnew := hpa.filed (unhide HV) hown1 hg1 hat hm2 hg2
        have hbel : Below w.heap.size w w2 := ((hnx.alloc (by omega) _).grown hg1 (by simp; omega) (fun j hj => by have := (hown.lt _ hj).1; omega)).grown hg2 (by have := hg1.size; simp at this; omega) (fun j hj => by cases hj; exact Nat.le_refl _)
        have HNew := hide hnew
        have HBel := hide hbel
        clear hnew hbel hgrow hg1 hg2 hm2 hown1 hst hown hat
        go_wp2
        go_roundw
        case rel => exact ⟨k + 1, by omega, by go_num, by rw [unhide HN]; exact unhide HNew, unhide HBel⟩
        case measure => simp [intOf]; omega
    · have hkn : k = n := by omega
      subst hkn
      go_wp2
      go_ret
      exact ⟨rfl, hps, hnx⟩

end Go.Proofs.Qxb6600141aMods
