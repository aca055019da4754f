/-
  FnProducersLatestBoundedAndKnowsEachLast: the walk.
-/
import Derived.Test.Qxb6600141aModsMainParts
namespace Go.Proofs.Qxb6600141aMods
open Go.RowKit
set_option linter.unusedVariables false

set_option maxRecDepth 100000 in
set_option maxHeartbeats 4000000 in
theorem bounded_walk (w : World) (a0 a1 a2 : Option Addr) (l0 l1 l2 c0 c1 c2 : Nat) (z0 z1 z2 : List Int) (m0 : l0 ≤ maxLen) (m1 : l1 ≤ maxLen) (m2 : l2 ≤ maxLen) (e0 : z0.length = l0) (e1 : z1.length = l1) (e2 : z2.length = l2)
    (n0 : a0 = none → l0 = 0) (n1 : a1 = none → l1 = 0) (n2 : a2 = none → l2 = 0) (r0 : Row w .i64 a0 z0) (r1 : Row w .i64 a1 z1) (r2 : Row w .i64 a2 z2) :
    Calls Trym.prog 5 #[.slice a0 l0 c0, .slice a1 l1 c1, .slice a2 l2 c2] w fun e w' => e = .returned (.bool true) ∧ Below w.heap.size w w' := by
  have m0' := m0
  have m1' := m1
  have m2' := m2
  unfold maxLen at m0 m1 m2
  go_enter Trym.func5, Trym.ntmps5
  go_wp2_with (go_at_call 18; refine (bytes18_any _ _ _ _ _ _ _ _ _ _ m0' m1' m2').mono ?_; rintro e w' ⟨t, rfl, rfl⟩)
  all_goals (first | (go_ret; exact ⟨rfl, Below.refl _ _⟩) | skip)
  have q0 : l0 ≤ 65536 := by omega
  have q1 : l1 ≤ 65536 := by omega
  have q2 : l2 ≤ 65536 := by omega
  clear m0 m1 m2 m0' m1' m2'
  refine (clone64_any w' a0 l0 c0 z0 e0 (by omega) n0 r0).mono ?_
  rintro e w1 ⟨b0, rfl, n0', r0', k1⟩
  clear r0
  have r1 := r1.grown k1
  have r2 := r2.grown k1
  go_wp2_with fail
  refine (clone64_any w1 a1 l1 c1 z1 e1 (by omega) n1 r1).mono ?_
  rintro e w2 ⟨b1, rfl, n1', r1', k2⟩
  clear r1
  have r0' := r0'.grown k2
  have r2 := r2.grown k2
  go_wp2_with fail
  refine (clone64_any w2 a2 l2 c2 z2 e2 (by omega) n2 r2).mono ?_
  rintro e w3 ⟨b2, rfl, n2', r2', k3⟩
  clear r2
  have r0' := r0'.grown k3
  have r1' := r1'.grown k3
  have K3 : Below w'.heap.size w' w3 := (k1.trans (k2.mono k1.size)).trans (k3.mono (Nat.le_trans k1.size k2.size))
  clear k1 k2 k3 n0 n1 n2 n0' n1' n2'
  go_wp2_with fail
  refine (min3_any w3 l0 l1 l2 q0 q1 q2).mono ?_
  rintro e w3' ⟨rfl, rfl⟩
  obtain ⟨n, hn⟩ : ∃ n, min l0 (min l1 l2) = n := ⟨_, rfl⟩
  have hn0 : n ≤ l0 := by omega
  have hn1 : n ≤ l1 := by omega
  have hn2 : n ≤ l2 := by omega
  rw [hn]
  clear hn
  have s0 := slice_head w3' .i64 b0 l0 n z0 e0 r0' hn0
  have s1 := slice_head w3' .i64 b1 l1 n z1 e1 r1' hn1
  have s2 := slice_head w3' .i64 b2 l2 n z2 e2 r2' hn2
  go_wp2_with fail
  have x0 : Row w3'.drew .i64 b0 (z0.take n) := r0'.take n
  have x1 : Row w3'.drew .i64 b1 (z1.take n) := r1'.take n
  have x2 : Row w3'.drew .i64 b2 (z2.take n) := r2'.take n
  have hpo := producersOf_any w3'.drew b0 b1 b2 n l0 l1 l2 (z0.take n) (z1.take n) (z2.take n) (by omega) (by simp; omega) (by simp; omega) (by simp; omega) x0 x1 x2
  have HPO := hide hpo
  clear hpo
  go_region_with (go_at_call 16; refine (unhide HPO).mono ?_; rintro e w4 ⟨rfl, hps, k4⟩)
  have hps : Prods w4 w3'.heap.size n (grp (z0.take n) (z1.take n) (z2.take n) n) := hps
  have k4 : Below w3'.heap.size w3' w4 := below_of_drew k4
  have d0 : Row w4 .i64 b0 (z0.take n) := (r0'.take n).grown k4
  have d1 : Row w4 .i64 b1 (z1.take n) := (r1'.take n).grown k4
  have f0 : (z0.take n).length = n := by simp; omega
  have f1 : (z1.take n).length = n := by simp; omega
  have K4 : Below w'.heap.size w' w4 := K3.trans (k4.mono K3.size)
  have hn6 : n ≤ 65536 := by omega
  clear r0' r1' r2' x0 x1 x2 s0 s1 s2 HPO k4 K3 hn2 e0 e1 e2
  generalize z0.take n = ids at hps d0 f0
  generalize z1.take n = offs at hps d1 f1
  generalize z2.take n = lats at hps
  go_wp2_with fail
  refine (latest17_any w4 w3'.heap.size n (grp ids offs lats n) hn6 (grp_len_le hn6) (grp_wf f1 d1.2) hps).mono ?_
  rintro e w5 ⟨rfl, S, ks, hks, hkm, hmS, hSo, k5⟩
  have t0 := d0.grown k5
  have t1 := d1.grown k5
  have K5 : Below w'.heap.size w' w5 := K4.trans (k5.mono K4.size)
  have hS5 : w4.heap.size < w5.heap.size := hmS.lt
  have hps5 : Prods w5 w3'.heap.size n (grp ids offs lats n) := hps.below k5
  clear K4 k5 d0 d1
  have hmk38 := fun w n => run_makeMap_hint w 38 3 n Trym.underlying38
  obtain ⟨kn, nd, mem, hkn5, _⟩ := hmS.len Trym.underlying36 0
  have hkn : kn.length ≤ n := by
    rw [← f1]
    refine len_of_sub nd (fun x hx => ?_)
    rw [mem x, setF_isSome] at hx
    obtain ⟨y, p, hp, e⟩ := (hSo x).1 hx
    obtain ⟨i, h1, h2⟩ := grp_of_mem (List.mem_of_mem_drop hp)
    rw [← e, h2]
    exact getD_mem (by omega)
  have hlenG : ∀ l : List Int, l.Nodup → (∀ x, x ∈ l ↔ (setF S x).isSome = true) → l.length = kn.length := fun l h1 h2 => len_of_same h1 nd (fun x => (h2 x).trans (mem x).symm)
  obtain ⟨blk, cap, hmP, _, _⟩ := hps5
  have hlenP : ∀ l : List Int, l.Nodup → (∀ x, x ∈ l ↔ (hdr (grp ids offs lats n) blk cap x).isSome = true) → l.length = ks.length := fun l h1 h2 => len_of_same h1 hks (fun x => by
    rw [h2 x, hkm x]
    by_cases h0 : (grp ids offs lats n x).length = 0
    · rw [hdr_nil h0]; simp [h0]
    · rw [hdr_some h0]; simp [h0])
  have HLG := hide hlenG
  have HLP := hide hlenP
  have hks6 : ks.length ≤ n := by
    obtain ⟨l, a1, a2, a3, _⟩ := hmP.len Trym.underlying34 0
    rw [← hlenP l a1 a2]; exact a3
  have HSO : Hid (∀ i, i < n → (cnt ids n (ids.getD i 0) : Int) - cnt ids i (ids.getD i 0) - 1 = 0 → S (offs.getD i 0) = true) := fun i h1 h2 => by
    rw [← want_is hSo, wantS_iff]
    exact ⟨i, h1, by omega, rfl⟩
  clear hlenG hlenP nd mem hks hkm hSo hps
  go_wp2_with (first | (at_len; refine wpList_len_raw _ rfl (.tmp 65) 36 rfl 4 Trym.underlying36 w4.heap.size _ (setF S) rfl hmS kn.length (unhide HLG) ?_) | (at_len; refine wpList_len_raw _ rfl (.tmp 69) 36 rfl 4 Trym.underlying36 w4.heap.size _ (setF S) rfl hmS kn.length (unhide HLG) ?_) | (at_len; refine wpList_len_raw _ rfl (.tmp 71) 34 rfl 49 Trym.underlying34 w3'.heap.size n _ rfl hmP ks.length (unhide HLP) ?_))
  go_loopw [11] (fun i wr => ∃ k : Nat, k ≤ n ∧ i = .int .i64 k ∧ MapIs wr w5.heap.size k (cntF ids k) ∧ Below w5.heap.size w5 wr) (fun i _ => n - (intOf i).toNat)
  case atStart => exact ⟨0, Nat.zero_le _, rfl, (MapIs.made w5).of_eq (fun _ => rfl), (Below.refl _ _).alloc (Nat.le_refl _) _⟩
  case round =>
    obtain ⟨k, hk, rfl, hmT, hnx⟩ := hrel
    by_cases hlt : k < n
    · obtain ⟨p0, o0, rfl, hb0, hc0⟩ := t0.cells f0 (by omega)
      have g0 : wr.cell? ⟨p0, o0 + k, none⟩ = some (.int .i64 (ids.getD k 0)) := (hnx.cell (p := ⟨p0, o0 + k, none⟩) hb0).trans (hc0 k hlt)
      have hwX : (Lit.int .i64 (ids.getD k 0)).wf = true := t0.2 _ (getD_mem (by omega))
      obtain ⟨C, v1, _, hC, hl1, hst1, hm1, hg1, hs1⟩ := count_step hmT (by omega) rfl hwX
      generalize ids.getD k 0 = X at g0 hwX hl1 hst1
      have hsz := hnx.size
      have HM1 := hide hm1
      have g1 : v1.cell? ⟨p0, o0 + k, none⟩ = some (.int .i64 X) := by rw [hg1.cell_far _ (show p0 < wr.heap.size by omega) (fun e => by have := Option.some.inj e; simp at this; omega)]; exact g0
      have hlt' : (k : Int) < (n : Int) := by omega
      have hk0 : (0 : Int) ≤ (k : Int) := by omega
      have hk8 : (k : Int) < (l0 : Int) := by omega
      clear hc0 hm1
      go_wp2_with fail
      go_region_held3 (fun w' => w'.cell? ⟨p0, o0 + k, none⟩ = some (.int .i64 X)) (first | go_keep | exact g1) (fail)
      clear hl1 hst1
      go_wp2
      go_roundw
      case rel => exact ⟨k + 1, by omega, by go_num, unhide HM1, hnx.grown hg1 hsz (fun j hj => by cases hj; exact Nat.le_refl _)⟩
      case measure => simp [intOf]; omega
    · have hkn : n = k := by omega
      subst hkn
      have u0 := t0.grown hnx
      have u1 := t1.grown hnx
      have hmG := hmS.below hnx hS5
      have K6 : Below w'.heap.size w' wr := K5.trans (hnx.mono K5.size)
      have hTl := hmT.lt
      have hG6 : w4.heap.size < wr.heap.size := hmG.lt
      clear K5 hnx t0 t1 hmS hmP
      obtain ⟨W6, rfl⟩ : ∃ W : World, W = wr := ⟨_, rfl⟩
      go_wp2_with fail
      go_loopw [13] (fun i wr => ∃ k : Nat, k ≤ n ∧ i = .int .i64 k ∧ MapIs wr W6.heap.size k (cntF ids k) ∧ Below W6.heap.size W6 wr) (fun i _ => n - (intOf i).toNat)
      case atStart => exact ⟨0, Nat.zero_le _, rfl, (MapIs.made W6).of_eq (fun _ => rfl), (Below.refl _ _).alloc (Nat.le_refl _) _⟩
      case round =>
        obtain ⟨k, hk, rfl, hmQ, hnq⟩ := hrel
        by_cases hlt : k < n
        · obtain ⟨p0, o0, rfl, hb0, hc0⟩ := u0.cells f0 (by omega)
          obtain ⟨p1, o1, rfl, hb1, hc1⟩ := u1.cells f1 (by omega)
          have g0 : wr.cell? ⟨p0, o0 + k, none⟩ = some (.int .i64 (ids.getD k 0)) := (hnq.cell (p := ⟨p0, o0 + k, none⟩) hb0).trans (hc0 k hlt)
          have hwX : (Lit.int .i64 (ids.getD k 0)).wf = true := u0.2 _ (getD_mem (by omega))
          have hwO : (Lit.int .i64 (offs.getD k 0)).wf = true := u1.2 _ (getD_mem (by omega))
          obtain ⟨C, v1, hC0, hC, hlQ, hstQ, hm1, hg1, hs1⟩ := count_plain hmQ (by omega) rfl hwX
          have hsz := hnq.size
          have g1 : v1.cell? ⟨p1, o1 + k, none⟩ = some (.int .i64 (offs.getD k 0)) := by
            rw [hg1.cell_far _ (show p1 < wr.heap.size by omega) (fun e => by have := Option.some.inj e; simp at this; omega), hnq.cell (p := ⟨p1, o1 + k, none⟩) hb1]
            exact hc1 k hlt
          have hmT1 : MapIs v1 w5.heap.size n (cntF ids n) := (hmT.below hnq hTl).kept hg1 (fun e => by have := Option.some.inj e; omega)
          have hlT := hmT1.look Trym.underlying38 (zero3 _) hwX
          rw [cntF_getD] at hlT
          have hmG1 : MapIs v1 w4.heap.size _ (setF S) := (hmG.below hnq hG6).kept hg1 (fun e => by have := Option.some.inj e; omega)
          have hlG := hmG1.look Trym.underlying36 (zero4 _) hwO
          rw [setF_getD] at hlG
          have hcn := cnt_le (ids := ids) n (ids.getD k 0)
          have hso := (unhide HSO) k hlt
          rw [hC0] at hso
          have HM1 := hide hm1
          have hnv := hnq.grown hg1 hsz (fun j hj => by cases hj; exact Nat.le_refl _)
          clear hc0 hc1 hm1 hC0 hmT1 hmG1
          generalize ids.getD k 0 = X at g0 hwX hlQ hstQ hlT hcn hso
          generalize offs.getD k 0 = O at g1 hwO hlG hso
          generalize cnt ids n X = N at hlT hcn hso
          generalize S O = sb at hlG hso
          by_cases hq : (N : Int) - C - 1 = 0
          · obtain rfl := hso hq
            go_wp2
            go_roundw
            case rel => exact ⟨k + 1, by omega, by go_num, unhide HM1, hnv⟩
            case measure => simp [intOf]; omega
          · clear hso
            go_wp2
            go_roundw
            case rel => exact ⟨k + 1, by omega, by go_num, unhide HM1, hnv⟩
            case measure => simp [intOf]; omega
        · have hkn : n = k := by omega
          subst hkn
          go_wp2
          go_ret
          exact ⟨rfl, K6.trans (hnq.mono K6.size)⟩
end Go.Proofs.Qxb6600141aMods
