/-
  FnProducersExpireKeepsHoldersAndTouchesOnlyMissingStamps: the walk.
-/
import Derived.Test.Qxb6600141aModsKeeps
import Derived.Deep.DeepCutAuto
namespace Go.Proofs.Qxb6600141aMods
open Go.RowKit
set_option linter.unusedVariables false

set_option maxRecDepth 100000 in
set_option maxHeartbeats 8000000 in
theorem keeps_walk (w : World) (a0 a1 a2 : Option Addr) (l0 l1 l2 c0 c1 c2 : Nat) (z0 z1 z2 : List Int) (st no bo : Int) (m0 : l0 ≤ maxLen) (m1 : l1 ≤ maxLen) (m2 : l2 ≤ maxLen) (e0 : z0.length = l0) (e1 : z1.length = l1) (e2 : z2.length = l2)
    (n0 : a0 = none → l0 = 0) (n1 : a1 = none → l1 = 0) (n2 : a2 = none → l2 = 0) (r0 : Row w .i64 a0 z0) (r1 : Row w .i64 a1 z1) (r2 : Row w .i64 a2 z2) :
    Calls Trym.prog 6 #[.slice a0 l0 c0, .slice a1 l1 c1, .slice a2 l2 c2, .int .i64 st, .int .i64 no, .int .i64 bo] w fun e w' => e = .returned (.bool true) ∧ Below w.heap.size w w' := by
  have m0' := m0
  have m1' := m1
  have m2' := m2
  unfold maxLen at m0 m1 m2
  go_enter Trym.func6, Trym.ntmps6
  go_wp2_with (go_at_call 19; refine (bytes19_any _ _ _ _ _ _ _ _ _ _ _ _ _ m0' m1' m2').mono ?_; rintro e w' ⟨t, rfl, rfl⟩)
  all_goals (first | (go_ret; exact ⟨rfl, Below.refl _ _⟩) | skip)
  have q0 : l0 ≤ 65536 := by omega
  have q1 : l1 ≤ 65536 := by omega
  have q2 : l2 ≤ 65536 := by omega
  clear m0 m1 m2 m0' m1' m2'
  refine (min3_any w' l0 l1 l2 q0 q1 q2).mono ?_
  rintro e w0 ⟨rfl, hww⟩
  obtain rfl := hww.symm
  obtain ⟨n, hn⟩ : ∃ n, min l0 (min l1 l2) = n := ⟨_, rfl⟩
  have hn0 : n ≤ l0 := by omega
  have hn1 : n ≤ l1 := by omega
  have hn2 : n ≤ l2 := by omega
  rw [hn]
  clear hn
  go_wp2_with fail
  go_loopw [14] (fun i wr => ∃ k : Nat, (k ≤ n ∨ k = 1) ∧ 1 ≤ k ∧ i = .int .i64 k ∧ Rising z1 k ∧ Below w'.heap.size w' wr) (fun i _ => n - (intOf i).toNat)
  case atStart => exact ⟨1, .inr rfl, Nat.le_refl _, rfl, (fun j hj => by omega), Below.refl _ _⟩
  case round =>
    obtain ⟨k, hk, hk1, rfl, hrise, hnx⟩ := hrel
    by_cases hlt : k < n
    · obtain ⟨b, off, rfl, hb, hc⟩ := r1.cells e1 (by omega)
      obtain ⟨m, rfl⟩ : ∃ m, k = m + 1 := ⟨k - 1, by omega⟩
      have hcx : wr.cell? ⟨b, off + (m + 1), none⟩ = some (.int .i64 (z1.getD (m + 1) 0)) := (hnx.cell (p := ⟨b, off + (m + 1), none⟩) hb).trans (hc (m + 1) (by omega))
      have hcy : wr.cell? ⟨b, off + m, none⟩ = some (.int .i64 (z1.getD m 0)) := (hnx.cell (p := ⟨b, off + m, none⟩) hb).trans (hc m (by omega))
      have HR := hide hrise
      generalize hX : z1.getD (m + 1) 0 = X at hcx
      generalize hY : z1.getD m 0 = Y at hcy
      have HX := hide hX
      have HY := hide hY
      clear hrise hc hX hY
      go_wp2
      go_quiet (fail)
      go_wp2
      · go_ret
        exact ⟨rfl, below_drewN hnx _⟩
      · have hge : z1.getD m 0 < z1.getD (m + 1) 0 := by
          rw [unhide HX, unhide HY]
          have h1 : Y < X := by assumption
          exact h1
        go_roundw
        case rel =>
          refine ⟨m + 2, .inl (by omega), by omega, by go_num, ?_, below_drewN hnx _⟩
          intro j hj
          by_cases e : j = m
          · subst e; exact hge
          · exact (unhide HR) j (by omega)
        case measure => simp [intOf]; omega
    · have hrise' : Rising z1 n := fun j hj => hrise j (by omega)
      have HR := hide hrise'.take
      have r0 := r0.grown hnx
      have r1 := r1.grown hnx
      have r2 := r2.grown hnx
      obtain ⟨WA, rfl⟩ : ∃ W : World, W = wr := ⟨_, rfl⟩
      clear hrise hrise'
      go_wp2_with fail
      refine (clone64_any WA a0 l0 c0 z0 e0 (by omega) n0 r0).mono ?_
      rintro e w1 ⟨b0, rfl, n0', r0', k1⟩
      have r1 := r1.grown k1
      have r2 := r2.grown k1
      go_wp2_with fail
      refine (clone64_any w1 a1 l1 c1 z1 e1 (by omega) n1 r1).mono ?_
      rintro e w2 ⟨b1, rfl, n1', r1', k2⟩
      have r0' := r0'.grown k2
      have r2 := r2.grown k2
      go_wp2_with fail
      refine (clone64_any w2 a2 l2 c2 z2 e2 (by omega) n2 r2).mono ?_
      rintro e w3' ⟨b2, rfl, n2', r2', k3⟩
      have r0' := r0'.grown k3
      have r1' := r1'.grown k3
      have K3 : Below WA.heap.size WA w3' := (k1.trans (k2.mono k1.size)).trans (k3.mono (Nat.le_trans k1.size k2.size))
      clear k1 k2 k3 n0 n1 n2 n0' n1' n2'
      have s0 := slice_head w3' .i64 b0 l0 n z0 e0 r0' hn0
      have s1 := slice_head w3' .i64 b1 l1 n z1 e1 r1' hn1
      have s2 := slice_head w3' .i64 b2 l2 n z2 e2 r2' hn2
      go_wp2_with fail
      have x0 : Row w3'.drew .i64 b0 (z0.take n) := r0'.take n
      have x1 : Row w3'.drew .i64 b1 (z1.take n) := r1'.take n
      have x2 : Row w3'.drew .i64 b2 (z2.take n) := r2'.take n
      have hpo := producersOf_any w3'.drew b0 b1 b2 n l0 l1 l2 (z0.take n) (z1.take n) (z2.take n) (by omega) (by simp; omega) (by simp; omega) (by simp; omega) x0 x1 x2
      have HPO := hide hpo
      clear hpo
      go_region_with (go_at_call 16; refine (unhide HPO).mono ?_; rintro e w4 ⟨rfl, hps, k4⟩)
      have hps : Prods w4 w3'.heap.size n (grp (z0.take n) (z1.take n) (z2.take n) n) := hps
      have k4 : Below w3'.heap.size w3' w4 := below_of_drew k4
      have d0 : Row w3' .i64 b0 (z0.take n) := r0'.take n
      have d1 : Row w3' .i64 b1 (z1.take n) := r1'.take n
      have f0 : (z0.take n).length = n := by simp; omega
      have f1 : (z1.take n).length = n := by simp; omega
      have f2 : (z2.take n).length = n := by simp; omega
      have d2 : Row w3' .i64 b2 (z2.take n) := r2'.take n
      have hA3 : w'.heap.size ≤ w3'.heap.size := Nat.le_trans hnx.size K3.size
      have K4 : Below w'.heap.size w' w4 := (hnx.trans (K3.mono hnx.size)).trans (k4.mono (Nat.le_trans hnx.size K3.size))
      have hn6 : n ≤ 65536 := by omega
      clear r0' r1' r2' x0 x1 x2 s0 s1 s2 HPO e0 e1 e2
      generalize z0.take n = ids at hps d0 f0
      generalize z1.take n = offs at hps d1 f1 HR
      generalize z2.take n = lats at hps d2 f2
      go_wp2_with fail
      refine (expire20_any w4 w3'.heap.size n (grp ids offs lats n) st no bo hn6 (grp_len_le hn6) hps).mono ?_
      rintro e w5 ⟨rfl, hpe, k5⟩
      have t0 : Row w5 .i64 b0 ids := d0.grown (k4.trans k5)
      have t1 : Row w5 .i64 b1 offs := d1.grown (k4.trans k5)
      have t2 : Row w5 .i64 b2 lats := d2.grown (k4.trans k5)
      have K5 : Below w'.heap.size w' w5 := K4.trans (k5.mono hA3)
      clear K4 k4 k5 d0 d1 d2 hps
      have hmk38 := fun w n => run_makeMap_hint w 38 3 n Trym.underlying38
      have hpl : w3'.heap.size < w5.heap.size := hpe.lt
      go_wp2_with fail
      go_loopw [17] (fun i wr => ∃ k : Nat, k ≤ n ∧ i = .int .i64 k ∧ MapIs wr w5.heap.size k (cntF ids k) ∧ Below w5.heap.size w5 wr) (fun i _ => n - (intOf i).toNat)
      case atStart => exact ⟨0, Nat.zero_le _, rfl, (MapIs.made w5).of_eq (fun _ => rfl), (Below.refl _ _).alloc (Nat.le_refl _) _⟩
      case round =>
        obtain ⟨k, hk, rfl, hmT, hnx⟩ := hrel
        by_cases hlt : k < n
        · obtain ⟨p0, o0, rfl, hb0, hc0⟩ := t0.cells f0 (by omega)
          have g0 : wr.cell? ⟨p0, o0 + k, none⟩ = some (.int .i64 (ids.getD k 0)) := (hnx.cell (p := ⟨p0, o0 + k, none⟩) hb0).trans (hc0 k hlt)
          have hwX : (Lit.int .i64 (ids.getD k 0)).wf = true := t0.2 _ (getD_mem (by omega))
          obtain ⟨C, v1, _, hC, hl1, hst1, hm1, hg1, hs1⟩ := count_step hmT (by omega) rfl hwX
          generalize ids.getD k 0 = X at g0 hwX hl1 hst1
          have hsz := hnx.size
          have HM1 := hide hm1
          have g1 : v1.cell? ⟨p0, o0 + k, none⟩ = some (.int .i64 X) := by rw [hg1.cell_far _ (show p0 < wr.heap.size by omega) (fun e => by have := Option.some.inj e; simp at this; omega)]; exact g0
          have hlt' : (k : Int) < (n : Int) := by omega
          have hk0 : (0 : Int) ≤ (k : Int) := by omega
          have hk8 : (k : Int) < (l0 : Int) := by omega
          clear hc0 hm1
          go_wp2_with fail
          go_region_held3 (fun w' => w'.cell? ⟨p0, o0 + k, none⟩ = some (.int .i64 X)) (first | go_keep | exact g1) (fail)
          clear hl1 hst1
          go_wp2
          go_roundw
          case rel => exact ⟨k + 1, by omega, by go_num, unhide HM1, hnx.grown hg1 hsz (fun j hj => by cases hj; exact Nat.le_refl _)⟩
          case measure => simp [intOf]; omega
        · have hkn : n = k := by omega
          subst hkn
          have u0 := t0.grown hnx
          have u1 := t1.grown hnx
          have u2 := t2.grown hnx
          have hpu := hpe.below hnx
          have K6 : Below w'.heap.size w' wr := K5.trans (hnx.mono K5.size)
          have hTl := hmT.lt
          clear K5 hpe hnx t0 t1 t2
          obtain ⟨W6, rfl⟩ : ∃ W : World, W = wr := ⟨_, rfl⟩
          have HE1 : Hid (∀ i, i < n → st ≤ offs.getD i 0 → (expOne st no bo (grp ids offs lats n (ids.getD i 0))).length ≠ 0) := fun i h1 h2 => exp_holder (unhide HR) h1 h2
          have HE2 : Hid (∀ x, (expOne st no bo (grp ids offs lats n x)).length ≠ 0 → (expOne st no bo (grp ids offs lats n x)).length = cnt ids n x) := fun x h => (expOne_length h).trans (grp_length n x)
          have HE3 : Hid (∀ i, i < n → (expOne st no bo (grp ids offs lats n (ids.getD i 0))).length ≠ 0 → (expOne st no bo (grp ids offs lats n (ids.getD i 0)))[cnt ids i (ids.getD i 0)]? =
              some (offs.getD i 0, if (cnt ids n (ids.getD i 0) : Int) - cnt ids i (ids.getD i 0) - 1 = 0 ∧ lats.getD i 0 < 0 ∧ offs.getD i 0 < st then no else lats.getD i 0)) := fun i h1 h2 => exp_at h1 h2
          have HE4 : Hid (∀ x, (expOne st no bo (grp ids offs lats n x)).length ≠ 0 → 0 < cnt ids n x) := fun x h => by have := expOne_pos h; rw [grp_length] at this; omega
          obtain ⟨E, hE⟩ : ∃ E : Int → List (Int × Int), E = fun x => expOne st no bo (grp ids offs lats n x) := ⟨_, rfl⟩
          have hEx : ∀ x, expOne st no bo (grp ids offs lats n x) = E x := fun x => by rw [hE]
          rw [← hE] at hpu
          simp only [hEx] at HE1 HE2 HE3 HE4
          clear hE hEx
          go_wp2_with fail
          go_loopg [19, 20] n (fun gk kp i wr => ∃ k : Nat, k ≤ n ∧ gk = n - k ∧ i = .int .i64 k ∧ kp = .int .i64 (firsts ids (hasB E) k).length ∧ MapIs wr W6.heap.size k (cntF ids k) ∧ Below W6.heap.size W6 wr)
          case atStart => exact ⟨0, Nat.zero_le _, rfl, rfl, rfl, (MapIs.made W6).of_eq (fun _ => rfl), (Below.refl _ _).alloc (Nat.le_refl _) _⟩
          case round =>
            obtain ⟨k, hk, rfl, rfl, rfl, hmQ, hnq⟩ := hrel
            by_cases hlt : k < n
            · obtain ⟨p0, o0, rfl, hb0, hc0⟩ := u0.cells f0 (by omega)
              obtain ⟨p1, o1, rfl, hb1, hc1⟩ := u1.cells f1 (by omega)
              obtain ⟨p2, o2, rfl, hb2, hc2⟩ := u2.cells f2 (by omega)
              have g0 : wr.cell? ⟨p0, o0 + k, none⟩ = some (.int .i64 (ids.getD k 0)) := (hnq.cell (p := ⟨p0, o0 + k, none⟩) hb0).trans (hc0 k hlt)
              have hwX : (Lit.int .i64 (ids.getD k 0)).wf = true := u0.2 _ (getD_mem (by omega))
              obtain ⟨C, v1, hC0, hC, hlQ, hstQ, hm1, hg1, hs1⟩ := count_plain hmQ (by omega) rfl hwX
              have hsz := hnq.size
              have hnv : Below W6.heap.size W6 v1 := hnq.grown hg1 hsz (fun j hj => by cases hj; exact Nat.le_refl _)
              have g1 : v1.cell? ⟨p1, o1 + k, none⟩ = some (.int .i64 (offs.getD k 0)) := (hnv.cell (p := ⟨p1, o1 + k, none⟩) hb1).trans (hc1 k hlt)
              have g2 : v1.cell? ⟨p2, o2 + k, none⟩ = some (.int .i64 (lats.getD k 0)) := (hnv.cell (p := ⟨p2, o2 + k, none⟩) hb2).trans (hc2 k hlt)
              have hmT1 : MapIs v1 w5.heap.size n (cntF ids n) := hmT.below hnv hTl
              have hlT0 := hmT1.look Trym.underlying38 (zero3 _) hwX
              have hlT := fun m => (show MapIs (v1.drewN m) _ _ _ from hmT1).look Trym.underlying38 (zero3 _) hwX
              simp only [cntF_getD] at hlT hlT0
              have hpv := hpu.below hnv
              have hcn := cnt_le (ids := ids) n (ids.getD k 0)
              have hE1 := (unhide HE1) k hlt
              have hk0 : (0 : Int) ≤ (k : Int) := by omega
              have hk7 : (k : Int) < (l1 : Int) := by omega
              have hk8 : (k : Int) < (l2 : Int) := by omega
              have hk9 : (k : Int) < (l0 : Int) := by omega
              have hE2 := (unhide HE2) (ids.getD k 0)
              have hE3 := (unhide HE3) k hlt
              have hF : firsts ids (hasB E) (k + 1) = if cnt ids k (ids.getD k 0) = 0 ∧ hasB E (ids.getD k 0) = true then firsts ids (hasB E) k ++ [ids.getD k 0] else firsts ids (hasB E) k := rfl
              have hFl := congrArg List.length hF
              have hLk := firsts_le (ids := ids) (B := hasB E) k
              rw [hC0] at hE3 hFl
              have HM1 := hide hm1
              have HNV := hide hnv
              clear hc0 hc1 hc2 hm1 hC0 hmT1 hF hnv
              generalize ids.getD k 0 = X at g0 hwX hlQ hstQ hlT hlT0 hcn hE1 hE2 hE3 hFl
              generalize offs.getD k 0 = O at g1 hE1 hE3
              generalize lats.getD k 0 = T at g2 hE3
              generalize cnt ids n X = N at hlT hlT0 hcn hE2 hE3
              generalize hL : (firsts ids (hasB E) k).length = L at hLk hFl ⊢
              have HL := hide hL
              have HFL := hide hFl
              clear hL hFl
              by_cases hA : (E X).length = 0
              · have hO : ¬ st ≤ O := fun h => hE1 h hA
                have HA := hide hA
                have hH := has_no hwX hpv hA
                clear hE1 hE2 hE3 hA
                by_cases hC1 : C < 1
                · go_wp2_with (go_at_call 21; refine hH.mono ?_; rintro e w' ⟨rfl, rfl⟩)
                  go_roundg (n - (k + 1))
                  case measure => omega
                  case rel => exact ⟨k + 1, by omega, rfl, by go_num, by rw [unhide HFL, if_neg (by simp [hasB, unhide HA]), unhide HL], unhide HM1, unhide HNV⟩
                · go_wp2_with (go_at_call 21; refine hH.mono ?_; rintro e w' ⟨rfl, rfl⟩)
                  go_roundg (n - (k + 1))
                  case measure => omega
                  case rel => exact ⟨k + 1, by omega, rfl, by go_num, by rw [unhide HFL, if_neg (by simp [hasB, unhide HA]), unhide HL], unhide HM1, unhide HNV⟩
              · have hEN := hE2 hA
                have hE3' := hE3 hA
                generalize hW : (if (N : Int) - C - 1 = 0 ∧ T < 0 ∧ O < st then no else T) = Wt at hE3'
                have HW := hide hW
                clear hW
                have HA := hide hA
                have hH := has_yes hwX hpv hA
                have hN6 : (E X).length ≤ 65536 := by omega
                have hHL := fun m => heldLen_any (v1.drewN m) w3'.heap.size n E X hwX (hpv.draws m)
                have hHO := fun m => heldOffset_any (v1.drewN m) w3'.heap.size n E X C _ hwX (hpv.draws m) hE3' hN6
                have hHT := fun m => heldLatest_any (v1.drewN m) w3'.heap.size n E X C _ hwX (hpv.draws m) hE3' hN6
                rw [hEN] at hHL
                simp only at hHO hHT
                have hv0 : v1.drewN 0 = v1 := rfl
                clear hE1 hE2 hE3 hA hEN hN6 hE3' hv0
                have HHL := hide hHL
                have HHO := hide hHO
                have HHT := hide hHT
                have HLQ := hide hLk
                clear hHL hHO hHT
                generalize hL1 : (firsts ids (hasB E) (k + 1)).length = L1 at HFL
                have HL1 := hide hL1
                clear hL1
                go_upto_region 37 with (go_at_call 21; refine hH.mono ?_; rintro e w' ⟨rfl, rfl⟩)
                go_cut [147] (fun s wx => s = .bool (decide (C = 0)) ∧ v1 = wx)
                case first =>
                  by_cases hC1 : C = 0
                  · subst hC1
                    go_wp2
                    go_meet
                    exact ⟨rfl, rfl⟩
                  · go_wp2
                    go_meet
                    exact ⟨by simp [hC1], rfl⟩
                case rest =>
                  obtain ⟨rfl, rfl⟩ := hcut
                  go_upto_if 147 with fail
                  go_cut [19] (fun kp wx => kp = .int .i64 L1 ∧ v1 = wx)
                  case first =>
                    by_cases hC1 : C = 0
                    · have hd : decide (C = 0) = true := by simp [hC1]
                      rw [hd]
                      have HC1 := hide hC1
                      clear hC1 hd
                      go_wp2
                      go_meet
                      exact ⟨by rw [unhide HFL, if_pos ⟨unhide HC1, by simpa [hasB] using unhide HA⟩, List.length_append, unhide HL]; rfl, rfl⟩
                    · have hd : decide (C = 0) = false := by simp [hC1]
                      rw [hd]
                      have HC1 := hide hC1
                      clear hC1 hd
                      go_wp2
                      go_meet
                      exact ⟨by rw [unhide HFL, if_neg (fun h => (unhide HC1) h.1), unhide HL], rfl⟩
                  case rest =>
                    obtain ⟨rfl, rfl⟩ := hcut
                    go_upto_region 39 with fail
                    go_cut [159] (fun s wx => s = .bool false ∧ v1 = wx)
                    case first =>
                      by_cases hS : st ≤ O
                      · go_wp2
                        go_meet
                        exact ⟨rfl, rfl⟩
                      · go_wp2
                        go_meet
                        exact ⟨rfl, rfl⟩
                    case rest =>
                      obtain ⟨rfl, rfl⟩ := hcut
                      go_wp2_with fail
                      go_quiet ((go_at_call 22; exact Calls.quiet_of_same ((unhide HHL) _)))
                      go_wp2_with fail
                      generalize hv2 : v1.drewN nq = v2
                      have g1 : v2.cell? ⟨p1, o1 + k, none⟩ = some (.int .i64 O) := by rw [← hv2]; exact g1
                      have g2 : v2.cell? ⟨p2, o2 + k, none⟩ = some (.int .i64 T) := by rw [← hv2]; exact g2
                      have HO3 : Hid (∀ m, Calls Trym.prog 23 #[.map (some w3'.heap.size), .int .i64 X, .int .i64 C] (v2.drewN m) fun e w' => e = .returned (.int .i64 O) ∧ w' = v2.drewN m) := fun m => by rw [← hv2, World.drewN_drewN]; exact (unhide HHO) (nq + m)
                      have HT3 : Hid (∀ m, Calls Trym.prog 24 #[.map (some w3'.heap.size), .int .i64 X, .int .i64 C] (v2.drewN m) fun e w' => e = .returned (.int .i64 Wt) ∧ w' = v2.drewN m) := fun m => by rw [← hv2, World.drewN_drewN]; exact (unhide HHT) (nq + m)
                      have HM2 : Hid (MapIs v2 W6.heap.size (k + 1) (cntF ids (k + 1))) := by rw [← hv2]; exact unhide HM1
                      have HN2 : Hid (Below W6.heap.size W6 v2) := by rw [← hv2]; exact below_drewN (unhide HNV) _
                      clear hv2
                      go_quiet ((go_at_call 23; exact Calls.quiet_of_same ((unhide HO3) _)))
                      go_upto_region 47 with fail
                      go_cut [23, 197] (fun l s wx => l = .bool ((N : Int) - C - 1 == 0) ∧ s = .bool (decide ((N : Int) - C - 1 = 0 ∧ T < 0 ∧ O < st)) ∧ ∃ m, v2.drewN m = wx)
                      case first =>
                        by_cases hB : (N : Int) - C - 1 = 0
                        · have hBb : ((N : Int) - C - 1 == 0) = true := by simp [hB]
                          have HBb := hide hBb
                          have HB := hide hB
                          clear hB
                          by_cases hT : T < 0
                          · by_cases hS : O < st
                            · have hd : decide ((N : Int) - C - 1 = 0 ∧ T < 0 ∧ O < st) = true := decide_eq_true ⟨unhide HB, hT, hS⟩
                              have HD := hide hd
                              clear hd
                              go_wp2
                              go_meet
                              exact ⟨by rw [unhide HBb], by rw [unhide HD], _, rfl⟩
                            · have hd : decide ((N : Int) - C - 1 = 0 ∧ T < 0 ∧ O < st) = false := decide_eq_false (fun h => hS h.2.2)
                              have HD := hide hd
                              clear hd
                              go_wp2
                              go_meet
                              exact ⟨by rw [unhide HBb], by rw [unhide HD], _, rfl⟩
                          · have hd : decide ((N : Int) - C - 1 = 0 ∧ T < 0 ∧ O < st) = false := decide_eq_false (fun h => hT h.2.1)
                            have HD := hide hd
                            clear hd
                            go_wp2
                            go_meet
                            exact ⟨by rw [unhide HBb], by rw [unhide HD], _, rfl⟩
                        · have hBb : ((N : Int) - C - 1 == 0) = false := by simp [hB]
                          have HBb := hide hBb
                          have hd : decide ((N : Int) - C - 1 = 0 ∧ T < 0 ∧ O < st) = false := decide_eq_false (fun h => hB h.1)
                          have HD := hide hd
                          clear hd hB
                          go_wp2
                          go_meet
                          exact ⟨by rw [unhide HBb], by rw [unhide HD], _, rfl⟩
                      case rest =>
                        obtain ⟨rfl, rfl, m, rfl⟩ := hcut
                        go_upto_if 197 with fail
                        go_cut [25] (fun s wx => s = .int .i64 Wt ∧ v2.drewN m = wx)
                        case first =>
                          by_cases hQ : (N : Int) - C - 1 = 0 ∧ T < 0 ∧ O < st
                          · have hd : decide ((N : Int) - C - 1 = 0 ∧ T < 0 ∧ O < st) = true := decide_eq_true hQ
                            rw [hd]
                            have HQ := hide hQ
                            clear hQ hd
                            go_wp2
                            go_meet
                            exact ⟨by rw [← unhide HW, if_pos (unhide HQ)], rfl⟩
                          · have hd : decide ((N : Int) - C - 1 = 0 ∧ T < 0 ∧ O < st) = false := decide_eq_false hQ
                            rw [hd]
                            have HQ := hide hQ
                            clear hQ hd
                            go_wp2
                            go_meet
                            exact ⟨by rw [← unhide HW, if_neg (unhide HQ)], rfl⟩
                        case rest =>
                          obtain ⟨rfl, rfl⟩ := hcut
                          go_wp2_with (go_at_call 24; refine ((unhide HT3) _).mono ?_; rintro e w' ⟨rfl, hww⟩; obtain rfl := hww.symm)
                          go_roundg (n - (k + 1))
                          case measure => omega
                          case rel => exact ⟨k + 1, by omega, rfl, by go_num, by rw [unhide HL1], unhide HM2, below_drewN (unhide HN2) _⟩
            · have hkn : n = k := by omega
              subst hkn
              obtain ⟨blk, cap, hmP, _, _⟩ := hpu.below hnq
              have hN : ∀ ks : List Int, ks.Nodup → (∀ x, x ∈ ks ↔ (hdr E blk cap x).isSome = true) → ks.length = (firsts ids (hasB E) n).length := fun ks h1 h2 => firsts_all (unhide HE4) h1 (fun x => by
                rw [h2 x]
                by_cases h0 : (E x).length = 0
                · rw [hdr_nil h0]; simp [h0]
                · rw [hdr_some h0]; simp [h0])
              have HN := hide hN
              clear hN
              generalize (firsts ids (hasB E) n).length = L at HN ⊢
              go_wp2_with (at_len; refine wpList_len_raw _ rfl (.tmp 205) 34 rfl 49 Trym.underlying34 w3'.heap.size n _ rfl hmP L (unhide HN) ?_)
              go_ret
              exact ⟨rfl, K6.trans (hnq.mono K6.size)⟩
end Go.Proofs.Qxb6600141aMods
