/-
  FnProducersExpireForgetsUnstampedABoundLater: the walk.
-/
import Derived.Test.Qxb6600141aModsForgets
namespace Go.Proofs.Qxb6600141aMods
open Go.RowKit
set_option linter.unusedVariables false

set_option maxRecDepth 100000 in
set_option maxHeartbeats 8000000 in
theorem forgets_walk (w : World) (a0 a1 a2 : Option Addr) (l0 l1 l2 c0 c1 c2 : Nat) (z0 z1 z2 : List Int) (st no no2 bo : Int) (m0 : l0 ≤ maxLen) (m1 : l1 ≤ maxLen) (m2 : l2 ≤ maxLen) (e0 : z0.length = l0) (e1 : z1.length = l1) (e2 : z2.length = l2)
    (n0 : a0 = none → l0 = 0) (n1 : a1 = none → l1 = 0) (n2 : a2 = none → l2 = 0) (r0 : Row w .i64 a0 z0) (r1 : Row w .i64 a1 z1) (r2 : Row w .i64 a2 z2)
    (v4 : (Lit.int .i64 no).wf = true) (v5 : (Lit.int .i64 no2).wf = true) (v6 : (Lit.int .i64 bo).wf = true) :
    Calls Trym.prog 8 #[.slice a0 l0 c0, .slice a1 l1 c1, .slice a2 l2 c2, .int .i64 st, .int .i64 no, .int .i64 no2, .int .i64 bo] w fun e w' => e = .returned (.bool true) ∧ Below w.heap.size w w' := by
  have m0' := m0
  have m1' := m1
  have m2' := m2
  unfold maxLen at m0 m1 m2
  go_enter Trym.func8, Trym.ntmps8
  go_wp2_with (go_at_call 26; refine (bytes26_any _ _ _ _ _ _ _ _ _ _ _ _ _ _ m0' m1' m2').mono ?_; rintro e w' ⟨t, rfl, rfl⟩)
  all_goals (first | (go_ret; exact ⟨rfl, Below.refl _ _⟩) | skip)
  have q0 : l0 ≤ 65536 := by omega
  have q1 : l1 ≤ 65536 := by omega
  have q2 : l2 ≤ 65536 := by omega
  have b0 : 0 ≤ no := by assumption
  have b1 : no ≤ no2 := by assumption
  have b2 : 0 ≤ bo := by omega
  have b3 := (bounds64 v5).2
  clear m0 m1 m2 m0' m1' m2' v4 v5 v6
  refine (clone64_any w' a0 l0 c0 z0 e0 (by omega) n0 r0).mono ?_
  rintro e w1 ⟨y0, rfl, n0', r0', k1⟩
  clear r0
  have r1 := r1.grown k1
  have r2 := r2.grown k1
  go_wp2_with fail
  refine (clone64_any w1 a1 l1 c1 z1 e1 (by omega) n1 r1).mono ?_
  rintro e w2 ⟨y1, rfl, n1', r1', k2⟩
  clear r1
  have r0' := r0'.grown k2
  have r2 := r2.grown k2
  go_wp2_with fail
  refine (clone64_any w2 a2 l2 c2 z2 e2 (by omega) n2 r2).mono ?_
  rintro e w3 ⟨y2, rfl, n2', r2', k3⟩
  clear r2
  have r0' := r0'.grown k3
  have r1' := r1'.grown k3
  have K3 : Below w'.heap.size w' w3 := (k1.trans (k2.mono k1.size)).trans (k3.mono (Nat.le_trans k1.size k2.size))
  clear k1 k2 k3 n0 n1 n2 n0' n1' n2'
  go_wp2_with fail
  refine (min3_any w3 l0 l1 l2 q0 q1 q2).mono ?_
  rintro e w3' ⟨rfl, rfl⟩
  obtain ⟨n, hn⟩ : ∃ n, min l0 (min l1 l2) = n := ⟨_, rfl⟩
  have hn0 : n ≤ l0 := by omega
  have hn1 : n ≤ l1 := by omega
  have hn2 : n ≤ l2 := by omega
  rw [hn]
  clear hn
  have s0 := slice_head w3' .i64 y0 l0 n z0 e0 r0' hn0
  have s1 := slice_head w3' .i64 y1 l1 n z1 e1 r1' hn1
  have s2 := slice_head w3' .i64 y2 l2 n z2 e2 r2' hn2
  go_wp2_with fail
  have x0 : Row w3'.drew .i64 y0 (z0.take n) := r0'.take n
  have x1 : Row w3'.drew .i64 y1 (z1.take n) := r1'.take n
  have x2 : Row w3'.drew .i64 y2 (z2.take n) := r2'.take n
  have hpo := producersOf_any w3'.drew y0 y1 y2 n l0 l1 l2 (z0.take n) (z1.take n) (z2.take n) (by omega) (by simp; omega) (by simp; omega) (by simp; omega) x0 x1 x2
  have HPO := hide hpo
  clear hpo
  go_region_with (go_at_call 16; refine (unhide HPO).mono ?_; rintro e w4 ⟨rfl, hps, k4⟩)
  have hps : Prods w4 w3'.heap.size n (grp (z0.take n) (z1.take n) (z2.take n) n) := hps
  have k4 : Below w3'.heap.size w3' w4 := below_of_drew k4
  have d0 : Row w4 .i64 y0 (z0.take n) := (r0'.take n).grown k4
  have d1 : Row w4 .i64 y1 (z1.take n) := (r1'.take n).grown k4
  have d2 : Row w4 .i64 y2 (z2.take n) := (r2'.take n).grown k4
  have K4 : Below w'.heap.size w' w4 := K3.trans (k4.mono K3.size)
  have h04 : w'.heap.size ≤ w4.heap.size := K4.size
  have hn6 : n ≤ 65536 := by omega
  have f0 : (z0.take n).length = n := by simp; omega
  have f1 : (z1.take n).length = n := by simp; omega
  have f2 : (z2.take n).length = n := by simp; omega
  clear r0' r1' r2' x0 x1 x2 HPO k4 K3 e0 e1 e2
  generalize z0.take n = ids at hps d0 f0
  generalize z1.take n = offs at hps d1 f1
  generalize z2.take n = lats at hps d2 f2
  have x0 : Row w4.drew .i64 y0 ids := d0
  have x1 : Row w4.drew .i64 y1 offs := d1
  have x2 : Row w4.drew .i64 y2 lats := d2
  have HPO := hide (producersOf_any w4.drew y0 y1 y2 n l0 l1 l2 ids offs lats hn6 f0 f1 f2 x0 x1 x2)
  clear x0 x1 x2
  go_wp2_with fail
  go_region_with (go_at_call 16; refine (unhide HPO).mono ?_; rintro e w5 ⟨rfl, hpt, k5⟩)
  have hpt : Prods w5 w4.heap.size n (grp ids offs lats n) := hpt
  have k5 : Below w4.heap.size w4 w5 := below_of_drew k5
  clear HPO s0 s1 s2
  go_wp2_with fail
  refine (expire20_any w5 w4.heap.size n (grp ids offs lats n) st no bo hn6 (grp_len_le hn6) hpt).mono ?_
  rintro e w6 ⟨rfl, hpe, k6⟩
  have K6 : Below w4.heap.size w4 w6 := k5.trans k6
  have t0 := d0.grown K6
  have t1 := d1.grown K6
  have t2 := d2.grown K6
  have hpp := hps.below K6
  have K7 : Below w'.heap.size w' w6 := K4.trans (K6.mono h04)
  have hpq0 : ∀ w7, Below w4.heap.size w6 w7 → Prods w7 w3'.heap.size n (grp ids offs lats n) := fun w7 h => hps.below (K6.trans h)
  have hr0 : ∀ w7, Below w4.heap.size w6 w7 → Row w7 .i64 y0 ids := fun w7 h => d0.grown (K6.trans h)
  clear K6 k5 k6 K4 d0 d1 d2 hps hpt
  go_wp2_with fail
  go_loop [18] (fun i => ∃ k : Nat, k ≤ n ∧ i = .int .i64 k) (fun i => n - (intOf i).toNat)
  case atStart => exact ⟨0, Nat.zero_le _, rfl⟩
  case round =>
    obtain ⟨k, hk, rfl⟩ := hrel
    by_cases hlt : k < n
    · obtain ⟨p0, o0, rfl, hb0, hc0⟩ := t0.cells f0 (by omega)
      have g0 := hc0 k hlt
      have hwX : (Lit.int .i64 (ids.getD k 0)).wf = true := t0.2 _ (getD_mem (by omega))
      obtain ⟨lo, ll, M, hM6, hlast, hM, hl1, hl2, cL, cO, cT⟩ := last_reads hpp hlt hn6 hwX f2 t2.2
      have hq8 : (k : Int) < (l0 : Int) := by omega
      have HHL := hide cL
      have HHO := hide cO
      have HHT := hide cT
      have HLAST := hide hlast
      have HM := hide hM
      clear hc0 cL cO cT hlast hM
      generalize ids.getD k 0 = X at g0 hwX HHL HHO HHT HLAST HM
      by_cases hS : st ≤ lo
      · have hH := has_yes hwX hpe (fg_late (no2 := no2) (unhide HLAST) hS).1
        go_wp2_with fail
        refine (unhide HHL).mono ?_
        rintro e wz ⟨rfl, rfl⟩
        go_wp2_with fail
        refine (unhide HHO).mono ?_
        rintro e wz ⟨rfl, rfl⟩
        go_wp2_with fail
        refine (unhide HHT).mono ?_
        rintro e wz ⟨rfl, rfl⟩
        go_wp2_with fail
        refine hH.mono ?_
        rintro e wz ⟨rfl, rfl⟩
        go_wp2
        go_round
        case rel => exact ⟨k + 1, by omega, by go_num⟩
        case measure => simp [intOf]; omega
      · have hS' : lo < st := by omega
        by_cases hT : ll < 0
        · have hst := fg_stamp (no := no) (unhide HLAST) hS' hT b2
          have hH := has_yes (x := X) hwX hpe (by show (expOne st no bo (grp ids offs lats n X)).length ≠ 0; rw [hst]; simp)
          have hHT2 : Calls Trym.prog 24 #[.map (some w4.heap.size), .int .i64 X, .int .i64 M] w6 (fun e w' => e = .returned (.int .i64 no) ∧ w6 = w') :=
            (heldLatest_any w6 w4.heap.size n _ X M (lo, no) hwX hpe (by show (expOne st no bo (grp ids offs lats n X))[M]? = _; rw [hst]; exact stamp_at (unhide HM)) (by show (expOne st no bo (grp ids offs lats n X)).length ≤ 65536; rw [hst]; simp; rw [unhide HM]; omega)).mono (fun e w' he => ⟨he.1, he.2.symm⟩)
          have HHT2 := hide hHT2
          clear hst hHT2
          go_wp2_with fail
          refine (unhide HHL).mono ?_
          rintro e wz ⟨rfl, rfl⟩
          go_wp2_with fail
          refine (unhide HHO).mono ?_
          rintro e wz ⟨rfl, rfl⟩
          go_wp2_with fail
          refine (unhide HHT).mono ?_
          rintro e wz ⟨rfl, rfl⟩
          go_wp2_with fail
          refine hH.mono ?_
          rintro e wz ⟨rfl, rfl⟩
          go_wp2_with fail
          refine (unhide HHT2).mono ?_
          rintro e wz ⟨rfl, rfl⟩
          go_wp2
          go_round
          case rel => exact ⟨k + 1, by omega, by go_num⟩
          case measure => simp [intOf]; omega
        · have hold := fg_old (no := no) (bo := bo) (unhide HLAST) hS' hT b0 (by omega) hl1
          by_cases hB : no - ll ≤ bo
          · have hH := has_yes (x := X) hwX hpe (by show (expOne st no bo (grp ids offs lats n X)).length ≠ 0; rw [hold.1 hB, unhide HM]; omega)
            clear hold
            go_wp2_with fail
            refine (unhide HHL).mono ?_
            rintro e wz ⟨rfl, rfl⟩
            go_wp2_with fail
            refine (unhide HHO).mono ?_
            rintro e wz ⟨rfl, rfl⟩
            go_wp2_with fail
            refine (unhide HHT).mono ?_
            rintro e wz ⟨rfl, rfl⟩
            go_wp2_with fail
            refine hH.mono ?_
            rintro e wz ⟨rfl, rfl⟩
            go_wp2
            go_round
            case rel => exact ⟨k + 1, by omega, by go_num⟩
            case measure => simp [intOf]; omega
          · have hH := has_no (x := X) hwX hpe (by show (expOne st no bo (grp ids offs lats n X)).length = 0; rw [hold.2 hB]; rfl)
            clear hold
            go_wp2_with fail
            refine (unhide HHL).mono ?_
            rintro e wz ⟨rfl, rfl⟩
            go_wp2_with fail
            refine (unhide HHO).mono ?_
            rintro e wz ⟨rfl, rfl⟩
            go_wp2_with fail
            refine (unhide HHT).mono ?_
            rintro e wz ⟨rfl, rfl⟩
            go_wp2_with fail
            refine hH.mono ?_
            rintro e wz ⟨rfl, rfl⟩
            go_wp2
            go_round
            case rel => exact ⟨k + 1, by omega, by go_num⟩
            case measure => simp [intOf]; omega
    · go_wp2_with fail
      have hE6 : ∀ x, (expOne st no bo (grp ids offs lats n x)).length ≤ 65536 := fun x => by
        by_cases h0 : (expOne st no bo (grp ids offs lats n x)).length = 0
        · omega
        · rw [expOne_length h0]; exact grp_len_le hn6 x
      refine (expire20_any w6 w4.heap.size n (fun x => expOne st no bo (grp ids offs lats n x)) st no2 bo hn6 hE6 hpe).mono ?_
      rintro e w7 ⟨rfl, hpf, k7⟩
      have hpq : Prods w7 w3'.heap.size n (grp ids offs lats n) := hpq0 w7 k7
      have u0 : Row w7 .i64 y0 ids := hr0 w7 k7
      have K8 : Below w'.heap.size w' w7 := K7.trans (k7.mono h04)
      clear hE6 k7 K7 t0 t1 hpp hpe hpq0 hr0
      go_wp2_with fail
      go_loop [25] (fun i => ∃ k : Nat, k ≤ n ∧ i = .int .i64 k) (fun i => n - (intOf i).toNat)
      case atStart => exact ⟨0, Nat.zero_le _, rfl⟩
      case round =>
        obtain ⟨k, hk, rfl⟩ := hrel
        by_cases hlt : k < n
        · obtain ⟨p0, o0, rfl, hb0, hc0⟩ := u0.cells f0 (by omega)
          have g0 := hc0 k hlt
          have hwX : (Lit.int .i64 (ids.getD k 0)).wf = true := u0.2 _ (getD_mem (by omega))
          obtain ⟨lo, ll, M, hM6, hlast, hM, hl1, hl2, cL, cO, cT⟩ := last_reads hpq hlt hn6 hwX f2 t2.2
          have hq8 : (k : Int) < (l0 : Int) := by omega
          have HHL := hide cL
          have HHO := hide cO
          have HHT := hide cT
          have HLAST := hide hlast
          have HM := hide hM
          clear hc0 cL cO cT hlast hM
          generalize ids.getD k 0 = X at g0 hwX HHL HHO HHT HLAST HM
          by_cases hS : st ≤ lo
          · have hH := has_yes (x := X) hwX hpf (fg_late (no2 := no2) (unhide HLAST) hS).2
            go_wp2_with fail
            refine (unhide HHL).mono ?_
            rintro e wz ⟨rfl, rfl⟩
            go_wp2_with fail
            refine (unhide HHO).mono ?_
            rintro e wz ⟨rfl, rfl⟩
            go_wp2_with fail
            refine (unhide HHT).mono ?_
            rintro e wz ⟨rfl, rfl⟩
            go_wp2_with fail
            refine hH.mono ?_
            rintro e wz ⟨rfl, rfl⟩
            go_wp2
            go_round
            case rel => exact ⟨k + 1, by omega, by go_num⟩
            case measure => simp [intOf]; omega
          · have hS' : lo < st := by omega
            by_cases hT : ll < 0
            · have hst := fg_stamped (bo := bo) (no := no) (no2 := no2) (unhide HLAST) hS' hT b2 b0 b1 b3
              by_cases hB : no2 - no ≤ bo
              · have hH := has_yes (x := X) hwX hpf (hst.1 hB)
                clear hst
                go_wp2_with fail
                refine (unhide HHL).mono ?_
                rintro e wz ⟨rfl, rfl⟩
                go_wp2_with fail
                refine (unhide HHO).mono ?_
                rintro e wz ⟨rfl, rfl⟩
                go_wp2_with fail
                refine (unhide HHT).mono ?_
                rintro e wz ⟨rfl, rfl⟩
                go_wp2_with fail
                refine hH.mono ?_
                rintro e wz ⟨rfl, rfl⟩
                go_wp2
                go_round
                case rel => exact ⟨k + 1, by omega, by go_num⟩
                case measure => simp [intOf]; omega
              · have hH := has_no (x := X) hwX hpf (hst.2 hB)
                clear hst
                go_wp2_with fail
                refine (unhide HHL).mono ?_
                rintro e wz ⟨rfl, rfl⟩
                go_wp2_with fail
                refine (unhide HHO).mono ?_
                rintro e wz ⟨rfl, rfl⟩
                go_wp2_with fail
                refine (unhide HHT).mono ?_
                rintro e wz ⟨rfl, rfl⟩
                go_wp2_with fail
                refine hH.mono ?_
                rintro e wz ⟨rfl, rfl⟩
                go_wp2
                go_round
                case rel => exact ⟨k + 1, by omega, by go_num⟩
                case measure => simp [intOf]; omega
            · have hold := fg_older (bo := bo) (no := no) (no2 := no2) (unhide HLAST) hS' hT b2 b0 b1 b3 hl1
              by_cases hB : no2 - ll ≤ bo
              · have hH := has_yes (x := X) hwX hpf (hold.1 hB)
                clear hold
                go_wp2_with fail
                refine (unhide HHL).mono ?_
                rintro e wz ⟨rfl, rfl⟩
                go_wp2_with fail
                refine (unhide HHO).mono ?_
                rintro e wz ⟨rfl, rfl⟩
                go_wp2_with fail
                refine (unhide HHT).mono ?_
                rintro e wz ⟨rfl, rfl⟩
                go_wp2_with fail
                refine hH.mono ?_
                rintro e wz ⟨rfl, rfl⟩
                go_wp2
                go_round
                case rel => exact ⟨k + 1, by omega, by go_num⟩
                case measure => simp [intOf]; omega
              · have hH := has_no (x := X) hwX hpf (hold.2 hB)
                clear hold
                go_wp2_with fail
                refine (unhide HHL).mono ?_
                rintro e wz ⟨rfl, rfl⟩
                go_wp2_with fail
                refine (unhide HHO).mono ?_
                rintro e wz ⟨rfl, rfl⟩
                go_wp2_with fail
                refine (unhide HHT).mono ?_
                rintro e wz ⟨rfl, rfl⟩
                go_wp2_with fail
                refine hH.mono ?_
                rintro e wz ⟨rfl, rfl⟩
                go_wp2
                go_round
                case rel => exact ⟨k + 1, by omega, by go_num⟩
                case measure => simp [intOf]; omega
        · go_wp2
          go_ret
          exact ⟨rfl, K8⟩
end Go.Proofs.Qxb6600141aMods
