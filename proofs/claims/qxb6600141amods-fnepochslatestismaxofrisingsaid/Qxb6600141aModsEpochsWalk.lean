/-
  FnEpochsLatestIsMaxOfRising: the walk.
-/
import Derived.Test.Qxb6600141aModsEpochs
import Derived.BigQuiet
import Derived.Deep.QuietTactic
namespace Go.Proofs.Qxb6600141aMods
open Go.RowKit

/-- The numbers rise up to place k. -/
def Rises (zs : List Int) (k : Nat) : Prop := ∀ j, j + 1 < k → zs.getD j 0 ≤ zs.getD (j + 1) 0

theorem Rises.le {zs : List Int} {n : Nat} (h : Rises zs n) : ∀ i j, i ≤ j → j < n → zs.getD i 0 ≤ zs.getD j 0 := by
  intro i j hij
  induction j with
  | zero => intro _; have : i = 0 := by omega
            subst this; exact Int.le_refl _
  | succ j ih =>
    intro hj
    by_cases e : i = j + 1
    · subst e; exact Int.le_refl _
    · exact Int.le_trans (ih (by omega) (by omega)) (h j hj)

set_option maxHeartbeats 1000000 in
theorem epochs_walk (w : World) (a : Option Addr) (len cap : Nat) (zs : List Int) (hm : len ≤ maxLen) (hz : zs.length = len) (hn : a = none → len = 0) (hr : Row w .i32 a zs) :
    Calls Trym.prog 3 #[.slice a len cap] w fun e w' => e = .returned (.bool true) ∧ Below w.heap.size w w' := by
  unfold maxLen at hm
  go_enter Trym.func3, Trym.ntmps3
  go_wp2_with (go_at_call 9; refine (bytes9_any _ _ _ _ (by unfold maxLen; omega)).mono ?_; rintro e w' ⟨t, rfl, rfl⟩)
  all_goals (first | (go_ret; exact ⟨rfl, Below.refl _ _⟩) | skip)
  have hlen : len ≤ 65536 := by omega
  clear hm
  go_loopw [3] (fun i wr => ∃ k : Nat, (k ≤ len ∨ k = 1) ∧ 1 ≤ k ∧ i = .int .i64 k ∧ Rises zs k ∧ Below w'.heap.size w' wr)
    (fun i _ => len - (intOf i).toNat)
  case atStart => exact ⟨1, .inr rfl, Nat.le_refl _, rfl, (fun j hj => by omega), Below.refl _ _⟩
  case round =>
    obtain ⟨k, hk, hk1, rfl, hrise, hnx⟩ := hrel
    by_cases hlt : k < len
    · obtain ⟨b, off, rfl, hb, hc⟩ : ∃ b off, a = some ⟨b, off, none⟩ ∧ b < w'.heap.size ∧ ∀ i, i < len → w'.cell? ⟨b, off + i, none⟩ = some (.int .i32 (zs.getD i 0)) := by
        rcases hr.1 with h1 | ⟨b, off, h1, h2, h3⟩
        · rw [h1] at hz; simp at hz; omega
        · exact ⟨b, off, h1, h2, fun i hi => h3 i (by omega)⟩
      obtain ⟨m, rfl⟩ : ∃ m, k = m + 1 := ⟨k - 1, by omega⟩
      have hcx : wr.cell? ⟨b, off + (m + 1), none⟩ = some (.int .i32 (zs.getD (m + 1) 0)) := (hnx.cell (p := ⟨b, off + (m + 1), none⟩) hb).trans (hc (m + 1) hlt)
      have hcy : wr.cell? ⟨b, off + m, none⟩ = some (.int .i32 (zs.getD m 0)) := (hnx.cell (p := ⟨b, off + m, none⟩) hb).trans (hc m (by omega))
      have HR := hide hrise
      generalize hX : zs.getD (m + 1) 0 = X at hcx
      generalize hY : zs.getD m 0 = Y at hcy
      have HX := hide hX
      have HY := hide hY
      clear hrise hc hX hY
      go_wp2
      go_quiet (fail)
      go_wp2
      · go_ret
        exact ⟨rfl, below_drewN hnx _⟩
      · have hge : zs.getD m 0 ≤ zs.getD (m + 1) 0 := by
          rw [unhide HX, unhide HY]
          have h1 : Y ≤ X := by assumption
          exact h1
        go_roundw
        case rel =>
          refine ⟨m + 2, .inl (by omega), by omega, by go_num, ?_, below_drewN hnx _⟩
          intro j hj
          by_cases e : j = m
          · subst e; exact hge
          · exact (unhide HR) j (by omega)
        case measure => simp [intOf]; omega
    · have hkl : len ≤ k := by omega
      have hrise' : Rises zs len := fun j hj => hrise j (by omega)
      have HR := hide hrise'
      have hr1 := hr.grown hnx
      clear hrise hrise' hr
      go_wp2_with fail
      refine (clone32_any wr a len cap zs hz (by omega) hn hr1).mono ?_
      rintro e w1 ⟨a1, rfl, hn1, hr2, hb1⟩
      clear hr1
      go_wp2_with fail
      refine (epochsOf_any w1 a1 len len zs hz hlen hr2).mono ?_
      rintro e w2 ⟨rfl, hc2, hs2, hb2⟩
      go_wp2_with fail
      obtain ⟨G, hG⟩ : ∃ G, (if len = 0 then (-1 : Int) else zs.getD (len - 1) 0) = G := ⟨_, rfl⟩
      have hla := epochsLatest_any w2 w1.heap.size len len zs hlen hc2
      rw [hG] at hla
      refine hla.mono ?_
      rintro e w3 ⟨rfl, rfl⟩
      have hbel : Below w'.heap.size w' w3 := (hnx.trans (hb1.mono hnx.size)).trans (hb2.mono (Nat.le_trans hnx.size hb1.size))
      have hr3 := hr2.grown hb2
      clear hla hc2
      by_cases h0 : len = 0
      · rw [if_pos h0] at hG
        subst hG h0
        go_wp2
        go_ret
        exact ⟨rfl, hbel⟩
      · rw [if_neg h0] at hG
        have HG := hide hG
        obtain ⟨b, off, rfl, hb, hc⟩ : ∃ b off, a1 = some ⟨b, off, none⟩ ∧ b < w3.heap.size ∧ ∀ i, i < len → w3.cell? ⟨b, off + i, none⟩ = some (.int .i32 (zs.getD i 0)) := by
          rcases hr3.1 with h1 | ⟨b, off, h1, h2, h3⟩
          · rw [h1] at hz; simp at hz; omega
          · exact ⟨b, off, h1, h2, fun i hi => h3 i (by omega)⟩
        have hc0 : w3.cell? ⟨b, off, none⟩ = some (.int .i32 (zs.getD 0 0)) := hc 0 (by omega)
        generalize hT0 : zs.getD 0 0 = T0 at hc0
        have HT0 := hide hT0
        have hlp : 0 < len := by omega
        have HC := hide hc
        clear hG hT0 hr2 hr3 hb1 hb2 hc
        go_wp2
        go_loop [5, 6] (fun t i => ∃ k : Nat, k + 1 ≤ len ∧ i = .int .i64 (k + 1 : Int) ∧ t = .int .i32 (zs.getD k 0)) (fun _ i => len - (intOf i).toNat)
        case atStart => exact ⟨0, by omega, rfl, by rw [unhide HT0]⟩
        case round =>
          obtain ⟨k2, hk2, rfl, rfl⟩ := hrel
          by_cases hlt2 : k2 + 1 < len
          · have hcx := (unhide HC) (k2 + 1) hlt2
            have hle := (unhide HR) k2 hlt2
            generalize hX : zs.getD (k2 + 1) 0 = X at hcx hle
            generalize hY : zs.getD k2 0 = Y at hle
            have HX := hide hX
            clear hX hY
            go_wp2
            · go_round
              case rel => exact ⟨k2 + 1, by omega, by go_num, by rw [unhide HX]⟩
              case measure => simp [intOf]; omega
            · go_round
              case rel =>
                have h1 : X ≤ Y := by assumption
                have e : X = Y := by omega
                exact ⟨k2 + 1, by omega, by go_num, by rw [unhide HX, e]⟩
              case measure => simp [intOf]; omega
          · have hk3 : k2 = len - 1 := by omega
            subst hk3
            rw [unhide HG]
            go_wp2
            go_loop [7] (fun i => ∃ k : Nat, k ≤ len ∧ i = .int .i64 k) (fun i => len - (intOf i).toNat)
            case atStart => exact ⟨0, by omega, rfl⟩
            case round =>
              obtain ⟨k4, hk4, rfl⟩ := hrel
              by_cases hlt4 : k4 < len
              · have hcx := (unhide HC) k4 hlt4
                have hle := (unhide HR).le k4 (len - 1) (by omega) (by omega)
                rw [unhide HG] at hle
                generalize zs.getD k4 0 = X at hcx hle
                go_wp2
                go_round
                case rel => exact ⟨k4 + 1, by omega, by go_num⟩
                case measure => simp [intOf]; omega
              · go_wp2
                go_ret
                exact ⟨rfl, hbel⟩
end Go.Proofs.Qxb6600141aMods
