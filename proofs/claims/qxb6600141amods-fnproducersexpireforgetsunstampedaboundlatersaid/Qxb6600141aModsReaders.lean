/-
  ZZHas, ZZHeldLen, ZZHeldOffset, ZZHeldLatest, zzMin3, the zzBytes: their contracts.
-/
import Derived.Test.Qxb6600141aModsProducers
namespace Go.Proofs.Qxb6600141aMods
open Go.RowKit
set_option linter.unusedVariables false

theorem hdr_nil {G : Int → List (Int × Int)} {blk cap : Int → Nat} {x : Int} (h : (G x).length = 0) : hdr G blk cap x = none := by simp [hdr, h]
theorem hdr_some {G : Int → List (Int × Int)} {blk cap : Int → Nat} {x : Int} (h : (G x).length ≠ 0) : hdr G blk cap x = some (.slice (some ⟨blk x, 0, none⟩) (G x).length (cap x)) := by simp [hdr, h]

/-- THE RANGE's STEP OVER THE PRODUCERS: the slice under the key is written out. -/
theorem wpList_next_hdr (w : World) {ops : Array Oper} {rest : List Oper} {o : Oper} {a : Act} {Q : Exit → Act → World → Prop} (hg : o.guard = none) (it : Operand) (hop : o.op = Op.next it false) (b r n : Nat) (H : Int → List (Int × Int)) (blk cap : Int → Nat) (left : Int → Bool) (cnt : Nat)
    (hit : a.eval it = .pointer (some ⟨r, 0, none⟩)) (h : RangeIs w b r n (hdr H blk cap) left cnt)
    (hDone : (∀ x, left x = false) → wpList Trym.prog ops Q rest (a.put o.dst (.tuple #[.bool false])) w)
    (hMore : ∀ (x : Int) (w' : World) (cnt' : Nat), (Lit.int .i64 x).wf = true → left x = true → (H x).length ≠ 0 → RangeIs w' b r n (hdr H blk cap) (strike left x) cnt' → cnt' < cnt →
      w.grownBy w' (some r) → w'.heap.size = w.heap.size → (Instr.entry (.pointer (some ⟨r, 0, none⟩))).run Trym.prog w' = .ok (.tuple #[.int .i64 x, .slice (some ⟨blk x, 0, none⟩) (H x).length (cap x)]) w' →
      wpList Trym.prog ops Q rest (a.put o.dst (.tuple #[.bool true, .int .i64 x, .slice (some ⟨blk x, 0, none⟩) (H x).length (cap x)])) w') :
    wpList Trym.prog ops Q (o :: rest) a w := by
  refine wpList_next_raw w hg it hop (fun v : Value => v) b r n _ left cnt (fun x v _ => ⟨v, rfl⟩) hit h (fun _ hl => hDone hl) (fun x c w' cnt' hwx hlx hF hrg hlt hgr hsz hen => ?_)
  by_cases h0 : (H x).length = 0
  · rw [hdr_nil h0] at hF
    cases hF
  · rw [hdr_some h0] at hF
    have hc : Value.slice (some ⟨blk x, 0, none⟩) (H x).length (cap x) = c := Option.some.inj hF
    subst hc
    exact hMore x w' cnt' hwx hlx h0 hrg hlt hgr hsz hen

set_option maxHeartbeats 400000 in
theorem has_any (w : World) (b n : Nat) (G : Int → List (Int × Int)) (x : Int) (hx : (Lit.int .i64 x).wf = true) (hp : Prods w b n G) :
    Calls Trym.prog 21 #[.map (some b), .int .i64 x] w fun e w' => e = .returned (.bool (decide ((G x).length ≠ 0))) ∧ w' = w := by
  obtain ⟨blk, cap, h1, h2, h3⟩ := hp
  have hl := h1.look_ok Trym.underlying34 (zero49 _) hx
  by_cases h0 : (G x).length = 0
  · rw [hdr_nil h0] at hl
    simp only [Option.getD_none, Option.isSome_none] at hl
    have hd : decide ((G x).length ≠ 0) = false := by simp [h0]
    rw [hd]
    clear hd h0
    go_enter Trym.func21, Trym.ntmps21
    go_wp2
    go_ret
    exact ⟨rfl, rfl⟩
  · rw [hdr_some h0] at hl
    simp only [Option.getD_some, Option.isSome_some] at hl
    have hd : decide ((G x).length ≠ 0) = true := by simp [h0]
    rw [hd]
    clear hd
    go_enter Trym.func21, Trym.ntmps21
    go_wp2
    go_ret
    exact ⟨rfl, rfl⟩

set_option maxHeartbeats 400000 in
theorem heldLen_any (w : World) (b n : Nat) (G : Int → List (Int × Int)) (x : Int) (hx : (Lit.int .i64 x).wf = true) (hp : Prods w b n G) :
    Calls Trym.prog 22 #[.map (some b), .int .i64 x] w fun e w' => e = .returned (.int .i64 (G x).length) ∧ w' = w := by
  obtain ⟨blk, cap, h1, h2, h3⟩ := hp
  have hl := h1.look Trym.underlying34 (zero49 _) hx
  by_cases h0 : (G x).length = 0
  · rw [hdr_nil h0] at hl
    simp only [Option.getD_none] at hl
    rw [h0]
    clear h0
    go_enter Trym.func22, Trym.ntmps22
    go_wp2
    go_ret
    exact ⟨rfl, rfl⟩
  · rw [hdr_some h0] at hl
    simp only [Option.getD_some] at hl
    go_enter Trym.func22, Trym.ntmps22
    go_wp2
    go_ret
    exact ⟨rfl, rfl⟩

set_option maxHeartbeats 400000 in
theorem heldOffset_any (w : World) (b n : Nat) (G : Int → List (Int × Int)) (x : Int) (i : Nat) (p : Int × Int) (hx : (Lit.int .i64 x).wf = true) (hp : Prods w b n G) (hi : (G x)[i]? = some p) (hm : (G x).length ≤ 65536) :
    Calls Trym.prog 23 #[.map (some b), .int .i64 x, .int .i64 i] w fun e w' => e = .returned (.int .i64 p.1) ∧ w' = w := by
  obtain ⟨blk, cap, h1, h2, h3⟩ := hp
  have hl := h1.look Trym.underlying34 (zero49 _) hx
  have hlt : i < (G x).length := (List.getElem?_eq_some_iff.1 hi).1
  have h0 : (G x).length ≠ 0 := by omega
  rw [hdr_some h0] at hl
  simp only [Option.getD_some] at hl
  have hc : w.cell? ⟨blk x, i * 5, none⟩ = some (.int .i64 p.1) := by
    rw [(h2 x h0).cellAt (i * 5) (by omega)]
    exact recs_at _ i p hi 0 (by omega)
  clear h1 h2 h3 hi
  generalize blk x = B at hl hc
  generalize cap x = C at hl
  generalize (G x).length = L at hl hlt hm
  go_enter Trym.func23, Trym.ntmps23
  go_wp2
  go_ret
  exact ⟨rfl, rfl⟩

set_option maxHeartbeats 400000 in
theorem heldLatest_any (w : World) (b n : Nat) (G : Int → List (Int × Int)) (x : Int) (i : Nat) (p : Int × Int) (hx : (Lit.int .i64 x).wf = true) (hp : Prods w b n G) (hi : (G x)[i]? = some p) (hm : (G x).length ≤ 65536) :
    Calls Trym.prog 24 #[.map (some b), .int .i64 x, .int .i64 i] w fun e w' => e = .returned (.int .i64 p.2) ∧ w' = w := by
  obtain ⟨blk, cap, h1, h2, h3⟩ := hp
  have hl := h1.look Trym.underlying34 (zero49 _) hx
  have hlt : i < (G x).length := (List.getElem?_eq_some_iff.1 hi).1
  have h0 : (G x).length ≠ 0 := by omega
  rw [hdr_some h0] at hl
  simp only [Option.getD_some] at hl
  have hc : w.cell? ⟨blk x, i * 5 + 1, none⟩ = some (.int .i64 p.2) := by
    rw [(h2 x h0).cellAt (i * 5 + 1) (by omega)]
    exact recs_at _ i p hi 1 (by omega)
  clear h1 h2 h3 hi
  generalize blk x = B at hl hc
  generalize cap x = C at hl
  generalize (G x).length = L at hl hlt hm
  go_enter Trym.func24, Trym.ntmps24
  go_wp2
  go_ret
  exact ⟨rfl, rfl⟩

set_option maxHeartbeats 400000 in
theorem min3_any (w : World) (a b c : Nat) (ha : a ≤ 65536) (hb : b ≤ 65536) (hc : c ≤ 65536) :
    Calls Trym.prog 15 #[.int .i64 a, .int .i64 b, .int .i64 c] w fun e w' => e = .returned (.int .i64 (min a (min b c) : Nat)) ∧ w' = w := by
  go_enter Trym.func15, Trym.ntmps15
  go_wp2
  all_goals
    go_ret
    refine ⟨?_, rfl⟩
    show Ending.returned (.int .i64 _) = .returned (.int .i64 _)
    congr 2
    omega

set_option maxHeartbeats 400000 in
theorem bytes13_any (w : World) (a0 a1 a2 : Option Addr) (l0 l1 l2 c0 c1 c2 : Nat) (h0 : l0 ≤ maxLen) (h1 : l1 ≤ maxLen) (h2 : l2 ≤ maxLen) :
    Calls Trym.prog 13 #[.slice a0 l0 c0, .slice a1 l1 c1, .slice a2 l2 c2] w fun e w' => ∃ t, e = .returned (.bool t) ∧ w' = w := by
  unfold maxLen at h0 h1 h2
  go_enter Trym.func13, Trym.ntmps13
  go_wp2
  all_goals
    go_ret
    exact ⟨_, rfl, rfl⟩

set_option maxHeartbeats 400000 in
theorem bytes18_any (w : World) (a0 a1 a2 : Option Addr) (l0 l1 l2 c0 c1 c2 : Nat) (h0 : l0 ≤ maxLen) (h1 : l1 ≤ maxLen) (h2 : l2 ≤ maxLen) :
    Calls Trym.prog 18 #[.slice a0 l0 c0, .slice a1 l1 c1, .slice a2 l2 c2] w fun e w' => ∃ t, e = .returned (.bool t) ∧ w' = w := by
  unfold maxLen at h0 h1 h2
  go_enter Trym.func18, Trym.ntmps18
  go_wp2
  all_goals
    go_ret
    exact ⟨_, rfl, rfl⟩

set_option maxHeartbeats 400000 in
theorem bytes19_any (w : World) (a0 a1 a2 : Option Addr) (l0 l1 l2 c0 c1 c2 : Nat) (s3 : Int) (s4 : Int) (s5 : Int) (h0 : l0 ≤ maxLen) (h1 : l1 ≤ maxLen) (h2 : l2 ≤ maxLen) :
    Calls Trym.prog 19 #[.slice a0 l0 c0, .slice a1 l1 c1, .slice a2 l2 c2, .int .i64 s3, .int .i64 s4, .int .i64 s5] w fun e w' => ∃ t, e = .returned (.bool t) ∧ w' = w := by
  unfold maxLen at h0 h1 h2
  go_enter Trym.func19, Trym.ntmps19
  go_wp2
  all_goals
    go_ret
    exact ⟨_, rfl, rfl⟩

set_option maxHeartbeats 400000 in
theorem bytes26_any (w : World) (a0 a1 a2 : Option Addr) (l0 l1 l2 c0 c1 c2 : Nat) (s3 : Int) (s4 : Int) (s5 : Int) (s6 : Int) (h0 : l0 ≤ maxLen) (h1 : l1 ≤ maxLen) (h2 : l2 ≤ maxLen) :
    Calls Trym.prog 26 #[.slice a0 l0 c0, .slice a1 l1 c1, .slice a2 l2 c2, .int .i64 s3, .int .i64 s4, .int .i64 s5, .int .i64 s6] w fun e w' => ∃ t, e = .returned (.bool t) ∧ w' = w := by
  unfold maxLen at h0 h1 h2
  go_enter Trym.func26, Trym.ntmps26
  go_wp2
  all_goals
    go_ret
    exact ⟨_, rfl, rfl⟩

end Go.Proofs.Qxb6600141aMods
