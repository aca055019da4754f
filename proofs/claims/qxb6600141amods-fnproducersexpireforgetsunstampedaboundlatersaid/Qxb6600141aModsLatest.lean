/-
  producers.latest, ZZProducersLatest: their contract, in whatever order the range meets the producers.
-/
import Derived.Test.Qxb6600141aModsReaders
namespace Go.Proofs.Qxb6600141aMods
open Go.RowKit
set_option linter.unusedVariables false

/-- A set as what a map[int64]bool holds. -/
def setF (S : Int → Bool) : Int → Option Value := fun x => if S x = true then some (.bool true) else none

theorem setF_getD (S : Int → Bool) (x : Int) : (setF S x).getD (.bool false) = .bool (S x) := by
  unfold setF
  split
  · rename_i h; rw [h]; rfl
  · rename_i h
    have : S x = false := by simpa using h
    rw [this]; rfl

theorem setF_isSome (S : Int → Bool) (x : Int) : (setF S x).isSome = S x := by
  unfold setF
  split
  · rename_i h; rw [h]; rfl
  · rename_i h
    have : S x = false := by simpa using h
    rw [this]; rfl

def addS (S : Int → Bool) (x : Int) : Int → Bool := fun y => S y || (y == x)

theorem setF_upd (S : Int → Bool) (x : Int) : upd (setF S) x (.bool true) = setF (addS S x) := by
  funext y
  unfold upd setF addS
  by_cases e : y = x
  · subst e; simp
  · simp [e]

/-- Of a producer's batches the last five. -/
def lastFive (l : List (Int × Int)) : List (Int × Int) := l.drop (l.length - 5)

/-- S with the base offsets of the list. -/
def addL (S : Int → Bool) (l : List (Int × Int)) : Int → Bool := fun y => S y || l.any (fun p => p.1 == y)

theorem addL_nil (S : Int → Bool) : addL S [] = S := by funext y; simp [addL]

theorem addL_snoc (S : Int → Bool) (l : List (Int × Int)) (p : Int × Int) : addL S (l ++ [p]) = addS (addL S l) p.1 := by
  funext y
  unfold addL addS
  rw [List.any_append, Bool.or_assoc]
  simp [BEq.comm]

/-- The outer loop's relation. -/
def LatRel (w wr : World) (b n N : Nat) (G : Int → List (Int × Int)) (blk cap : Int → Nat) : Prop :=
  ∃ left cnt S, RangeIs wr b (w.heap.size + 1) n (hdr G blk cap) left cnt ∧ cnt ≤ N ∧ MapIs wr w.heap.size (5 * (N - cnt)) (setF S) ∧ (∀ o, S o = true ↔ ∃ x, left x = false ∧ ∃ p ∈ lastFive (G x), p.1 = o) ∧ Below w.heap.size w wr ∧ w.heap.size + 1 < wr.heap.size

theorem LatRel.mk' {w wr : World} {b n N : Nat} {G : Int → List (Int × Int)} {blk cap : Int → Nat} (left : Int → Bool) (cnt : Nat) (S : Int → Bool) (h1 : RangeIs wr b (w.heap.size + 1) n (hdr G blk cap) left cnt) (h2 : cnt ≤ N)
    (h3 : MapIs wr w.heap.size (5 * (N - cnt)) (setF S)) (h4 : ∀ o, S o = true ↔ ∃ x, left x = false ∧ ∃ p ∈ lastFive (G x), p.1 = o) (h5 : Below w.heap.size w wr) (h6 : w.heap.size + 1 < wr.heap.size) : LatRel w wr b n N G blk cap :=
  ⟨left, cnt, S, h1, h2, h3, h4, h5, h6⟩

/-- The inner loop's relation: j of the last batches have been laid. -/
def InRel (w wr : World) (b n c0 : Nat) (G : Int → List (Int × Int)) (blk cap : Int → Nat) (left : Int → Bool) (cnt : Nat) (S : Int → Bool) (l : List (Int × Int)) (j : Nat) : Prop :=
  RangeIs wr b (w.heap.size + 1) n (hdr G blk cap) left cnt ∧ MapIs wr w.heap.size (c0 + j) (setF (addL S (l.take j))) ∧ Below w.heap.size w wr ∧ w.heap.size + 1 < wr.heap.size

theorem in_round {w wr : World} {b n c0 : Nat} {G : Int → List (Int × Int)} {blk cap : Int → Nat} {left : Int → Bool} {cnt : Nat} {S : Int → Bool} {x : Int} {j lo : Nat}
    (h2 : ∀ x, (G x).length ≠ 0 → w.ownsRow (b + 1) 52 5 (.slice (some ⟨blk x, 0, none⟩) (G x).length (cap x)) (G x).length (recs (G x))) (hw : ∀ x, ∀ p ∈ G x, (Lit.int .i64 p.1).wf = true) (hbl : ∀ x, (G x).length ≠ 0 → b < blk x ∧ blk x < w.heap.size)
    (hin : InRel w wr b n c0 G blk cap left cnt S (lastFive (G x)) j) (hlo : (G x).length - 5 = lo) (hj : lo + j < (G x).length) :
    ∃ p, (lastFive (G x))[j]? = some p ∧ (Lit.int .i64 p.1).wf = true ∧ wr.cell? ⟨blk x, lo * 5 + j * 5, none⟩ = some (.int .i64 p.1) ∧ wr.cell? ⟨blk x, lo * 5 + j * 5 + 1, none⟩ = some (.int .i64 p.2) ∧ wr.cell? ⟨blk x, lo * 5 + j * 5 + 2, none⟩ = some (.int .i16 0) ∧
      wr.cell? ⟨blk x, lo * 5 + j * 5 + 3, none⟩ = some (.int .i32 0) ∧ wr.cell? ⟨blk x, lo * 5 + j * 5 + 4, none⟩ = some (.int .i32 0) := by
  have hx0 : (G x).length ≠ 0 := by omega
  have hp : (G x)[lo + j]? = some (G x)[lo + j] := List.getElem?_eq_getElem hj
  have hb := (hbl x hx0).2
  have hc : ∀ f v, f < 5 → (recOf (G x)[lo + j])[f]? = some v → wr.cell? ⟨blk x, lo * 5 + j * 5 + f, none⟩ = some v := fun f v hf hv => by
    rw [hin.2.2.1.cell (p := ⟨blk x, lo * 5 + j * 5 + f, none⟩) hb, show lo * 5 + j * 5 + f = (lo + j) * 5 + f by omega, (h2 x hx0).cellAt _ (by omega), recs_at _ _ _ hp f hf]
    exact hv
  refine ⟨(G x)[lo + j], ?_, hw x _ (List.getElem_mem _), hc 0 _ (by omega) rfl, hc 1 _ (by omega) rfl, hc 2 _ (by omega) rfl, hc 3 _ (by omega) rfl, hc 4 _ (by omega) rfl⟩
  unfold lastFive
  rw [List.getElem?_drop, hlo]
  exact hp

theorem in_step {w wr w2 : World} {b n c0 : Nat} {G : Int → List (Int × Int)} {blk cap : Int → Nat} {left : Int → Bool} {cnt : Nat} {S : Int → Bool} {l : List (Int × Int)} {j : Nat} {O T : Int} {o : Obj}
    (hin : InRel w wr b n c0 G blk cap left cnt S l j) (hb : b < w.heap.size) (hp : l[j]? = some (O, T)) (hm : MapIs w2 w.heap.size (c0 + j + 1) (upd (setF (addL S (l.take j))) O (.bool true))) (hg : (wr.alloc o).grownBy w2 (some w.heap.size)) :
    InRel w w2 b n c0 G blk cap left cnt S l (j + 1) := by
  obtain ⟨h1, h2, h3, h4⟩ := hin
  have ht : l.take (j + 1) = l.take j ++ [(O, T)] := by
    rw [List.take_add_one, hp]; rfl
  refine ⟨?_, ?_, ?_, ?_⟩
  · exact (h1.kept (World.grownBy_alloc wr o none) (by simp) (by simp)).kept hg (fun e => by have := Option.some.inj e; omega) (fun e => by have := Option.some.inj e; omega)
  · rw [ht, addL_snoc, ← setF_upd]
    exact hm
  · exact (h3.alloc (by omega) o).grown hg (by simp; omega) (fun k hk => by cases hk; exact Nat.le_refl _)
  · have := hg.size
    simp at this
    omega

theorem lat_step {w wr : World} {b n N cnt cnt1 m : Nat} {G : Int → List (Int × Int)} {blk cap : Int → Nat} {left : Int → Bool} {S : Int → Bool} {x : Int}
    (hin : InRel w wr b n (5 * (N - cnt)) G blk cap (strike left x) cnt1 S (lastFive (G x)) m) (hm : (lastFive (G x)).length ≤ m) (hm5 : m ≤ 5) (hc : cnt1 < cnt) (hN : cnt ≤ N)
    (hS : ∀ o, S o = true ↔ ∃ y, left y = false ∧ ∃ p ∈ lastFive (G y), p.1 = o) : LatRel w wr b n N G blk cap := by
  obtain ⟨h1, h2, h3, h4⟩ := hin
  rw [List.take_of_length_le hm] at h2
  refine LatRel.mk' (strike left x) cnt1 (addL S (lastFive (G x))) h1 (by omega) (h2.mono (by omega)) (fun o => ?_) h3 h4
  unfold addL
  rw [Bool.or_eq_true, hS o, List.any_eq_true]
  constructor
  · rintro (⟨y, hy, hp⟩ | ⟨p, hp, e⟩)
    · exact ⟨y, by simp [strike, hy], hp⟩
    · exact ⟨x, by simp [strike], p, hp, by simpa using e⟩
  · rintro ⟨y, hy, p, hp, e⟩
    by_cases hyx : y = x
    · subst hyx
      exact .inr ⟨p, hp, by simpa using e⟩
    · refine .inl ⟨y, ?_, p, hp, e⟩
      simpa [strike, hyx] using hy

theorem lastFive_length (l : List (Int × Int)) : (lastFive l).length = l.length - (l.length - 5) := by simp [lastFive]

set_option maxHeartbeats 2000000 in
theorem latest_any (w : World) (b n : Nat) (G : Int → List (Int × Int)) (hn : n ≤ 65536) (hG : ∀ x, (G x).length ≤ 65536) (hw : ∀ x, ∀ p ∈ G x, (Lit.int .i64 p.1).wf = true) (hp : Prods w b n G) :
    Calls Trym.prog 28 #[.map (some b)] w fun e w' => e = .returned (.map (some w.heap.size)) ∧ ∃ (S : Int → Bool) (ks : List Int), ks.Nodup ∧ (∀ x, x ∈ ks ↔ (G x).length ≠ 0) ∧ MapIs w' w.heap.size (5 * ks.length) (setF S) ∧
      (∀ o, S o = true ↔ ∃ x, ∃ p ∈ lastFive (G x), p.1 = o) ∧ Below w.heap.size w w' := by
  obtain ⟨blk, cap, h1, h2, h3⟩ := hp
  have hbw := h1.lt
  have hbl : ∀ x, (G x).length ≠ 0 → b < blk x ∧ blk x < w.heap.size := fun x hx => by have := (h2 x hx).lt (blk x) rfl; omega
  have HBL := hide hbl
  have H2 := hide h2
  have HW := hide hw
  have HG := hide hG
  have hmm := @run_makeMap Trym.prog
  have h1a : MapIs (w.alloc (.map #[] 0)) b n (hdr G blk cap) := h1.block (Below.heap_alloc _ _ _ hbw)
  clear hbl h2 h3 hw hG h1
  go_enter Trym.func28, Trym.ntmps28
  go_wp2_with (first | (at_range; refine wpList_range_raw _ rfl _ 34 rfl 49 Trym.underlying34 b n _ rfl h1a ?_; intro w0 ks hk1 hk2 hkn hrg0 hg0 hs0) | go_in)
  go_frame
  have e1 : (w.alloc (.map #[] 0)).heap.size = w.heap.size + 1 := by simp
  rw [e1] at hrg0 hs0 ⊢
  go_loopw [5] (fun _ wr => LatRel w wr b n ks.length G blk cap) (fun _ wr => wr.rangeLeft b (w.heap.size + 1))
  case atStart =>
    refine LatRel.mk' (fun x => (hdr G blk cap x).isSome) ks.length (fun _ => false) hrg0 (Nat.le_refl _) ?_ (fun o => ?_) (((Below.refl _ _).alloc (Nat.le_refl _) _).grown hg0 (by simp) (fun k h => by cases h)) (by omega)
    · rw [Nat.sub_self]
      exact ((MapIs.made w).kept hg0 (by simp)).of_eq (fun _ => rfl)
    · constructor
      · intro h; cases h
      · rintro ⟨x, hx, p, hp, _⟩
        by_cases h0 : (G x).length = 0
        · rw [List.eq_nil_of_length_eq_zero h0] at hp
          simp [lastFive] at hp
        · have hx' : (hdr G blk cap x).isSome = false := hx
          rw [hdr_some h0] at hx'
          cases hx'
  case round =>
    obtain ⟨left, cnt, S, hrg, hcN, hmS, hS, hnx, hsz⟩ := hrel
    have HS := hide hS
    have HNX := hide hnx
    have HMS := hide hmS
    clear hS hnx hmS h1a
    go_wp2_with (first | (at_next; refine wpList_next_hdr _ rfl _ rfl b (w.heap.size + 1) n _ blk cap left cnt rfl hrg ?_ ?_) | go_in)
    · intro hl0
      go_wp2
      go_ret
      refine ⟨rfl, S, ks, hk1, fun x => ?_, (unhide HMS).mono (by omega), fun o => ?_, unhide HNX⟩
      · rw [hk2 x]
        by_cases h0 : (G x).length = 0
        · rw [hdr_nil h0]; simp [h0]
        · rw [hdr_some h0]; simp [h0]
      · rw [(unhide HS) o]
        constructor
        · rintro ⟨x, _, h⟩; exact ⟨x, h⟩
        · rintro ⟨x, h⟩; exact ⟨x, hl0 x, h⟩
    · intro x w1 cnt1 hwx hlx hx0 hrg1 hlt hg1 hs1 hen
      have hx0 : (G x).length ≠ 0 := by simpa using hx0
      have hbx := (unhide HBL) x hx0
      have hG6 := (unhide HG) x
      have hrow : w1.ownsRow (b + 1) 52 5 (.slice (some ⟨blk x, 0, none⟩) (G x).length (cap x)) (G x).length (recs (G x)) :=
        ((unhide H2) x hx0).kept (row := none) ⟨((unhide HNX).os ▸ hg1.os), ((unhide HNX).tape ▸ hg1.tape), ((unhide HNX).output ▸ hg1.output), Nat.le_trans (unhide HNX).size hg1.size, fun k hk _ => (hg1.block k (by have := (unhide HNX).size; omega) (fun e => by have := Option.some.inj e; omega)).trans ((unhide HNX).block k hk)⟩ (.inr (by simp [Value.ownBlock]))
      have hcap : (G x).length ≤ cap x := by
        rcases hrow.2 with ⟨h, _⟩ | ⟨g, c, cur, h, _, _, h', _⟩
        · cases h
        · cases h; exact h'
      generalize hL : (G x).length = L at hen hx0 hG6 hcap ⊢
      generalize hgB : blk x = g at hen hbx ⊢
      generalize cap x = C at hen hcap ⊢
      have HL := hide hL
      have HGB := hide hgB
      have HROW := hide hrow
      have HRG1 := hide hrg1
      clear hrow hL hgB hrg1 hk1 hk2 hrg0
      have HIN : Hid (InRel w w1 b n (5 * (ks.length - cnt)) G blk cap (strike left x) cnt1 S (lastFive (G x)) 0) :=
        ⟨unhide HRG1, by rw [List.take_zero, addL_nil]; exact (unhide HMS).kept hg1 (fun e => by have := Option.some.inj e; omega), (unhide HNX).grown hg1 (by have := (unhide HNX).size; omega) (fun k hk => by have := Option.some.inj hk; omega), by omega⟩
      by_cases h5 : L < 5
      · have HL0 : Hid ((G x).length - 5 = 0) := by rw [unhide HL]; exact (by omega : L - 5 = 0)
        go_wp2
        go_loopw [22] (fun i wr => ∃ j : Nat, j ≤ L ∧ i = .int .i64 j ∧ InRel w wr b n (5 * (ks.length - cnt)) G blk cap (strike left x) cnt1 S (lastFive (G x)) j) (fun i _ => L - (intOf i).toNat)
        case atStart => exact ⟨0, Nat.zero_le _, rfl, unhide HIN⟩
        case round =>
          obtain ⟨j, hj, rfl, hin⟩ := hrel
          have HI := hide hin
          by_cases hjm : j < L
          · obtain ⟨p, hp5, hpw, hcells⟩ := in_round (unhide H2) (unhide HW) (unhide HBL) (unhide HI) (j := j) (lo := 0) (unhide HL0) (by rw [unhide HL]; omega)
            rw [unhide HGB] at hcells
            obtain ⟨q0, q1, q2, q3, q4⟩ := hcells
            simp only [Nat.zero_mul, Nat.zero_add] at q0 q1 q2 q3 q4
            have hwsz := (unhide HI).2.2.2
            have hmi := (unhide HI).2.1
            have HP5 := hide hp5
            obtain ⟨O, T⟩ := p
            simp only at q0 q1 hpw
            clear hin hp5
            go_wp2_with (first | (at_mapUpdate; refine wpList_store_raw _ rfl _ _ _ 36 rfl 4 Trym.underlying36 w.heap.size _ _ rfl (hmi.block (Below.heap_alloc _ _ _ (by omega))) (by unfold maxLen; omega) O hpw rfl (.bool true) rfl ?_; intro w2 hm2 hg2 hs2) | go_in)
            go_roundw
            case rel => exact ⟨j + 1, by omega, by go_num, in_step (unhide HI) hbw (unhide HP5) hm2 hg2⟩
            case measure => simp [intOf]; omega
          · go_wp2
            go_roundw
            case rel => exact lat_step (unhide HI) (by rw [lastFive_length, unhide HL]; omega) (by omega) hlt hcN (unhide HS)
            case measure => rw [(unhide HI).1.left_eq, hrg.left_eq]; omega
      · obtain ⟨q, rfl⟩ : ∃ q, L = q + 5 := ⟨L - 5, by omega⟩
        have HL0 : Hid ((G x).length - 5 = q) := by rw [unhide HL]; exact (by omega : q + 5 - 5 = q)
        go_wp2
        go_loopw [22] (fun i wr => ∃ j : Nat, j ≤ 5 ∧ i = .int .i64 j ∧ InRel w wr b n (5 * (ks.length - cnt)) G blk cap (strike left x) cnt1 S (lastFive (G x)) j) (fun i _ => 5 - (intOf i).toNat)
        case atStart => exact ⟨0, Nat.zero_le _, rfl, unhide HIN⟩
        case round =>
          obtain ⟨j, hj, rfl, hin⟩ := hrel
          have HI := hide hin
          by_cases hjm : j < 5
          · obtain ⟨p, hp5, hpw, hcells⟩ := in_round (unhide H2) (unhide HW) (unhide HBL) (unhide HI) (j := j) (lo := q) (unhide HL0) (by rw [unhide HL]; omega)
            rw [unhide HGB] at hcells
            obtain ⟨q0, q1, q2, q3, q4⟩ := hcells
            have hwsz := (unhide HI).2.2.2
            have hmi := (unhide HI).2.1
            have HP5 := hide hp5
            obtain ⟨O, T⟩ := p
            simp only at q0 q1 hpw
            clear hin hp5
            go_wp2_with (first | (at_mapUpdate; refine wpList_store_raw _ rfl _ _ _ 36 rfl 4 Trym.underlying36 w.heap.size _ _ rfl (hmi.block (Below.heap_alloc _ _ _ (by omega))) (by unfold maxLen; omega) O hpw rfl (.bool true) rfl ?_; intro w2 hm2 hg2 hs2) | go_in)
            go_roundw
            case rel => exact ⟨j + 1, by omega, by go_num, in_step (unhide HI) hbw (unhide HP5) hm2 hg2⟩
            case measure => simp [intOf]; omega
          · go_wp2
            go_roundw
            case rel => exact lat_step (unhide HI) (by rw [lastFive_length, unhide HL]; omega) (by omega) hlt hcN (unhide HS)
            case measure => rw [(unhide HI).1.left_eq, hrg.left_eq]; omega
set_option maxHeartbeats 400000 in
theorem latest17_any (w : World) (b n : Nat) (G : Int → List (Int × Int)) (hn : n ≤ 65536) (hG : ∀ x, (G x).length ≤ 65536) (hw : ∀ x, ∀ p ∈ G x, (Lit.int .i64 p.1).wf = true) (hp : Prods w b n G) :
    Calls Trym.prog 17 #[.map (some b)] w fun e w' => e = .returned (.map (some w.heap.size)) ∧ ∃ (S : Int → Bool) (ks : List Int), ks.Nodup ∧ (∀ x, x ∈ ks ↔ (G x).length ≠ 0) ∧ MapIs w' w.heap.size (5 * ks.length) (setF S) ∧
      (∀ o, S o = true ↔ ∃ x, ∃ p ∈ lastFive (G x), p.1 = o) ∧ Below w.heap.size w w' := by
  go_enter Trym.func17, Trym.ntmps17
  go_wp2_with fail
  refine (latest_any w b n G hn hG hw hp).mono ?_
  rintro e w' ⟨rfl, h⟩
  go_wp2
  go_ret
  exact ⟨rfl, h⟩

end Go.Proofs.Qxb6600141aMods
