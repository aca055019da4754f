/-
  producers.expire, ZZProducersExpire: their contract, in whatever order the range meets the producers.
-/
import Derived.Test.Qxb6600141aModsReaders
namespace Go.Proofs.Qxb6600141aMods
open Go.RowKit
set_option linter.unusedVariables false

/-- What expire leaves of one producer. -/
def expOne (st no bo : Int) (l : List (Int × Int)) : List (Int × Int) :=
  match l.getLast? with
  | none => []
  | some p => if st ≤ p.1 then l else if bo < wrap64 (no - if p.2 < 0 then no else p.2) then [] else l.dropLast ++ [(p.1, if p.2 < 0 then no else p.2)]

/-- Those still to come are as they were. -/
def part (G : Int → List (Int × Int)) (st no bo : Int) (left : Int → Bool) : Int → List (Int × Int) := fun x => if left x = true then G x else expOne st no bo (G x)

theorem part_strike (G : Int → List (Int × Int)) (st no bo : Int) (left : Int → Bool) (x : Int) : part G st no bo (strike left x) = fun y => if y = x then expOne st no bo (G x) else part G st no bo left y := by
  funext y
  unfold part strike
  by_cases e : y = x
  · subst e; simp
  · simp [e]

theorem expOne_pos {st no bo : Int} {l : List (Int × Int)} (h : (expOne st no bo l).length ≠ 0) : l.length ≠ 0 := by
  intro h0
  have : l = [] := List.eq_nil_of_length_eq_zero h0
  subst this
  exact h rfl

theorem part_pos {G : Int → List (Int × Int)} {st no bo : Int} {left : Int → Bool} {x : Int} (h : (part G st no bo left x).length ≠ 0) : (G x).length ≠ 0 := by
  unfold part at h
  split at h
  · exact h
  · exact expOne_pos h

/-- Each producer's row. -/
def Rowz (w : World) (b : Nat) (H : Int → List (Int × Int)) (blk cap : Int → Nat) : Prop :=
  ∀ x, (H x).length ≠ 0 → w.ownsRow (b + 1) 52 5 (.slice (some ⟨blk x, 0, none⟩) (H x).length (cap x)) (H x).length (recs (H x))

theorem Rowz.kept {w w' : World} {b q : Nat} {H : Int → List (Int × Int)} {blk cap : Int → Nat} (h : Rowz w b H blk cap) (hg : w.grownBy w' (some q)) (hq : ∀ x, (H x).length ≠ 0 → blk x ≠ q) : Rowz w' b H blk cap :=
  fun x hx => (h x hx).kept hg (.inr (by simpa [Value.ownBlock] using hq x hx))

theorem getLast_split {l : List (Int × Int)} {p : Int × Int} (h : l.getLast? = some p) : l = l.dropLast ++ [p] := by
  have hne : l ≠ [] := by intro e; subst e; simp at h
  rw [List.getLast?_eq_some_getLast hne] at h
  have := List.dropLast_concat_getLast hne
  rw [Option.some.inj h] at this
  exact this.symm

theorem recs_stamp {l : List (Int × Int)} {p : Int × Int} (no : Int) (h : l.getLast? = some p) : (recs l).set ((l.length - 1) * 5 + 1) (.int .i64 no) = recs (l.dropLast ++ [(p.1, no)]) := by
  obtain ⟨r, rfl⟩ : ∃ r, l = r ++ [p] := ⟨l.dropLast, getLast_split h⟩
  simp only [List.length_append, List.length_singleton, Nat.add_sub_cancel, List.dropLast_concat]
  rw [recs_append, recs_append, recs_one, recs_one, List.set_append_right _ _ (by rw [recs_length]; omega), recs_length]
  simp [recOf]

/-- BEHIND 'latest.latest = now' AT PRODUCER x. -/
theorem Rowz.stamp {w : World} {b : Nat} {H : Int → List (Int × Int)} {blk cap : Int → Nat} (h : Rowz w b H blk cap) {x : Int} {p : Int × Int} (hp : (H x).getLast? = some p) (no : Int)
    (hne : ∀ y, (H y).length ≠ 0 → y ≠ x → blk y ≠ blk x) : Rowz (w.setCell ⟨blk x, ((H x).length - 1) * 5 + 1, none⟩ (.int .i64 no)) b (fun y => if y = x then (H x).dropLast ++ [(p.1, no)] else H y) blk cap := by
  have hx0 : (H x).length ≠ 0 := by intro h0; rw [List.eq_nil_of_length_eq_zero h0] at hp; simp at hp
  have hst := (h x hx0).stored (((H x).length - 1) * 5 + 1) (.int .i64 no)
  have hl : ((H x).dropLast ++ [(p.1, no)]).length = (H x).length := by simp; omega
  intro y hy
  by_cases e : y = x
  · subst e
    simp only [if_true] at hy ⊢
    rw [hl, ← recs_stamp no hp]
    exact hst.1
  · simp only [e, if_false] at hy ⊢
    exact (h y hy).kept hst.2 (.inr (by simpa [Value.ownBlock] using hne y hy e))

theorem hdr_strike {G H : Int → List (Int × Int)} {blk cap : Int → Nat} (h : ∀ y, (G y).length = (H y).length) : hdr G blk cap = hdr H blk cap := by
  funext y; unfold hdr; rw [h y]

theorem hdr_cut (H : Int → List (Int × Int)) (blk cap : Int → Nat) (x : Int) : cut (hdr H blk cap) x = hdr (fun y => if y = x then [] else H y) blk cap := by
  funext y
  unfold cut hdr
  by_cases e : y = x
  · subst e; simp
  · simp [e]

/-- BEHIND 'delete(ps, x)'. -/
theorem rowz_gone {w w' : World} {b : Nat} {H : Int → List (Int × Int)} {blk cap : Int → Nat} {x : Int} {l : List (Int × Int)} (h : Rowz w b (fun y => if y = x then l else H y) blk cap) (hg : w.grownBy w' (some b)) (hb : ∀ y, (H y).length ≠ 0 → blk y ≠ b) :
    Rowz w' b (fun y => if y = x then [] else H y) blk cap := by
  intro y hy
  by_cases e : y = x
  · subst e; simp at hy
  · simp only [e, if_false] at hy ⊢
    have := h y (by simpa only [e, if_false] using hy)
    simp only [e, if_false] at this
    exact this.kept hg (.inr (by simpa [Value.ownBlock] using hb y hy))

theorem wrap64_zero : wrap64 0 = 0 := by unfold wrap64; omega

theorem part_left {G : Int → List (Int × Int)} {st no bo : Int} {left : Int → Bool} {x : Int} (h : left x = true) : part G st no bo left x = G x := by simp [part, h]

theorem part_same {G : Int → List (Int × Int)} {st no bo : Int} {left : Int → Bool} {x : Int} (h : left x = true) (e : expOne st no bo (G x) = G x) : part G st no bo (strike left x) = part G st no bo left := by
  rw [part_strike, e]
  funext y
  by_cases hy : y = x
  · subst hy; simp [part_left h]
  · simp [hy]

theorem expOne_late {st no bo : Int} {l : List (Int × Int)} {p : Int × Int} (h : l.getLast? = some p) (h1 : st ≤ p.1) : expOne st no bo l = l := by simp [expOne, h, h1]
theorem expOne_gone {st no bo : Int} {l : List (Int × Int)} {p : Int × Int} (h : l.getLast? = some p) (h1 : ¬ st ≤ p.1) (h2 : bo < wrap64 (no - if p.2 < 0 then no else p.2)) : expOne st no bo l = [] := by
  unfold expOne
  rw [h]
  simp only [h1, h2, if_true, if_false]
theorem expOne_kept {st no bo : Int} {l : List (Int × Int)} {p : Int × Int} (h : l.getLast? = some p) (h1 : ¬ st ≤ p.1) (h2 : ¬ bo < wrap64 (no - if p.2 < 0 then no else p.2)) : expOne st no bo l = l.dropLast ++ [(p.1, if p.2 < 0 then no else p.2)] := by
  unfold expOne
  rw [h]
  simp only [h1, h2, if_false]

/-- The loop's relation. -/
def ExpRel (w wr : World) (b n : Nat) (G : Int → List (Int × Int)) (blk cap : Int → Nat) (st no bo : Int) : Prop :=
  ∃ left cnt, RangeIs wr b w.heap.size n (hdr (part G st no bo left) blk cap) left cnt ∧ Rowz wr b (part G st no bo left) blk cap ∧ Below b w wr ∧ w.heap.size < wr.heap.size

theorem ExpRel.mk' {w wr : World} {b n : Nat} {G : Int → List (Int × Int)} {blk cap : Int → Nat} {st no bo : Int} (left : Int → Bool) (cnt : Nat) (h1 : RangeIs wr b w.heap.size n (hdr (part G st no bo left) blk cap) left cnt)
    (h2 : Rowz wr b (part G st no bo left) blk cap) (h3 : Below b w wr) (h4 : w.heap.size < wr.heap.size) : ExpRel w wr b n G blk cap st no bo := ⟨left, cnt, h1, h2, h3, h4⟩

set_option maxHeartbeats 2000000 in
theorem expire_any (w : World) (b n : Nat) (G : Int → List (Int × Int)) (st no bo : Int) (hn : n ≤ 65536) (hG : ∀ x, (G x).length ≤ 65536) (hp : Prods w b n G) :
    Calls Trym.prog 29 #[.map (some b), .int .i64 st, .int .i64 no, .int .i64 bo] w fun e w' => e = .returned (.tuple #[]) ∧ Prods w' b n (fun x => expOne st no bo (G x)) ∧ Below b w w' := by
  obtain ⟨blk, cap, h1, h2, h3⟩ := hp
  have hbw := h1.lt
  have hbl : ∀ x, (G x).length ≠ 0 → b < blk x ∧ blk x < w.heap.size := fun x hx => by have := (h2 x hx).lt (blk x) rfl; omega
  have H2 : Hid (Rowz w b G blk cap) := h2
  have H3 := hide h3
  have HBL := hide hbl
  clear h2 h3 hbl
  go_enter Trym.func29, Trym.ntmps29
  go_wp2_with (first | (at_range; refine wpList_range_raw _ rfl _ 34 rfl 49 Trym.underlying34 b n _ rfl h1 ?_; intro w0 ks hk1 hk2 _ hrg0 hg0 hs0) | go_in)
  go_frame
  go_loopw [8] (fun _ wr => ExpRel w wr b n G blk cap st no bo) (fun _ wr => wr.rangeLeft b w.heap.size)
  case atStart =>
    have e : part G st no bo (fun x => (hdr G blk cap x).isSome) = G := by
      funext x
      unfold part
      split
      · rfl
      · rename_i h0
        have h0' : (G x).length = 0 := by
          by_cases h : (G x).length = 0
          · exact h
          · exact absurd (show (hdr G blk cap x).isSome = true by rw [hdr_some h]; rfl) h0
        rw [List.eq_nil_of_length_eq_zero h0']
        rfl
    refine ExpRel.mk' (fun x => (hdr G blk cap x).isSome) ks.length ?_ ?_ ((Below.refl _ _).grown hg0 (Nat.le_of_lt hbw) (fun k h => by cases h)) (by omega)
    · rw [e]; exact hrg0
    · rw [e]
      exact fun x hx => (unhide H2 x hx).kept hg0 (.inr (by simp [Value.ownBlock]))
  case round =>
    obtain ⟨left, cnt, hrg, hrow, hnx, hsz⟩ := hrel
    have HROW := hide hrow
    have HNX := hide hnx
    clear hrow hnx hrg0 hk1 hk2 h1
    go_wp2_with (first | (at_next; refine wpList_next_hdr _ rfl _ rfl b w.heap.size n _ blk cap left cnt rfl hrg ?_ ?_) | go_in)
    · intro hl0
      go_wp2
      go_end0
      have e : part G st no bo left = fun x => expOne st no bo (G x) := by funext x; simp [part, hl0]
      have hrow := unhide HROW
      rw [e] at hrow hrg
      exact ⟨rfl, ⟨blk, cap, hrg.map, hrow, fun x y hx hy => unhide H3 x y (expOne_pos hx) (expOne_pos hy)⟩, unhide HNX⟩
    · intro x w1 cnt1 hwx hlx hx0 hrg1 hlt hg1 hs1 hen
      have hpx := part_left (G := G) (st := st) (no := no) (bo := bo) hlx
      rw [hpx] at hen hx0 ⊢
      have hx0 : (G x).length ≠ 0 := by simpa using hx0
      obtain ⟨p, hp⟩ : ∃ p, (G x).getLast? = some p := ⟨(G x).getLast (by intro e; rw [e] at hx0; exact hx0 rfl), List.getLast?_eq_some_getLast _⟩
      obtain ⟨m, hm⟩ : ∃ m, (G x).length = m + 1 := ⟨(G x).length - 1, by omega⟩
      have hrow1 : Rowz w1 b (part G st no bo left) blk cap := (unhide HROW).kept hg1 (fun y hy => by have := (unhide HBL) y (part_pos hy); omega)
      have hrx := hrow1 x (by rw [hpx]; exact hx0)
      rw [hpx] at hrx
      have hlast : (G x)[m]? = some p := by rw [← hp, List.getLast?_eq_getElem?, hm]; rfl
      have hc0 : w1.cell? ⟨blk x, m * 5, none⟩ = some (.int .i64 p.1) := by
        rw [hrx.cellAt (m * 5) (by omega)]
        exact recs_at _ m p hlast 0 (by omega)
      have hc1 : w1.cell? ⟨blk x, m * 5 + 1, none⟩ = some (.int .i64 p.2) := by
        rw [hrx.cellAt (m * 5 + 1) (by omega)]
        exact recs_at _ m p hlast 1 (by omega)
      have hf1 := hrx.frozenAt (m * 5 + 1)
      have hbx := (unhide HBL) x hx0
      have hm6 : m + 1 ≤ 65536 := by rw [← hm]; exact hG x
      have HST := hide (hrx.stored (m * 5 + 1) (.int .i64 no)).2
      have HP := hide hp
      have HPX := hide hpx
      have HM := hide hm
      have HR1 := hide hrow1
      have HRG1 := hide hrg1
      have HBW : Below b w w1 := (unhide HNX).grown hg1 (by omega) (fun j hj => by cases hj; omega)
      rw [hm] at hen ⊢
      clear hp hpx hm hrow1 hrx hrg1 hlast hx0 hG
      generalize hgB : blk x = g at hen hc0 hc1 hf1 hbx HST ⊢
      generalize cap x = C at hen ⊢
      have HGB := hide hgB
      obtain ⟨O, T⟩ := p
      simp only at hc0 hc1
      clear hgB
      by_cases hO : st ≤ O
      · go_wp2
        go_roundw
        case rel =>
          have e := part_same (bo := bo) (no := no) hlx (expOne_late (unhide HP) hO)
          exact ExpRel.mk' (strike left x) cnt1 (by rw [e]; exact unhide HRG1) (by rw [e]; exact unhide HR1) HBW (by omega)
        case measure => rw [(unhide HRG1).left_eq, hrg.left_eq]; omega
      · have hother : ∀ y, (part G st no bo left y).length ≠ 0 → y ≠ x → blk y ≠ blk x := fun y hy hne => (unhide H3) y x (part_pos hy) (by rw [unhide HM]; omega) hne
        have HO := hide hother
        have HOO := hide hO
        clear hother
        by_cases hT : T < 0
        · have hgb : g ≠ b := by omega
          have hgr : g ≠ w.heap.size := by omega
          have hrgS : RangeIs (w1.setCell ⟨g, m * 5 + 1, none⟩ (.int .i64 no)) b w.heap.size n (hdr (part G st no bo left) blk cap) (strike left x) cnt1 := (unhide HRG1).kept (unhide HST) (fun e => by cases e; omega) (fun e => by cases e; omega)
          have hrowS : Rowz (w1.setCell ⟨g, m * 5 + 1, none⟩ (.int .i64 no)) b (fun y => if y = x then (G x).dropLast ++ [(O, no)] else part G st no bo left y) blk cap := by
            have h := (unhide HR1).stamp (x := x) (p := (O, T)) (by rw [unhide HPX]; exact unhide HP) no (unhide HO)
            rw [unhide HPX, unhide HM, unhide HGB] at h
            exact h
          have hbelS : Below b w (w1.setCell ⟨g, m * 5 + 1, none⟩ (.int .i64 no)) := HBW.setCell (by simp; omega) _
          have HRS := hide hrgS
          have HRWS := hide hrowS
          have HBS := hide hbelS
          clear hrgS hrowS hbelS
          have hw0 : wrap64 (no - if T < 0 then no else T) = 0 := by rw [if_pos hT, Int.sub_self]; exact wrap64_zero
          have HW0 := hide hw0
          clear hw0
          by_cases hB : bo < 0
          · have HB := hide hB
            go_wp2_with (first | (at_delete; refine wpList_delete_raw _ rfl _ _ 34 rfl 49 Trym.underlying34 b w.heap.size n _ (strike left x) cnt1 rfl (unhide HRS) x hwx rfl (by simp [strike]) ?_; intro w2 cnt2 hrg2 hle2 hg2 hs2) | go_in)
            go_roundw
            case rel =>
              have e : part G st no bo (strike left x) = fun y => if y = x then [] else part G st no bo left y := by
                rw [part_strike, expOne_gone (unhide HP) (show ¬ st ≤ O by have := unhide HOO; omega) (by rw [unhide HW0]; exact unhide HB)]
              refine ExpRel.mk' (strike left x) cnt2 (by rw [e, ← hdr_cut]; exact hrg2) ?_ ((unhide HBS).grown hg2 (by simp; omega) (fun j hj => by cases hj; exact Nat.le_refl _)) (by rw [hs2]; simp; omega)
              rw [e]
              exact rowz_gone (unhide HRWS) hg2 (fun y hy => by have := (unhide HBL) y (part_pos hy); omega)
            case measure => rw [hrg2.left_eq, hrg.left_eq]; omega
          · have HB := hide hB
            go_wp2
            go_roundw
            case rel =>
              have e : part G st no bo (strike left x) = fun y => if y = x then (G x).dropLast ++ [(O, no)] else part G st no bo left y := by
                rw [part_strike, expOne_kept (unhide HP) (show ¬ st ≤ O by have := unhide HOO; omega) (by rw [unhide HW0]; exact unhide HB)]
                simp only [if_pos hT]
              refine ExpRel.mk' (strike left x) cnt1 ?_ (by rw [e]; exact unhide HRWS) (unhide HBS) (by simp; omega)
              rw [e, hdr_strike (H := part G st no bo left) (fun y => ?_)]
              · exact unhide HRS
              · by_cases hy : y = x
                · subst hy; simp [unhide HPX, unhide HM]
                · simp [hy]
            case measure => rw [(unhide HRS).left_eq, hrg.left_eq]; omega
        · have HT := hide hT
          by_cases hB : bo < wrap64 (no - T)
          · have HB := hide hB
            go_wp2_with (first | (at_delete; refine wpList_delete_raw _ rfl _ _ 34 rfl 49 Trym.underlying34 b w.heap.size n _ (strike left x) cnt1 rfl (unhide HRG1) x hwx rfl (by simp [strike]) ?_; intro w2 cnt2 hrg2 hle2 hg2 hs2) | go_in)
            go_roundw
            case rel =>
              have e : part G st no bo (strike left x) = fun y => if y = x then [] else part G st no bo left y := by
                rw [part_strike, expOne_gone (unhide HP) (show ¬ st ≤ O by have := unhide HOO; omega) (by simp only [if_neg (show ¬ T < 0 by have := unhide HT; omega)]; exact unhide HB)]
              refine ExpRel.mk' (strike left x) cnt2 (by rw [e, ← hdr_cut]; exact hrg2) ?_ (HBW.grown hg2 (by omega) (fun j hj => by cases hj; exact Nat.le_refl _)) (by omega)
              rw [e]
              refine rowz_gone (l := part G st no bo left x) ?_ hg2 (fun y hy => by have := (unhide HBL) y (part_pos hy); omega)
              have e2 : (fun y => if y = x then part G st no bo left x else part G st no bo left y) = part G st no bo left := by
                funext y
                by_cases hy : y = x
                · subst hy; simp
                · simp [hy]
              rw [e2]
              exact unhide HR1
            case measure => rw [hrg2.left_eq, hrg.left_eq]; omega
          · have HB := hide hB
            go_wp2
            go_roundw
            case rel =>
              have e : part G st no bo (strike left x) = part G st no bo left := by
                refine part_same hlx ?_
                rw [expOne_kept (unhide HP) (show ¬ st ≤ O by have := unhide HOO; omega) (by simp only [if_neg (show ¬ T < 0 by have := unhide HT; omega)]; exact unhide HB)]
                simp only [if_neg (show ¬ T < 0 by have := unhide HT; omega)]
                exact (getLast_split (unhide HP)).symm
              exact ExpRel.mk' (strike left x) cnt1 (by rw [e]; exact unhide HRG1) (by rw [e]; exact unhide HR1) HBW (by omega)
            case measure => rw [(unhide HRG1).left_eq, hrg.left_eq]; omega

set_option maxHeartbeats 400000 in
theorem expire20_any (w : World) (b n : Nat) (G : Int → List (Int × Int)) (st no bo : Int) (hn : n ≤ 65536) (hG : ∀ x, (G x).length ≤ 65536) (hp : Prods w b n G) :
    Calls Trym.prog 20 #[.map (some b), .int .i64 st, .int .i64 no, .int .i64 bo] w fun e w' => e = .returned (.tuple #[]) ∧ Prods w' b n (fun x => expOne st no bo (G x)) ∧ Below b w w' := by
  go_enter Trym.func20, Trym.ntmps20
  go_wp2_with fail
  refine (expire_any w b n G st no bo hn hG hp).mono ?_
  rintro e w' ⟨rfl, h1, h2⟩
  go_wp2
  go_end0
  exact ⟨rfl, h1, h2⟩

end Go.Proofs.Qxb6600141aMods
