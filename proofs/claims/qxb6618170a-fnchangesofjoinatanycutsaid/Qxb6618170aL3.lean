import Derived.Test.Qxb6618170aW6
import Derived.Deep.DeepCutAuto
namespace Go.Proofs.Qxb6618170a
open Go.RowKit

theorem Try.info4 : (Try.prog.info? 4).map (fun i => (i.zero, i.size, i.bytes)) = some (some (.bool false), 1, 1) := by kernel_rfl
theorem Try.size4 : (Try.prog.info? 4).map (·.size) = some 1 := by kernel_rfl

def bv (D : List Bool) : List Value := D.map .bool
theorem bv_length (D : List Bool) : (bv D).length = D.length := by simp [bv]
theorem bv_one (D : List Bool) : ∀ v ∈ bv D, v.oneCell' = true := by
  intro v hv
  obtain ⟨b, _, rfl⟩ := List.mem_map.1 hv
  rfl

/-- The row that a copy has filled. -/
theorem copied {w : World} {g : Nat} {cur : List Value} {D : List Bool} (h : w.heap[g]? = some (.cells (splice cur 0 (bv D)).toArray 4 (0, 0))) (hl : cur.length = D.length) : Bools w (some ⟨g, 0, none⟩) D := by
  have e : splice cur 0 (bv D) = bv D := by
    simp only [splice, List.take_zero, List.nil_append, Nat.zero_add]
    rw [List.drop_eq_nil_of_le (by rw [bv_length]; omega), List.append_nil]
  rw [e] at h
  refine .inr ⟨g, 0, rfl, ?_, fun i v hv => ?_⟩
  · obtain ⟨hlt, _⟩ := Array.getElem?_eq_some_iff.1 h
    exact hlt
  · simp only [World.cell?, h]
    simp [bv, hv]

theorem made_row {w : World} {base g n : Nat} {xs : List Value} (h : w.ownsRow base 4 1 (.slice (some ⟨g, 0, none⟩) n n) n xs) : ∃ cur : List Value, w.heap[g]? = some (.cells cur.toArray 4 (0, 0)) ∧ cur.length = n := by
  rcases h.2 with ⟨h, _⟩ | ⟨g', cap, cur, e, h1, h2, h3, h4, h5, _⟩
  · cases h
  · cases e
    exact ⟨cur.toList, by simpa using h2, by simpa using h5⟩

def CutB (w : World) (D : List Bool) (s : Value) (wc : World) : Prop := ∃ xo xc, s = .slice xo D.length xc ∧ Bools wc xo D ∧ Below w.heap.size w wc

def CutB2 (w : World) (D I : List Bool) (xo : Option Addr) (s : Value) (wd : World) : Prop := ∃ yo yc, s = .slice yo I.length yc ∧ Bools wd yo I ∧ Bools wd xo D ∧ Below w.heap.size w wd

/-- What a slice's cells are, for the copy. -/
theorem Bools.src {w : World} {a : Addr} {D : List Bool} (h : Bools w (some a) D) : 0 < (bv D).length → ∃ ad, some a = some ad ∧ ∀ j v, (bv D)[j]? = some v → w.cell? (ad.add j) = some v := by
  intro hp
  rw [bv_length] at hp
  rcases h with h | ⟨b, o, e, hb, hc⟩
  · simp [h] at hp
  · cases e
    refine ⟨_, rfl, fun j v hv => ?_⟩
    simp only [bv, List.getElem?_map, Option.map_eq_some_iff] at hv
    obtain ⟨x, hx, rfl⟩ := hv
    rw [Addr.add_lit]
    exact hc j x hx

set_option maxRecDepth 100000 in
set_option maxHeartbeats 2000000 in
theorem law3 (ao bo : Option Addr) (D I : List Bool) (ac bc : Nat) (w : World) (hD : Bools w ao D) (hI : Bools w bo I) (nD : ao = none → D = [] ∧ ac = 0) (nI : bo = none → I = [] ∧ bc = 0) (lD : D.length ≤ maxLen) (lI : I.length ≤ maxLen) :
    Calls Try.prog 3 #[.slice ao D.length ac, .slice bo I.length bc] w fun e w' => e = .returned (.bool true) ∧ Below w.heap.size w w' := by
  obtain ⟨i0, hi, hz0, hz1, hz2⟩ := info_parts Try.info4
  have hnq : ∀ (a : Option Addr) (l c : Nat) (w : World), (binOp .neq 22 (.slice a l c) (.slice none 0 0)).run Try.prog w = .ok (.bool (!a.isNone)) w := fun a l c w => run_neq_slice_nil w 22 4 a l c Try.underlying22
  have CD := keptCount_any ao D ac w hD lD
  have CI := keptCount_any bo I bc w hI lI
  have CB := bytes_gaps ao bo D.length I.length ac bc w lD lI
  have CS := fun xo yo xc yc w1 (h1 : Bools w1 xo D) (h2 : Bools w1 yo I) (l1 : D.length ≤ 262144) (l2 : I.length ≤ 262144) (hk : kept D = kept I) => zzChanges_any xo yo D I xc yc w1 h1 h2 l1 l2 hk
  have CG := fun xo yo xc yc w1 (h1 : Bools w1 xo D) (h2 : Bools w1 yo I) (l1 : D.length ≤ 262144) (l2 : I.length ≤ 262144) (hk : kept D = kept I) => gaps_any xo yo D I xc yc w1 h1 h2 l1 l2 hk
  have hge := gaps_eq D I
  unfold maxLen at lD lI
  by_cases hk : ¬ kept D = kept I
  · have hk' : ¬ (kept D : Int) = kept I := by omega
    clear CS CG hge hk
    go_enter Try.func3, Try.ntmps3
    go_wp2_with fail
    refine CB.mono ?_
    rintro e w' ⟨⟨b, rfl⟩, rfl⟩
    cases b with
    | false =>
      go_wp2
      go_ret
      exact ⟨rfl, Below.refl _ _⟩
    | true =>
      by_cases c1 : 65536 < (D.length : Int)
      · go_wp2
        go_ret
        exact ⟨rfl, Below.refl _ _⟩
      by_cases c2 : 65536 < (I.length : Int)
      · go_wp2
        go_ret
        exact ⟨rfl, Below.refl _ _⟩
      go_wp2_with fail
      refine CD.mono ?_
      rintro e w' ⟨rfl, rfl⟩
      go_wp2_with fail
      refine CI.mono ?_
      rintro e w' ⟨rfl, rfl⟩
      go_wp2
      go_ret
      exact ⟨rfl, Below.refl _ _⟩
  · have hk := Classical.not_not.1 hk
    have hge := hge hk
    have CS := fun xo yo xc yc w1 h1 h2 l1 l2 => CS xo yo xc yc w1 h1 h2 l1 l2 hk
    have CG := fun xo yo xc yc w1 h1 h2 l1 l2 => CG xo yo xc yc w1 h1 h2 l1 l2 hk
    rw [hge] at CG
    have hlen : (nz 0 0 (runs D) (runs I)).length ≤ D.length + 1 := by
      have h1 := nz_length (runs D) 0 0 (runs I)
      have h2 := runs_length D
      have h3 := kept_le D
      omega
    obtain ⟨M, hM⟩ : ∃ M, M = nz 0 0 (runs D) (runs I) := ⟨_, rfl⟩
    rw [← hM] at hlen
    simp only [← hM] at CS CG
    rw [← hk] at CI
    clear hM hge hk
    go_enter Try.func3, Try.ntmps3
    go_wp2_with fail
    refine CB.mono ?_
    rintro e w' ⟨⟨b, rfl⟩, rfl⟩
    cases b with
    | false =>
      go_wp2
      go_ret
      exact ⟨rfl, Below.refl _ _⟩
    | true =>
      by_cases c1 : 65536 < (D.length : Int)
      · go_wp2
        go_ret
        exact ⟨rfl, Below.refl _ _⟩
      by_cases c2 : 65536 < (I.length : Int)
      · go_wp2
        go_ret
        exact ⟨rfl, Below.refl _ _⟩
      go_wp2_with fail
      refine CD.mono ?_
      rintro e w' ⟨rfl, rfl⟩
      go_wp2_with fail
      refine CI.mono ?_
      rintro e w' ⟨rfl, rfl⟩
      clear CD CI CB
      go_upto_if 25 with fail
      go_cut [0] (fun s0 wc => CutB w D s0 wc)
      case first =>
        cases hao : ao with
        | none =>
          obtain ⟨e1, e2⟩ := nD hao
          have Hao : Hid (ao = none) := hao
          have He1 : Hid (D = []) := e1
          subst hao
          clear e1
          go_wp2
          go_meet
          case rel => exact ⟨none, 0, by rw [He1.out]; rfl, .inl He1.out, Below.refl _ _⟩
        | some a =>
          subst hao
          go_wp2_with (at_make; refine wpList_make_full _ rfl _ _ 22 rfl w.heap.size 4 i0 _ 1 Try.underlying22 hi hz0 hz1 _ _ _ _ D.length rfl rfl rfl rfl (by rw [hz2]; omega) (by unfold maxLen; omega) (Nat.le_refl _) ?_)
          intro w1 hown hgrow
          obtain ⟨cur, hcur, hcl⟩ := made_row hown
          have hb1' : Below w.heap.size w w1 := (Below.refl _ _).grown hgrow (Nat.le_refl _) (fun _ h => by cases h)
          have hsrc := (hD.below hb1' hD.block).src
          have Hcur : Hid (w1.heap[w.heap.size]? = some (.cells cur.toArray 4 (0, 0))) := hcur
          have Hcl : Hid (cur.length = D.length) := hcl
          clear hown hgrow hcur hcl
          go_wp2_with ((with_reducible refine wpList_copy_splice ?_ (.tmp 29) (.tmp 30) 22 22 ?_ 4 Try.underlying22 Try.size4 (some ⟨w.heap.size, 0, none⟩) (some a) D.length D.length D.length ac ?_ ?_ w.heap.size 0 cur 4 Hcur.out (bv D) ?_ ?_ ?_ (bv_one D) w.heap.size w hb1' (Nat.le_refl _) ?_); rfl; rfl; rfl; rfl; (rw [bv_length]; exact (Nat.min_self _).symm); (intro hp; exact ⟨rfl, hsrc hp⟩); (have := Hcl.out; rw [bv_length]; omega))
          intro w2 HG2 hB2
          go_wp2
          go_meet
          case rel => exact ⟨_, _, rfl, copied HG2.out Hcl.out, hB2⟩
      case rest =>
        obtain ⟨xo, xc, rfl, hD1, hb1⟩ := hcut
        have hI1 := hI.below hb1 hI.block
        clear hD hI
        go_upto_if 34 with fail
        go_cut [1] (fun s1 wd => CutB2 w D I xo s1 wd)
        case first =>
         cases hbo : bo with
         | none =>
          obtain ⟨e1, e2⟩ := nI hbo
          have He1 : Hid (I = []) := e1
          subst hbo
          clear e1
          go_wp2
          go_meet
          case rel => exact ⟨none, 0, by rw [He1.out]; rfl, .inl He1.out, hD1, hb1⟩
         | some a =>
          subst hbo
          go_wp2_with (at_make; refine wpList_make_full _ rfl _ _ 22 rfl wc.heap.size 4 i0 _ 1 Try.underlying22 hi hz0 hz1 _ _ _ _ I.length rfl rfl rfl rfl (by rw [hz2]; omega) (by unfold maxLen; omega) (Nat.le_refl _) ?_)
          intro w1 hown hgrow
          obtain ⟨cur, hcur, hcl⟩ := made_row hown
          have hb1' : Below wc.heap.size wc w1 := (Below.refl _ _).grown hgrow (Nat.le_refl _) (fun _ h => by cases h)
          have hsrc := (hI1.below hb1' hI1.block).src
          have Hcur : Hid (w1.heap[wc.heap.size]? = some (.cells cur.toArray 4 (0, 0))) := hcur
          have Hcl : Hid (cur.length = I.length) := hcl
          clear hown hgrow hcur hcl
          go_wp2_with ((with_reducible refine wpList_copy_splice ?_ (.tmp 38) (.tmp 39) 22 22 ?_ 4 Try.underlying22 Try.size4 (some ⟨wc.heap.size, 0, none⟩) (some a) I.length I.length I.length bc ?_ ?_ wc.heap.size 0 cur 4 Hcur.out (bv I) ?_ ?_ ?_ (bv_one I) wc.heap.size wc hb1' (Nat.le_refl _) ?_); rfl; rfl; rfl; rfl; (rw [bv_length]; exact (Nat.min_self _).symm); (intro hp; exact ⟨rfl, hsrc hp⟩); (have := Hcl.out; rw [bv_length]; omega))
          intro w2 HG2 hB2
          go_wp2
          go_meet
          case rel => exact ⟨_, _, rfl, copied HG2.out Hcl.out, hD1.below hB2 hD1.block, hb1.trans (hB2.mono hb1.size)⟩
        case rest =>
          rename_i wd
          obtain ⟨yo, yc, rfl, hI2, hD2, hb2⟩ := hcut
          go_wp2_with fail
          refine (CS xo yo xc yc _ hD2 hI2 (by omega) (by omega)).mono ?_
          rintro e w3 ⟨v, rfl, hG⟩
          obtain ⟨mo, mc, rfl, hC1⟩ := hG.chs
          have hb3 := hG.bel
          have hD3 := hD2.below hb3 hD2.block
          have hI3 := hI2.below hb3 hI2.block
          clear hG
          go_wp2_with fail
          refine (CG xo yo xc yc _ hD3 hI3 (by omega) (by omega)).mono ?_
          rintro e w4 ⟨v', rfl, hG⟩
          obtain ⟨no, nc, rfl, hC2⟩ := hG.chs
          have hb4 := hG.bel
          have hC3 := hC1.below hb4 (Nat.le_refl _)
          clear hG
          go_wp2_with fail
          refine (same_self mo no M mc nc w4 hC3 hC2 (by omega)).mono ?_
          rintro e w5 ⟨rfl, hb5⟩
          go_wp2
          go_ret
          have z2 := hb2.size
          have z3 := hb3.size
          have z4 := hb4.size
          exact ⟨rfl, hb2.trans ((hb3.trans ((hb4.trans (hb5.mono z4)).mono z3)).mono z2)⟩
end Go.Proofs.Qxb6618170a
