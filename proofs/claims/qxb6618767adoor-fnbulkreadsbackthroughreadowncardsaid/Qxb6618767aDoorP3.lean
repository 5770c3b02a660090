import Derived.Test.Qxb6618767aDoorM3
import Derived.Test.Qxb6618767aDoorO
namespace Go.Proofs.Qxb6618767aDoor
open Go.ChangeShapes Go.WideShapes Go.ChangeAt Go.RowKit Go.Joins

theorem tab_of_laid3 {W : World} (h : laidMetH Tryd.prog Rows.fnBulkReadsBackThroughReadOwnRow.laid W) : Lib.TabIs Tryd.prog W pow10Name .u64 Lib.pow10Tab := by
  rw [MakeChecks.laidMetH_plain _ _ _ (by kernel_rfl)] at h
  have h2 := h.filter (fun x => x.1 == pow10Name)
  have e : (Rows.fnBulkReadsBackThroughReadOwnRow.laid.filter fun x => x.1 == pow10Name) = [(pow10Name, Lib.tabData .u64 Lib.pow10Tab)] := by kernel_rfl
  rw [e] at h2
  exact Lib.tabIs_of_head (g := 4) (t := 100) (e := 58) (n := 20) (by kernel_rfl) (by kernel_rfl) (by kernel_rfl) (by kernel_rfl) (by kernel_rfl) (by kernel_rfl) h2

set_option maxRecDepth 100000 in
theorem lifted3 (os : Os) (started : os.Started) (H : Type) (enc : TypeId × Value → H) :
    ReturnsInHanded {} Tryd.checked os 3 .any (fun w args => (Rows.fnBulkReadsBackThroughReadOwnSpec.pre enc Tryd.prog Tryd.f3 Rows.fnBulkReadsBackThroughReadOwnRow.domain false w args ∧ laidMetH Tryd.prog Rows.fnBulkReadsBackThroughReadOwnRow.laid w) ∧ sizedMet enc Tryd.prog Tryd.f3 (OpenSpec.ofChange Rows.fnBulkReadsBackThroughReadOwnSpec) false w args)
      (Rows.fnBulkReadsBackThroughReadOwnSpec.post enc Tryd.prog Tryd.f3 false true false false) := by
  refine returnsInHanded_of_change_and (C := Tryd.checked) (X := fun w _ => laidMetH Tryd.prog Rows.fnBulkReadsBackThroughReadOwnRow.laid w) (fun _ _ _ hh h => h.of_heap hh) Tryd.own started (by kernel_rfl) Tryd.func3
    (ChangeSpec.witness_shaped (enc := enc) (C := Tryd.checked) (os := os) (X := fun w _ => laidMetH Tryd.prog Rows.fnBulkReadsBackThroughReadOwnRow.laid w) false (World.laidAll Tryd.prog os Rows.fnBulkReadsBackThroughReadOwnRow.laid) #[.slice none 0 0] 8 (World.laidAll_os _ _ _)
      (World.shaped_of_ZipB (by kernel_rfl) (by kernel_rfl)) (by kernel_rfl) (by kernel_rfl) (by kernel_rfl)
      (by rw [MakeChecks.laidMetH_plain _ _ _ (by kernel_rfl)]; exact laidMet_laidAll _ (by kernel_rfl) (by kernel_rfl))) ?_
  intro W base args ds gs before hval0 hW _ _ hL _
  have hval : ∀ (j : Nat) t v, Tryd.f3.params[j]? = some t → args[j]? = some v → Value.okWide Tryd.prog W .any base t v := hval0
  have hW' := hW
  obtain ⟨p, q, hA0, hV, rfl, hfz, hnd⟩ := hW
  have hA : DataW.TrodAll enc Tryd.prog W 0 (fun _ => true) true Tryd.f3.params.toList args.toList ds p := hA0
  rw [Tryd.params3] at hA hval
  obtain ⟨v0, vs0, d0, ds0, p0, q0, hargs, rfl, rfl, h0, r0⟩ := trodAll_cons hA
  obtain ⟨rfl, rfl, rfl⟩ := trodAll_nil r0
  obtain rfl : args = #[v0] := by cases args; simp_all
  obtain ⟨rfl, rfl⟩ := trodVars_none hV
  have lt0 : ∀ x ∈ p0, x.block < W.heap.size := by obtain ⟨m, hm⟩ := h0; exact DataW.trod_lt m _ _ _ hm
  obtain ⟨a0, len0, cap0, rfl⟩ := okWide_slice Tryd.underlying22 (hval 0 22 v0 rfl rfl)
  obtain ⟨ca, la, ua, ma, na, sa⟩ : ∃ cs : List Value, cs.length = len0 ∧ U8 cs ∧ len0 ≤ maxLen ∧ (a0 = none → len0 = 0) ∧ (∀ a, a0 = some a → ∀ j v, cs[j]? = some v → W.cell? (a.add j) = some v) := by
    obtain ⟨fuel, hf⟩ := h0; exact open_bytes hf
  clear hA0 hval0
  have htab := tab_of_laid3 hL
  have fin : Calls Tryd.prog 3 #[.slice a0 len0 cap0] W fun e w' => TrueBelow W e w' := by
    by_cases hs : len0 ≤ 1048576
    · exact law3_main ca a0 len0 cap0 W hs la ua na sa htab
    · exact law3_long a0 len0 cap0 W (by omega)
  refine fin.mono fun e W' ⟨he, bel⟩ => ?_
  subst he
  exact ⟨_, rfl, _, _, _, [], _, [], hW', trodAll_mk1 (shut_bool Tryd.underlying4 _), (trodAll_cons_mk (Below.trod Tryd.laidOut (by kernel_rfl) (of_decide_eq_true (by kernel_rfl)) h0 bel lt0) trodAll_mk0), rfl, bel.frame _, fun h => by cases h⟩

theorem row3 : Rows.FnBulkReadsBackThroughReadOwnSaid :=
  OpenClaim.holds_of_wide 3 Tryd.f3 rfl rfl rfl rfl rfl rfl rfl ⟨rfl, rfl, rfl, rfl, rfl⟩ rfl rfl rfl rfl rfl (by kernel_rfl) Tryd.func3 (by kernel_rfl)
    (of_decide_eq_true (by kernel_rfl)) (by unfold Func.isWrapper; first | (rw [if_pos (by decide +kernel)]; kernel_rfl) | (rw [if_neg (by decide +kernel)]; exact ⟨rfl, rfl⟩))
    (fun os started H enc _ => lifted3 os started H enc)

theorem proved3 : Rows.FnBulkReadsBackThroughReadOwnCardSaid :=
  Claim7.holds_tied_plain_at .later [] [.data, .data, .data, .sentinel, .sentinel, .sentinel, .sentinel] true (true, "5ff05b8b760fb1969d4259a33b25e70afc41bb811a4af63cca4a9447289c71c7") true row3 (fun _ h => by cases h) (by kernel_rfl) (fun _ h => by cases h) fnBulkReadsBackThroughReadOwn_row_tie rfl ⟨rfl, rfl⟩ (by kernel_rfl) rfl
    (fun f fn hf hfn => by
      obtain rfl : f = 3 := Option.some.inj ((show Tryd.prog.funcNamed Rows.fnBulkReadsBackThroughReadOwnRow.func = some 3 by kernel_rfl).symm.trans hf) |>.symm
      obtain rfl : fn = Tryd.f3 := (Option.some.inj (Tryd.func3.symm.trans hfn)).symm
      exact ⟨by kernel_rfl, fun j t ht => by
        rw [Tryd.params3] at ht
        have hm : t ∈ [22] := by simpa using Array.mem_of_getElem? ht
        have hall : ([22].all fun u => !Tryd.prog.wantsStandIn u) = true := by kernel_rfl
        exact (show Tryd.prog.wantsStandIn t = false by simpa using List.all_eq_true.1 hall t hm)⟩)
    (by kernel_rfl)
end Go.Proofs.Qxb6618767aDoor
