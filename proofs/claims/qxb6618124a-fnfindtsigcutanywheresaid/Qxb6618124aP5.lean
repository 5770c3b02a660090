import Derived.Test.Qxb6618124aRows
import Derived.Test.Qxb6618124aL5a
import Derived.Test.Qxb6618124aL5b
import Derived.Test.Qxb6618124aL5c
import Derived.Test.Qxb6618124aL5z
import Derived.Test.Qxb6618124aOpen2
namespace Go.Proofs.Qxb6618124a
open Go.ChangeShapes Go.WideShapes Go.ChangeAt Go.RowKit Go.Joins

theorem law5 (h0 h1 h2 h3 h4 h5 : Int) (qo : Option Addr) (qs : List Qc) (qc : Nat) (ao bo co : Option Addr) (rs us ds : List Rc) (ac bc cc : Nat) (j : Int) (w : World) (hqs : Qs w qo qs) (hr : Recs w ao rs) (hu : Recs w bo us) (hd : Recs w co ds)
    (nq : qo = none → qs = [] ∧ qc = 0) (nr : ao = none → rs = [] ∧ ac = 0) (nu : bo = none → us = [] ∧ bc = 0) (nd : co = none → ds = [] ∧ cc = 0)
    (lq : qs.length ≤ maxLen) (lr : rs.length ≤ maxLen) (lu : us.length ≤ maxLen) (ld : ds.length ≤ maxLen) (gr : Goods w rs) (gu : Goods w us) (gd : Goods w ds) :
    Calls Try.prog 5 #[.agg #[.int .u16 h0, .int .u16 h1, .int .u16 h2, .int .u16 h3, .int .u16 h4, .int .u16 h5], .slice qo qs.length qc, .slice ao rs.length ac, .slice bo us.length bc, .slice co ds.length cc, .int .i64 j] w
      fun e w' => e = .returned (.bool true) ∧ Below w.heap.size w w' := by
  by_cases hds : ds = []
  · by_cases hus : us = []
    · by_cases hrs : rs = []
      · exact law5_z h0 h1 h2 h3 h4 h5 qo qs qc ao bo co rs us ds ac bc cc j w hqs hr hu hd nq nr nu nd lq lr lu ld gr gu gd hds hus hrs
      · exact law5_c h0 h1 h2 h3 h4 h5 qo qs qc ao bo co rs us ds ac bc cc j w hqs hr hu hd nq nr nu nd lq lr lu ld gr gu gd hds hus hrs
    · exact law5_b h0 h1 h2 h3 h4 h5 qo qs qc ao bo co rs us ds ac bc cc j w hqs hr hu hd nq nr nu nd lq lr lu ld gr gu gd hds hus
  · exact law5_a h0 h1 h2 h3 h4 h5 qo qs qc ao bo co rs us ds ac bc cc j w hqs hr hu hd nq nr nu nd lq lr lu ld gr gu gd hds

set_option maxRecDepth 100000 in
theorem lifted5 (os : Os) (started : os.Started) (H : Type) (enc : TypeId × Value → H) :
    ReturnsInHanded {} Try.checked os 5 .any (Rows.fnFindTSIGCutAnywhereSpec.pre6 enc Try.prog Try.f5 Rows.fnFindTSIGCutAnywhereRow.domain false) (Rows.fnFindTSIGCutAnywhereSpec.post enc Try.prog Try.f5 false true false false) := by
  refine returnsInHanded_of_change (C := Try.checked) Try.own started (by kernel_rfl) Try.func5
    (ChangeSpec.witness6 (enc := enc) (C := Try.checked) false ⟨#[], #[.agg #[.int .u16 0, .int .u16 0, .int .u16 0, .int .u16 0, .int .u16 0, .int .u16 0], .slice none 0 0, .slice none 0 0, .slice none 0 0, .slice none 0 0, .int .i64 0], []⟩ 8 (by kernel_rfl) (by kernel_rfl) (by kernel_rfl) (by kernel_rfl)) ?_
  intro W base args ds gs before hval0 hW hcnd _
  have hval : ∀ (j : Nat) t v, Try.f5.params[j]? = some t → args[j]? = some v → Value.okWide Try.prog W .any base t v := hval0
  have hW' := hW
  obtain ⟨p, q, hA0, hV, rfl, hfz, hnd⟩ := hW
  have hA : DataW.TrodAll enc Try.prog W 0 (fun _ => true) true Try.f5.params.toList args.toList ds p := hA0
  rw [Try.params5] at hA hval
  obtain ⟨v0, vs0, d0, ds0, p0, q0, hargs, rfl, rfl, h0, r0⟩ := trodAll_cons hA
  obtain ⟨v1, vs1, d1, ds1, p1, q1, rfl, rfl, rfl, h1, r1⟩ := trodAll_cons r0
  obtain ⟨v2, vs2, d2, ds2, p2, q2, rfl, rfl, rfl, h2, r2⟩ := trodAll_cons r1
  obtain ⟨v3, vs3, d3, ds3, p3, q3, rfl, rfl, rfl, h3, r3⟩ := trodAll_cons r2
  obtain ⟨v4, vs4, d4, ds4, p4, q4, rfl, rfl, rfl, h4, r4⟩ := trodAll_cons r3
  obtain ⟨v5, vs5, d5, ds5, p5, q5, rfl, rfl, rfl, h5, r5⟩ := trodAll_cons r4
  obtain ⟨rfl, rfl, rfl⟩ := trodAll_nil r5
  obtain rfl : args = #[v0, v1, v2, v3, v4, v5] := by cases args; simp_all
  obtain ⟨rfl, rfl⟩ := trodVars_none hV
  have lt0 : ∀ x ∈ p0, x.block < W.heap.size := by obtain ⟨m, hm⟩ := h0; exact DataW.trod_lt m _ _ _ hm
  have lt1 : ∀ x ∈ p1, x.block < W.heap.size := by obtain ⟨m, hm⟩ := h1; exact DataW.trod_lt m _ _ _ hm
  have lt2 : ∀ x ∈ p2, x.block < W.heap.size := by obtain ⟨m, hm⟩ := h2; exact DataW.trod_lt m _ _ _ hm
  have lt3 : ∀ x ∈ p3, x.block < W.heap.size := by obtain ⟨m, hm⟩ := h3; exact DataW.trod_lt m _ _ _ hm
  have lt4 : ∀ x ∈ p4, x.block < W.heap.size := by obtain ⟨m, hm⟩ := h4; exact DataW.trod_lt m _ _ _ hm
  have lt5 : ∀ x ∈ p5, x.block < W.heap.size := by obtain ⟨m, hm⟩ := h5; exact DataW.trod_lt m _ _ _ hm
  obtain ⟨u0, u1, u2, u3, u4, u5, rfl⟩ := open_hdr_val (hval 0 24 v0 rfl rfl) h0
  obtain ⟨a1, len1, cap1, rfl⟩ := okWide_slice Try.underlying25 (hval 1 25 v1 rfl rfl)
  obtain ⟨qs1, rfl, R1, N1, L1⟩ : ∃ qs : List Qc, len1 = qs.length ∧ Qs W a1 qs ∧ (a1 = none → qs = [] ∧ cap1 = 0) ∧ qs.length ≤ maxLen := by
    obtain ⟨fuel, hf⟩ := h1; exact open_qs hf
  obtain ⟨a2, len2, cap2, rfl⟩ := okWide_slice Try.underlying26 (hval 2 26 v2 rfl rfl)
  obtain ⟨rs2, rfl, R2, N2, L2, _, G2⟩ : ∃ rs : List Rc, len2 = rs.length ∧ Recs W a2 rs ∧ (a2 = none → rs = [] ∧ cap2 = 0) ∧ rs.length ≤ maxLen ∧ rs.length ≤ cap2 ∧ ∀ r, r ∈ rs → GoodR W r := by
    obtain ⟨fuel, hf⟩ := h2; exact open_recs hf
  obtain ⟨a3, len3, cap3, rfl⟩ := okWide_slice Try.underlying26 (hval 3 26 v3 rfl rfl)
  obtain ⟨rs3, rfl, R3, N3, L3, _, G3⟩ : ∃ rs : List Rc, len3 = rs.length ∧ Recs W a3 rs ∧ (a3 = none → rs = [] ∧ cap3 = 0) ∧ rs.length ≤ maxLen ∧ rs.length ≤ cap3 ∧ ∀ r, r ∈ rs → GoodR W r := by
    obtain ⟨fuel, hf⟩ := h3; exact open_recs hf
  obtain ⟨a4, len4, cap4, rfl⟩ := okWide_slice Try.underlying26 (hval 4 26 v4 rfl rfl)
  obtain ⟨rs4, rfl, R4, N4, L4, _, G4⟩ : ∃ rs : List Rc, len4 = rs.length ∧ Recs W a4 rs ∧ (a4 = none → rs = [] ∧ cap4 = 0) ∧ rs.length ≤ maxLen ∧ rs.length ≤ cap4 ∧ ∀ r, r ∈ rs → GoodR W r := by
    obtain ⟨fuel, hf⟩ := h4; exact open_recs hf
  obtain ⟨k5, e5⟩ : ∃ n, v5 = .int .i64 n := by
    obtain ⟨n, hn, _⟩ := open_int Try.underlying3 (hval 5 3 v5 rfl rfl) h5; exact ⟨n, hn⟩
  subst e5
  clear hA0 hval0
  refine (law5 u0 u1 u2 u3 u4 u5 a1 qs1 cap1 a2 a3 a4 rs2 rs3 rs4 cap2 cap3 cap4 k5 W R1 R2 R3 R4 N1 N2 N3 N4 L1 L2 L3 L4 (fun r hr => ⟨(G2 r hr).dat, (G2 r hr).dm⟩) (fun r hr => ⟨(G3 r hr).dat, (G3 r hr).dm⟩) (fun r hr => ⟨(G4 r hr).dat, (G4 r hr).dm⟩)).mono fun e W' ⟨he, bel⟩ => ?_
  subst he
  exact ⟨_, rfl, _, _, _, [], _, [], hW', trodAll_mk1 (shut_bool Try.underlying4 _), (trodAll_cons_mk (Below.trod Try.laidOut (by kernel_rfl) (of_decide_eq_true (by kernel_rfl)) h0 bel lt0) (trodAll_cons_mk (Below.trod Try.laidOut (by kernel_rfl) (of_decide_eq_true (by kernel_rfl)) h1 bel lt1) (trodAll_cons_mk (Below.trod Try.laidOut (by kernel_rfl) (of_decide_eq_true (by kernel_rfl)) h2 bel lt2) (trodAll_cons_mk (Below.trod Try.laidOut (by kernel_rfl) (of_decide_eq_true (by kernel_rfl)) h3 bel lt3) (trodAll_cons_mk (Below.trod Try.laidOut (by kernel_rfl) (of_decide_eq_true (by kernel_rfl)) h4 bel lt4) (trodAll_cons_mk (Below.trod Try.laidOut (by kernel_rfl) (of_decide_eq_true (by kernel_rfl)) h5 bel lt5) trodAll_mk0)))))), rfl, bel.frame _, fun h => by cases h⟩

theorem proved5 : Rows.FnFindTSIGCutAnywhereSaid :=
  OpenClaim.holds_of_wide 5 Try.f5 rfl rfl rfl rfl rfl rfl rfl ⟨rfl, rfl, rfl, rfl, rfl⟩ rfl rfl rfl rfl rfl (by kernel_rfl) Try.func5 (by kernel_rfl)
    (of_decide_eq_true (by kernel_rfl)) (by unfold Func.isWrapper; first | (rw [if_pos (by decide +kernel)]; kernel_rfl) | (rw [if_neg (by decide +kernel)]; exact ⟨rfl, rfl⟩))
    (fun os started H enc _ => lifted5 os started H enc)
end Go.Proofs.Qxb6618124a
