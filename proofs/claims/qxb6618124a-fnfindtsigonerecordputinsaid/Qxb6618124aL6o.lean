import Derived.Test.Qxb6618124aG
namespace Go.Proofs.Qxb6618124a
open Go.RowKit

set_option linter.unusedVariables false

set_option maxRecDepth 100000 in
set_option maxHeartbeats 2000000 in
theorem law6_out (h0 h1 h2 h3 h4 h5 : Int) (qo : Option Addr) (qs : List Qc) (qc : Nat) (ao bo co : Option Addr) (rs us ds : List Rc) (ac bc cc : Nat) (k : Int) (x : Rc) (w : World) (hqs : Qs w qo qs) (hr : Recs w ao rs) (hu : Recs w bo us) (hd : Recs w co ds)
    (nq : qo = none → qs = [] ∧ qc = 0) (nr : ao = none → rs = [] ∧ ac = 0) (nu : bo = none → us = [] ∧ bc = 0) (nd : co = none → ds = [] ∧ cc = 0)
    (lq : qs.length ≤ maxLen) (lr : rs.length ≤ maxLen) (lu : us.length ≤ maxLen) (ld : ds.length ≤ maxLen) (gr : Goods w rs) (gu : Goods w us) (gd : Goods w ds) (gx : DatW w x.da x.dl ∧ x.dl ≤ maxLen) (s : Int) (hs : s < 0 ∨ 2 < s) :
    Calls Try.prog 6 #[.agg #[.int .u16 h0, .int .u16 h1, .int .u16 h2, .int .u16 h3, .int .u16 h4, .int .u16 h5], .slice qo qs.length qc, .slice ao rs.length ac, .slice bo us.length bc, .slice co ds.length cc, .int .i64 s, .int .i64 k, .agg #[.int .i64 x.off, .int .u16 x.ty, .int .u16 x.cls, .int .u32 x.ttl, .int .i64 x.doff, .slice x.da x.dl x.dc]] w
      fun e w' => e = .returned (.bool true) ∧ Below w.heap.size w w' := by
  go_enter Try.func6, Try.ntmps6
  go_wp2_with fail
  obtain ⟨wb, hwb⟩ : ∃ wb, wb = (w.alloc (.cells #[.int .u16 h0, .int .u16 h1, .int .u16 h2, .int .u16 h3, .int .u16 h4, .int .u16 h5] 24)).alloc (.cells #[.int .i64 x.off, .int .u16 x.ty, .int .u16 x.cls, .int .u32 x.ttl, .int .i64 x.doff, .slice x.da x.dl x.dc] 40) := ⟨_, rfl⟩
  rw [← hwb]
  have hbb : Below w.heap.size w wb := by rw [hwb]; exact ((Below.refl _ _).alloc (Nat.le_refl _) _).alloc (by simp) _
  have hHb : AtH wb w.heap.size h0 h1 h2 h3 h4 h5 := by rw [hwb]; constructor <;> simp
  have hXb : At6 wb (w.heap.size + 1) 0 x := by rw [hwb]; constructor <;> simp
  have hzb : w.heap.size + 2 ≤ wb.heap.size := by rw [hwb]; simp
  have B0 := Base4.mk0 hqs hr hu hd hbb
  clear hwb
  refine (bytes_fone h0 h1 h2 h3 h4 h5 qo qs.length qc ao bo co rs us ds ac bc cc s k x wb B0.r B0.u B0.d lq lr lu ld).mono ?_
  rintro e w1 ⟨⟨b, rfl⟩, hb1⟩
  have hB1 := hbb.trans (hb1.mono (by omega))
  have B1 := Base4.mk0 hqs hr hu hd hB1
  have hH1 := hHb.below hb1 (by omega)
  have hX1 := hXb.below hb1 (by omega)
  have hz1 : w.heap.size + 2 ≤ w1.heap.size := by have := hb1.size; omega
  clear hb1 hHb hXb B0 hbb hzb
  cases b with
  | false =>
    go_wp2
    go_ret
    exact ⟨rfl, hB1⟩
  | true =>
    go_wp2_with fail
    refine (msg_bytes qo qs.length qc ao bo co rs us ds ac bc cc w1 B1.r B1.u B1.d lq lr lu ld).mono ?_
    rintro e w2 ⟨hw, z, rfl, hz, hzz⟩
    subst hw
    obtain ⟨k0, k1, k2, k3, k4, k5⟩ := hH1
    obtain ⟨c0, c1, c2, c3, c4, c5⟩ := hX1.flat
    by_cases cz : 1048576 < z
    · go_wp2
      go_ret
      exact ⟨rfl, hB1⟩
    have hlen : 16 * (qs.length : Int) + 48 * (rs.length + us.length + ds.length) ≤ 1048576 := by have := hzz (by omega); omega
    clear hzz
    by_cases cx : 1048576 - z < (x.dl : Int)
    · go_wp2
      go_ret
      exact ⟨rfl, hB1⟩
    rcases hs with hs | hs
    · go_wp2
      go_ret
      exact ⟨rfl, hB1⟩
    · have hs0 : ¬ s < 0 := by omega
      go_wp2
      go_ret
      exact ⟨rfl, hB1⟩
end Go.Proofs.Qxb6618124a
