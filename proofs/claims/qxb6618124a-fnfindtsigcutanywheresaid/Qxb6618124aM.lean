import Derived.Test.Qxb6618124aW5
import Derived.Deep.RegionHeld3
import Derived.Deep.DrawnRows
namespace Go.Proofs.Qxb6618124a
open Go.RowKit

def MsgZ (qn : Nat) (rs us ds : List Rc) (e : Ending) : Prop := ∃ z : Int, e = .returned (.int .i64 z) ∧ 0 ≤ z ∧ (z ≤ 1048576 → 16 * (qn : Int) + 48 * (rs.length + us.length + ds.length) ≤ z)

set_option maxHeartbeats 400000 in
theorem msg_bytes (qo : Option Addr) (qn qc : Nat) (ao bo co : Option Addr) (rs us ds : List Rc) (ac bc cc : Nat) (w : World) (hr : Recs w ao rs) (hu : Recs w bo us) (hd : Recs w co ds)
    (hq : qn ≤ maxLen) (hrl : rs.length ≤ maxLen) (hul : us.length ≤ maxLen) (hdl : ds.length ≤ maxLen) :
    Calls Try.prog 8 #[.slice qo qn qc, .slice ao rs.length ac, .slice bo us.length bc, .slice co ds.length cc] w
      fun e w' => w = w' ∧ MsgZ qn rs us ds e := by
  unfold maxLen at hq
  by_cases c0 : 1048576 < (qn : Int)
  · go_enter Try.func8, Try.ntmps8
    go_wp2
    go_ret
    exact ⟨rfl, _, rfl, by omega, by omega⟩
  · go_enter Try.func8, Try.ntmps8
    go_wp2_with fail
    refine (rec_bytes (16 * (qn : Int)) ao rs ac w hr hrl (by omega) (by omega)).mono ?_
    rintro e w1 ⟨hw, z1, rfl, a1, a2, a3⟩
    subst hw
    go_wp2_with fail
    refine (rec_bytes z1 bo us bc _ hu hul (by omega) (by omega)).mono ?_
    rintro e w1 ⟨hw, z2, rfl, b1, b2, b3⟩
    subst hw
    go_wp2_with fail
    refine (rec_bytes z2 co ds cc _ hd hdl (by omega) (by omega)).mono ?_
    rintro e w1 ⟨hw, z3, rfl, c1, c2, c3⟩
    subst hw
    go_wp2
    go_ret
    exact ⟨rfl, z3, rfl, by omega, fun h => by have := c3 h; have := b3 (by omega); have := a3 (by omega); omega⟩

/-- A question as it lies in memory. -/
structure Qc where
  off : Int
  ty : Int
  cls : Int

/-- A slice of questions. -/
def Qs (w : World) (qo : Option Addr) (qs : List Qc) : Prop :=
  qs = [] ∨ ∃ b o, qo = some ⟨b, o, none⟩ ∧ b < w.heap.size ∧ ∀ i q, qs[i]? = some q → w.cell? ⟨b, o + i * 3, none⟩ = some (.int .i64 q.off) ∧ w.cell? ⟨b, o + i * 3 + 1, none⟩ = some (.int .u16 q.ty) ∧ w.cell? ⟨b, o + i * 3 + 2, none⟩ = some (.int .u16 q.cls)

theorem Qs.below {B : Nat} {w w' : World} {qo : Option Addr} {qs : List Qc} (h : Qs w qo qs) (hw : Below B w w') (hB : w.heap.size ≤ B) : Qs w' qo qs := by
  rcases h with h | ⟨b, o, rfl, hb, hc⟩
  · exact .inl h
  · refine .inr ⟨b, o, rfl, by have := hw.size; omega, fun i q hq => ?_⟩
    obtain ⟨k0, k1, k2⟩ := hc i q hq
    have hbB : b < B := by omega
    exact ⟨(hw.cell (p := ⟨b, o + i * 3, none⟩) hbB).trans k0, (hw.cell (p := ⟨b, o + i * 3 + 1, none⟩) hbB).trans k1, (hw.cell (p := ⟨b, o + i * 3 + 2, none⟩) hbB).trans k2⟩

def SomeSlice (e : Ending) : Prop := ∃ a n c, e = .returned (.slice a n c)

theorem Try.info67 : (Try.prog.info? 67).map (fun i => (i.zero, i.size, i.bytes)) = some (some (.agg #[.int .i64 0, .int .u16 0, .int .u16 0]), 3, 16) := by kernel_rfl

structure RowThere (wb : World) (B g n : Nat) (wr : World) : Prop where
  there : wr.there g 0 (n * 3)
  bel : Below B wb wr
  lt : g < wr.heap.size

theorem RowThere.drew {wb : World} {B g n : Nat} {wr : World} (h : RowThere wb B g n wr) : RowThere wb B g n wr.drew := ⟨(World.there_drew _ _ _ _).2 h.there, h.bel.drew, h.lt⟩

def RelQs (wb : World) (B g n : Nat) (i : Value) (wr : World) : Prop := ∃ k : Nat, k ≤ n ∧ i = .int .i64 k ∧ RowThere wb B g n wr

set_option maxHeartbeats 1000000 in
theorem qs_some (a : Addr) (qs : List Qc) (cap : Nat) (w : World) (h : Qs w (some a) qs) (hl : qs.length ≤ 1048577) :
    Calls Try.prog 23 #[.slice (some a) qs.length cap] w fun e w' => SomeSlice e ∧ Below w.heap.size w w' := by
  have hn : ∀ (w : World) (a : Option Addr) (n c n' c' : Nat), (binOp .eql 25 (.slice a n c) (.slice none n' c')).run Try.prog w = .ok (.bool a.isNone) w := fun w a n c n' c' => Lib.run_eql_slice_nil w _ _ a n c n' c' Try.underlying25
  obtain ⟨i0, hi, hz0, hz1, hz2⟩ := info_parts Try.info67
  go_enter Try.func23, Try.ntmps23
  go_wp2_with (at_make; refine wpList_make_full _ rfl _ _ 48 rfl w.heap.size 67 i0 _ 3 Try.underlying48 hi hz0 hz1 _ _ _ _ qs.length rfl rfl rfl rfl (by rw [hz2]; omega) (by unfold maxLen; omega) (Nat.le_refl _) ?_)
  intro w1 hown hgrow
  have F0 : RowThere w w.heap.size w.heap.size qs.length w1 := by
    refine ⟨fun j hj => ?_, (Below.refl _ _).grown hgrow (Nat.le_refl _) (fun _ h => by cases h), (hown.lt w.heap.size rfl).2⟩
    have hx := hown.1
    refine ⟨?_, by simpa using hown.frozenAt (0 + j)⟩
    rw [hown.cellAt (0 + j) (by omega), List.getElem?_eq_getElem (by omega)]
    rfl
  clear hown hgrow hn
  go_wp2
  go_loopw [4] (fun i wr => RelQs w w.heap.size w.heap.size qs.length i wr) (fun i _ => qs.length - (intOf i).toNat)
  case atStart => exact ⟨0, Nat.zero_le _, rfl, F0⟩
  case round =>
    obtain ⟨k, hk, rfl, hF⟩ := hrel
    by_cases hlt : k < qs.length
    · obtain h | ⟨b, o, hao, hb, hc⟩ := h
      · simp [h] at hlt
      cases hao
      obtain ⟨k0, k1, k2⟩ := hc k qs[k] (by simp)
      have c0 := (hF.bel.cell (p := ⟨b, o + k * 3, none⟩) hb).trans k0
      have c1 := (hF.bel.cell (p := ⟨b, o + k * 3 + 1, none⟩) hb).trans k1
      have c2 := (hF.bel.cell (p := ⟨b, o + k * 3 + 2, none⟩) hb).trans k2
      have hlt' : (k : Int) < (qs.length : Int) := by omega
      have hk0 : (0 : Int) ≤ (k : Int) := by omega
      have t0 := hF.there (k * 3) (by omega)
      have t1 := hF.there (k * 3 + 1) (by omega)
      have t2 := hF.there (k * 3 + 2) (by omega)
      simp only [Nat.zero_add] at t0 t1 t2
      clear k0 k1 k2
      obtain ⟨v0, e0⟩ := Option.isSome_iff_exists.1 t0.1
      obtain ⟨v1, e1⟩ := Option.isSome_iff_exists.1 t1.1
      obtain ⟨v2, e2⟩ := Option.isSome_iff_exists.1 t2.1
      have g0 := t0.2
      have g1 := t1.2
      have g2 := t2.2
      have hgsz := hF.lt
      have hne1 : b ≠ w.heap.size := by omega
      have hne2 : w.heap.size ≠ b := by omega
      have fin : RowThere w w.heap.size w.heap.size qs.length (((wr.setCell ⟨w.heap.size, k * 3, none⟩ (.int .i64 qs[k].off)).setCell ⟨w.heap.size, k * 3 + 1, none⟩ (.int .u16 qs[k].ty)).setCell ⟨w.heap.size, k * 3 + 2, none⟩ (.int .u16 qs[k].cls)) := by
        have tt : (wr.setCells w.heap.size (k * 3) [.int .i64 qs[k].off, .int .u16 qs[k].ty, .int .u16 qs[k].cls]).there w.heap.size 0 (qs.length * 3) := World.there_setCells hF.there _ _ _
        exact ⟨tt, ((hF.bel.setCell (p := ⟨w.heap.size, k * 3, none⟩) (Nat.le_refl _) _).setCell (p := ⟨w.heap.size, k * 3 + 1, none⟩) (Nat.le_refl _) _).setCell (p := ⟨w.heap.size, k * 3 + 2, none⟩) (Nat.le_refl _) _, by simpa [World.setCell] using hgsz⟩
      clear t0 t1 t2
      go_wp2
      go_region_held3 (fun w' => w'.cell? ⟨b, o + k * 3, none⟩ = some (.int .i64 qs[k].off) ∧ w'.cell? ⟨b, o + k * 3 + 1, none⟩ = some (.int .u16 qs[k].ty) ∧ w'.cell? ⟨b, o + k * 3 + 2, none⟩ = some (.int .u16 qs[k].cls)) (go_keep) (fail)
      go_wp2
      go_roundw
      case rel => exact ⟨k + 1, by omega, by go_num, fin.drew⟩
      case measure => simp [intOf]; omega
    · go_wp2
      go_ret
      exact ⟨⟨_, _, _, rfl⟩, hF.bel⟩

theorem qs_nil (w : World) : Calls Try.prog 23 #[.slice none 0 0] w fun e w' => e = .returned (.slice none 0 0) ∧ w' = w := by
  have hn : ∀ (w : World) (a : Option Addr) (n c n' c' : Nat), (binOp .eql 25 (.slice a n c) (.slice none n' c')).run Try.prog w = .ok (.bool a.isNone) w := fun w a n c n' c' => Lib.run_eql_slice_nil w _ _ a n c n' c' Try.underlying25
  go_enter Try.func23, Try.ntmps23
  go_wp2
  go_ret
  exact ⟨rfl, rfl⟩

theorem qs_any (qo : Option Addr) (qs : List Qc) (cap : Nat) (w : World) (h : Qs w qo qs) (hn : qo = none → qs = [] ∧ cap = 0) (hl : qs.length ≤ 1048577) :
    Calls Try.prog 23 #[.slice qo qs.length cap] w fun e w' => SomeSlice e ∧ Below w.heap.size w w' := by
  cases qo with
  | none =>
    obtain ⟨rfl, rfl⟩ := hn rfl
    refine (qs_nil w).mono ?_
    rintro e w' ⟨rfl, rfl⟩
    exact ⟨⟨_, _, _, rfl⟩, Below.refl _ _⟩
  | some a => exact qs_some a qs cap w h hl

/-- What zzMsg hands back. -/
structure IsMsg (w w' : World) (rs us ds : List Rc) (mb : Nat) (a7 a8 a9 : Option Addr) : Prop where
  c7 : w'.cell? ⟨mb, 7, none⟩ = some (.slice a7 rs.length rs.length)
  c8 : w'.cell? ⟨mb, 8, none⟩ = some (.slice a8 us.length us.length)
  c9 : w'.cell? ⟨mb, 9, none⟩ = some (.slice a9 ds.length ds.length)
  r7 : Recs w' a7 rs
  r8 : Recs w' a8 us
  r9 : Recs w' a9 ds
  g7 : ∀ a, a7 = some a → w.heap.size ≤ a.block
  g8 : ∀ a, a8 = some a → w.heap.size ≤ a.block
  g9 : ∀ a, a9 = some a → w.heap.size ≤ a.block
  gm : w.heap.size ≤ mb
  lm : mb < w'.heap.size

def MsgEnd (w w' : World) (rs us ds : List Rc) (e : Ending) : Prop := ∃ mb a7 a8 a9, e = .returned (.pointer (some ⟨mb, 0, none⟩)) ∧ IsMsg w w' rs us ds mb a7 a8 a9

/-- What stands while zzMsg makes the message. -/
structure SM (w : World) (qo ao bo co : Option Addr) (qs : List Qc) (rs us ds : List Rc) (w' : World) : Prop where
  q : Qs w' qo qs
  r : Recs w' ao rs
  u : Recs w' bo us
  d : Recs w' co ds
  bel : Below w.heap.size w w'
  sz : w.heap.size < w'.heap.size

def Cells6 (w : World) (h0 h1 h2 h3 h4 h5 : Int) (w' : World) : Prop :=
  w'.cell? ⟨w.heap.size, 0, none⟩ = some (.int .u16 h0) ∧ w'.cell? ⟨w.heap.size, 1, none⟩ = some (.int .u16 h1) ∧ w'.cell? ⟨w.heap.size, 2, none⟩ = some (.int .u16 h2) ∧
  w'.cell? ⟨w.heap.size, 3, none⟩ = some (.int .u16 h3) ∧ w'.cell? ⟨w.heap.size, 4, none⟩ = some (.int .u16 h4) ∧ w'.cell? ⟨w.heap.size, 5, none⟩ = some (.int .u16 h5)

theorem SM.next {w : World} {qo ao bo co : Option Addr} {qs : List Qc} {rs us ds : List Rc} {W W' : World} (h : SM w qo ao bo co qs rs us ds W) (hb : Below W.heap.size W W') : SM w qo ao bo co qs rs us ds W' :=
  ⟨h.q.below hb (Nat.le_refl _), h.r.below hb h.r.block, h.u.below hb h.u.block, h.d.below hb h.d.block, h.bel.trans (hb.mono (Nat.le_of_lt h.sz)), Nat.lt_of_lt_of_le h.sz hb.size⟩

theorem keepM {w : World} {h0 h1 h2 h3 h4 h5 : Int} {qo ao bo co : Option Addr} {qs : List Qc} {rs us ds : List Rc} {W W' : World}
    (h : W.cell? ⟨w.heap.size, 0, none⟩ = some (.int .u16 h0) ∧ W.cell? ⟨w.heap.size, 1, none⟩ = some (.int .u16 h1) ∧ W.cell? ⟨w.heap.size, 2, none⟩ = some (.int .u16 h2) ∧
      W.cell? ⟨w.heap.size, 3, none⟩ = some (.int .u16 h3) ∧ W.cell? ⟨w.heap.size, 4, none⟩ = some (.int .u16 h4) ∧ W.cell? ⟨w.heap.size, 5, none⟩ = some (.int .u16 h5) ∧ SM w qo ao bo co qs rs us ds W)
    (hb : Below W.heap.size W W') :
    W'.cell? ⟨w.heap.size, 0, none⟩ = some (.int .u16 h0) ∧ W'.cell? ⟨w.heap.size, 1, none⟩ = some (.int .u16 h1) ∧ W'.cell? ⟨w.heap.size, 2, none⟩ = some (.int .u16 h2) ∧
      W'.cell? ⟨w.heap.size, 3, none⟩ = some (.int .u16 h3) ∧ W'.cell? ⟨w.heap.size, 4, none⟩ = some (.int .u16 h4) ∧ W'.cell? ⟨w.heap.size, 5, none⟩ = some (.int .u16 h5) ∧ SM w qo ao bo co qs rs us ds W' := by
  obtain ⟨k0, k1, k2, k3, k4, k5, hs⟩ := h
  have key : ∀ j, W'.cell? ⟨w.heap.size, j, none⟩ = W.cell? ⟨w.heap.size, j, none⟩ := fun j => hb.cell (p := ⟨w.heap.size, j, none⟩) hs.sz
  exact ⟨(key _).trans k0, (key _).trans k1, (key _).trans k2, (key _).trans k3, (key _).trans k4, (key _).trans k5, hs.next hb⟩

theorem below_alloc1 (W : World) (o : Obj) : Below W.heap.size W (W.alloc o) := (Below.refl _ _).alloc (Nat.le_refl _) _

attribute [local go_sem ↓] Go.wp_at_zero Go.wp_at_succ

set_option maxHeartbeats 1000000 in
theorem msg_any (h0 h1 h2 h3 h4 h5 : Int) (qo : Option Addr) (qs : List Qc) (qc : Nat) (ao bo co : Option Addr) (rs us ds : List Rc) (ac bc cc : Nat) (w : World) (hqs : Qs w qo qs) (hr : Recs w ao rs) (hu : Recs w bo us) (hd : Recs w co ds)
    (nq : qo = none → qs = [] ∧ qc = 0) (nr : ao = none → rs = [] ∧ ac = 0) (nu : bo = none → us = [] ∧ bc = 0) (nd : co = none → ds = [] ∧ cc = 0)
    (lq : qs.length ≤ 1048577) (lr : rs.length ≤ 1048577) (lu : us.length ≤ 1048577) (ld : ds.length ≤ 1048577) :
    Calls Try.prog 9 #[.agg #[.int .u16 h0, .int .u16 h1, .int .u16 h2, .int .u16 h3, .int .u16 h4, .int .u16 h5], .slice qo qs.length qc, .slice ao rs.length ac, .slice bo us.length bc, .slice co ds.length cc] w
      fun e w' => MsgEnd w w' rs us ds e ∧ Below w.heap.size w w' := by
  go_enter Try.func9, Try.ntmps9
  go_wp2
  obtain ⟨wb, hwb⟩ : ∃ wb, wb = w.alloc (.cells #[.int .u16 h0, .int .u16 h1, .int .u16 h2, .int .u16 h3, .int .u16 h4, .int .u16 h5] 24) := ⟨_, rfl⟩
  rw [← hwb]
  have hb0 : Below w.heap.size w wb := by rw [hwb]; exact below_alloc1 _ _
  have S0 : wb.drew.cell? ⟨w.heap.size, 0, none⟩ = some (.int .u16 h0) ∧ wb.drew.cell? ⟨w.heap.size, 1, none⟩ = some (.int .u16 h1) ∧ wb.drew.cell? ⟨w.heap.size, 2, none⟩ = some (.int .u16 h2) ∧
      wb.drew.cell? ⟨w.heap.size, 3, none⟩ = some (.int .u16 h3) ∧ wb.drew.cell? ⟨w.heap.size, 4, none⟩ = some (.int .u16 h4) ∧ wb.drew.cell? ⟨w.heap.size, 5, none⟩ = some (.int .u16 h5) ∧ SM w qo ao bo co qs rs us ds wb.drew := by
    refine ⟨by rw [hwb]; simp, by rw [hwb]; simp, by rw [hwb]; simp, by rw [hwb]; simp, by rw [hwb]; simp, by rw [hwb]; simp, ?_⟩
    exact ⟨hqs.below hb0.drew (Nat.le_refl _), hr.below hb0.drew hr.block, hu.below hb0.drew hu.block, hd.below hb0.drew hd.block, hb0.drew, by rw [hwb]; simp⟩
  clear hwb hb0 hqs hr hu hd
  go_region_held3 (fun W => W.cell? ⟨w.heap.size, 0, none⟩ = some (.int .u16 h0) ∧ W.cell? ⟨w.heap.size, 1, none⟩ = some (.int .u16 h1) ∧ W.cell? ⟨w.heap.size, 2, none⟩ = some (.int .u16 h2) ∧
      W.cell? ⟨w.heap.size, 3, none⟩ = some (.int .u16 h3) ∧ W.cell? ⟨w.heap.size, 4, none⟩ = some (.int .u16 h4) ∧ W.cell? ⟨w.heap.size, 5, none⟩ = some (.int .u16 h5) ∧ SM w qo ao bo co qs rs us ds W)
    (first | assumption | exact keepM (by assumption) (below_alloc1 _ _))
    (first
      | (go_at_call 23; refine (qs_any qo qs qc _ S0.2.2.2.2.2.2.q nq lq).mono ?_; rintro e w1 ⟨⟨a6, n6, c6, rfl⟩, hb1⟩; have S1 := keepM S0 hb1)
      | (go_at_call_of 15 rs; refine (rrs_any ao rs ac _ S1.2.2.2.2.2.2.r nr lr).mono ?_; rintro e w2 ⟨a7, rfl, hR7, hg7, hb2⟩; have S2 := keepM S1 hb2)
      | (go_at_call_of 15 us; refine (rrs_any bo us bc _ S2.2.2.2.2.2.2.u nu lu).mono ?_; rintro e w3 ⟨a8, rfl, hR8, hg8, hb3⟩; have S3 := keepM S2 hb3)
      | (go_at_call_of 15 ds; refine (rrs_any co ds cc _ S3.2.2.2.2.2.2.d nd ld).mono ?_; rintro e w4 ⟨a9, rfl, hR9, hg9, hb4⟩; have S4 := keepM S3 hb4))
  go_wp2
  go_ret
  have b4 := below_alloc1 w4 (.cells #[.int .u16 h0, .int .u16 h1, .int .u16 h2, .int .u16 h3, .int .u16 h4, .int .u16 h5, .slice a6 n6 c6, .slice a7 rs.length rs.length, .slice a8 us.length us.length, .slice a9 ds.length ds.length] 50)
  have z1 := S1.2.2.2.2.2.2.sz
  have z2 := S2.2.2.2.2.2.2.sz
  have z3 := S3.2.2.2.2.2.2.sz
  have z4 := S4.2.2.2.2.2.2.sz
  have R7 := (hR7.below hb3 hR7.block)
  have R7' := (R7.below hb4 R7.block)
  have R8 := (hR8.below hb4 hR8.block)
  refine ⟨⟨w4.heap.size, a7, a8, a9, rfl, ⟨by simp, by simp, by simp, R7'.below b4 R7'.block, R8.below b4 R8.block, hR9.below b4 hR9.block, fun a ha => ?_, fun a ha => ?_, fun a ha => ?_, Nat.le_of_lt z4, by simp⟩⟩, ?_⟩
  · have := hg7 a ha; omega
  · have := hg8 a ha; omega
  · have := hg9 a ha; omega
  · exact S4.2.2.2.2.2.2.bel.trans (b4.mono (Nat.le_of_lt z4))
end Go.Proofs.Qxb6618124a
