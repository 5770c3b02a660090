import Derived.Test.Qxb6618124aF2
namespace Go.Proofs.Qxb6618124a
open Go.RowKit

attribute [local go_sem ↓] Go.wp_at_zero Go.wp_at_succ

theorem index69_0 (s0 s1 s2 : Value) (w : World) : (Instr.index 69 (.agg #[s0, s1, s2]) (.int .i64 0)).run Try.prog w = .ok s0 w := by kernel_rfl
theorem index69_1 (s0 s1 s2 : Value) (w : World) : (Instr.index 69 (.agg #[s0, s1, s2]) (.int .i64 1)).run Try.prog w = .ok s1 w := by kernel_rfl
theorem index69_2 (s0 s1 s2 : Value) (w : World) : (Instr.index 69 (.agg #[s0, s1, s2]) (.int .i64 2)).run Try.prog w = .ok s2 w := by kernel_rfl

def P8.vals (p : P8) : List Value := [.int .i64 p.r.off, .int .u16 p.r.ty, .int .u16 p.r.cls, .int .u32 p.r.ttl, .int .i64 p.r.doff, .slice p.r.da p.r.dl p.r.dc, .int .i64 p.sec, .int .i64 p.n]
theorem Try.size62 : (Try.prog.info? 62).map (·.size) = some 8 := by kernel_rfl
theorem all8 (p : P8) : (#[.int .i64 p.r.off, .int .u16 p.r.ty, .int .u16 p.r.cls, .int .u32 p.r.ttl, .int .i64 p.r.doff, .slice p.r.da p.r.dl p.r.dc, .int .i64 p.sec, .int .i64 p.n] : Array Value).all (·.oneCell') = true := by simp [Value.oneCell']

/-- A whole place stored. -/
theorem wpList_store_p {P : Program} {ops : Array Oper} {rest : List Oper} {op : Oper} {a : Act} {w : World} {Q : Exit → Act → World → Prop} (p : P8) (ty : TypeId) (hi : (P.info? ty).map (·.size) = some 8) (x y : Operand) (b : Nat)
    (hgd : op.guard = none) (ho : op.op = .store ty x y) (hx : a.eval x = .pointer (some ⟨b, 0, none⟩))
    (hy : a.eval y = .agg #[.int .i64 p.r.off, .int .u16 p.r.ty, .int .u16 p.r.cls, .int .u32 p.r.ttl, .int .i64 p.r.doff, .slice p.r.da p.r.dl p.r.dc, .int .i64 p.sec, .int .i64 p.n])
    (ht : w.there b 0 8) (h : wpList P ops Q rest (a.put op.dst undef) (w.setCells b 0 p.vals)) : wpList P ops Q (op :: rest) a w :=
  wpList_store_mid hgd ty x y ho b 0 _ hx hy ht hi (all8 p) h

/-- What the place holds ahead of section k. -/
def stage (rs us ds : List Rc) : Nat → P8
  | 0 => zeroP
  | 1 => foldSec zeroP 0 rs
  | 2 => foldSec (foldSec zeroP 0 rs) 1 us
  | _ => findP rs us ds

theorem stage_bound (rs us ds : List Rc) (k : Nat) (hr : rs.length ≤ 1048577) (hu : us.length ≤ 1048577) (hd : ds.length ≤ 1048577) : 0 ≤ (stage rs us ds k).n ∧ (stage rs us ds k).n ≤ 3145731 := by
  have h1 := foldSec_bound zeroP 0 rs (by decide)
  have h2 := foldSec_bound (foldSec zeroP 0 rs) 1 us h1.1
  have h3 := foldSec_bound (foldSec (foldSec zeroP 0 rs) 1 us) 2 ds h2.1
  have h0 : zeroP.n = 0 := rfl
  match k with
  | 0 => simp [stage, h0]
  | 1 => simp only [stage]; omega
  | 2 => simp only [stage]; omega
  | n + 3 => simp only [stage, findP]; omega

theorem section_at (a7 a8 a9 : Option Addr) (n7 n8 n9 : Nat) (rs us ds : List Rc) (w1 : World) (hr : Recs w1 a7 rs) (hu : Recs w1 a8 us) (hd : Recs w1 a9 ds) (lr : rs.length ≤ 1048577) (lu : us.length ≤ 1048577) (ld : ds.length ≤ 1048577) (pb : Nat)
    (e7 : ∀ a, a7 = some a → rs ≠ [] → a.block ≠ pb) (e8 : ∀ a, a8 = some a → us ≠ [] → a.block ≠ pb) (e9 : ∀ a, a9 = some a → ds ≠ [] → a.block ≠ pb) (k : Nat) (hk : k < 3) :
    ∃ (A : Option Addr) (L : List Rc) (N : Nat), (∀ w, (Instr.index 69 (.agg #[.slice a7 rs.length n7, .slice a8 us.length n8, .slice a9 ds.length n9]) (.int .i64 (k : Int))).run Try.prog w = .ok (.slice A L.length N) w) ∧
      Recs w1 A L ∧ L.length ≤ 1048577 ∧ (∀ a, A = some a → L ≠ [] → a.block ≠ pb) ∧ stage rs us ds (k + 1) = foldSec (stage rs us ds k) k L := by
  match k, hk with
  | 0, _ => exact ⟨a7, rs, n7, fun w => index69_0 _ _ _ w, hr, lr, e7, rfl⟩
  | 1, _ => exact ⟨a8, us, n8, fun w => index69_1 _ _ _ w, hu, lu, e8, rfl⟩
  | 2, _ => exact ⟨a9, ds, n9, fun w => index69_2 _ _ _ w, hd, ld, e9, rfl⟩

def RelO (w1 : World) (pb : Nat) (rs us ds : List Rc) (i : Value) (wr : World) : Prop := ∃ k : Nat, k ≤ 3 ∧ i = .int .i64 k ∧ AtP wr pb (stage rs us ds k) ∧ w1.grownBy wr (some pb)
def RelI (w1 : World) (pb : Nat) (p : P8) (sec : Int) (L : List Rc) (i : Value) (wr : World) : Prop := ∃ j : Nat, j ≤ L.length ∧ i = .int .i64 j ∧ AtP wr pb (foldSec p sec (L.take j)) ∧ w1.grownBy wr (some pb)

theorem AtP.grown {w w' : World} {row b : Nat} {p : P8} (h : AtP w b p) (hw : w.grownBy w' (some row)) (hne : b ≠ row) : AtP w' b p := by
  have hb : w'.heap[b]? = w.heap[b]? := hw.block b h.lt (by simpa using hne)
  have kc : ∀ j, w'.cell? ⟨b, j, none⟩ = w.cell? ⟨b, j, none⟩ := fun j => World.cell?_of_block (a := ⟨b, j, none⟩) hb
  have kf : ∀ j, w'.frozen? ⟨b, j, none⟩ = w.frozen? ⟨b, j, none⟩ := fun j => World.frozen?_of_block (a := ⟨b, j, none⟩) hb
  obtain ⟨⟨c0, c1, c2, c3, c4, c5⟩, c6, c7, fr⟩ := h
  exact ⟨⟨(kc _).trans c0, (kc _).trans c1, (kc _).trans c2, (kc _).trans c3, (kc _).trans c4, (kc _).trans c5⟩, (kc _).trans c6, (kc _).trans c7, fun j => (kf j).trans (fr j)⟩

set_option maxHeartbeats 1000000 in
theorem find_any (mb : Nat) (a7 a8 a9 : Option Addr) (n7 n8 n9 : Nat) (rs us ds : List Rc) (w : World) (hr : Recs w a7 rs) (hu : Recs w a8 us) (hd : Recs w a9 ds)
    (c7 : w.cell? ⟨mb, 7, none⟩ = some (.slice a7 rs.length n7)) (c8 : w.cell? ⟨mb, 8, none⟩ = some (.slice a8 us.length n8)) (c9 : w.cell? ⟨mb, 9, none⟩ = some (.slice a9 ds.length n9))
    (lr : rs.length ≤ 1048577) (lu : us.length ≤ 1048577) (ld : ds.length ≤ 1048577) :
    Calls Try.prog 25 #[.pointer (some ⟨mb, 0, none⟩)] w
      fun e w' => e = .returned (.agg #[.int .i64 (findP rs us ds).r.off, .int .u16 (findP rs us ds).r.ty, .int .u16 (findP rs us ds).r.cls, .int .u32 (findP rs us ds).r.ttl, .int .i64 (findP rs us ds).r.doff,
          .slice (findP rs us ds).r.da (findP rs us ds).r.dl (findP rs us ds).r.dc, .int .i64 (findP rs us ds).sec, .int .i64 (findP rs us ds).n]) ∧ Below w.heap.size w w' := by
  have hml : mb < w.heap.size := World.block_lt_of_cell? w _ c7
  go_enter Try.func25, Try.ntmps25
  go_wp2
  obtain ⟨wz, hwz⟩ : ∃ wz, wz = (w.alloc (.cells #[.int .i64 0, .int .u16 0, .int .u16 0, .int .u32 0, .int .i64 0, .slice none 0 0, .int .i64 0, .int .i64 0] 62)).alloc (.cells #[.int .i64 0, .int .u16 0, .int .u16 0, .int .u32 0, .int .i64 0, .slice none 0 0, .int .i64 0, .int .i64 0] 62) := ⟨_, rfl⟩
  rw [← hwz]
  have hb0 : Below w.heap.size w wz := by rw [hwz]; exact ((Below.refl _ _).alloc (Nat.le_refl _) _).alloc (by simp) _
  have hzz : w.heap.size + 2 = wz.heap.size := by rw [hwz]; simp
  have hRes : AtP wz w.heap.size zeroP := by rw [hwz]; refine ⟨by constructor <;> simp [zeroP, zeroR], by simp [zeroP], by simp [zeroP], by simp⟩
  have hP0 : AtP wz (w.heap.size + 1) zeroP := by rw [hwz]; refine ⟨by constructor <;> simp [zeroP, zeroR], by simp [zeroP], by simp [zeroP], by simp⟩
  have z7 := (hb0.cell (p := ⟨mb, 7, none⟩) hml).trans c7
  have z8 := (hb0.cell (p := ⟨mb, 8, none⟩) hml).trans c8
  have z9 := (hb0.cell (p := ⟨mb, 9, none⟩) hml).trans c9
  have Hzz : Hid (w.heap.size + 2 = wz.heap.size) := hzz
  clear hwz hzz c7 c8 c9
  go_region_held3 (fun W => W.cell? ⟨mb, 7, none⟩ = some (.slice a7 rs.length n7) ∧ W.cell? ⟨mb, 8, none⟩ = some (.slice a8 us.length n8) ∧ W.cell? ⟨mb, 9, none⟩ = some (.slice a9 ds.length n9)) (go_keep) (fail)
  go_wp2
  obtain ⟨w1, hw1⟩ : ∃ w1, w1 = (wz.alloc (.cells #[.slice a7 rs.length n7, .slice a8 us.length n8, .slice a9 ds.length n9] 69)).drew := ⟨_, rfl⟩
  rw [← hw1]
  have hb1 : Below wz.heap.size wz w1 := by rw [hw1]; exact (below_alloc1 _ _).drew
  have hB1 : Below w.heap.size w w1 := hb0.trans (hb1.mono hb0.size)
  have hRes1 := hRes.below hb1 hRes.lt
  have hP1 := hP0.below hb1 hP0.lt
  have hr1 := hr.below hB1 hr.block
  have hu1 := hu.below hB1 hu.block
  have hd1 := hd.below hB1 hd.block
  have e7 : ∀ a, a7 = some a → rs ≠ [] → a.block ≠ w.heap.size + 1 := fun a ha hne => by have := hr.block a ha hne; omega
  have e8 : ∀ a, a8 = some a → us ≠ [] → a.block ≠ w.heap.size + 1 := fun a ha hne => by have := hu.block a ha hne; omega
  have e9 : ∀ a, a9 = some a → ds ≠ [] → a.block ≠ w.heap.size + 1 := fun a ha hne => by have := hd.block a ha hne; omega
  have hz1 : w.heap.size + 2 ≤ w1.heap.size := by have := hb1.size; have := Hzz.out; omega
  clear hw1 hb1 hb0 hRes hP0 hr hu hd z7 z8 z9 Hzz
  go_loopw [23] (fun i wr => RelO w1 (w.heap.size + 1) rs us ds i wr) (fun i _ => 3 - (intOf i).toNat)
  case atStart => exact ⟨0, by omega, rfl, hP1, World.grownBy.refl _ _⟩
  case round =>
    obtain ⟨k, hk, rfl, hP, hg⟩ := hrel
    by_cases hk3 : k < 3
    · obtain ⟨A, L, N, hidx, hL, lL, eL, hst⟩ := section_at a7 a8 a9 n7 n8 n9 rs us ds w1 hr1 hu1 hd1 lr lu ld (w.heap.size + 1) e7 e8 e9 k hk3
      have hsb := stage_bound rs us ds k lr lu ld
      have Hst : Hid (stage rs us ds (k + 1) = foldSec (stage rs us ds k) k L) := hst
      have hk3' : (k : Int) < 3 := by omega
      clear hst
      go_wp2
      go_loopw [29] (fun i wr => RelI w1 (w.heap.size + 1) (stage rs us ds k) k L i wr) (fun i _ => L.length - (intOf i).toNat)
      case atStart => exact ⟨0, Nat.zero_le _, rfl, by simpa [foldSec] using hP, hg⟩
      case round =>
        obtain ⟨j, hj, rfl, hPj, hgj⟩ := hrel
        by_cases hlt : j < L.length
        · have hLj := hL.grown hgj eL
          obtain h | ⟨b, o, rfl, hb, hc⟩ := hLj
          · simp [h] at hlt
          obtain ⟨c0, c1, c2, c3, c4, c5⟩ := hc j L[j] (by simp)
          have hlt' : (j : Int) < (L.length : Int) := by omega
          have hbj := foldSec_bound (stage rs us ds k) k (L.take j) hsb.1
          have hlj : (L.take j).length ≤ 1048577 := by simp; omega
          clear hidx
          go_wp2_with fail
          obtain ⟨wa, hwa⟩ : ∃ wa, wa = wr.alloc (.cells #[.int .i64 L[j].off, .int .u16 L[j].ty, .int .u16 L[j].cls, .int .u32 L[j].ttl, .int .i64 L[j].doff, .slice L[j].da L[j].dl L[j].dc] 53) := ⟨_, rfl⟩
          rw [← hwa]
          have hba : Below wr.heap.size wr wa := by rw [hwa]; exact below_alloc1 _ _
          clear hwa
          have hPa := hPj.below hba hPj.lt
          refine (add_any (w.heap.size + 1) _ k L[j] wa hPa (by omega) (by omega)).mono ?_
          rintro e w3 ⟨rfl, hP3, hg3⟩
          rw [← foldSec_snoc _ _ L j hlt] at hP3
          have hg4 := grownBy_trans (grownBy_trans hgj (grownBy_below _ hba)) hg3
          clear hg3 hba c0 c1 c2 c3 c4 c5 hPa
          go_wp2
          go_roundw
          case rel => exact ⟨j + 1, by omega, by go_num, hP3, hg4⟩
          case measure => simp [intOf]; omega
        · obtain rfl : j = L.length := by omega
          rw [List.take_of_length_le (Nat.le_refl _), ← Hst.out] at hPj
          clear hidx
          go_wp2
          go_roundw
          case rel => exact ⟨k + 1, by omega, by go_num, hPj, hgj⟩
          case measure => simp [intOf]; omega
    · obtain rfl : k = 3 := by omega
      have hRes2 := hRes1.grown hg (by omega)
      have ht2 := hRes2.there
      have hP' : AtP wr (w.heap.size + 1) (findP rs us ds) := hP
      obtain ⟨p, hp⟩ : ∃ p, p = findP rs us ds := ⟨_, rfl⟩
      rw [← hp] at hP'
      have Hp : Hid (p = findP rs us ds) := hp
      clear hp
      have hB : Below w.heap.size w (wr.setCells w.heap.size 0 p.vals) := by
        refine Below.setCells (hB1.trans (below_grown hg (by omega) (by omega))) (Nat.le_refl _) _ _
      have R := World.rangeAt_setCells_same wr w.heap.size 0 p.vals ht2
      obtain ⟨⟨c0, c1, c2, c3, c4, c5⟩, c6, c7, _⟩ := hP'
      simp only [Nat.zero_add] at c1 c2 c3 c4 c5
      clear hP
      go_wp2_with ((with_reducible refine wpList_store_p p 62 Try.size62 (.tmp 2) (.tmp 38) w.heap.size ?_ ?_ ?_ ?_ ?_ ?_); rfl; rfl; rfl; rfl; exact ht2)
      have x0 := R 0 _ rfl
      have x1 := R 1 _ rfl
      have x2 := R 2 _ rfl
      have x3 := R 3 _ rfl
      have x4 := R 4 _ rfl
      have x5 := R 5 _ rfl
      have x6 := R 6 _ rfl
      have x7 := R 7 _ rfl
      simp only [Nat.zero_add, Nat.add_zero] at x0 x1 x2 x3 x4 x5 x6 x7
      generalize wr.setCells w.heap.size 0 p.vals = wf at *
      refine bodyPost_ret (v := .agg #[.int .i64 p.r.off, .int .u16 p.r.ty, .int .u16 p.r.cls, .int .u32 p.r.ttl, .int .i64 p.r.doff, .slice p.r.da p.r.dl p.r.dc, .int .i64 p.sec, .int .i64 p.n]) (by simp [results, Try.results25, go_sem, Act.put, x0, x1, x2, x3, x4, x5, x6, x7]) rfl ⟨?_, hB⟩
      rw [← Hp.out]
end Go.Proofs.Qxb6618124a
