import Derived.Test.Qxb6618124aF3
namespace Go.Proofs.Qxb6618124a
open Go.RowKit

attribute [local go_sem ↓] Go.wp_at_zero Go.wp_at_succ

theorem At6.drew {w : World} {b o : Nat} {r : Rc} (h : At6 w b o r) : At6 w.drew b o r := ⟨h.c0, h.c1, h.c2, h.c3, h.c4, h.c5⟩

set_option maxHeartbeats 1000000 in
theorem zfind_any (mb : Nat) (a7 a8 a9 : Option Addr) (n7 n8 n9 : Nat) (rs us ds : List Rc) (w : World) (hr : Recs w a7 rs) (hu : Recs w a8 us) (hd : Recs w a9 ds)
    (c7 : w.cell? ⟨mb, 7, none⟩ = some (.slice a7 rs.length n7)) (c8 : w.cell? ⟨mb, 8, none⟩ = some (.slice a8 us.length n8)) (c9 : w.cell? ⟨mb, 9, none⟩ = some (.slice a9 ds.length n9))
    (lr : rs.length ≤ 1048577) (lu : us.length ≤ 1048577) (ld : ds.length ≤ 1048577) :
    Calls Try.prog 18 #[.pointer (some ⟨mb, 0, none⟩)] w
      fun e w' => e = .returned (.tuple #[.agg #[.int .i64 (findP rs us ds).r.off, .int .u16 (findP rs us ds).r.ty, .int .u16 (findP rs us ds).r.cls, .int .u32 (findP rs us ds).r.ttl, .int .i64 (findP rs us ds).r.doff,
          .slice (findP rs us ds).r.da (findP rs us ds).r.dl (findP rs us ds).r.dc], .int .i64 (findP rs us ds).sec, .int .i64 (findP rs us ds).n]) ∧ Below w.heap.size w w' := by
  have hml : mb < w.heap.size := World.block_lt_of_cell? w _ c7
  go_enter Try.func18, Try.ntmps18
  go_wp2_with fail
  obtain ⟨wz, hwz⟩ : ∃ wz, wz = w.alloc (.cells #[.int .i64 0, .int .u16 0, .int .u16 0, .int .u32 0, .int .i64 0, .slice none 0 0] 53) := ⟨_, rfl⟩
  rw [← hwz]
  have hb0 : Below w.heap.size w wz := by rw [hwz]; exact below_alloc1 _ _
  have hzz : w.heap.size + 1 = wz.heap.size := by rw [hwz]; simp
  have h6 : At6 wz w.heap.size 0 zeroR := by rw [hwz]; constructor <;> simp [zeroR]
  have f6 : ∀ j, wz.frozen? ⟨w.heap.size, j, none⟩ = false := by rw [hwz]; simp
  refine (find_any mb a7 a8 a9 n7 n8 n9 rs us ds wz (hr.below hb0 hr.block) (hu.below hb0 hu.block) (hd.below hb0 hd.block) ((hb0.cell (p := ⟨mb, 7, none⟩) hml).trans c7) ((hb0.cell (p := ⟨mb, 8, none⟩) hml).trans c8) ((hb0.cell (p := ⟨mb, 9, none⟩) hml).trans c9) lr lu ld).mono ?_
  rintro e w1 ⟨rfl, hb1⟩
  have h61 := h6.below hb1 (by omega)
  have f61 : ∀ j, w1.frozen? ⟨w.heap.size, j, none⟩ = false := fun j => (hb1.frozen (p := ⟨w.heap.size, j, none⟩) (by show w.heap.size < _; omega)).trans (f6 j)
  have hB1 : Below w.heap.size w w1 := hb0.trans (hb1.mono (by omega))
  have hs1 : w.heap.size < w1.heap.size := by have := hb1.size; omega
  clear hwz hzz h6 f6 hb0 hb1 c7 c8 c9 hr hu hd
  obtain ⟨p, hp⟩ : ∃ p, p = findP rs us ds := ⟨_, rfl⟩
  rw [← hp]
  have Hp : Hid (p = findP rs us ds) := hp
  clear hp
  go_wp2
  obtain ⟨w2, hw2⟩ : ∃ w2, w2 = w1.alloc (.cells #[.int .i64 p.r.off, .int .u16 p.r.ty, .int .u16 p.r.cls, .int .u32 p.r.ttl, .int .i64 p.r.doff, .slice p.r.da p.r.dl p.r.dc, .int .i64 p.sec, .int .i64 p.n] 62) := ⟨_, rfl⟩
  rw [← hw2]
  have hb2 : Below w1.heap.size w1 w2 := by rw [hw2]; exact below_alloc1 _ _
  have hP2 : AtP w2 w1.heap.size p := by rw [hw2]; refine ⟨by constructor <;> simp, by simp, by simp, by simp⟩
  have h62 := h61.below hb2 hs1
  have f62 : ∀ j, w2.frozen? ⟨w.heap.size, j, none⟩ = false := fun j => (hb2.frozen (p := ⟨w.heap.size, j, none⟩) hs1).trans (f61 j)
  have hB2 : Below w.heap.size w w2 := hB1.trans (hb2.mono (by omega))
  have hne1 : w.heap.size ≠ w1.heap.size := by omega
  have hne2 : w1.heap.size ≠ w.heap.size := by omega
  clear hw2 h61 f61 hB1 hb2
  obtain ⟨⟨c0, c1, c2, c3, c4, c5⟩, c6, c7, _⟩ := hP2
  have ht : w2.there w.heap.size 0 p.r.vals.length := fun j hj => ⟨by
    have hj6 : j < 6 := hj
    obtain ⟨d0, d1, d2, d3, d4, d5⟩ := h62
    match j, hj6 with
    | 0, _ => simp [d0]
    | 1, _ => simp at d1; simp [d1]
    | 2, _ => simp at d2; simp [d2]
    | 3, _ => simp at d3; simp [d3]
    | 4, _ => simp at d4; simp [d4]
    | 5, _ => simp at d5; simp [d5], f62 _⟩
  have R := World.rangeAt_setCells_same w2 w.heap.size 0 p.r.vals ht
  have hBf : Below w.heap.size w (w2.setCells w.heap.size 0 p.r.vals).drew := (Below.setCells hB2 (Nat.le_refl _) _ _).drew
  have A0 := At6.of_range R
  have A1 := A0.drew
  have HR : Hid (At6 (w2.setCells w.heap.size 0 p.r.vals).drew w.heap.size 0 p.r) := A1
  clear R ht A0 A1
  obtain ⟨d0, d1, d2, d3, d4, d5⟩ := h62
  simp only [Nat.zero_add] at c1 c2 c3 c4 c5 d1 d2 d3 d4 d5
  have g0 := f62 0
  have g1 := f62 1
  have g2 := f62 2
  have g3 := f62 3
  have g4 := f62 4
  have g5 := f62 5
  clear f62
  go_region_held3 (fun W => W.cell? ⟨w1.heap.size, 0, none⟩ = some (.int .i64 p.r.off) ∧ W.cell? ⟨w1.heap.size, 1, none⟩ = some (.int .u16 p.r.ty) ∧ W.cell? ⟨w1.heap.size, 2, none⟩ = some (.int .u16 p.r.cls) ∧ W.cell? ⟨w1.heap.size, 3, none⟩ = some (.int .u32 p.r.ttl) ∧ W.cell? ⟨w1.heap.size, 4, none⟩ = some (.int .i64 p.r.doff) ∧ W.cell? ⟨w1.heap.size, 5, none⟩ = some (.slice p.r.da p.r.dl p.r.dc) ∧ W.cell? ⟨w1.heap.size, 6, none⟩ = some (.int .i64 p.sec) ∧ W.cell? ⟨w1.heap.size, 7, none⟩ = some (.int .i64 p.n)) (go_keep) (fail)
  go_wp2
  obtain ⟨wf, hwf⟩ : ∃ wf, wf = ((((((w2.setCell ⟨w.heap.size, 0, none⟩ (.int .i64 p.r.off)).setCell ⟨w.heap.size, 1, none⟩ (.int .u16 p.r.ty)).setCell ⟨w.heap.size, 2, none⟩ (.int .u16 p.r.cls)).setCell ⟨w.heap.size, 3, none⟩ (.int .u32 p.r.ttl)).setCell ⟨w.heap.size, 4, none⟩ (.int .i64 p.r.doff)).setCell ⟨w.heap.size, 5, none⟩ (.slice p.r.da p.r.dl p.r.dc)).drew := ⟨_, rfl⟩
  rw [← hwf]
  have hwf' : wf = (w2.setCells w.heap.size 0 p.r.vals).drew := hwf
  rw [← hwf'] at hBf
  have A2 := HR.out
  rw [← hwf'] at A2
  obtain ⟨x0, x1, x2, x3, x4, x5⟩ := A2
  simp only [Nat.zero_add] at x1 x2 x3 x4 x5
  clear hwf hwf'
  refine bodyPost_ret (v := .tuple #[.agg #[.int .i64 p.r.off, .int .u16 p.r.ty, .int .u16 p.r.cls, .int .u32 p.r.ttl, .int .i64 p.r.doff, .slice p.r.da p.r.dl p.r.dc], .int .i64 p.sec, .int .i64 p.n]) (by simp [results, Try.results18, go_sem, x0, x1, x2, x3, x4, x5]) rfl ⟨?_, hBf⟩
  rw [← Hp.out]
end Go.Proofs.Qxb6618124a
