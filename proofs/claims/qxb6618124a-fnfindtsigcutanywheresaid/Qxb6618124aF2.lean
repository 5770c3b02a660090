import Derived.Test.Qxb6618124aF1
import Derived.Deep.Cut
namespace Go.Proofs.Qxb6618124a
open Go.RowKit

/-- A place of a TSIG record: the last record, its section, the count. -/
structure P8 where
  r : Rc
  sec : Int
  n : Int

structure AtP (w : World) (b : Nat) (p : P8) : Prop where
  a6 : At6 w b 0 p.r
  c6 : w.cell? ⟨b, 6, none⟩ = some (.int .i64 p.sec)
  c7 : w.cell? ⟨b, 7, none⟩ = some (.int .i64 p.n)
  fr : ∀ j, w.frozen? ⟨b, j, none⟩ = false

def isT (r : Rc) : Bool := r.ty == 250
def addP (p : P8) (sec : Int) (r : Rc) : P8 := ⟨r, sec, p.n + if isT r then 1 else 0⟩

theorem AtP.lt {w : World} {b : Nat} {p : P8} (h : AtP w b p) : b < w.heap.size := World.block_lt_of_cell? w _ h.c6
theorem AtP.below {w w' : World} {B b : Nat} {p : P8} (h : AtP w b p) (hw : Below B w w') (hb : b < B) : AtP w' b p :=
  ⟨h.a6.below hw hb, (hw.cell hb).trans h.c6, (hw.cell hb).trans h.c7, fun j => (hw.frozen hb).trans (h.fr j)⟩

theorem AtP.there {w : World} {b : Nat} {p : P8} (h : AtP w b p) : w.there b 0 8 := fun j hj => by
  refine ⟨?_, h.fr _⟩
  obtain ⟨⟨c0, c1, c2, c3, c4, c5⟩, c6, c7, _⟩ := h
  match j, hj with
  | 0, _ => simp [c0]
  | 1, _ => simp at c1; simp [c1]
  | 2, _ => simp at c2; simp [c2]
  | 3, _ => simp at c3; simp [c3]
  | 4, _ => simp at c4; simp [c4]
  | 5, _ => simp at c5; simp [c5]
  | 6, _ => simp [c6]
  | 7, _ => simp [c7]

/-- The record stored. -/
theorem AtP.store6 {w : World} {b : Nat} {p : P8} (h : AtP w b p) (r : Rc) : AtP (w.setCells b 0 r.vals) b ⟨r, p.sec, p.n⟩ := by
  have ht : w.there b 0 r.vals.length := fun j hj => h.there j (by have : r.vals.length = 6 := rfl; omega)
  refine ⟨At6.of_range (World.rangeAt_setCells_same _ _ _ _ ht), ?_, ?_, fun j => by rw [World.frozen?_setCells]; exact h.fr j⟩
  · have := World.rangeAt_setCells_apart (w := w) (b' := b) (o' := 6) (cs := [.int .i64 p.sec]) (fun j v hv => by
      match j, hv with
      | 0, hv => simp at hv; subst hv; exact h.c6) b 0 r.vals (.inr (.inr (by have : r.vals.length = 6 := rfl; omega)))
    exact this 0 _ rfl
  · have := World.rangeAt_setCells_apart (w := w) (b' := b) (o' := 7) (cs := [.int .i64 p.n]) (fun j v hv => by
      match j, hv with
      | 0, hv => simp at hv; subst hv; exact h.c7) b 0 r.vals (.inr (.inr (by have : r.vals.length = 6 := rfl; omega)))
    exact this 0 _ rfl

theorem range_setCell_apart {w : World} {b o : Nat} {cs : List Value} (h : w.rangeAt b o cs) (q : Nat) (v : Value) (hap : o + cs.length ≤ q ∨ q + 1 ≤ o) : (w.setCell ⟨b, q, none⟩ v).rangeAt b o cs :=
  World.rangeAt_setCells_apart h b q [v] (.inr hap)

theorem AtP.storeSec {w : World} {b : Nat} {p : P8} (h : AtP w b p) (s : Int) : AtP (w.setCell ⟨b, 6, none⟩ (.int .i64 s)) b ⟨p.r, s, p.n⟩ := by
  refine ⟨At6.of_range (range_setCell_apart h.a6.range 6 _ (.inl (by have : p.r.vals.length = 6 := rfl; omega))), ?_, ?_, fun j => ?_⟩
  · have ht : w.there b 6 1 := fun j hj => by simpa using h.there (6 + j) (by omega)
    exact World.rangeAt_setCells_same w b 6 [.int .i64 s] ht 0 _ rfl
  · exact (range_setCell_apart (cs := [.int .i64 p.n]) (o := 7) (fun j v hv => by
      match j, hv with
      | 0, hv => simp at hv; subst hv; exact h.c7) 6 _ (.inr (by omega))) 0 _ rfl
  · have := World.frozen?_setCells b [.int .i64 s] 6 w ⟨b, j, none⟩
    exact this.trans (h.fr j)

theorem AtP.storeN {w : World} {b : Nat} {p : P8} (h : AtP w b p) (n : Int) : AtP (w.setCell ⟨b, 7, none⟩ (.int .i64 n)) b ⟨p.r, p.sec, n⟩ := by
  refine ⟨At6.of_range (range_setCell_apart h.a6.range 7 _ (.inl (by have : p.r.vals.length = 6 := rfl; omega))), ?_, ?_, fun j => ?_⟩
  · exact (range_setCell_apart (cs := [.int .i64 p.sec]) (o := 6) (fun j v hv => by
      match j, hv with
      | 0, hv => simp at hv; subst hv; exact h.c6) 7 _ (.inl (by simp))) 0 _ rfl
  · have ht : w.there b 7 1 := fun j hj => by simpa using h.there (7 + j) (by omega)
    exact World.rangeAt_setCells_same w b 7 [.int .i64 n] ht 0 _ rfl
  · have := World.frozen?_setCells b [.int .i64 n] 7 w ⟨b, j, none⟩
    exact this.trans (h.fr j)

theorem grownBy_setCell (w : World) (g o : Nat) (v : Value) : w.grownBy (w.setCell ⟨g, o, none⟩ v) (some g) := grownBy_setCells w g [v] o

set_option maxHeartbeats 400000 in
theorem add_any (pb : Nat) (p : P8) (sec : Int) (x : Rc) (w : World) (h : AtP w pb p) (hn : 0 ≤ p.n) (hn2 : p.n ≤ 1125899906842624) :
    Calls Try.prog 28 #[.pointer (some ⟨pb, 0, none⟩), .int .i64 sec, .agg #[.int .i64 x.off, .int .u16 x.ty, .int .u16 x.cls, .int .u32 x.ttl, .int .i64 x.doff, .slice x.da x.dl x.dc]] w
      fun e w' => e = .returned (.tuple #[]) ∧ AtP w' pb (addP p sec x) ∧ w.grownBy w' (some pb) := by
  obtain ⟨wb, hwb⟩ : ∃ wb, wb = w.alloc (.cells #[.int .i64 x.off, .int .u16 x.ty, .int .u16 x.cls, .int .u32 x.ttl, .int .i64 x.doff, .slice x.da x.dl x.dc] 53) := ⟨_, rfl⟩
  have hb0 : Below w.heap.size w wb := by rw [hwb]; exact below_alloc1 _ _
  have hx : At6 wb w.heap.size 0 x := by rw [hwb]; constructor <;> simp
  have hP := h.below hb0 h.lt
  have hne : w.heap.size ≠ pb := by have := h.lt; omega
  have hP1 := hP.store6 x
  have hP2 := hP1.storeSec sec
  have hg1 := grownBy_setCells wb pb x.vals 0
  have hg2 := grownBy_trans hg1 (grownBy_setCell _ pb 6 (.int .i64 sec))
  have hg0 := grownBy_trans (grownBy_below (some pb) hb0) hg2
  have hx2 : ((wb.setCells pb 0 x.vals).setCell ⟨pb, 6, none⟩ (.int .i64 sec)).cell? ⟨w.heap.size, 1, none⟩ = some (.int .u16 x.ty) := hg2.cell (by simpa using hx.c1) (by simpa using hne)
  have f6 := hP1.c6
  have r6 := hP1.fr 6
  have f7 := hP2.c7
  have r7 := hP2.fr 7
  have hx0 := hx.c0
  have hx1 := hx.c1
  have hx3 := hx.c2
  have hx4 := hx.c3
  have hx5 := hx.c4
  have hx6 := hx.c5
  simp only [Nat.zero_add] at hx1 hx3 hx4 hx5 hx6
  have hP3 := hP2.storeN (p.n + 1)
  have hg3 := grownBy_trans hg0 (grownBy_setCell _ pb 7 (.int .i64 (p.n + 1)))
  have ht6 : wb.there pb 0 6 := fun j hj => hP.there j (by omega)
  have Hwb : Hid (wb = w.alloc (.cells #[.int .i64 x.off, .int .u16 x.ty, .int .u16 x.cls, .int .u32 x.ttl, .int .i64 x.doff, .slice x.da x.dl x.dc] 53)) := hwb
  clear hwb h hP hx hg1 hg2 hb0
  cases hop : (x.ty == 250) with
  | true =>
    have hyes : isT x = true := hop
    go_enter Try.func28, Try.ntmps28
    go_upto_region 1 with fail
    rw [← Hwb.out]
    go_wp2_with ((with_reducible refine wpList_store_rec x 53 Try.size53 (.tmp 11) (.tmp 8) pb 0 ?_ ?_ ?_ ?_ ?_ ?_); rfl; rfl; rfl; rfl; exact ht6)
    go_end0
    refine ⟨rfl, ?_, hg3⟩
    have e : addP p sec x = ⟨x, sec, p.n + 1⟩ := by simp [addP, hyes]
    rw [e]; exact hP3
  | false =>
    have hno : isT x = false := hop
    go_enter Try.func28, Try.ntmps28
    go_upto_region 1 with fail
    rw [← Hwb.out]
    go_wp2_with ((with_reducible refine wpList_store_rec x 53 Try.size53 (.tmp 11) (.tmp 8) pb 0 ?_ ?_ ?_ ?_ ?_ ?_); rfl; rfl; rfl; rfl; exact ht6)
    go_end0
    refine ⟨rfl, ?_, hg0⟩
    have e : addP p sec x = ⟨x, sec, p.n⟩ := by simp [addP, hno]
    rw [e]; exact hP2

/-! The plain functions. -/
def zeroR : Rc := ⟨0, 0, 0, 0, 0, none, 0, 0⟩
def zeroP : P8 := ⟨zeroR, 0, 0⟩
def foldSec (p : P8) (sec : Int) (L : List Rc) : P8 := L.foldl (fun p r => addP p sec r) p
def findP (rs us ds : List Rc) : P8 := foldSec (foldSec (foldSec zeroP 0 rs) 1 us) 2 ds

theorem foldSec_snoc (p : P8) (sec : Int) (L : List Rc) (j : Nat) (h : j < L.length) : foldSec p sec (L.take (j + 1)) = addP (foldSec p sec (L.take j)) sec L[j] := by
  rw [take_snoc L j h]; simp only [foldSec, List.foldl_append, List.foldl_cons, List.foldl_nil]

theorem foldSec_n (p : P8) (sec : Int) (L : List Rc) : (foldSec p sec L).n = p.n + (L.countP isT : Nat) := by
  induction L generalizing p with
  | nil => simp [foldSec]
  | cons r L ih =>
    have := ih (addP p sec r)
    simp only [foldSec, List.foldl_cons] at this ⊢
    rw [this, List.countP_cons]
    simp only [addP]
    by_cases h : isT r = true <;> simp [h] <;> omega

theorem foldSec_last (p : P8) (sec : Int) (L : List Rc) (h : L ≠ []) : (foldSec p sec L).r = L.getLast h ∧ (foldSec p sec L).sec = sec := by
  have e := List.dropLast_concat_getLast h
  have e2 : foldSec p sec L = addP (foldSec p sec L.dropLast) sec (L.getLast h) := by
    have : foldSec p sec (L.dropLast ++ [L.getLast h]) = addP (foldSec p sec L.dropLast) sec (L.getLast h) := by simp only [foldSec, List.foldl_append, List.foldl_cons, List.foldl_nil]
    rwa [e] at this
  rw [e2]; exact ⟨rfl, rfl⟩

theorem foldSec_nil (p : P8) (sec : Int) : foldSec p sec [] = p := rfl

theorem foldSec_bound (p : P8) (sec : Int) (L : List Rc) (h0 : 0 ≤ p.n) : 0 ≤ (foldSec p sec L).n ∧ (foldSec p sec L).n ≤ p.n + L.length := by
  rw [foldSec_n]
  have := List.countP_le_length (p := isT) (l := L)
  omega
end Go.Proofs.Qxb6618124a
