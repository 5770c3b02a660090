import Derived.Test.Qxb6618124aF4
import Derived.Test.Qxb6618124aB
namespace Go.Proofs.Qxb6618124a
open Go.RowKit

/-- The six cells of a header. -/
structure AtH (w : World) (b : Nat) (h0 h1 h2 h3 h4 h5 : Int) : Prop where
  c0 : w.cell? ⟨b, 0, none⟩ = some (.int .u16 h0)
  c1 : w.cell? ⟨b, 1, none⟩ = some (.int .u16 h1)
  c2 : w.cell? ⟨b, 2, none⟩ = some (.int .u16 h2)
  c3 : w.cell? ⟨b, 3, none⟩ = some (.int .u16 h3)
  c4 : w.cell? ⟨b, 4, none⟩ = some (.int .u16 h4)
  c5 : w.cell? ⟨b, 5, none⟩ = some (.int .u16 h5)

theorem AtH.below {w w' : World} {B b : Nat} {h0 h1 h2 h3 h4 h5 : Int} (h : AtH w b h0 h1 h2 h3 h4 h5) (hw : Below B w w') (hb : b < B) : AtH w' b h0 h1 h2 h3 h4 h5 :=
  ⟨(hw.cell hb).trans h.c0, (hw.cell hb).trans h.c1, (hw.cell hb).trans h.c2, (hw.cell hb).trans h.c3, (hw.cell hb).trans h.c4, (hw.cell hb).trans h.c5⟩

/-- What stands of the four slices that came in, whatever the call makes. -/
structure Base4 (w : World) (qo ao bo co : Option Addr) (qs : List Qc) (rs us ds : List Rc) (w' : World) : Prop where
  q : Qs w' qo qs
  r : Recs w' ao rs
  u : Recs w' bo us
  d : Recs w' co ds
  bel : Below w.heap.size w w'

/-- Out of the first world into any that is as it was below. -/
theorem Base4.mk0 {w : World} {qo ao bo co : Option Addr} {qs : List Qc} {rs us ds : List Rc} {w' : World} (hq : Qs w qo qs) (hr : Recs w ao rs) (hu : Recs w bo us) (hd : Recs w co ds) (hb : Below w.heap.size w w') : Base4 w qo ao bo co qs rs us ds w' :=
  ⟨hq.below hb (Nat.le_refl _), hr.below hb hr.block, hu.below hb hu.block, hd.below hb hd.block, hb⟩

theorem below_undrew {a b : World} (h : Below a.drew.heap.size a.drew b) : Below a.heap.size a b := ⟨h.os, h.tape, h.output, h.size, h.block⟩

/-! The plain side of the two laws on findTSIG. -/
theorem findP_ds (rs us ds : List Rc) (h : ds ≠ []) : (findP rs us ds).r = ds.getLast h ∧ (findP rs us ds).sec = 2 := foldSec_last _ _ _ h
theorem findP_us (rs us : List Rc) (h : us ≠ []) : (findP rs us []).r = us.getLast h ∧ (findP rs us []).sec = 1 := by
  unfold findP; rw [foldSec_nil]; exact foldSec_last _ _ _ h
theorem findP_rs (rs : List Rc) (h : rs ≠ []) : (findP rs [] []).r = rs.getLast h ∧ (findP rs [] []).sec = 0 := by
  unfold findP; rw [foldSec_nil, foldSec_nil]; exact foldSec_last _ _ _ h
theorem findP_nil : findP [] [] [] = zeroP := rfl
theorem findP_n (rs us ds : List Rc) : (findP rs us ds).n = (rs.countP isT : Nat) + (us.countP isT : Nat) + (ds.countP isT : Nat) := by
  unfold findP
  rw [foldSec_n, foldSec_n, foldSec_n]
  show 0 + _ + _ + _ = _
  omega

theorem countT_ins (L : List Rc) (K : Nat) (x : Rc) : (L.take K ++ x :: L.drop K).countP isT = L.countP isT + if isT x then 1 else 0 := by
  have h3 : L.countP isT = (L.take K).countP isT + (L.drop K).countP isT := by rw [← List.countP_append, List.take_append_drop]
  simp only [List.countP_append, List.countP_cons]
  omega

theorem ins_ne (L : List Rc) (K : Nat) (x : Rc) : L.take K ++ x :: L.drop K ≠ [] := by simp

theorem last_ins_end (L : List Rc) (x : Rc) (h : L.take L.length ++ x :: L.drop L.length ≠ []) : (L.take L.length ++ x :: L.drop L.length).getLast h = x := by simp

theorem last_ins_mid (L : List Rc) (K : Nat) (x : Rc) (hK : K < L.length) (h : L.take K ++ x :: L.drop K ≠ []) (hL : L ≠ []) : (L.take K ++ x :: L.drop K).getLast h = L.getLast hL := by
  have hd : L.drop K ≠ [] := by simp; omega
  rw [List.getLast_append_of_ne_nil (by simp) (by simp), List.getLast_cons hd, List.getLast_drop]

/-- All records that may be met are good. -/
def Goods (w : World) (L : List Rc) : Prop := ∀ r, r ∈ L → DatW w r.da r.dl ∧ r.dl ≤ maxLen

theorem Goods.below {w w' : World} {L : List Rc} (h : Goods w L) (hb : Below w.heap.size w w') : Goods w' L := fun r hr => ⟨(h r hr).1.below hb (Nat.le_refl _), (h r hr).2⟩

theorem findP_good (w : World) (rs us ds : List Rc) (h1 : Goods w rs) (h2 : Goods w us) (h3 : Goods w ds) : DatW w (findP rs us ds).r.da (findP rs us ds).r.dl ∧ (findP rs us ds).r.dl ≤ maxLen := by
  by_cases hd : ds = []
  · subst hd
    by_cases hu : us = []
    · subst hu
      by_cases hr : rs = []
      · subst hr
        rw [findP_nil]
        exact ⟨⟨fun _ => rfl, fun h => absurd h (by decide)⟩, by decide⟩
      · rw [(findP_rs rs hr).1]; exact h1 _ (List.getLast_mem hr)
    · rw [(findP_us rs us hu).1]; exact h2 _ (List.getLast_mem hu)
  · rw [(findP_ds rs us ds hd).1]; exact h3 _ (List.getLast_mem hd)

/-- Six record cells in a new block. -/
theorem at6_alloc (w : World) (r : Rc) (t : TypeId) : At6 (w.alloc (.cells #[.int .i64 r.off, .int .u16 r.ty, .int .u16 r.cls, .int .u32 r.ttl, .int .i64 r.doff, .slice r.da r.dl r.dc] t)) w.heap.size 0 r := by constructor <;> simp

theorem At6.flat {w : World} {b : Nat} {r : Rc} (h : At6 w b 0 r) : w.cell? ⟨b, 0, none⟩ = some (.int .i64 r.off) ∧ w.cell? ⟨b, 1, none⟩ = some (.int .u16 r.ty) ∧ w.cell? ⟨b, 2, none⟩ = some (.int .u16 r.cls) ∧ w.cell? ⟨b, 3, none⟩ = some (.int .u32 r.ttl) ∧ w.cell? ⟨b, 4, none⟩ = some (.int .i64 r.doff) ∧ w.cell? ⟨b, 5, none⟩ = some (.slice r.da r.dl r.dc) := by
  obtain ⟨c0, c1, c2, c3, c4, c5⟩ := h
  simp only [Nat.zero_add] at c1 c2 c3 c4 c5
  exact ⟨c0, c1, c2, c3, c4, c5⟩
end Go.Proofs.Qxb6618124a
