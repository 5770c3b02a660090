import Derived.Test.Qxb6618170aW7
namespace Go.Proofs.Qxb6618170a
open Go.RowKit

/-- The row being made, in a room of N. -/
structure GathN (wb : World) (B g N : Nat) (M : List C4) (wr : World) : Prop where
  own : wr.ownsRow B 31 4 (.slice (some ⟨g, 0, none⟩) M.length N) M.length (flatC M)
  bel : Below B wb wr

theorem GathN.step {wb : World} {B g N : Nat} {M : List C4} {c : C4} {wr w2 : World} {o : Obj} (h : GathN wb B g N M wr) (hB : B ≤ wr.heap.size) (hg : B ≤ g)
    (hown : w2.ownsRow B 31 4 (.slice (some ⟨g, 0, none⟩) (M.length + 1) N) (M.length + 1) (flatC M ++ c.vals)) (hgr : (wr.alloc o).grownBy w2 (some g)) : GathN wb B g N (M ++ [c]) w2 :=
  ⟨by rw [flatC_append]; simpa [flatC] using hown, (h.bel.alloc hB o).grown hgr (by simp; omega) (fun k hk => by cases hk; exact hg)⟩

theorem GathN.step2 {wb : World} {B g N : Nat} {M : List C4} {c : C4} {wr w2 : World} {o o2 : Obj} (h : GathN wb B g N M wr) (hB : B ≤ wr.heap.size) (hg : B ≤ g)
    (hown : w2.ownsRow B 31 4 (.slice (some ⟨g, 0, none⟩) (M.length + 1) N) (M.length + 1) (flatC M ++ c.vals)) (hgr : ((wr.alloc o).alloc o2).grownBy w2 (some g)) : GathN wb B g N (M ++ [c]) w2 :=
  ⟨by rw [flatC_append]; simpa [flatC] using hown, ((h.bel.alloc hB o).alloc (by simp; omega) o2).grown hgr (by simp; omega) (fun k hk => by cases hk; exact hg)⟩

theorem GathN.alloc {wb : World} {B g N : Nat} {M : List C4} {wr : World} (h : GathN wb B g N M wr) (hB : B ≤ wr.heap.size) (o : Obj) : GathN wb B g N M (wr.alloc o) := ⟨h.own.alloc o, h.bel.alloc hB o⟩

theorem set4 (A : List Value) (x0 x1 x2 x3 y0 y1 y2 y3 : Value) : ((((A ++ [x0, x1, x2, x3]).set A.length y0).set (A.length + 1) y1).set (A.length + 1 + 1) y2).set (A.length + 1 + 1 + 1) y3 = A ++ [y0, y1, y2, y3] := by
  induction A with
  | nil => rfl
  | cons a A ih => simp only [List.cons_append, List.length_cons, List.set_cons_succ, ih]

theorem flatC_length (M : List C4) : (flatC M).length = M.length * 4 := by
  induction M with
  | nil => rfl
  | cons c M ih =>
    have e : flatC (c :: M) = c.vals ++ flatC M := by simp [flatC]
    have l : c.vals.length = 4 := rfl
    rw [e, List.length_append, ih, l, List.length_cons]; omega

/-- The last change overwritten. -/
theorem GathN.set {wb : World} {B g N : Nat} {M : List C4} {l c : C4} {wr : World} (h : GathN wb B g N (M ++ [l]) wr) (hg : B ≤ g) (hBr : B ≤ wr.heap.size) : GathN wb B g N (M ++ [c]) (wr.setCells g (M.length * 4) c.vals) := by
  have ho := h.own
  rw [flatC_append] at ho
  have e : flatC [l] = [.int .i64 (l.a : Nat), .int .i64 (l.b : Nat), .int .i64 (l.c : Nat), .int .i64 (l.d : Nat)] := by simp [flatC, C4.vals]
  rw [e] at ho
  have s0 := ho.stored (M.length * 4) (.int .i64 (c.a : Nat))
  have s1 := s0.1.stored (M.length * 4 + 1) (.int .i64 (c.b : Nat))
  have s2 := s1.1.stored (M.length * 4 + 1 + 1) (.int .i64 (c.c : Nat))
  have s3 := s2.1.stored (M.length * 4 + 1 + 1 + 1) (.int .i64 (c.d : Nat))
  have b0 := h.bel.grown s0.2 hBr (fun k hk => by cases hk; exact hg)
  have b1 := b0.grown s1.2 (by simpa using hBr) (fun k hk => by cases hk; exact hg)
  have b2 := b1.grown s2.2 (by simpa using hBr) (fun k hk => by cases hk; exact hg)
  have b3 := b2.grown s3.2 (by simpa using hBr) (fun k hk => by cases hk; exact hg)
  have f := s3.1
  rw [← flatC_length M, set4] at f
  refine ⟨?_, ?_⟩
  · rw [flatC_append, show flatC [c] = [.int .i64 (c.a : Nat), .int .i64 (c.b : Nat), .int .i64 (c.c : Nat), .int .i64 (c.d : Nat)] by simp [flatC, C4.vals]]
    rw [flatC_length] at f
    simpa [C4.vals, World.setCells] using f
  · simpa [C4.vals, World.setCells] using b3

theorem GathN.there {wb : World} {B g N : Nat} {M : List C4} {wr : World} (h : GathN wb B g N M wr) (k : Nat) (hk : k < M.length) : wr.there g (k * 4) 4 := by
  intro j hj
  refine ⟨?_, h.own.frozenAt _⟩
  have hl := flatC_length M
  have hlt : k * 4 + j < (flatC M).length := by omega
  have := h.own.cells (g := g) rfl (k * 4 + j) _ (List.getElem?_eq_getElem hlt)
  rw [Addr.add_lit, Nat.zero_add] at this
  rw [this]; rfl

theorem Try.size31 : (Try.prog.info? 31).map (·.size) = some 4 := by kernel_rfl
theorem all4 (c : C4) : (#[.int .i64 (c.a : Nat), .int .i64 (c.b : Nat), .int .i64 (c.c : Nat), .int .i64 (c.d : Nat)] : Array Value).all (·.oneCell') = true := all_oneCell_toArray (oneCellC c)
theorem wpList_store_c {P : Program} {ops : Array Oper} {rest : List Oper} {op : Oper} {a : Act} {w : World} {Q : Exit → Act → World → Prop} (c : C4) (ty : TypeId) (hi : (P.info? ty).map (·.size) = some 4) (x y : Operand) (b o : Nat)
    (hgd : op.guard = none) (ho : op.op = .store ty x y) (hx : a.eval x = .pointer (some ⟨b, o, none⟩)) (hy : a.eval y = .agg #[.int .i64 (c.a : Nat), .int .i64 (c.b : Nat), .int .i64 (c.c : Nat), .int .i64 (c.d : Nat)])
    (ht : w.there b o 4) (h : wpList P ops Q rest (a.put op.dst undef) (w.setCells b o c.vals)) : wpList P ops Q (op :: rest) a w :=
  wpList_store_mid hgd ty x y ho b o _ hx hy ht hi (all4 c) h
end Go.Proofs.Qxb6618170a
