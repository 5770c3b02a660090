import Derived.Test.Qxb6618124aW2
import Derived.Deep.MidRow
namespace Go.Proofs.Qxb6618124a
open Go.RowKit

set_option maxHeartbeats 400000 in
theorem rr_any (x : Rc) (w : World) :
    Calls Try.prog 21 #[.agg #[.int .i64 x.off, .int .u16 x.ty, .int .u16 x.cls, .int .u32 x.ttl, .int .i64 x.doff, .slice x.da x.dl x.dc]] w
      fun e w' => e = .returned (.agg #[.int .i64 x.off, .int .u16 x.ty, .int .u16 x.cls, .int .u32 x.ttl, .int .i64 x.doff, .slice x.da x.dl x.dc]) ∧ Below w.heap.size w w' := by
  go_enter Try.func21, Try.ntmps21
  go_wp2
  refine bodyPost_ret (v := .agg #[.int .i64 x.off, .int .u16 x.ty, .int .u16 x.cls, .int .u32 x.ttl, .int .i64 x.doff, .slice x.da x.dl x.dc]) (by simp [results, Try.results21, go_sem]) rfl ⟨rfl, ?_⟩
  exact ((Below.refl _ _).alloc (Nat.le_refl _) _).alloc (by simp) _

/-- The first k records lie in the row at g. -/
structure Filled (wb : World) (B g : Nat) (rs : List Rc) (k : Nat) (wr : World) : Prop where
  there : wr.there g 0 (rs.length * 6)
  cells : ∀ i r, i < k → rs[i]? = some r → At6 wr g (0 + i * 6) r
  bel : Below B wb wr

theorem there_below {w w' : World} {B g o n : Nat} (h : w.there g o n) (hw : Below B w w') (hg : g < B) : w'.there g o n := fun j hj => by
  rw [hw.cell (p := ⟨g, o + j, none⟩) hg, hw.frozen (p := ⟨g, o + j, none⟩) hg]; exact h j hj

theorem At6.range {w : World} {b o : Nat} {r : Rc} (h : At6 w b o r) : w.rangeAt b o r.vals := by
  intro j v hv
  obtain ⟨c0, c1, c2, c3, c4, c5⟩ := h
  match j, hv with
  | 0, hv => simp [Rc.vals] at hv; subst hv; simpa using c0
  | 1, hv => simp [Rc.vals] at hv; subst hv; simpa using c1
  | 2, hv => simp [Rc.vals] at hv; subst hv; simpa using c2
  | 3, hv => simp [Rc.vals] at hv; subst hv; simpa using c3
  | 4, hv => simp [Rc.vals] at hv; subst hv; simpa using c4
  | 5, hv => simp [Rc.vals] at hv; subst hv; simpa using c5
  | n + 6, hv => simp [Rc.vals] at hv

theorem At6.of_range {w : World} {b o : Nat} {r : Rc} (h : w.rangeAt b o r.vals) : At6 w b o r :=
  ⟨h 0 _ rfl, h 1 _ rfl, h 2 _ rfl, h 3 _ rfl, h 4 _ rfl, h 5 _ rfl⟩

theorem Below.setCells {B : Nat} {a w : World} (h : Below B a w) {g : Nat} (hg : B ≤ g) : ∀ (vs : List Value) (o : Nat), Below B a (w.setCells g o vs) := by
  intro vs
  induction vs generalizing w with
  | nil => intro o; simpa [World.setCells] using h
  | cons v vs ih => intro o; exact ih (h.setCell (p := ⟨g, o, none⟩) hg v) (o + 1)

theorem Filled.step {wb : World} {B g : Nat} {rs : List Rc} {k : Nat} {wr w2 : World} (h : Filled wb B g rs k wr) (hk : k < rs.length) (hB : B ≤ g) (hg : g < wr.heap.size) (hw : Below wr.heap.size wr w2) :
    Filled wb B g rs (k + 1) (w2.setCells g (0 + k * 6) (rs[k]).vals) := by
  have ht := there_below h.there hw hg
  have htk : w2.there g (0 + k * 6) (rs[k]).vals.length := fun j hj => by
    have hj6 : j < 6 := by simpa [Rc.vals] using hj
    have := ht (k * 6 + j) (by omega)
    simpa [Nat.add_assoc] using this
  refine ⟨World.there_setCells ht _ _ _, fun i r hi hr => ?_, ?_⟩
  · by_cases hik : i = k
    · subst hik
      have : rs[i] = r := by simpa [List.getElem?_eq_getElem hk] using hr
      rw [this] at htk ⊢
      exact At6.of_range (World.rangeAt_setCells_same _ _ _ _ htk)
    · have h6 := (h.cells i r (by omega) hr).below hw hg
      exact At6.of_range (World.rangeAt_setCells_apart h6.range _ _ _ (.inr (.inl (by have : r.vals.length = 6 := rfl; omega))))
  · refine Below.setCells ?_ hB _ _
    exact h.bel.trans (hw.mono (by omega))

def RelRRs (wb : World) (B g : Nat) (rs : List Rc) (i : Value) (wr : World) : Prop := ∃ k : Nat, k ≤ rs.length ∧ i = .int .i64 k ∧ Filled wb B g rs k wr

theorem rrs_nil (w : World) : Calls Try.prog 15 #[.slice none 0 0] w fun e w' => e = .returned (.slice none 0 0) ∧ w' = w := by
  have hn : ∀ (w : World) (a : Option Addr) (n c n' c' : Nat), (binOp .eql 26 (.slice a n c) (.slice none n' c')).run Try.prog w = .ok (.bool a.isNone) w := fun w a n c n' c' => Lib.run_eql_slice_nil w _ _ a n c n' c' Try.underlying26
  go_enter Try.func15, Try.ntmps15
  go_wp2
  go_ret
  exact ⟨rfl, rfl⟩

theorem Try.size53 : (Try.prog.info? 53).map (·.size) = some 6 := by kernel_rfl
theorem all6 (r : Rc) : (#[.int .i64 r.off, .int .u16 r.ty, .int .u16 r.cls, .int .u32 r.ttl, .int .i64 r.doff, .slice r.da r.dl r.dc] : Array Value).all (·.oneCell') = true :=
  all_oneCell_toArray (oneCell_vals r)

/-- A whole record stored. -/
theorem wpList_store_rec {P : Program} {ops : Array Oper} {rest : List Oper} {op : Oper} {a : Act} {w : World} {Q : Exit → Act → World → Prop} (r : Rc) (ty : TypeId) (hi : (P.info? ty).map (·.size) = some 6) (x y : Operand) (b o : Nat)
    (hgd : op.guard = none) (ho : op.op = .store ty x y) (hx : a.eval x = .pointer (some ⟨b, o, none⟩))
    (hy : a.eval y = .agg #[.int .i64 r.off, .int .u16 r.ty, .int .u16 r.cls, .int .u32 r.ttl, .int .i64 r.doff, .slice r.da r.dl r.dc])
    (ht : w.there b o 6) (h : wpList P ops Q rest (a.put op.dst undef) (w.setCells b o r.vals)) : wpList P ops Q (op :: rest) a w :=
  wpList_store_mid hgd ty x y ho b o _ hx hy ht hi (all6 r) h

theorem size_setCells (g : Nat) : ∀ (vs : List Value) (o : Nat) (w : World), (w.setCells g o vs).heap.size = w.heap.size := by
  intro vs
  induction vs with
  | nil => intro o w; rfl
  | cons v vs ih => intro o w; exact (ih (o + 1) (w.setCell ⟨g, o, none⟩ v)).trans (by simp [World.setCell])

theorem madeThere (w1 : World) (B e g n : Nat) (xs : List Value) (h : w1.ownsRow B e 6 (.slice (some ⟨g, 0, none⟩) n n) n xs) : w1.there g 0 (n * 6) := fun j hj => by
  have hx : xs.length = n * 6 := h.1
  refine ⟨?_, by simpa using h.frozenAt (0 + j)⟩
  rw [h.cellAt (0 + j) (by omega), List.getElem?_eq_getElem (by omega)]
  rfl

set_option maxHeartbeats 400000 in
theorem rrs_some (a : Addr) (rs : List Rc) (cap : Nat) (w : World) (h : Recs w (some a) rs) (hl : rs.length ≤ 1048577) :
    Calls Try.prog 15 #[.slice (some a) rs.length cap] w
      fun e w' => e = .returned (.slice (some ⟨w.heap.size, 0, none⟩) rs.length rs.length) ∧ Recs w' (some ⟨w.heap.size, 0, none⟩) rs ∧ Below w.heap.size w w' := by
  have hn : ∀ (w : World) (a : Option Addr) (n c n' c' : Nat), (binOp .eql 26 (.slice a n c) (.slice none n' c')).run Try.prog w = .ok (.bool a.isNone) w := fun w a n c n' c' => Lib.run_eql_slice_nil w _ _ a n c n' c' Try.underlying26
  obtain ⟨i0, hi, hz0, hz1, hz2⟩ := info_parts Try.info53
  go_enter Try.func15, Try.ntmps15
  go_wp2_with (at_make; refine wpList_make_full _ rfl _ _ 45 rfl w.heap.size 53 i0 _ 6 Try.underlying45 hi hz0 hz1 _ _ _ _ rs.length rfl rfl rfl rfl (by rw [hz2]; omega) (by unfold maxLen; omega) (Nat.le_refl _) ?_)
  intro w1 hown hgrow
  have F0 : Filled w w.heap.size w.heap.size rs 0 w1 := ⟨madeThere _ _ _ _ _ _ hown, fun i r hi => absurd hi (by omega), (Below.refl _ _).grown hgrow (Nat.le_refl _) (fun _ h => by cases h)⟩
  have hg1 : w.heap.size < w1.heap.size := (hown.lt w.heap.size rfl).2
  clear hown hgrow
  clear hn
  go_wp2
  go_loopw [4] (fun i wr => RelRRs w w.heap.size w.heap.size rs i wr ∧ w.heap.size < wr.heap.size) (fun i _ => rs.length - (intOf i).toNat)
  case atStart => exact ⟨⟨0, Nat.zero_le _, rfl, F0⟩, hg1⟩
  case round =>
    obtain ⟨⟨k, hk, rfl, hF⟩, hgr⟩ := hrel
    by_cases hlt : k < rs.length
    · obtain h | ⟨b, o, hao, hb, hc⟩ := h
      · simp [h] at hlt
      cases hao
      have h6 := (hc k rs[k] (by simp)).below hF.bel hb
      obtain ⟨c0, c1, c2, c3, c4, c5⟩ := h6
      have hlt' : (k : Int) < (rs.length : Int) := by omega
      go_wp2_with fail
      refine (rr_any rs[k] _).mono ?_
      rintro e w2 ⟨rfl, hw2⟩
      have hF2 := hF.step hlt (Nat.le_refl _) hgr hw2
      rw [Nat.zero_add] at hF2
      have ht2 : w2.there w.heap.size (k * 6) 6 := by
        have ht := there_below hF.there hw2 hgr
        intro j hj
        have := ht (k * 6 + j) (by omega)
        simpa using this
      have hs2 : w.heap.size < w2.heap.size := by have := hw2.size; omega
      clear c0 c1 c2 c3 c4 c5
      go_wp2_with ((with_reducible refine wpList_store_rec rs[k] 53 Try.size53 (.tmp 23) (.tmp 22) w.heap.size (k * 6) ?_ ?_ ?_ ?_ ?_ ?_); rfl; rfl; rfl; rfl; exact ht2)
      go_roundw
      case rel => exact ⟨⟨k + 1, by omega, by go_num, hF2⟩, by rw [size_setCells]; exact hs2⟩
      case measure => simp [intOf]; omega
    · obtain rfl : k = rs.length := by omega
      go_wp2
      go_ret
      refine ⟨rfl, .inr ⟨_, 0, rfl, hgr, fun i r hr => hF.cells i r (List.getElem?_eq_some_iff.1 hr).1 hr⟩, hF.bel⟩
end Go.Proofs.Qxb6618124a
