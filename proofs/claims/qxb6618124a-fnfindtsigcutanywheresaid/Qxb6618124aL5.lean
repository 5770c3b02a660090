import Derived.Test.Qxb6618124aJ
namespace Go.Proofs.Qxb6618124a
open Go.RowKit

theorem hid {p : Prop} (h : p) : Hid p := h

theorem wrap_small (x : Int) (h0 : -4611686018427387904 ≤ x) (h1 : x ≤ 4611686018427387904) : IntKind.i64.wrap x = x := by
  rw [IntKind.wrap_i64]
  omega

theorem At6.flatO {w : World} {b o : Nat} {r : Rc} (h : At6 w b o r) : w.cell? ⟨b, o, none⟩ = some (.int .i64 r.off) ∧ w.cell? ⟨b, o + 1, none⟩ = some (.int .u16 r.ty) ∧ w.cell? ⟨b, o + 2, none⟩ = some (.int .u16 r.cls) ∧ w.cell? ⟨b, o + 3, none⟩ = some (.int .u32 r.ttl) ∧ w.cell? ⟨b, o + 4, none⟩ = some (.int .i64 r.doff) ∧ w.cell? ⟨b, o + 5, none⟩ = some (.slice r.da r.dl r.dc) := ⟨h.c0, h.c1, h.c2, h.c3, h.c4, h.c5⟩

theorem keepO {b1 b2 o2 : Nat} {r1 r2 : Rc} {W W' : World} (h : W.cell? ⟨b1, 0, none⟩ = some (.int .i64 r1.off) ∧ W.cell? ⟨b1, 1, none⟩ = some (.int .u16 r1.ty) ∧ W.cell? ⟨b1, 2, none⟩ = some (.int .u16 r1.cls) ∧ W.cell? ⟨b1, 3, none⟩ = some (.int .u32 r1.ttl) ∧ W.cell? ⟨b1, 4, none⟩ = some (.int .i64 r1.doff) ∧ W.cell? ⟨b1, 5, none⟩ = some (.slice r1.da r1.dl r1.dc) ∧ W.cell? ⟨b2, o2, none⟩ = some (.int .i64 r2.off) ∧ W.cell? ⟨b2, o2 + 1, none⟩ = some (.int .u16 r2.ty) ∧ W.cell? ⟨b2, o2 + 2, none⟩ = some (.int .u16 r2.cls) ∧ W.cell? ⟨b2, o2 + 3, none⟩ = some (.int .u32 r2.ttl) ∧ W.cell? ⟨b2, o2 + 4, none⟩ = some (.int .i64 r2.doff) ∧ W.cell? ⟨b2, o2 + 5, none⟩ = some (.slice r2.da r2.dl r2.dc)) (hb : Below W.heap.size W W') : W'.cell? ⟨b1, 0, none⟩ = some (.int .i64 r1.off) ∧ W'.cell? ⟨b1, 1, none⟩ = some (.int .u16 r1.ty) ∧ W'.cell? ⟨b1, 2, none⟩ = some (.int .u16 r1.cls) ∧ W'.cell? ⟨b1, 3, none⟩ = some (.int .u32 r1.ttl) ∧ W'.cell? ⟨b1, 4, none⟩ = some (.int .i64 r1.doff) ∧ W'.cell? ⟨b1, 5, none⟩ = some (.slice r1.da r1.dl r1.dc) ∧ W'.cell? ⟨b2, o2, none⟩ = some (.int .i64 r2.off) ∧ W'.cell? ⟨b2, o2 + 1, none⟩ = some (.int .u16 r2.ty) ∧ W'.cell? ⟨b2, o2 + 2, none⟩ = some (.int .u16 r2.cls) ∧ W'.cell? ⟨b2, o2 + 3, none⟩ = some (.int .u32 r2.ttl) ∧ W'.cell? ⟨b2, o2 + 4, none⟩ = some (.int .i64 r2.doff) ∧ W'.cell? ⟨b2, o2 + 5, none⟩ = some (.slice r2.da r2.dl r2.dc) := by
  obtain ⟨a0, a1, a2, a3, a4, a5, c0, c1, c2, c3, c4, c5⟩ := h
  have k1 : ∀ j, W'.cell? ⟨b1, j, none⟩ = W.cell? ⟨b1, j, none⟩ := fun j => hb.cell (p := ⟨b1, j, none⟩) (World.block_lt_of_cell? W ⟨b1, 0, none⟩ a0)
  have k2 : ∀ j, W'.cell? ⟨b2, j, none⟩ = W.cell? ⟨b2, j, none⟩ := fun j => hb.cell (p := ⟨b2, j, none⟩) (World.block_lt_of_cell? W ⟨b2, o2, none⟩ c0)
  exact ⟨(k1 _).trans a0, (k1 _).trans a1, (k1 _).trans a2, (k1 _).trans a3, (k1 _).trans a4, (k1 _).trans a5, (k2 _).trans c0, (k2 _).trans c1, (k2 _).trans c2, (k2 _).trans c3, (k2 _).trans c4, (k2 _).trans c5⟩

theorem keepO_of {b1 b2 o2 : Nat} {r1 r2 : Rc} {W : World} (h1 : At6 W b1 0 r1) (h2 : At6 W b2 o2 r2) : W.cell? ⟨b1, 0, none⟩ = some (.int .i64 r1.off) ∧ W.cell? ⟨b1, 1, none⟩ = some (.int .u16 r1.ty) ∧ W.cell? ⟨b1, 2, none⟩ = some (.int .u16 r1.cls) ∧ W.cell? ⟨b1, 3, none⟩ = some (.int .u32 r1.ttl) ∧ W.cell? ⟨b1, 4, none⟩ = some (.int .i64 r1.doff) ∧ W.cell? ⟨b1, 5, none⟩ = some (.slice r1.da r1.dl r1.dc) ∧ W.cell? ⟨b2, o2, none⟩ = some (.int .i64 r2.off) ∧ W.cell? ⟨b2, o2 + 1, none⟩ = some (.int .u16 r2.ty) ∧ W.cell? ⟨b2, o2 + 2, none⟩ = some (.int .u16 r2.cls) ∧ W.cell? ⟨b2, o2 + 3, none⟩ = some (.int .u32 r2.ttl) ∧ W.cell? ⟨b2, o2 + 4, none⟩ = some (.int .i64 r2.doff) ∧ W.cell? ⟨b2, o2 + 5, none⟩ = some (.slice r2.da r2.dl r2.dc) := by
  obtain ⟨a0, a1, a2, a3, a4, a5⟩ := h1.flat
  obtain ⟨c0, c1, c2, c3, c4, c5⟩ := h2.flatO
  exact ⟨a0, a1, a2, a3, a4, a5, c0, c1, c2, c3, c4, c5⟩

theorem keepQ {b1 b2 o2 b3 o4 : Nat} {r1 r2 r3 r4 : Rc} {W W' : World} (h : W.cell? ⟨b1, 0, none⟩ = some (.int .i64 r1.off) ∧ W.cell? ⟨b1, 1, none⟩ = some (.int .u16 r1.ty) ∧ W.cell? ⟨b1, 2, none⟩ = some (.int .u16 r1.cls) ∧ W.cell? ⟨b1, 3, none⟩ = some (.int .u32 r1.ttl) ∧ W.cell? ⟨b1, 4, none⟩ = some (.int .i64 r1.doff) ∧ W.cell? ⟨b1, 5, none⟩ = some (.slice r1.da r1.dl r1.dc) ∧ W.cell? ⟨b2, o2, none⟩ = some (.int .i64 r2.off) ∧ W.cell? ⟨b2, o2 + 1, none⟩ = some (.int .u16 r2.ty) ∧ W.cell? ⟨b2, o2 + 2, none⟩ = some (.int .u16 r2.cls) ∧ W.cell? ⟨b2, o2 + 3, none⟩ = some (.int .u32 r2.ttl) ∧ W.cell? ⟨b2, o2 + 4, none⟩ = some (.int .i64 r2.doff) ∧ W.cell? ⟨b2, o2 + 5, none⟩ = some (.slice r2.da r2.dl r2.dc) ∧ W.cell? ⟨b3, 0, none⟩ = some (.int .i64 r3.off) ∧ W.cell? ⟨b3, 1, none⟩ = some (.int .u16 r3.ty) ∧ W.cell? ⟨b3, 2, none⟩ = some (.int .u16 r3.cls) ∧ W.cell? ⟨b3, 3, none⟩ = some (.int .u32 r3.ttl) ∧ W.cell? ⟨b3, 4, none⟩ = some (.int .i64 r3.doff) ∧ W.cell? ⟨b3, 5, none⟩ = some (.slice r3.da r3.dl r3.dc) ∧ W.cell? ⟨b2, o4, none⟩ = some (.int .i64 r4.off) ∧ W.cell? ⟨b2, o4 + 1, none⟩ = some (.int .u16 r4.ty) ∧ W.cell? ⟨b2, o4 + 2, none⟩ = some (.int .u16 r4.cls) ∧ W.cell? ⟨b2, o4 + 3, none⟩ = some (.int .u32 r4.ttl) ∧ W.cell? ⟨b2, o4 + 4, none⟩ = some (.int .i64 r4.doff) ∧ W.cell? ⟨b2, o4 + 5, none⟩ = some (.slice r4.da r4.dl r4.dc)) (hb : Below W.heap.size W W') : W'.cell? ⟨b1, 0, none⟩ = some (.int .i64 r1.off) ∧ W'.cell? ⟨b1, 1, none⟩ = some (.int .u16 r1.ty) ∧ W'.cell? ⟨b1, 2, none⟩ = some (.int .u16 r1.cls) ∧ W'.cell? ⟨b1, 3, none⟩ = some (.int .u32 r1.ttl) ∧ W'.cell? ⟨b1, 4, none⟩ = some (.int .i64 r1.doff) ∧ W'.cell? ⟨b1, 5, none⟩ = some (.slice r1.da r1.dl r1.dc) ∧ W'.cell? ⟨b2, o2, none⟩ = some (.int .i64 r2.off) ∧ W'.cell? ⟨b2, o2 + 1, none⟩ = some (.int .u16 r2.ty) ∧ W'.cell? ⟨b2, o2 + 2, none⟩ = some (.int .u16 r2.cls) ∧ W'.cell? ⟨b2, o2 + 3, none⟩ = some (.int .u32 r2.ttl) ∧ W'.cell? ⟨b2, o2 + 4, none⟩ = some (.int .i64 r2.doff) ∧ W'.cell? ⟨b2, o2 + 5, none⟩ = some (.slice r2.da r2.dl r2.dc) ∧ W'.cell? ⟨b3, 0, none⟩ = some (.int .i64 r3.off) ∧ W'.cell? ⟨b3, 1, none⟩ = some (.int .u16 r3.ty) ∧ W'.cell? ⟨b3, 2, none⟩ = some (.int .u16 r3.cls) ∧ W'.cell? ⟨b3, 3, none⟩ = some (.int .u32 r3.ttl) ∧ W'.cell? ⟨b3, 4, none⟩ = some (.int .i64 r3.doff) ∧ W'.cell? ⟨b3, 5, none⟩ = some (.slice r3.da r3.dl r3.dc) ∧ W'.cell? ⟨b2, o4, none⟩ = some (.int .i64 r4.off) ∧ W'.cell? ⟨b2, o4 + 1, none⟩ = some (.int .u16 r4.ty) ∧ W'.cell? ⟨b2, o4 + 2, none⟩ = some (.int .u16 r4.cls) ∧ W'.cell? ⟨b2, o4 + 3, none⟩ = some (.int .u32 r4.ttl) ∧ W'.cell? ⟨b2, o4 + 4, none⟩ = some (.int .i64 r4.doff) ∧ W'.cell? ⟨b2, o4 + 5, none⟩ = some (.slice r4.da r4.dl r4.dc) := by
  obtain ⟨a0, a1, a2, a3, a4, a5, c0, c1, c2, c3, c4, c5, d0, d1, d2, d3, d4, d5, e0, e1, e2, e3, e4, e5⟩ := h
  have k1 : ∀ j, W'.cell? ⟨b1, j, none⟩ = W.cell? ⟨b1, j, none⟩ := fun j => hb.cell (p := ⟨b1, j, none⟩) (World.block_lt_of_cell? W ⟨b1, 0, none⟩ a0)
  have k2 : ∀ j, W'.cell? ⟨b2, j, none⟩ = W.cell? ⟨b2, j, none⟩ := fun j => hb.cell (p := ⟨b2, j, none⟩) (World.block_lt_of_cell? W ⟨b2, o2, none⟩ c0)
  have k3 : ∀ j, W'.cell? ⟨b3, j, none⟩ = W.cell? ⟨b3, j, none⟩ := fun j => hb.cell (p := ⟨b3, j, none⟩) (World.block_lt_of_cell? W ⟨b3, 0, none⟩ d0)
  exact ⟨(k1 _).trans a0, (k1 _).trans a1, (k1 _).trans a2, (k1 _).trans a3, (k1 _).trans a4, (k1 _).trans a5, (k2 _).trans c0, (k2 _).trans c1, (k2 _).trans c2, (k2 _).trans c3, (k2 _).trans c4, (k2 _).trans c5,
    (k3 _).trans d0, (k3 _).trans d1, (k3 _).trans d2, (k3 _).trans d3, (k3 _).trans d4, (k3 _).trans d5, (k2 _).trans e0, (k2 _).trans e1, (k2 _).trans e2, (k2 _).trans e3, (k2 _).trans e4, (k2 _).trans e5⟩

theorem keepQ_of {b1 b2 o2 b3 o4 : Nat} {r1 r2 r3 r4 : Rc} {W : World} (h1 : At6 W b1 0 r1) (h2 : At6 W b2 o2 r2) (h3 : At6 W b3 0 r3) (h4 : At6 W b2 o4 r4) : W.cell? ⟨b1, 0, none⟩ = some (.int .i64 r1.off) ∧ W.cell? ⟨b1, 1, none⟩ = some (.int .u16 r1.ty) ∧ W.cell? ⟨b1, 2, none⟩ = some (.int .u16 r1.cls) ∧ W.cell? ⟨b1, 3, none⟩ = some (.int .u32 r1.ttl) ∧ W.cell? ⟨b1, 4, none⟩ = some (.int .i64 r1.doff) ∧ W.cell? ⟨b1, 5, none⟩ = some (.slice r1.da r1.dl r1.dc) ∧ W.cell? ⟨b2, o2, none⟩ = some (.int .i64 r2.off) ∧ W.cell? ⟨b2, o2 + 1, none⟩ = some (.int .u16 r2.ty) ∧ W.cell? ⟨b2, o2 + 2, none⟩ = some (.int .u16 r2.cls) ∧ W.cell? ⟨b2, o2 + 3, none⟩ = some (.int .u32 r2.ttl) ∧ W.cell? ⟨b2, o2 + 4, none⟩ = some (.int .i64 r2.doff) ∧ W.cell? ⟨b2, o2 + 5, none⟩ = some (.slice r2.da r2.dl r2.dc) ∧ W.cell? ⟨b3, 0, none⟩ = some (.int .i64 r3.off) ∧ W.cell? ⟨b3, 1, none⟩ = some (.int .u16 r3.ty) ∧ W.cell? ⟨b3, 2, none⟩ = some (.int .u16 r3.cls) ∧ W.cell? ⟨b3, 3, none⟩ = some (.int .u32 r3.ttl) ∧ W.cell? ⟨b3, 4, none⟩ = some (.int .i64 r3.doff) ∧ W.cell? ⟨b3, 5, none⟩ = some (.slice r3.da r3.dl r3.dc) ∧ W.cell? ⟨b2, o4, none⟩ = some (.int .i64 r4.off) ∧ W.cell? ⟨b2, o4 + 1, none⟩ = some (.int .u16 r4.ty) ∧ W.cell? ⟨b2, o4 + 2, none⟩ = some (.int .u16 r4.cls) ∧ W.cell? ⟨b2, o4 + 3, none⟩ = some (.int .u32 r4.ttl) ∧ W.cell? ⟨b2, o4 + 4, none⟩ = some (.int .i64 r4.doff) ∧ W.cell? ⟨b2, o4 + 5, none⟩ = some (.slice r4.da r4.dl r4.dc) := by
  obtain ⟨a0, a1, a2, a3, a4, a5⟩ := h1.flat
  obtain ⟨c0, c1, c2, c3, c4, c5⟩ := h2.flatO
  obtain ⟨d0, d1, d2, d3, d4, d5⟩ := h3.flat
  obtain ⟨e0, e1, e2, e3, e4, e5⟩ := h4.flatO
  exact ⟨a0, a1, a2, a3, a4, a5, c0, c1, c2, c3, c4, c5, d0, d1, d2, d3, d4, d5, e0, e1, e2, e3, e4, e5⟩

theorem recs_take {w : World} {a : Addr} {A : List Rc} (h : Recs w (some a) A) (J : Nat) : Recs w (some a) (A.take J) := by
  rcases h with h | ⟨b, o, hb, hlt, hc⟩
  · exact .inl (by simp [h])
  · exact .inr ⟨b, o, hb, hlt, fun i r hr => hc i r (by rw [List.getElem?_take] at hr; split at hr; exact hr; cases hr)⟩

theorem recs_drop {w : World} {b : Nat} {A : List Rc} (h : Recs w (some ⟨b, 0, none⟩) A) (J : Nat) (hJ : J < A.length) : Recs w (some ⟨b, J * 6, none⟩) (A.drop J) := by
  rcases h with h | ⟨b', o, hb, hlt, hc⟩
  · simp [h] at hJ
  · cases hb
    refine .inr ⟨b, J * 6, rfl, hlt, fun i r hr => ?_⟩
    rw [List.getElem?_drop] at hr
    have := hc (J + i) r hr
    rwa [show 0 + (J + i) * 6 = J * 6 + i * 6 by omega] at this

theorem recs_one {w : World} {b : Nat} {A : List Rc} (h : Recs w (some ⟨b, 0, none⟩) A) (J : Nat) (x : Rc) (hx : A[J]? = some x) : Recs w (some ⟨b, J * 6, none⟩) [x] := by
  rcases h with h | ⟨b', o, hb, hlt, hc⟩
  · simp [h] at hx
  · cases hb
    refine .inr ⟨b, J * 6, rfl, hlt, fun i r hr => ?_⟩
    match i, hr with
    | 0, hr => simp at hr; subst hr; have := hc J x hx; rwa [show 0 + J * 6 = J * 6 + 0 * 6 by omega] at this
    | n + 1, hr => simp at hr

theorem recs_at {w : World} {b : Nat} {A : List Rc} (h : Recs w (some ⟨b, 0, none⟩) A) (J : Nat) (x : Rc) (hx : A[J]? = some x) : At6 w b (J * 6) x := by
  rcases h with h | ⟨b', o, hb, hlt, hc⟩
  · simp [h] at hx
  · cases hb
    have := hc J x hx
    rwa [Nat.zero_add] at this

theorem findP_one (L : List Rc) (h : L ≠ []) : (findP [] [] L).r = L.getLast h ∧ (findP [] [] L).sec = 2 ∧ (findP [] [] L).n = (L.countP isT : Nat) :=
  ⟨(findP_ds [] [] L h).1, (findP_ds [] [] L h).2, by rw [findP_n]; simp⟩
theorem findP_none : (findP [] [] []).r = ⟨0, 0, 0, 0, 0, none, 0, 0⟩ ∧ (findP [] [] []).sec = 0 ∧ (findP [] [] []).n = 0 := ⟨rfl, rfl, rfl⟩

theorem getLast_get {L : List Rc} (h : L ≠ []) : L[L.length - 1]? = some (L.getLast h) := by rw [← List.getLast?_eq_getElem?, List.getLast?_eq_some_getLast h]

theorem last_take {A : List Rc} {J : Nat} (hJ : J ≤ A.length) (h0 : 0 < J) (h : A.take J ≠ []) : A[J - 1]? = some ((A.take J).getLast h) := by
  have e := getLast_get h
  rw [List.length_take, Nat.min_eq_left hJ, List.getElem?_take, if_pos (by omega)] at e
  exact e
theorem last_drop {A : List Rc} {J : Nat} (hJ : J < A.length) (h : A.drop J ≠ []) : A[A.length - 1]? = some ((A.drop J).getLast h) := by
  have e := getLast_get h
  rw [List.length_drop, List.getElem?_drop] at e
  rwa [show J + (A.length - J - 1) = A.length - 1 by omega] at e
theorem all_last (L : List Rc) (M : List Rc) (h : M ≠ []) : (L ++ M)[(L ++ M).length - 1]? = some (M.getLast h) := by
  have hne : L ++ M ≠ [] := by simp [h]
  rw [getLast_get hne, List.getLast_append_of_ne_nil hne h]
theorem all_last_a (rs us ds : List Rc) (h : ds ≠ []) : (rs ++ us ++ ds)[(rs ++ us ++ ds).length - 1]? = some (findP rs us ds).r ∧ (findP rs us ds).sec = 2 ∧ (findP rs us ds).n = ((rs ++ us ++ ds).countP isT : Nat) ∧ 0 < (rs ++ us ++ ds).length := by
  refine ⟨by rw [all_last _ _ h, (findP_ds rs us ds h).1], (findP_ds rs us ds h).2, by rw [findP_n]; simp only [List.countP_append]; omega, ?_⟩
  have := List.length_pos_iff.2 h
  simp only [List.length_append]; omega
theorem all_last_b (rs us : List Rc) (h : us ≠ []) : (rs ++ us ++ [])[(rs ++ us ++ []).length - 1]? = some (findP rs us []).r ∧ (findP rs us []).sec = 1 ∧ (findP rs us []).n = ((rs ++ us ++ []).countP isT : Nat) ∧ 0 < (rs ++ us ++ []).length := by
  rw [List.append_nil]
  refine ⟨by rw [all_last _ _ h, (findP_us rs us h).1], (findP_us rs us h).2, by rw [findP_n]; simp only [List.countP_append, List.countP_nil]; omega, ?_⟩
  have := List.length_pos_iff.2 h
  simp only [List.length_append]; omega
theorem all_last_c (rs : List Rc) (h : rs ≠ []) : (rs ++ [] ++ [])[(rs ++ [] ++ []).length - 1]? = some (findP rs [] []).r ∧ (findP rs [] []).sec = 0 ∧ (findP rs [] []).n = ((rs ++ [] ++ []).countP isT : Nat) ∧ 0 < (rs ++ [] ++ []).length := by
  rw [List.append_nil, List.append_nil]
  exact ⟨by rw [getLast_get h, (findP_rs rs h).1], (findP_rs rs h).2, by rw [findP_n]; simp, List.length_pos_iff.2 h⟩
end Go.Proofs.Qxb6618124a
