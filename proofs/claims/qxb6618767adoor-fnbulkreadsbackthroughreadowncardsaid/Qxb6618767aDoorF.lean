import Derived.Test.Qxb6618767aDoorW2
namespace Go.Proofs.Qxb6618767aDoor
open Go.RowKit

/-- A bufio.Writer at block p, its row q, over the Buffer at block b: U is flushed, V waits. -/
structure BW (w : World) (p q b : Nat) (r : Option Nat) (U V : List Value) : Prop where
  hp : w.heap[p]? = some (.cells #[.nilIface, .slice (some ⟨q, 0, none⟩) 16384 16384, .int .i64 V.length, .iface 43 (.pointer (some ⟨b, 0, none⟩))] 68 (0, 0))
  hq : ∃ cur, w.heap[q]? = some (.cells cur 5 (0, 0)) ∧ cur.size = 16384 ∧ cur.toList.take V.length = V
  hb : BufAt w b r U
  hV : V.length ≤ 16384
  one : ∀ v, v ∈ U ∨ v ∈ V → v.oneCell' = true
  pq : p ≠ q
  pb : p ≠ b
  qb : q ≠ b
  rp : r ≠ some p
  rq : r ≠ some q

theorem methodWrite (x : Value) (W : World) : Sem.run Tryd.prog (method 239 43 x "Write") W = .ok (76, x) W := by kernel_rfl

def Flushed (w : World) (p q b : Nat) (r : Option Nat) (T : List Value) (e : Ending) (w' : World) : Prop :=
  e = .returned .nilIface ∧ ∃ r', BW w' p q b r' T [] ∧ KB (fun k => k = p ∨ k = b ∨ some k = r) w w' ∧ (r' = r ∨ ∃ g, r' = some g ∧ w.heap.size ≤ g)

theorem BufAt.same {w w' : World} {b : Nat} {r : Option Nat} {U : List Value} (h : BufAt w b r U) (hh : ∀ k, k = b ∨ some k = r → w'.heap[k]? = w.heap[k]?) : BufAt w' b r U := by
  rcases h with ⟨h1, h2, lr, h3⟩ | ⟨g, cap, cur, lr, h1, h2, h3, h4, h5⟩
  · exact .inl ⟨h1, h2, lr, (hh b (.inl rfl)).trans h3⟩
  · exact .inr ⟨g, cap, cur, lr, h1, h2, (hh b (.inl rfl)).trans h3, (hh g (.inr h1.symm)).trans h4, h5⟩

theorem flush_end {w w0 w2 : World} {p q b : Nat} {r r' : Option Nat} {U V : List Value} (H : BW w p q b r U V) (hs : w0.heap = w.heap) (h0 : KB (fun k => k = p ∨ k = b ∨ some k = r) w w0) (hB2 : BufAt w2 b r' (U ++ V)) (hK2 : KB (fun k => k = b ∨ some k = r) w0 w2) (hr2 : r' = r ∨ ∃ g, r' = some g ∧ w0.heap.size ≤ g) :
    Flushed w p q b r (U ++ V) (.returned .nilIface) (w2.setCell ⟨p, 2, none⟩ (.int .i64 0)) := by
  have hp0 := H.hp
  rw [← hs] at hp0
  have hp2 := hK2.heap hp0 (fun e => e.elim H.pb (fun e => H.rp e.symm))
  have hplt : p < w.heap.size := Lib.lt_of_heap H.hp
  obtain ⟨cur, hq, hcs, _⟩ := H.hq
  have hqlt : q < w.heap.size := Lib.lt_of_heap hq
  have hq0 := hq
  rw [← hs] at hq0
  have hq2 := hK2.heap hq0 (fun e => e.elim H.qb (fun e => H.rq e.symm))
  have hrp : r' ≠ some p := by
    rcases hr2 with h | ⟨g, h, hg⟩
    · rw [h]; exact H.rp
    · rw [h]; intro e; cases e; rw [hs] at hg; omega
  have hrq : r' ≠ some q := by
    rcases hr2 with h | ⟨g, h, hg⟩
    · rw [h]; exact H.rq
    · rw [h]; intro e; cases e; rw [hs] at hg; omega
  refine ⟨rfl, r', ⟨?_, ⟨cur, ?_, hcs, rfl⟩, ?_, Nat.zero_le _, ?_, H.pq, H.pb, H.qb, hrp, hrq⟩, ?_, ?_⟩
  · rw [heap_setCell_same w2 p 2 _ 68 _ hp2]; rfl
  · rw [heap_setCell_other _ _ _ _ (fun e => H.pq e.symm)]; exact hq2
  · exact hB2.same (fun k hk => heap_setCell_other _ _ _ _ (fun e => by
      have e' : k = p := e
      subst e'
      exact hk.elim H.pb (fun x => hrp x.symm)))
  · intro v hv
    rcases hv with hv | hv
    · rcases List.mem_append.1 hv with hv | hv
      · exact H.one v (.inl hv)
      · exact H.one v (.inr hv)
    · cases hv
  · exact (h0.trans hK2 (fun _ _ e => .inr e)).setCell p 2 _ (.inl rfl)
  · rcases hr2 with h | ⟨g, h, hg⟩
    · exact .inl h
    · exact .inr ⟨g, h, by rw [← hs]; exact hg⟩

set_option maxHeartbeats 1000000 in
set_option maxRecDepth 100000 in
theorem flush_any (p q b : Nat) (r : Option Nat) (U V : List Value) (w : World) (h : BW w p q b r U V) (hlim : U.length + V.length ≤ 1073741824) :
    Calls Tryd.prog 23 #[.pointer (some ⟨p, 0, none⟩)] w fun e w' => Flushed w p q b r (U ++ V) e w' := by
  have c0 : w.cell? ⟨p, 0, none⟩ = some .nilIface := by rw [Lib.cell_of_heap h.hp]; rfl
  have c1 : w.cell? ⟨p, 1, none⟩ = some (.slice (some ⟨q, 0, none⟩) 16384 16384) := by rw [Lib.cell_of_heap h.hp]; rfl
  have c2 : w.cell? ⟨p, 2, none⟩ = some (.int .i64 V.length) := by rw [Lib.cell_of_heap h.hp]; rfl
  have c3 : w.cell? ⟨p, 3, none⟩ = some (.iface 43 (.pointer (some ⟨b, 0, none⟩))) := by rw [Lib.cell_of_heap h.hp]; rfl
  have f2 : w.frozen? ⟨p, 2, none⟩ = false := Lib.frozen_of_heap h.hp 2
  have hV := h.hV
  by_cases h0 : V.length = 0
  · have e0 : (V.length : Int) = 0 := by omega
    have HV := Lib.hid (List.eq_nil_of_length_eq_zero h0)
    have H := Lib.hid h
    clear h0
    go_enter Tryd.func23, Tryd.ntmps23
    go_wp2
    go_ret
    refine ⟨rfl, r, ?_, KB.refl _ _, .inl rfl⟩
    have h := H.out
    rw [HV.out] at h ⊢
    rw [List.append_nil]
    exact h
  · have e0 : ¬ (V.length : Int) = 0 := by omega
    have H := Lib.hid h
    clear h0
    go_enter Tryd.func23, Tryd.ntmps23
    go_wp2_with fail
    have mixed : Tryd.prog.follows Departure.mixedOrders = true := by kernel_rfl
    have hm : ∀ (x : Value) (W : World), Sem.run Tryd.prog (method 239 43 x "Write") W = .ok (76, x) W := methodWrite
    have hvi : (V.length : Int) ≤ 16384 := by omega
    have hB := h.hb
    have hqb := h.qb
    have hU : ∀ v ∈ U, v.oneCell' = true := fun v hv => h.one v (.inl hv)
    have hV1 : ∀ v ∈ V, v.oneCell' = true := fun v hv => h.one v (.inr hv)
    have hsrc : ∀ j v, V[j]? = some v → w.cell? ((⟨q, 0, none⟩ : Addr).add j) = some v := by
      intro j v hj
      obtain ⟨cur, hq, hcs, htk⟩ := H.out.hq
      rw [Lib.addr_add, Lib.cell_of_heap hq, Nat.zero_add]
      rw [← htk] at hj
      have hlt : j < V.length := by have := (List.getElem?_eq_some_iff.1 hj).1; rw [List.length_take] at this; omega
      rw [List.getElem?_take_of_lt hlt] at hj
      simpa using hj
    have hn1 : 1 ≤ V.length := by omega
    clear h
    go_region_with_o (
        go_at_call 76
        refine (buf_write b V.length 16384 r U V ⟨q, 0, none⟩ _ ?_ hU rfl hn1 hlim hqb ?_ hV1).mono ?_
        exact hB
        exact hsrc
        rintro e w2 ⟨rfl, r', hB2, hK2, hr2⟩
        have hp2 := hK2.heap H.out.hp (fun e => e.elim H.out.pb (fun e => H.out.rp e.symm))
        have d2 : w2.cell? ⟨p, 2, none⟩ = some (.int .i64 V.length) := by rw [Lib.cell_of_heap hp2]; rfl
        have g2 : w2.frozen? ⟨p, 2, none⟩ = false := Lib.frozen_of_heap hp2 2)
    all_goals (
      go_wp2
      go_ret
      exact flush_end (w0 := w.drew) H.out rfl ((KB.refl _ _).drewN 1) hB2 hK2 hr2)
end Go.Proofs.Qxb6618767aDoor
