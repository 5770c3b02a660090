import Derived.Test.Qxb6618767aDoorC
namespace Go.Proofs.Qxb6618767aDoor
open Go.RowKit

def PutS (p q b : Nat) (r : Option Nat) (k : Nat) : Prop := k = p ∨ k = q ∨ k = b ∨ some k = r

/-- The writer has taken T in all. -/
def OutW (w : World) (p q b : Nat) (r : Option Nat) (T : List Value) (w' : World) : Prop :=
  ∃ r' U V, U ++ V = T ∧ BW w' p q b r' U V ∧ KB (PutS p q b r) w w' ∧ (r' = r ∨ ∃ g, r' = some g ∧ w.heap.size ≤ g)

theorem BW.same {w w' : World} {p q b : Nat} {r : Option Nat} {U V : List Value} (H : BW w p q b r U V) (hh : ∀ k, PutS p q b r k → w'.heap[k]? = w.heap[k]?) : BW w' p q b r U V := by
  obtain ⟨cur, hq, h2⟩ := H.hq
  exact ⟨(hh p (.inl rfl)).trans H.hp, ⟨cur, (hh q (.inr (.inl rfl))).trans hq, h2⟩, H.hb.same (fun k hk => hh k (.inr (.inr hk))), H.hV, H.one, H.pq, H.pb, H.qb, H.rp, H.rq⟩

theorem drewN_heap (w : World) (n : Nat) : (w.drewN n).heap = w.heap := by
  induction n with
  | zero => rfl
  | succ n ih => exact ih

theorem BW.drewN {w : World} {p q b : Nat} {r : Option Nat} {U V : List Value} (H : BW w p q b r U V) (n : Nat) : BW (w.drewN n) p q b r U V :=
  H.same (fun k _ => by rw [drewN_heap])

theorem BW.rlt {w : World} {p q b : Nat} {r : Option Nat} {U V : List Value} (H : BW w p q b r U V) (k : Nat) (hk : PutS p q b r k) : k < w.heap.size := by
  rcases hk with rfl | rfl | h
  · exact Lib.lt_of_heap H.hp
  · obtain ⟨cur, hq, _⟩ := H.hq
    exact Lib.lt_of_heap hq
  · rcases H.hb with ⟨h1, _, lr, h3⟩ | ⟨g, cap, cur, lr, h1, _, h3, h4, _⟩
    · rcases h with rfl | h
      · exact Lib.lt_of_heap h3
      · rw [h1] at h; cases h
    · rcases h with rfl | h
      · exact Lib.lt_of_heap h3
      · rw [h1] at h; cases h; exact Lib.lt_of_heap h4

theorem OutW.refl {w : World} {p q b : Nat} {r : Option Nat} {U V : List Value} (H : BW w p q b r U V) : OutW w p q b r (U ++ V) w :=
  ⟨r, U, V, rfl, H, KB.refl _ _, .inl rfl⟩

theorem KB.transPut {w w1 w2 : World} {p q b : Nat} {r r1 : Option Nat} (hr1 : r1 = r ∨ ∃ g, r1 = some g ∧ w.heap.size ≤ g) (h : KB (PutS p q b r) w w1) (k : KB (PutS p q b r1) w1 w2) : KB (PutS p q b r) w w2 :=
  h.trans k (fun i hi hs => by
    rcases hs with h | h | h | h
    · exact .inl h
    · exact .inr (.inl h)
    · exact .inr (.inr (.inl h))
    · rcases hr1 with e | ⟨g, e, hg⟩
      · rw [e] at h; exact .inr (.inr (.inr h))
      · rw [e] at h; cases h; omega)

theorem fresh_trans {w w1 : World} {r r1 r2 : Option Nat} (hs : w.heap.size ≤ w1.heap.size) (h1 : r1 = r ∨ ∃ g, r1 = some g ∧ w.heap.size ≤ g) (h2 : r2 = r1 ∨ ∃ g, r2 = some g ∧ w1.heap.size ≤ g) : r2 = r ∨ ∃ g, r2 = some g ∧ w.heap.size ≤ g := by
  rcases h2 with rfl | ⟨g, e, hg⟩
  · exact h1
  · exact .inr ⟨g, e, by omega⟩

/-- cs has come behind V in the row, and the count has been raised. -/
theorem BW.put {w w1 : World} {p q b : Nat} {r : Option Nat} {U V : List Value} (H : BW w p q b r U V) (cs : List Value) (n : Int) (hn : n = (V ++ cs).length) (hfit : V.length + cs.length ≤ 16384) (h1 : ∀ v ∈ cs, v.oneCell' = true)
    (hq : ∃ cur, w1.heap[q]? = some (.cells cur 5 (0, 0)) ∧ cur.size = 16384 ∧ cur.toList.take (V ++ cs).length = V ++ cs) (hK : KB (fun k => k = q) w w1) :
    BW (w1.setCell ⟨p, 2, none⟩ (.int .i64 n)) p q b r U (V ++ cs) ∧ KB (PutS p q b r) w (w1.setCell ⟨p, 2, none⟩ (.int .i64 n)) := by
  subst hn
  have hp1 := hK.heap H.hp H.pq
  obtain ⟨cur, hq1, hcs, htk⟩ := hq
  refine ⟨⟨?_, ⟨cur, ?_, hcs, htk⟩, ?_, by rw [List.length_append]; exact hfit, ?_, H.pq, H.pb, H.qb, H.rp, H.rq⟩, (hK.mono (fun k e => .inr (.inl e))).setCell p 2 _ (.inl rfl)⟩
  · rw [heap_setCell_same w1 p 2 _ 68 _ hp1]; rfl
  · rw [heap_setCell_other _ _ _ _ (fun e => H.pq e.symm)]; exact hq1
  · refine H.hb.same (fun k hk => ?_)
    have hkp : k ≠ p := by rintro rfl; exact hk.elim H.pb (fun x => H.rp x.symm)
    have hkq : k ≠ q := by rintro rfl; exact hk.elim H.qb (fun x => H.rq x.symm)
    rw [heap_setCell_other _ _ _ _ hkp]
    exact hK.block k (H.rlt k (.inr (.inr hk))) hkq
  · intro v hv
    rcases hv with hv | hv
    · exact H.one v (.inl hv)
    · rcases List.mem_append.1 hv with hv | hv
      · exact H.one v (.inr hv)
      · exact h1 v hv

theorem BW.putByte {w w2 : World} {p q b : Nat} {r : Option Nat} {U V : List Value} (H : BW w p q b r U V) (v : Value) (hfit : V.length < 16384) (h1 : v.oneCell' = true) (hh : w2.heap = (w.setCell ⟨q, V.length, none⟩ v).heap) (hK : KB (fun k => k = q) w w2) :
    OutW w p q b r (U ++ V ++ [v]) (w2.setCell ⟨p, 2, none⟩ (.int .i64 (V.length + 1))) := by
  obtain ⟨cur, hq, hcs, htk⟩ := H.hq
  obtain ⟨h2, h3⟩ := H.put (w1 := w2) [v] (V.length + 1) (by simp) (by simp; omega) (by intro u hu; simp at hu; subst hu; exact h1)
    ⟨cur.setIfInBounds V.length v, by rw [hh]; exact heap_setCell_same w q _ _ 5 _ hq, by simpa using hcs, by
      rw [Array.toList_setIfInBounds]
      simp only [List.length_append, List.length_cons, List.length_nil, Nat.zero_add]
      apply List.ext_getElem?
      intro i
      by_cases h : i < V.length
      · have e : cur.toList[i]? = V[i]? := by rw [← htk, List.getElem?_take_of_lt h]
        rw [List.getElem?_take_of_lt (by omega), List.getElem?_set_ne (by omega), List.getElem?_append_left h, e]
      · by_cases h2 : i = V.length
        · subst h2
          rw [List.getElem?_take_of_lt (by omega), List.getElem?_set_self (by simp; omega)]
          simp
        · rw [List.getElem?_eq_none (by simp; omega), List.getElem?_eq_none (by simp; omega)]⟩
    hK
  exact ⟨r, U, V ++ [v], by simp, h2, h3, .inl rfl⟩

theorem OutW.trans {w w1 w2 : World} {p q b : Nat} {r r1 : Option Nat} {T : List Value} (hr1 : r1 = r ∨ ∃ g, r1 = some g ∧ w.heap.size ≤ g) (hK : KB (PutS p q b r) w w1) (h : OutW w1 p q b r1 T w2) : OutW w p q b r T w2 := by
  obtain ⟨r2, U, V, e, hB, hK2, hr2⟩ := h
  exact ⟨r2, U, V, e, hB, KB.transPut hr1 hK hK2, fresh_trans hK.size hr1 hr2⟩
end Go.Proofs.Qxb6618767aDoor
