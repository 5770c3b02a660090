import Derived.Test.Qxb6618767aDoorY
namespace Go.Proofs.Qxb6618767aDoor
open Go.RowKit

/-- bs has come back in a row of the call's own; what was there is as it was. -/
def RowOut (w : World) (bs : List Value) (e : Ending) (w' : World) : Prop :=
  ∃ g cap, e = .returned (.slice (some ⟨g, 0, none⟩) bs.length cap) ∧ bs.length ≤ cap ∧ w.heap.size ≤ g ∧ Src w' g 0 bs ∧ KB (fun _ => False) w w'

theorem ws_new {w w2 : World} {e : Ending} (htab : Lib.TabIs Tryd.prog w pow10Name .u64 Lib.pow10Tab) (h : WrOut (w.alloc (.cells #[.slice none 0 0, .int .i64 0, .int .i8 0] 40)) w.heap.size e w2) :
    ∃ z p q dg, e = .returned (.pointer (some ⟨z, 0, none⟩)) ∧ WS w.heap.size w2 z p q w.heap.size dg none [] [] ∧ KB (fun _ => False) w w2 := by
  obtain ⟨z, p, q, dg, cur, cd, he, hp, hq, hd, hz, hpq, hdp, hdq, hzp, hzq, hzd, k1, k2, k3, k4, k5, k6, hK⟩ := h
  have hs : (w.alloc (.cells #[.slice none 0 0, .int .i64 0, .int .i8 0] 40)).heap.size = w.heap.size + 1 := by simp
  have hb2 := hK.heap (heap_alloc_new w (.cells #[.slice none 0 0, .int .i64 0, .int .i8 0] 40)) id
  rw [hs] at hp hq hd hz
  have hKw : KB (fun _ => False) w w2 := ((KB.refl _ w).alloc _).trans hK (fun _ _ e => e)
  refine ⟨z, p, q, dg, he, ⟨⟨k2, ⟨cur, k3, k4, rfl⟩, .inl ⟨rfl, rfl, 0, hb2⟩, Nat.zero_le _, ?_, hpq, by omega, by omega, by simp, by simp⟩, k1, ⟨cd, k5, k6⟩, ?_, ?_, hzd, ?_, by omega, ?_⟩, hKw⟩
  · intro v hv
    simp at hv
  · rintro (h | h | h | h)
    · omega
    · omega
    · omega
    · cases h
  · rintro (h | h | h | h)
    · omega
    · omega
    · omega
    · cases h
  · rintro k (h | h | h | h)
    · omega
    · omega
    · omega
    · cases h
  · exact (Lib.tabBelow_of_tabIs htab).on (hKw.below _ (Nat.le_refl _) (fun _ h => h.elim))

theorem isBuffer_of {B : Nat} {w : World} {b : Nat} {r : Option Nat} {U : List Value} (h : BufAt w b r U) (hU : ¬ U.length = 0) (hb : B ≤ b) (hr : ∀ g, r = some g → B ≤ g) : Lib.IsBuffer 40 5 B b U w := by
  rcases h with ⟨_, h2, _⟩ | ⟨g, cap, cur, lr, h1, _, hbk, hg, hcs, hlc, hcm, htk, hgb⟩
  · exact absurd (by rw [h2]; rfl) hU
  · refine ⟨hb, .slice (some ⟨g, 0, none⟩) U.length cap, lr, hbk, ⟨by simp, .inr ⟨g, cap, cur, rfl, hr g h1, hg, hlc, hcm, by simpa using hcs, by simpa using htk⟩⟩, ?_⟩
    intro e
    exact hgb (Option.some.inj e)

/-- The writer made since w has taken T. -/
def St (w wi : World) (z p q b dg : Nat) (T : List Value) : Prop := ∃ r U V, U ++ V = T ∧ WS w.heap.size wi z p q b dg r U V ∧ KB (fun _ => False) w wi

theorem WS.lows {B : Nat} {w : World} {z p q b dg : Nat} {r : Option Nat} {U V : List Value} (H : WS B w z p q b dg r U V) (k : Nat) (h : NumS p q b r dg k) : B ≤ k := by
  rcases h with h | h
  · exact H.low k h
  · rw [h]; exact H.lowd

theorem St.next {w w2 w3 : World} {z p q b dg : Nat} {r : Option Nat} {U V T : List Value} (H : WS w.heap.size w2 z p q b dg r U V) (hK : KB (fun _ => False) w w2) (h : OutWS w.heap.size w2 z p q b dg r T w3) : St w w3 z p q b dg T := by
  obtain ⟨r3, U3, V3, e, hW, hK3, _⟩ := h
  exact ⟨r3, U3, V3, e, hW, hK.trans hK3 (fun i hi hs => by have := H.lows i hs; omega)⟩

theorem st_src {w w2 : World} {z p q b dg s o : Nat} {r : Option Nat} {U V cs : List Value} {sp : Option Addr} (H : WS w.heap.size w2 z p q b dg r U V) (hK : KB (fun _ => False) w w2) (h : sp = some ⟨s, o, none⟩ ∧ Src w s o cs) :
    sp = some ⟨s, o, none⟩ ∧ Src w2 s o cs ∧ ¬ NumS p q b r dg s := by
  obtain ⟨h1, h2⟩ := h
  refine ⟨h1, h2.kb hK id, fun h => ?_⟩
  obtain ⟨row, t, fz, hs, _⟩ := h2
  have l := Lib.lt_of_heap hs
  have := H.lows s h
  omega

theorem st_flush {w w3 w4 : World} {z p q b dg : Nat} {r : Option Nat} {U V T : List Value} {e : Ending} (he : U ++ V = T) (hT : ¬ T.length = 0) (H : WS w.heap.size w3 z p q b dg r U V) (hK : KB (fun _ => False) w w3) (h : Flushed w3 p q b r (U ++ V) e w4) :
    Lib.IsBuffer 40 5 w.heap.size b T w4 ∧ KB (fun _ => False) w w4 := by
  obtain ⟨r4, hB, hK4, hr4⟩ := h.kbPut
  have hs := hK.size
  rw [he] at hB
  refine ⟨isBuffer_of hB.hb hT (H.low b (.inr (.inr (.inl rfl)))) (fun g hg => ?_), hK.trans hK4 (fun i hi hs => by have := H.low i hs; omega)⟩
  rcases hr4 with e | ⟨g', e, hg'⟩
  · exact H.low g (.inr (.inr (.inr (by rw [← e, hg]))))
  · rw [e] at hg; cases hg; omega

theorem rowOut_end {w w4 : World} {T : List Value} {v : Value} {n : Nat} (hT : ¬ T.length = 0) (hK : KB (fun _ => False) w w4) (hv : (w4.drewN n).ownsRow w.heap.size 5 1 v T.length T) : RowOut w T (.returned v) (w4.drewN n) := by
  rcases hv.2 with ⟨_, hn⟩ | ⟨g, cap, cur, rfl, hbg, hg, hnc, hcm, hcs, htake⟩
  · exact absurd hn hT
  · refine ⟨g, cap, rfl, hnc, hbg, ⟨cur, 5, _, hg, ?_⟩, hK.drewN n⟩
    intro j u hj
    have hl := (List.getElem?_eq_some_iff.1 hj).1
    rw [← htake, List.getElem?_take_of_lt (by omega)] at hj
    simpa using hj

theorem bulk_ne (cs : List Value) : ¬ (bulk cs).length = 0 := by
  simp only [bulk, crlf, List.length_append, List.length_cons, List.length_nil]
  omega

set_option maxHeartbeats 1000000 in
set_option maxRecDepth 100000 in
theorem bulkOut_any (cs : List Value) (s o : Nat) (sp : Option Addr) (n cap : Nat) (w : World) (hn : cs.length = n) (hcap : n ≤ cap) (hn2 : n ≤ 1048576) (h1 : ∀ v ∈ cs, v.oneCell' = true) (hsrc : 0 < n → sp = some ⟨s, o, none⟩ ∧ Src w s o cs)
    (htab : Lib.TabIs Tryd.prog w pow10Name .u64 Lib.pow10Tab) :
    Calls Tryd.prog 9 #[.slice sp n cap] w fun e w' => RowOut w (bulk cs) e w' := by
  have HT := Lib.hid htab
  have HS := Lib.hid hsrc
  have HN := Lib.hid hn
  have H1 := Lib.hid h1
  clear htab hsrc hn h1
  go_enter Tryd.func9, Tryd.ntmps9
  go_wp2_with (first
    | (go_at_call 21; refine (newWriter_any w.heap.size _).mono ?_; intro e w2 h2; obtain ⟨z, p, q, dg, rfl, hW2, hK2⟩ := ws_new HT.out h2; obtain ⟨x0, x1⟩ := hW2.cells; have HW2 := Lib.hid hW2; have HK2 := Lib.hid hK2; clear h2 hW2 hK2))
  have hb20 := bulk_length cs (by rw [HN.out]; exact hn2)
  go_wp2_with (first
    | (go_at_call 22; refine (bulk_any w.heap.size z p q w.heap.size dg none [] [] cs s o sp n cap _ HW2.out HN.out hcap hn2 (by simp) H1.out (fun h0 => st_src HW2.out HK2.out (HS.out h0))).mono ?_; rintro e w3 ⟨⟨v3, rfl⟩, hO⟩; obtain ⟨r3, U3, V3, e3, hW3, hK3⟩ := St.next HW2.out HK2.out hO; obtain ⟨x2, x3⟩ := hW3.cells; have hl3 : U3.length + V3.length ≤ 1073741824 := (by have h5 := congrArg List.length e3; simp only [List.length_append, List.length_nil] at h5; omega); have HW3 := Lib.hid hW3; have HK3 := Lib.hid hK3; have HE3 : Hid (U3 ++ V3 = bulk cs) := Lib.hid (by simpa using e3); clear hO hW3 hK3 e3)
    | (go_at_call 23; refine (flush_any p q w.heap.size r3 U3 V3 _ HW3.out.bw hl3).mono ?_; intro e w4 hF; obtain ⟨rfl, _⟩ := id hF; obtain ⟨hI4, hK4⟩ := st_flush HE3.out (bulk_ne cs) HW3.out HK3.out hF; have HI4 := Lib.hid hI4; have HK4 := Lib.hid hK4; clear hF hI4 hK4)
    | (go_at_call 24; refine (buf_Bytes w.heap.size w.heap.size (bulk cs) _ HI4.out).mono ?_; rintro e w5 ⟨v5, rfl, hv5, n5, rfl⟩; have HV5 := Lib.hid hv5; clear hv5))
  go_wp2
  go_ret
  exact rowOut_end (bulk_ne cs) HK4.out HV5.out
end Go.Proofs.Qxb6618767aDoor
