import Derived.Test.Qxb6618767aDoorV
import Derived.Test.Qxb6618767aDoorN2
namespace Go.Proofs.Qxb6618767aDoor
open Go.RowKit

abbrev TabP (B : Nat) (w : World) : Prop := Lib.TabBelow Tryd.prog B w pow10Name .u64 Lib.pow10Tab

/-- A resp.Writer at block z. -/
structure WS (B : Nat) (w : World) (z p q b dg : Nat) (r : Option Nat) (U V : List Value) : Prop where
  bw : BW w p q b r U V
  hz : w.heap[z]? = some (.cells #[.pointer (some ⟨p, 0, none⟩), .slice (some ⟨dg, 0, none⟩) 0 20] 49 (0, 0))
  hd : ∃ cd, w.heap[dg]? = some (.cells cd 5 (0, 0)) ∧ cd.size = 20
  nd : ¬ PutS p q b r dg
  nz : ¬ PutS p q b r z
  zd : z ≠ dg
  low : ∀ k, PutS p q b r k → B ≤ k
  lowd : B ≤ dg
  tab : TabP B w

def NumS (p q b : Nat) (r : Option Nat) (dg k : Nat) : Prop := PutS p q b r k ∨ k = dg

def OutWS (B : Nat) (w : World) (z p q b dg : Nat) (r : Option Nat) (T : List Value) (w' : World) : Prop :=
  ∃ r' U V, U ++ V = T ∧ WS B w' z p q b dg r' U V ∧ KB (NumS p q b r dg) w w' ∧ (r' = r ∨ ∃ g, r' = some g ∧ w.heap.size ≤ g)

theorem WS.out {B : Nat} {w w' : World} {z p q b dg : Nat} {r : Option Nat} {U V T : List Value} (H : WS B w z p q b dg r U V) (h : OutW w p q b r T w') : OutWS B w z p q b dg r T w' := by
  obtain ⟨r', U', V', e, hB, hK, hr⟩ := h
  obtain ⟨cd, hd, hcd⟩ := H.hd
  have ld := Lib.lt_of_heap hd
  have lz := Lib.lt_of_heap H.hz
  have hput : ∀ k, k < w.heap.size → PutS p q b r' k → PutS p q b r k := by
    intro k hk h
    rcases h with h | h | h | h
    · exact .inl h
    · exact .inr (.inl h)
    · exact .inr (.inr (.inl h))
    · rcases hr with e | ⟨g, e, hg⟩
      · rw [e] at h; exact .inr (.inr (.inr h))
      · rw [e] at h; cases h; omega
  refine ⟨r', U', V', e, ⟨hB, hK.heap H.hz H.nz, ⟨cd, hK.heap hd H.nd, hcd⟩, fun h => H.nd (hput _ ld h), fun h => H.nz (hput _ lz h), H.zd, ?_, H.lowd, ?_⟩, hK.mono (fun k h => .inl h), hr⟩
  · intro k hk
    by_cases h : k < w.heap.size
    · exact H.low k (hput k h hk)
    · have := H.lowd; omega
  · exact H.tab.on (hK.below B (by have := H.lowd; omega) H.low)

theorem WS.drewN {B : Nat} {w : World} {z p q b dg : Nat} {r : Option Nat} {U V : List Value} (H : WS B w z p q b dg r U V) (n : Nat) : WS B (w.drewN n) z p q b dg r U V := by
  obtain ⟨cd, hd, hcd⟩ := H.hd
  refine ⟨H.bw.drewN n, by rw [drewN_heap]; exact H.hz, ⟨cd, by rw [drewN_heap]; exact hd, hcd⟩, H.nd, H.nz, H.zd, H.low, H.lowd, H.tab.on (((KB.refl (fun _ => False) w).drewN n).below B (by have := Lib.lt_of_heap hd; have := H.lowd; omega) (fun _ h => h.elim))⟩

theorem WS.cells {B : Nat} {w : World} {z p q b dg : Nat} {r : Option Nat} {U V : List Value} (H : WS B w z p q b dg r U V) : w.cell? ⟨z, 0, none⟩ = some (.pointer (some ⟨p, 0, none⟩)) ∧ w.cell? ⟨z, 1, none⟩ = some (.slice (some ⟨dg, 0, none⟩) 0 20) := by
  constructor <;> (rw [Lib.cell_of_heap H.hz]; rfl)

theorem WS.own {B : Nat} {w : World} {z p q b dg : Nat} {r : Option Nat} {U V : List Value} (H : WS B w z p q b dg r U V) : w.ownsRow 0 5 1 (.slice (some ⟨dg, 0, none⟩) 0 20) 0 [] := by
  obtain ⟨cd, hd, hcd⟩ := H.hd
  exact ⟨rfl, .inr ⟨dg, 20, cd, rfl, Nat.zero_le _, hd, by omega, by unfold maxLen; omega, by omega, rfl⟩⟩

theorem WS.dig {B : Nat} {w w' : World} {z p q b dg L : Nat} {r : Option Nat} {U V ds : List Value} (H : WS B w z p q b dg r U V) (h : w'.ownsRow 0 5 1 (.slice (some ⟨dg, 0, none⟩) L 20) L ds) (hK : KB (fun k => k = dg) w w') :
    WS B w' z p q b dg r U V ∧ Src w' dg 0 ds ∧ L ≤ 20 ∧ ds.length = L := by
  obtain ⟨cd, hd, hcd⟩ := H.hd
  have hlen : ds.length = L := by simpa using h.1
  rcases h.2 with ⟨hv, _⟩ | ⟨g, cap', cur, hv, hbg, hg, hnc, hcm, hcs, htake⟩
  · cases hv
  · cases hv
    refine ⟨⟨H.bw.same (fun k hk => hK.block k (H.bw.rlt k hk) (fun e => H.nd (e ▸ hk))), hK.heap H.hz H.zd, ⟨cur, hg, by simpa using hcs⟩, H.nd, H.nz, H.zd, H.low, H.lowd, H.tab.on (hK.below B (by have := Lib.lt_of_heap hd; have := H.lowd; omega) (fun k e => by rw [e]; exact H.lowd))⟩, ⟨cur, 5, _, hg, ?_⟩, hnc, hlen⟩
    intro j v hj
    have hl := (List.getElem?_eq_some_iff.1 hj).1
    rw [← htake, List.getElem?_take_of_lt (by omega)] at hj
    simpa using hj

theorem OutWS.trans {B : Nat} {w w1 w2 : World} {z p q b dg : Nat} {r r1 : Option Nat} {T : List Value} (hr1 : r1 = r ∨ ∃ g, r1 = some g ∧ w.heap.size ≤ g) (hK : KB (NumS p q b r dg) w w1) (h : OutWS B w1 z p q b dg r1 T w2) : OutWS B w z p q b dg r T w2 := by
  obtain ⟨r2, U, V, e, hB, hK2, hr2⟩ := h
  refine ⟨r2, U, V, e, hB, hK.trans hK2 (fun i hi hs => ?_), fresh_trans hK.size hr1 hr2⟩
  rcases hs with h | h
  · rcases h with h | h | h | h
    · exact .inl (.inl h)
    · exact .inl (.inr (.inl h))
    · exact .inl (.inr (.inr (.inl h)))
    · rcases hr1 with e | ⟨g, e, hg⟩
      · rw [e] at h; exact .inl (.inr (.inr (.inr h)))
      · rw [e] at h; cases h; omega
  · exact .inr h

def NumOut (B : Nat) (w : World) (z p q b dg : Nat) (r : Option Nat) (T : List Value) (e : Ending) (w' : World) : Prop := (∃ v, e = .returned v) ∧ OutWS B w z p q b dg r T w'

theorem number_end {B : Nat} {w w1 w2 w3 : World} {z p q b dg : Nat} {r r2 : Option Nat} {U V U2 V2 ds : List Value} {e v : _} (HK : KB (fun k => k = dg) w w1) (HE : U2 ++ V2 = U ++ V ++ ds) (H2 : WS B w2 z p q b dg r2 U2 V2) (HK2 : KB (NumS p q b r dg) w1 w2) (HR2 : r2 = r ∨ ∃ g, r2 = some g ∧ w1.heap.size ≤ g)
    (h3 : WroteN w2 p q b r2 (U2 ++ V2 ++ crlf) 2 e w3) : NumOut B w z p q b dg r (U ++ V ++ ds ++ crlf) (.returned v) w3 := by
  refine ⟨⟨_, rfl⟩, OutWS.trans (fresh_trans HK.size (.inl rfl) HR2) ((HK.mono (fun k e => .inr e)).trans HK2 (fun _ _ e => e)) ?_⟩
  rw [← HE]
  exact H2.out h3.2

set_option maxHeartbeats 1000000 in
set_option maxRecDepth 100000 in
theorem number_any (B : Nat) (z p q b dg : Nat) (r : Option Nat) (U V : List Value) (u : Nat) (w : World) (h : WS B w z p q b dg r U V) (hu : u < 9223372036854775808) (hlim : U.length + V.length + 22 ≤ 1073741824) :
    Calls Tryd.prog 33 #[.pointer (some ⟨z, 0, none⟩), .int .i64 u] w fun e w' => NumOut B w z p q b dg r (U ++ V ++ Lib.byteCells (Lib.decDigits u) ++ crlf) e w' := by
  obtain ⟨c0, c1⟩ := h.cells
  have H := Lib.hid h
  clear h
  go_enter Tryd.func33, Tryd.ntmps33
  go_wp2_with fail
  have mixed : Tryd.prog.follows Departure.mixedOrders = true := by kernel_rfl
  go_region_with_o (first
    | (go_at_call 39
       refine (aip_any dg u hu _ ?_ ?_).mono ?_
       exact (H.out.drewN 1).own
       exact (H.out.drewN 1).tab.here
       rintro e w1 ⟨rfl, ho, hK⟩
       obtain ⟨h1, hS, hL, hds⟩ := (H.out.drewN 1).dig ho hK
       obtain ⟨e0, e1⟩ := h1.cells
       have H1 := Lib.hid h1
       have HS := Lib.hid hS
       have HK := Lib.hid (((KB.refl (fun k => k = dg) w).drewN 1).trans hK (fun _ _ e => e))
       have HD := Lib.hid hds
       clear h1 hS hK ho hds)
    | (go_at_call 34
       refine (write_any p q b r U V (Lib.byteCells (Lib.decDigits u)) dg 0 _ (Lib.decDigits u).length 20 _ H1.out.bw HD.out hL (by omega) (Lib.byteCells_one _) (fun _ => ⟨rfl, HS.out, H1.out.nd⟩)).mono ?_
       rintro e w2 ⟨rfl, hO⟩
       obtain ⟨r2, U2, V2, e2, h2, hK2, hr2⟩ := H1.out.out hO
       obtain ⟨x0, x1⟩ := h2.cells
       have H2 := Lib.hid h2
       have HE := Lib.hid e2
       have HK2 := Lib.hid hK2
       have HR2 := Lib.hid hr2
       clear hO h2 hK2 hr2))
  all_goals (
    have hlim2 : U2.length + V2.length + 2 ≤ 1073741824 := by
      have h2 := congrArg List.length HE.out
      rw [List.length_append, List.length_append, List.length_append, HD.out] at h2
      omega
    go_wp2_with (go_at_call 35; refine (writeCrlf_any p q b r2 U2 V2 _ H2.out.bw hlim2).mono ?_; intro e w3 h3; obtain ⟨rfl, _⟩ := id h3; have H3 := Lib.hid h3; clear h3)
    go_wp2
    go_end0
    exact number_end HK.out HE.out H2.out HK2.out HR2.out H3.out)
end Go.Proofs.Qxb6618767aDoor
