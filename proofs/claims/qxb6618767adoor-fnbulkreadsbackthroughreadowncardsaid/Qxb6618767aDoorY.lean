import Derived.Test.Qxb6618767aDoorX
namespace Go.Proofs.Qxb6618767aDoor
open Go.RowKit

/-- What Bulk writes. -/
def bulk (cs : List Value) : List Value := [.int .u8 36] ++ Lib.byteCells (Lib.decDigits cs.length) ++ crlf ++ cs ++ crlf

theorem nDigits_le : ∀ (k u : Nat), u < 10 ^ (k + 1) → Lib.nDigits u ≤ k + 1
  | 0, u, h => by rw [Lib.nDigits_small (by simpa using h)]; omega
  | k + 1, u, h => by
    by_cases h10 : u < 10
    · rw [Lib.nDigits_small h10]; omega
    · rw [Lib.nDigits_big h10]
      have := nDigits_le k (u / 10) (by rw [Nat.pow_succ] at h; omega)
      omega

theorem digits_le (u : Nat) (hu : u ≤ 1048576) : (Lib.decDigits u).length ≤ 7 := by
  rw [Lib.decDigits_length]
  exact nDigits_le 6 u (by omega)

theorem bulk_length (cs : List Value) (h : cs.length ≤ 1048576) : (bulk cs).length ≤ 1048600 := by
  have := digits_le _ h
  simp only [bulk, crlf, List.length_append, List.length_cons, List.length_nil, Lib.byteCells_length]
  omega

theorem bulk_src {w w2 : World} {p q b dg s o : Nat} {r r2 : Option Nat} {cs : List Value} {sp : Option Addr} (h : sp = some ⟨s, o, none⟩ ∧ Src w s o cs ∧ ¬ NumS p q b r dg s) (hK : KB (NumS p q b r dg) w w2) (hr : r2 = r ∨ ∃ g, r2 = some g ∧ w.heap.size ≤ g) :
    sp = some ⟨s, o, none⟩ ∧ Src w2 s o cs ∧ ¬ PutS p q b r2 s := by
  obtain ⟨h1, h2, h3⟩ := h
  refine ⟨h1, h2.kb hK h3, fun h => h3 (.inl ?_)⟩
  obtain ⟨row, t, fz, hs, _⟩ := h2
  have := Lib.lt_of_heap hs
  rcases h with h | h | h | h
  · exact .inl h
  · exact .inr (.inl h)
  · exact .inr (.inr (.inl h))
  · rcases hr with e | ⟨g, e, hg⟩
    · rw [e] at h; exact .inr (.inr (.inr h))
    · rw [e] at h; cases h; omega

set_option maxHeartbeats 1000000 in
set_option maxRecDepth 100000 in
theorem bulk_any (B : Nat) (z p q b dg : Nat) (r : Option Nat) (U V cs : List Value) (s o : Nat) (sp : Option Addr) (n cap : Nat) (w : World) (h : WS B w z p q b dg r U V) (hn : cs.length = n) (hcap : n ≤ cap) (hn2 : n ≤ 1048576) (hlim : U.length + V.length ≤ 536870912)
    (h1 : ∀ v ∈ cs, v.oneCell' = true) (hsrc : 0 < n → sp = some ⟨s, o, none⟩ ∧ Src w s o cs ∧ ¬ NumS p q b r dg s) :
    Calls Tryd.prog 22 #[.pointer (some ⟨z, 0, none⟩), .slice sp n cap] w fun e w' => NumOut B w z p q b dg r (U ++ V ++ bulk cs) e w' := by
  obtain ⟨c0, c1⟩ := h.cells
  have H := Lib.hid h
  have HN := Lib.hid hn
  have HS := Lib.hid hsrc
  have H1 := Lib.hid h1
  have hdg := digits_le n hn2
  clear h hn hsrc h1
  go_enter Tryd.func22, Tryd.ntmps22
  go_wp2_with (first
    | (go_at_call 32; refine (writeByte_any p q b r U V 36 _ H.out.bw (by omega)).mono ?_; rintro e w1 ⟨rfl, hO⟩; obtain ⟨r1, U1, V1, e1, hW1, hK1, hr1⟩ := H.out.out hO; obtain ⟨x0, x1⟩ := hW1.cells; have HW1 := Lib.hid hW1; have HE1 := Lib.hid e1; have HK1 := Lib.hid hK1; have HR1 := Lib.hid hr1; have hl1 : U1.length + V1.length = U.length + V.length + 1 := (by have := congrArg List.length e1; simp only [List.length_append, List.length_cons, List.length_nil] at this; omega); clear hO hW1 hK1 hr1 e1)
    | (go_at_call 33; refine (number_any B z p q b dg r1 U1 V1 n _ HW1.out (by omega) (by omega)).mono ?_; rintro e w2 ⟨⟨v2, rfl⟩, hO⟩; obtain ⟨r2, U2, V2, e2, hW2, hK2, hr2⟩ := OutWS.trans HR1.out HK1.out hO; obtain ⟨x2, x3⟩ := hW2.cells; have HW2 := Lib.hid hW2; have HE2 := Lib.hid e2; have HK2 := Lib.hid hK2; have HR2 := Lib.hid hr2; have hl2 : U2.length + V2.length ≤ U.length + V.length + 10 := (by have := congrArg List.length e2; have e : crlf.length = 2 := rfl; simp only [List.length_append, Lib.byteCells_length] at this; omega); clear hO hW2 hK2 hr2 e2)
    | (go_at_call 34; refine (write_any p q b r2 U2 V2 cs s o sp n cap _ HW2.out.bw HN.out hcap (by omega) H1.out (fun h0 => bulk_src (HS.out h0) HK2.out HR2.out)).mono ?_; rintro e w3 ⟨rfl, hO⟩; obtain ⟨r3, U3, V3, e3, hW3, hK3, hr3⟩ := OutWS.trans HR2.out HK2.out (HW2.out.out hO); obtain ⟨x4, x5⟩ := hW3.cells; have HW3 := Lib.hid hW3; have HE3 := Lib.hid e3; have HK3 := Lib.hid hK3; have HR3 := Lib.hid hr3; have hl3 : U3.length + V3.length ≤ U.length + V.length + 10 + n := (by have h5 := congrArg List.length e3; have h6 := HN.out; simp only [List.length_append] at h5; omega); clear hO hW3 hK3 hr3 e3)
    | (go_at_call 35; refine (writeCrlf_any p q b r3 U3 V3 _ HW3.out.bw (by omega)).mono ?_; rintro e w4 ⟨rfl, hO⟩; have H4 := Lib.hid (OutWS.trans HR3.out HK3.out (HW3.out.out hO)); clear hO))
  go_wp2
  go_end0
  refine ⟨⟨_, rfl⟩, ?_⟩
  have h4 := H4.out
  rw [HE3.out, HE2.out, HE1.out] at h4
  have e : U ++ V ++ bulk cs = U ++ V ++ [Value.int .u8 36] ++ Lib.byteCells (Lib.decDigits n) ++ crlf ++ cs ++ crlf := by
    rw [← HN.out]
    simp only [bulk, List.append_assoc]
  rw [e]
  exact h4
end Go.Proofs.Qxb6618767aDoor
