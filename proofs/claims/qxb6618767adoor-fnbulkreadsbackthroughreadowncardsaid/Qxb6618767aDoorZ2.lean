import Derived.Test.Qxb6618767aDoorZ
namespace Go.Proofs.Qxb6618767aDoor
open Go.RowKit

set_option maxHeartbeats 2000000 in
set_option maxRecDepth 100000 in
theorem bulkTwice_any (ca cb : List Value) (sa oa sb ob : Nat) (spa spb : Option Addr) (na capa nb capb : Nat) (w : World) (hna : ca.length = na) (hcapa : na ≤ capa) (hna2 : na ≤ 1048576) (h1a : ∀ v ∈ ca, v.oneCell' = true) (hsa : 0 < na → spa = some ⟨sa, oa, none⟩ ∧ Src w sa oa ca)
    (hnb : cb.length = nb) (hcapb : nb ≤ capb) (hnb2 : nb ≤ 1048576) (h1b : ∀ v ∈ cb, v.oneCell' = true) (hsb : 0 < nb → spb = some ⟨sb, ob, none⟩ ∧ Src w sb ob cb)
    (htab : Lib.TabIs Tryd.prog w pow10Name .u64 Lib.pow10Tab) :
    Calls Tryd.prog 13 #[.slice spa na capa, .slice spb nb capb] w fun e w' => RowOut w (bulk ca ++ bulk cb) e w' := by
  have HT := Lib.hid htab
  have HSa := Lib.hid hsa
  have HNa := Lib.hid hna
  have H1a := Lib.hid h1a
  have HSb := Lib.hid hsb
  have HNb := Lib.hid hnb
  have H1b := Lib.hid h1b
  have hla := bulk_length ca (by rw [hna]; exact hna2)
  have hlb := bulk_length cb (by rw [hnb]; exact hnb2)
  have hne : ¬ (bulk ca ++ bulk cb).length = 0 := by have := bulk_ne ca; rw [List.length_append]; omega
  clear htab hsa hna h1a hsb hnb h1b
  go_enter Tryd.func13, Tryd.ntmps13
  go_wp2_with (first
    | (go_at_call 21; refine (newWriter_any w.heap.size _).mono ?_; intro e w2 h2; obtain ⟨z, p, q, dg, rfl, hW2, hK2⟩ := ws_new HT.out h2; obtain ⟨x0, x1⟩ := hW2.cells; have HW2 := Lib.hid hW2; have HK2 := Lib.hid hK2; clear h2 hW2 hK2))
  go_at_call 22
  refine (bulk_any w.heap.size z p q w.heap.size dg none [] [] ca sa oa spa na capa _ HW2.out HNa.out hcapa hna2 (by simp) H1a.out (fun h0 => st_src HW2.out HK2.out (HSa.out h0))).mono ?_
  rintro e w3 ⟨⟨v3, rfl⟩, hO⟩
  obtain ⟨r3, U3, V3, e3, hW3, hK3⟩ := St.next HW2.out HK2.out hO
  obtain ⟨x2, x3⟩ := hW3.cells
  have hl3 : U3.length + V3.length ≤ 1048600 := by
    have h5 := congrArg List.length e3
    simp only [List.length_append, List.length_nil] at h5
    omega
  have HW3 := Lib.hid hW3
  have HK3 := Lib.hid hK3
  have HE3 : Hid (U3 ++ V3 = bulk ca) := Lib.hid (by simpa using e3)
  clear hO hW3 hK3 e3
  go_wp2_with fail
  go_at_call 22
  refine (bulk_any w.heap.size z p q w.heap.size dg r3 U3 V3 cb sb ob spb nb capb _ HW3.out HNb.out hcapb hnb2 (by omega) H1b.out (fun h0 => st_src HW3.out HK3.out (HSb.out h0))).mono ?_
  rintro e w4 ⟨⟨v4, rfl⟩, hO⟩
  obtain ⟨r4, U4, V4, e4, hW4, hK4⟩ := St.next HW3.out HK3.out hO
  obtain ⟨x4, x5⟩ := hW4.cells
  have hl4 : U4.length + V4.length ≤ 1073741824 := by
    have h5 := congrArg List.length e4
    simp only [List.length_append] at h5
    omega
  have HW4 := Lib.hid hW4
  have HK4 := Lib.hid hK4
  have HE4 : Hid (U4 ++ V4 = bulk ca ++ bulk cb) := Lib.hid (by rw [e4, HE3.out])
  clear hO hW4 hK4 e4
  go_wp2_with (first
    | (go_at_call 23; refine (flush_any p q w.heap.size r4 U4 V4 _ HW4.out.bw hl4).mono ?_; intro e w5 hF; obtain ⟨rfl, _⟩ := id hF; obtain ⟨hI5, hK5⟩ := st_flush HE4.out hne HW4.out HK4.out hF; have HI5 := Lib.hid hI5; have HK5 := Lib.hid hK5; clear hF hI5 hK5)
    | (go_at_call 24; refine (buf_Bytes w.heap.size w.heap.size (bulk ca ++ bulk cb) _ HI5.out).mono ?_; rintro e w6 ⟨v6, rfl, hv6, n6, rfl⟩; have HV6 := Lib.hid hv6; clear hv6))
  go_wp2
  go_ret
  exact rowOut_end hne HK5.out HV6.out
end Go.Proofs.Qxb6618767aDoor
