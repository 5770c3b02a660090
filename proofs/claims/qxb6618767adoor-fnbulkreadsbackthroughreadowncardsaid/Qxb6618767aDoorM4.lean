import Derived.Test.Qxb6618767aDoorL4
namespace Go.Proofs.Qxb6618767aDoor
open Go.RowKit

def TrueBelow (w : World) (e : Ending) (w' : World) : Prop := e = .returned (.bool true) ∧ Below w.heap.size w w'

set_option maxHeartbeats 400000 in
theorem law4_long (spa spb : Option Addr) (na capa nb capb : Nat) (w : World) (hm : na ≤ maxLen) (hm2 : nb ≤ maxLen) (h : 1048576 < na + nb) :
    Calls Tryd.prog 4 #[.slice spa na capa, .slice spb nb capb] w fun e w' => TrueBelow w e w' := by
  go_enter Tryd.func4, Tryd.ntmps4
  go_wp2_with (go_at_call 12; refine (bytes12_no spa spb na capa nb capb _ hm hm2 h).mono ?_; rintro e w2 ⟨rfl, rfl⟩)
  go_ret
  exact ⟨rfl, Below.refl _ _⟩

/-- What the walk knows when all is written. -/
structure All4 (w w5 : World) (ca cb : List Value) (na nb da db A D ga gb g3 g4 g5 : Nat) (spa spb : Option Addr) : Prop where
  kb : KB (fun _ => False) w w5
  la : ca.length = na
  lb : cb.length = nb
  ua : U8 ca
  ub : U8 cb
  dA : Lib.nDigits na = da
  dB : Lib.nDigits nb = db
  A_ : na + da + 5 = A
  D_ : nb + db + 5 = D
  ha : 0 < na → spa = some ⟨ga, 0, none⟩ ∧ Src w5 ga 0 ca
  hb : 0 < nb → spb = some ⟨gb, 0, none⟩ ∧ Src w5 gb 0 cb
  h3 : Src w5 g3 0 (bulk ca ++ bulk cb)
  h4 : Src w5 g4 0 (bulk ca)
  h5 : Src w5 g5 0 (bulk cb)

theorem All4.next {w w5 w6 : World} {ca cb : List Value} {na nb da db A D ga gb g3 g4 g5 : Nat} {spa spb : Option Addr} (h : All4 w w5 ca cb na nb da db A D ga gb g3 g4 g5 spa spb) (hD : Drew w5 w6) : All4 w w6 ca cb na nb da db A D ga gb g3 g4 g5 spa spb :=
  ⟨h.kb.ftrans hD.kb, h.la, h.lb, h.ua, h.ub, h.dA, h.dB, h.A_, h.D_, fun x => ⟨(h.ha x).1, (h.ha x).2.kb hD.kb id⟩, fun x => ⟨(h.hb x).1, (h.hb x).2.kb hD.kb id⟩, h.h3.kb hD.kb id, h.h4.kb hD.kb id, h.h5.kb hD.kb id⟩

theorem All4.lA {w w5 : World} {ca cb : List Value} {na nb da db A D ga gb g3 g4 g5 : Nat} {spa spb : Option Addr} (h : All4 w w5 ca cb na nb da db A D ga gb g3 g4 g5 spa spb) : (bulk ca).length = A := by rw [bulk_len, h.la, h.dA, h.A_]
theorem All4.lD {w w5 : World} {ca cb : List Value} {na nb da db A D ga gb g3 g4 g5 : Nat} {spa spb : Option Addr} (h : All4 w w5 ca cb na nb da db A D ga gb g3 g4 g5 spa spb) : (bulk cb).length = D := by rw [bulk_len, h.lb, h.dB, h.D_]
theorem All4.s3a {w w5 : World} {ca cb : List Value} {na nb da db A D ga gb g3 g4 g5 : Nat} {spa spb : Option Addr} (h : All4 w w5 ca cb na nb da db A D ga gb g3 g4 g5 spa spb) : Src w5 g3 0 (bulk ca) := by
  have := h.h3.take A
  rwa [← h.lA, List.take_left] at this
theorem All4.s3b {w w5 : World} {ca cb : List Value} {na nb da db A D ga gb g3 g4 g5 : Nat} {spa spb : Option Addr} (h : All4 w w5 ca cb na nb da db A D ga gb g3 g4 g5 spa spb) : Src w5 g3 A (bulk cb) := by
  have := h.h3.drop A
  rw [Nat.zero_add] at this
  have e : (bulk ca ++ bulk cb).drop A = bulk cb := by rw [← h.lA, List.drop_left]
  rwa [e] at this
theorem src_mid {w : World} {g n d A : Nat} {cs : List Value} (h : Src w g 0 (bulk cs)) (hn : cs.length = n) (hd : Lib.nDigits n = d) (hA : n + d + 5 = A) :
    Src w g (d + 3) cs ∧ w.cell? ⟨g, A - 2, none⟩ = some (.int .u8 13) ∧ w.cell? ⟨g, A - 1, none⟩ = some (.int .u8 10) := by
  obtain ⟨h1, h2, h3⟩ := bulk_at cs n d hn hd
  refine ⟨?_, ?_, ?_⟩
  · have := (h.drop (d + 3)).take n
    rw [h3, Nat.zero_add] at this
    exact this
  · have := h.cell (n + d + 3) _ h1
    rw [Lib.addr_add, Nat.zero_add] at this
    have e : A - 2 = n + d + 3 := by omega
    rw [e]; exact this
  · have := h.cell (n + d + 4) _ h2
    rw [Lib.addr_add, Nat.zero_add] at this
    have e : A - 1 = n + d + 4 := by omega
    rw [e]; exact this

set_option maxHeartbeats 4000000 in
set_option maxRecDepth 100000 in
theorem law4_main (ca cb : List Value) (spa spb : Option Addr) (na capa nb capb : Nat) (w : World) (hab : na + nb ≤ 1048576) (hna : ca.length = na) (hnb : cb.length = nb) (hua : U8 ca) (hub : U8 cb)
    (hnila : spa = none → na = 0) (hnilb : spb = none → nb = 0) (hsa : ∀ a, spa = some a → ∀ j v, ca[j]? = some v → w.cell? (a.add j) = some v) (hsb : ∀ a, spb = some a → ∀ j v, cb[j]? = some v → w.cell? (a.add j) = some v)
    (htab : Lib.TabIs Tryd.prog w pow10Name .u64 Lib.pow10Tab) :
    Calls Tryd.prog 4 #[.slice spa na capa, .slice spb nb capb] w fun e w' => TrueBelow w e w' := by
  have HNA := Lib.hid hna
  have HNB := Lib.hid hnb
  have HUA := Lib.hid hua
  have HUB := Lib.hid hub
  have HnA := Lib.hid hnila
  have HnB := Lib.hid hnilb
  have HSA := Lib.hid hsa
  have HSB := Lib.hid hsb
  have HT := Lib.hid (Lib.tabBelow_of_tabIs htab)
  have t1 : ¬ ((na : Int) > 1048576) := by omega
  have t2 : ¬ ((nb : Int) > 1048576 - (na : Int)) := by omega
  have ia : (na : Int) ≤ 1048576 := by omega
  have ib : (nb : Int) ≤ 1048576 := by omega
  have qa : na ≤ 1048576 := by omega
  have qb : nb ≤ 1048576 := by omega
  clear hna hnb hua hub hnila hnilb hsa hsb htab
  go_enter Tryd.func4, Tryd.ntmps4
  go_wp2_with (go_at_call 12; refine (bytes12_yes spa spb na capa nb capb _ hab).mono ?_; rintro e w0 ⟨rfl, hw0⟩; rw [hw0]; clear hw0 w0)
  go_at_call 8
  refine (clone_any spa na capa ca _ HNA.out qa HUA.out.one HnA.out HSA.out).mono ?_
  rintro e w1 ⟨spa', capa', ga, rfl, hca', hsa', hK1⟩
  have HSA1 := Lib.hid hsa'
  have HK1 := Lib.hid hK1
  clear hsa' hK1
  go_wp2_with fail
  go_at_call 8
  refine (clone_any spb nb capb cb _ HNB.out qb HUB.out.one HnB.out (fun a ha j v hj => HK1.out.fcell (HSB.out a ha j v hj))).mono ?_
  rintro e w2 ⟨spb', capb', gb, rfl, hcb', hsb', hK2⟩
  have HSB2 := Lib.hid hsb'
  have HSA2 : Hid (0 < na → spa' = some ⟨ga, 0, none⟩ ∧ Src w2 ga 0 ca) := Lib.hid (fun h => ⟨(HSA1.out h).1, (HSA1.out h).2.kb hK2 id⟩)
  have HK2 := Lib.hid (HK1.out.ftrans hK2)
  clear hsb' hK2
  go_wp2_with fail
  go_at_call 13
  refine (bulkTwice_any ca cb ga 0 gb 0 spa' spb' na capa' nb capb' _ HNA.out hca' qa HUA.out.one HSA2.out HNB.out hcb' qb HUB.out.one HSB2.out (HK2.out.ftab HT.out)).mono ?_
  rintro e w3 ⟨g3, cap3, rfl, hcap3, _, hs3, hK3⟩
  have HSA3 : Hid (0 < na → spa' = some ⟨ga, 0, none⟩ ∧ Src w3 ga 0 ca) := Lib.hid (fun h => ⟨(HSA2.out h).1, (HSA2.out h).2.kb hK3 id⟩)
  have HSB3 : Hid (0 < nb → spb' = some ⟨gb, 0, none⟩ ∧ Src w3 gb 0 cb) := Lib.hid (fun h => ⟨(HSB2.out h).1, (HSB2.out h).2.kb hK3 id⟩)
  have HS3 := Lib.hid hs3
  have HK3 := Lib.hid (HK2.out.ftrans hK3)
  obtain ⟨da, hda⟩ : ∃ d, d = Lib.nDigits na := ⟨_, rfl⟩
  obtain ⟨db, hdb⟩ : ∃ d, d = Lib.nDigits nb := ⟨_, rfl⟩
  obtain ⟨A, hA⟩ : ∃ d, d = na + da + 5 := ⟨_, rfl⟩
  obtain ⟨D, hD⟩ : ∃ d, d = nb + db + 5 := ⟨_, rfl⟩
  have lA : (bulk ca).length = A := by rw [bulk_len, HNA.out, ← hda, hA]
  have lD : (bulk cb).length = D := by rw [bulk_len, HNB.out, ← hdb, hD]
  rw [List.length_append, lA, lD] at hcap3 ⊢
  have hda7 : da ≤ 7 := by rw [hda]; exact nDigits_le 6 na (by omega)
  have hdb7 : db ≤ 7 := by rw [hdb]; exact nDigits_le 6 nb (by omega)
  have HDA := Lib.hid hda
  have HDB := Lib.hid hdb
  have HA := Lib.hid hA
  have HD := Lib.hid hD
  have LA := Lib.hid lA
  have LD := Lib.hid lD
  have iA : (A : Int) ≤ 2097152 := by omega
  have iD : (D : Int) ≤ 2097152 := by omega
  have hD0 : ¬ cap3 = A := by omega
  have hAc : A ≤ cap3 := by omega
  clear hs3 hK3 hda hdb hA hD lA lD hda7 hdb7
  go_wp2_with fail
  go_at_call 9
  refine (bulkOut_any ca ga 0 spa' na capa' _ HNA.out hca' qa HUA.out.one HSA3.out (HK3.out.ftab HT.out)).mono ?_
  rintro e w4 ⟨g4, cap4, rfl, hcap4, _, hs4, hK4⟩
  rw [LA.out] at hcap4 ⊢
  have HSA4 : Hid (0 < na → spa' = some ⟨ga, 0, none⟩ ∧ Src w4 ga 0 ca) := Lib.hid (fun h => ⟨(HSA3.out h).1, (HSA3.out h).2.kb hK4 id⟩)
  have HSB4 : Hid (0 < nb → spb' = some ⟨gb, 0, none⟩ ∧ Src w4 gb 0 cb) := Lib.hid (fun h => ⟨(HSB3.out h).1, (HSB3.out h).2.kb hK4 id⟩)
  have HS34 := Lib.hid (HS3.out.kb hK4 id)
  have HS4 := Lib.hid hs4
  have HK4 := Lib.hid (HK3.out.ftrans hK4)
  clear hs4 hK4
  go_wp2_with fail
  go_at_call 9
  refine (bulkOut_any cb gb 0 spb' nb capb' _ HNB.out hcb' qb HUB.out.one HSB4.out (HK4.out.ftab HT.out)).mono ?_
  rintro e w5 ⟨g5, cap5, rfl, hcap5, _, hs5, hK5⟩
  rw [LD.out] at hcap5 ⊢
  have HALL : Hid (All4 w w5 ca cb na nb da db A D ga gb g3 g4 g5 spa' spb') := Lib.hid ⟨HK4.out.ftrans hK5, HNA.out, HNB.out, HUA.out, HUB.out, HDA.out.symm, HDB.out.symm, HA.out.symm, HD.out.symm, fun h => ⟨(HSA4.out h).1, (HSA4.out h).2.kb hK5 id⟩, fun h => ⟨(HSB4.out h).1, (HSB4.out h).2.kb hK5 id⟩, HS34.out.kb hK5 id, HS4.out.kb hK5 id, hs5⟩
  clear hs5 hK5
  go_wp2_with fail
  go_at_call 11
  refine (bytesEq_same _ _ A _ _ (bulk ca) g3 0 g4 0 _ LA.out (by omega) HUA.out.bulk (fun _ => ⟨rfl, HALL.out.s3a⟩) (fun _ => ⟨rfl, HALL.out.h4⟩)).mono ?_
  rintro e w6 ⟨rfl, hD6⟩
  have HALL6 := Lib.hid (HALL.out.next hD6)
  clear hD6
  go_wp2_with fail
  go_at_call 11
  refine (bytesEq_same _ _ D _ _ (bulk cb) g3 A g5 0 _ LD.out (by omega) HUB.out.bulk (fun _ => ⟨rfl, HALL6.out.s3b⟩) (fun _ => ⟨rfl, HALL6.out.h5⟩)).mono ?_
  rintro e w7 ⟨rfl, hD7⟩
  have HALL7 := Lib.hid (HALL6.out.next hD7)
  clear hD7
  go_wp2_with fail
  go_at_call 14
  refine (decDigits_any na _ qa).mono ?_
  rintro e w8 ⟨rfl, hw8⟩
  rw [hw8, HALL7.out.dA]
  clear hw8 w8
  have hA5 : (na : Int) + (da : Int) + 5 = (A : Int) := by have := HA.out; omega
  go_wp2_with fail
  go_at_call 14
  refine (decDigits_any nb _ qb).mono ?_
  rintro e w8 ⟨rfl, hw8⟩
  rw [hw8, HALL7.out.dB]
  clear hw8 w8
  have hD5 : (nb : Int) + (db : Int) + 5 = (D : Int) := by have := HD.out; omega
  obtain ⟨hsma, c1, c2⟩ := src_mid HALL7.out.h4 HALL7.out.la HALL7.out.dA HALL7.out.A_
  obtain ⟨hsmb, c3, c4⟩ := src_mid HALL7.out.h5 HALL7.out.lb HALL7.out.dB HALL7.out.D_
  have HSMA := Lib.hid hsma
  have HSMB := Lib.hid hsmb
  have a5 : 5 ≤ A := by have := HA.out; omega
  have d5 : 5 ≤ D := by have := HD.out; omega
  have a5i : (5 : Int) ≤ (A : Int) := by omega
  have d5i : (5 : Int) ≤ (D : Int) := by omega
  have an : (na : Int) + 5 ≤ (A : Int) := by have := HA.out; omega
  have dn : (nb : Int) + 5 ≤ (D : Int) := by have := HD.out; omega
  clear hsma hsmb
  go_wp2_with fail
  have ea : A - 2 - (A - 2 - na) = na := by have := HA.out; omega
  have ea2 : A - 2 - na = da + 3 := by have := HA.out; omega
  rw [ea, ea2]
  clear ea ea2
  go_at_call 11
  refine (bytesEq_same _ _ na _ _ ca g4 (da + 3) ga 0 _ HNA.out (by omega) HUA.out (fun _ => ⟨rfl, HSMA.out⟩) HALL7.out.ha).mono ?_
  rintro e w9 ⟨rfl, hD9⟩
  have HALL9 := Lib.hid (HALL7.out.next hD9)
  have HSMB9 := Lib.hid (HSMB.out.kb hD9.kb id)
  clear hD9
  go_wp2_with fail
  have eb : D - 2 - (D - 2 - nb) = nb := by have := HD.out; omega
  have eb2 : D - 2 - nb = db + 3 := by have := HD.out; omega
  rw [eb, eb2]
  clear eb eb2
  go_at_call 11
  refine (bytesEq_same _ _ nb _ _ cb g5 (db + 3) gb 0 _ HNB.out (by omega) HUB.out (fun _ => ⟨rfl, HSMB9.out⟩) HALL9.out.hb).mono ?_
  rintro e w10 ⟨rfl, hD10⟩
  have HALL10 := Lib.hid (HALL9.out.next hD10)
  clear hD10
  go_wp2
  go_ret
  exact ⟨rfl, HALL10.out.kb.below _ (Nat.le_refl _) (fun _ e => e.elim)⟩
end Go.Proofs.Qxb6618767aDoor
