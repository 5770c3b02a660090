import Derived.Test.Qxb6618767aDoorT
namespace Go.Proofs.Qxb6618767aDoor
open Go.RowKit

def crlf : List Value := [.int .u8 13, .int .u8 10]
def crs : Nat → ByteArray
  | 0 => ⟨#[13, 10]⟩
  | _ => ⟨#[10]⟩

theorem crs_cells (k : Nat) (hk : k < 2) : Lib.byteCells (crs k).data.toList = crlf.drop k ∧ (crs k).size = 2 - k := by
  match k, hk with
  | 0, _ => exact ⟨rfl, rfl⟩
  | 1, _ => exact ⟨rfl, rfl⟩

theorem crs_e0 : (crs 0).extract 0 2 = crs (0 + 0) := by kernel_rfl
theorem crs_e1 : (crs 0).extract 1 2 = crs (0 + 1) := by kernel_rfl
theorem crs_e2 : (crs 1).extract 0 1 = crs (1 + 0) := by kernel_rfl
theorem crs_extract (k m cl : Nat) (h : k + m = 2) (hc : cl < m) : (crs k).extract cl m = crs (k + cl) := by
  have hcases : (k = 0 ∧ m = 2 ∧ cl = 0) ∨ (k = 0 ∧ m = 2 ∧ cl = 1) ∨ (k = 1 ∧ m = 1 ∧ cl = 0) := by omega
  rcases hcases with ⟨rfl, rfl, rfl⟩ | ⟨rfl, rfl, rfl⟩ | ⟨rfl, rfl, rfl⟩
  · exact crs_e0
  · exact crs_e1
  · exact crs_e2

theorem crlf_one : ∀ v ∈ crlf, v.oneCell' = true := by
  intro v hv
  simp only [crlf, List.mem_cons, List.not_mem_nil, or_false] at hv
  rcases hv with rfl | rfl <;> rfl

def RelT (w : World) (p q b : Nat) (r : Option Nat) (T : List Value) (v1 v8 : Value) (wr : World) : Prop :=
  ∃ (k m : Nat) (r' : Option Nat) (U V : List Value), 0 < m ∧ v1 = .string (crs k) ∧ v8 = .int .i64 k ∧ RelS w p q b r T crlf 0 0 k m m (some ⟨0, 0 + k, none⟩) r' U V wr

theorem relT_next {w wr w5 : World} {p q b : Nat} {r r' r5 : Option Nat} {T U' V' U5 : List Value} {k m : Nat} (R : RelS w p q b r T crlf 0 0 k m m (some ⟨0, 0 + k, none⟩) r' U' V' wr) (cl : Nat) (hcl : cl < m) (str : ByteArray) (hstr : str = crs (k + cl))
    (hB : BW w5 p q b r5 U5 []) (hU5 : U5 = U' ++ V' ++ (crlf.drop k).take cl) (hK : KB (PutS p q b r') wr w5) (hr5 : r5 = r' ∨ ∃ g, r5 = some g ∧ wr.heap.size ≤ g) :
    RelT w p q b r T (.string str) (.int .i64 ((k : Int) + (cl : Int))) w5 := by
  subst hstr
  refine ⟨k + cl, m - cl, r5, U5, [], by omega, rfl, by rw [Int.natCast_add], ⟨by have := R.len; omega, Nat.le_refl _, fun _ => rfl, hB, ?_, KB.transPut R.fresh R.kb hK, fresh_trans R.kb.size R.fresh hr5⟩⟩
  rw [List.append_nil, hU5, R.all, List.append_assoc]
  congr 1
  rw [← List.take_add]

def measT (p : Nat) (wr : World) : Nat := notZero (wr.cell? ⟨p, 2, none⟩)

theorem measT_lt {p q b : Nat} {r r' : Option Nat} {U V U' : List Value} {w w' : World} (H : BW w p q b r U V) (hV : ¬ V.length = 0) (H' : BW w' p q b r' U' []) : measT p w' < measT p w := by
  unfold measT
  rw [H'.cells.2.2.1, H.cells.2.2.1]
  have e0 : notZero (some (.int .i64 (([] : List Value).length : Int))) = 0 := rfl
  have e1 : notZero (some (.int .i64 (V.length : Int))) = 1 := by show (if (V.length : Int) = 0 then 0 else 1) = 1; rw [if_neg (by omega)]
  rw [e0, e1]
  omega

set_option maxHeartbeats 4000000 in
set_option maxRecDepth 100000 in
theorem writeCrlf_any (p q b : Nat) (r : Option Nat) (U V : List Value) (w : World) (h : BW w p q b r U V) (hlim : U.length + V.length + 2 ≤ 1073741824) :
    Calls Tryd.prog 35 #[.pointer (some ⟨p, 0, none⟩), .string ⟨#[13, 10]⟩] w fun e w' => WroteN w p q b r (U ++ V ++ crlf) 2 e w' := by
  obtain ⟨T, hT⟩ : ∃ T, T = U ++ V := ⟨_, rfl⟩
  have hTl : T.length = U.length + V.length := by rw [hT, List.length_append]
  rw [← hT]
  have F0 : RelT w p q b r T (.string ⟨#[13, 10]⟩) (.int .i64 0) w :=
    ⟨0, 2, r, U, V, by omega, rfl, rfl, ⟨rfl, Nat.le_refl _, fun _ => rfl, h, by simp [hT], KB.refl _ _, .inl rfl⟩⟩
  clear h hT
  go_enter Tryd.func35, Tryd.ntmps35
  go_wp2
  go_loopw [1, 8] (fun v1 v8 wr => RelT w p q b r T v1 v8 wr) (fun _ _ wr => measT p wr)
  case atStart => exact F0
  case round =>
    obtain ⟨k, m, r', U', V', hm0, rfl, rfl, R⟩ := hrel
    have HR := Lib.hid R
    obtain ⟨d0, d1, d2, d3, df⟩ := R.bw.cells
    have f0 := df 0
    have f2 := df 2
    clear df
    have hV := R.bw.hV
    have hvi : (V'.length : Int) ≤ 16384 := by omega
    have hkm : k + m = 2 := R.len
    obtain ⟨hbc, hss⟩ := crs_cells k (by omega)
    have hss : (crs k).size = m := by omega
    obtain ⟨str, hstr⟩ : ∃ str, str = crs k := ⟨_, rfl⟩
    rw [← hstr] at hbc hss ⊢
    have HS := Lib.hid hstr
    have HBC := Lib.hid hbc
    have hUV : U'.length + V'.length = T.length + k := by
      have := congrArg List.length R.all
      rw [List.length_append, List.length_append, List.length_take] at this
      have e : crlf.length = 2 := rfl
      omega
    have hdl : (crlf.drop k).length = m := by rw [List.length_drop]; show 2 - k = m; omega
    have hone : ∀ v ∈ crlf.drop k, v.oneCell' = true := fun v hv => crlf_one v (List.mem_of_mem_drop hv)
    clear hstr hbc
    by_cases hroom : m ≤ 16384 - V'.length
    · have ht : ¬ ((m : Int) > 16384 - (V'.length : Int)) := by omega
      have hkn : (k : Int) + (m : Int) ≤ 1073741824 := by omega
      clear R
      go_wp2_with (first
        | (go_at_call 38; refine (available_any p q b r' U' V' _ HR.out.bw).mono ?_; rintro e w2 ⟨rfl, nd, rfl⟩))
      obtain ⟨w1, hw1⟩ : ∃ w1, w1 = wr.drewN nd := ⟨_, rfl⟩
      rw [← hw1]
      have hB1 : BW w1 p q b r' U' V' := by rw [hw1]; exact HR.out.bw.drewN nd
      have hK1 : KB (PutS p q b r) w w1 := by rw [hw1]; exact HR.out.kb.drewN nd
      obtain ⟨e0, e1, e2, e3, ef⟩ := hB1.cells
      obtain ⟨cur, hq, hcs, _⟩ := hB1.hq
      have hq' : w1.drew.heap[q]? = some (.cells cur.toList.toArray 5 (0, 0)) := by rw [Array.toArray_toList]; exact hq
      have hfit : V'.length + m ≤ cur.toList.length := by
        have hcl : cur.toList.length = 16384 := by simpa using hcs
        rw [hcl]
        omega
      have hmin : m = Nat.min str.size (16384 - V'.length) := by rw [hss]; exact (Nat.min_eq_left hroom).symm
      have hend : 0 < m → (if 16384 = V'.length then some (⟨q, 0, none⟩ : Addr) else some ⟨q, V'.length, none⟩) = some ⟨q, V'.length, none⟩ := by
        intro h0
        rw [if_neg (by omega)]
      have hbt : (Lib.byteCells str.data.toList).take m = crlf.drop k := by rw [HBC.out, List.take_of_length_le (by rw [hdl]; exact Nat.le_refl _)]
      have HB1 := Lib.hid hB1
      have HK1 := Lib.hid hK1
      have HQ := Lib.hid hq
      have HBT := Lib.hid hbt
      have HM := Lib.hid hmin
      clear hw1 d0 d1 d2 d3 f0 f2 hq hcs hB1 hK1 e3 ef hbt hmin
      go_region_law (refine step_copy_str rfl (.tmp 101) (.tmp 102) 22 9 rfl 5 Tryd.underlying22 Tryd.size5 _ _ _ str rfl rfl q V'.length cur.toList 5 hq' m HM.out (fun h0 => by first | rfl | exact hend h0) hfit ?_; rw [HBT.out]; intro w3 HG hK3)
      all_goals (
        have hp3 := hK3.heap (k := p) (show w1.drew.heap[p]? = _ from HB1.out.hp) HB1.out.pq
        have g2 : w3.cell? ⟨p, 2, none⟩ = some (.int .i64 V'.length) := by rw [Lib.cell_of_heap hp3]; rfl
        have k2 : w3.frozen? ⟨p, 2, none⟩ = false := Lib.frozen_of_heap hp3 2
        have HK3 := Lib.hid (((KB.refl (fun k => k = q) w1).drewN 1).trans hK3 (fun _ _ e => e))
        clear hp3 hK3
        go_wp2
        all_goals (
          go_ret2
          exact write_end HR.out rfl HB1.out HK1.out HQ.out HG.out HK3.out hone hroom))
    · have ht : (m : Int) > 16384 - (V'.length : Int) := by omega
      have hv0 : ¬ V'.length = 0 := by omega
      have hvb : ((V'.length : Int) == 0) = false := by rw [beq_eq_false_iff_ne]; omega
      obtain ⟨cl, hcl⟩ : ∃ cl, cl = 16384 - V'.length := ⟨_, rfl⟩
      have hclm : cl < m := by omega
      have hcv : V'.length + cl = 16384 := by omega
      have HCL := Lib.hid hcl
      have HCV := Lib.hid hcv
      have HV0 := Lib.hid hv0
      clear R hcl hcv hv0
      go_wp2_with (first
        | (go_at_call 38; refine (available_any p q b r' U' V' _ HR.out.bw).mono ?_; rintro e w2 ⟨rfl, nd, rfl⟩)
        | (go_at_call 40; refine (buffered_any p q b r' U' V' _ (HR.out.bw.drewN nd)).mono ?_; rintro e w2 ⟨rfl, rfl⟩))
      obtain ⟨w1, hw1⟩ : ∃ w1, w1 = wr.drewN nd := ⟨_, rfl⟩
      rw [← hw1]
      have hB1 : BW w1 p q b r' U' V' := by rw [hw1]; exact HR.out.bw.drewN nd
      have hK1 : KB (PutS p q b r') wr w1 := by rw [hw1]; exact (KB.refl _ _).drewN nd
      obtain ⟨e0, e1, e2, e3, ef⟩ := hB1.cells
      obtain ⟨cur, hq, hcs, _⟩ := hB1.hq
      have hq' : w1.drew.heap[q]? = some (.cells cur.toList.toArray 5 (0, 0)) := by rw [Array.toArray_toList]; exact hq
      have hcl1 : ((crlf.drop k).take cl).length = cl := by rw [List.length_take, hdl]; omega
      have hfit : V'.length + cl ≤ cur.toList.length := by
        have hcl2 : cur.toList.length = 16384 := by simpa using hcs
        have := HCV.out
        rw [hcl2]
        omega
      have hmin : cl = Nat.min str.size (16384 - V'.length) := by rw [hss, ← HCL.out]; exact (Nat.min_eq_right (Nat.le_of_lt hclm)).symm
      have hend : 0 < cl → (if 16384 = V'.length then some (⟨q, 0, none⟩ : Addr) else some ⟨q, V'.length, none⟩) = some ⟨q, V'.length, none⟩ := by
        intro h0
        have := HCV.out
        rw [if_neg (by omega)]
      have hone2 : ∀ v ∈ (crlf.drop k).take cl, v.oneCell' = true := fun v hv => hone v (List.mem_of_mem_take hv)
      have hbt : (Lib.byteCells str.data.toList).take cl = (crlf.drop k).take cl := by rw [HBC.out]
      have HB1 := Lib.hid hB1
      have HK1 := Lib.hid hK1
      have HQ := Lib.hid hq
      have HL := Lib.hid hcl1
      have HBT := Lib.hid hbt
      have HM := Lib.hid hmin
      clear hw1 d0 d1 d2 d3 f0 f2 hq hcs hB1 hK1 e3 ef hbt hcl1 hmin
      go_region_law (refine step_copy_str rfl (.tmp 64) (.tmp 65) 22 9 rfl 5 Tryd.underlying22 Tryd.size5 _ _ _ str rfl rfl q V'.length cur.toList 5 hq' cl HM.out (fun h0 => by first | rfl | exact hend h0) hfit ?_; rw [HBT.out]; intro w3 HG hK3)
      all_goals (
        have hp3 := hK3.heap (k := p) (show w1.drew.heap[p]? = _ from HB1.out.hp) HB1.out.pq
        have g2 : w3.cell? ⟨p, 2, none⟩ = some (.int .i64 V'.length) := by rw [Lib.cell_of_heap hp3]; rfl
        have k2 : w3.frozen? ⟨p, 2, none⟩ = false := Lib.frozen_of_heap hp3 2
        have HK3 := Lib.hid (((KB.refl (fun k => k = q) w1).drewN 1).trans hK3 (fun _ _ e => e))
        clear hp3 hK3
        have hcv := HCV.out
        obtain ⟨hB4, hK4⟩ := HB1.out.putCopy ((crlf.drop k).take cl) cur ((V'.length : Int) + (cl : Int)) (by rw [List.length_append, HL.out]; omega) (by rw [HL.out]; omega) hone2 HQ.out HG.out HK3.out
        have HB4 := Lib.hid hB4
        have HK4 := Lib.hid hK4
        have hlim4 : U'.length + (V' ++ (crlf.drop k).take cl).length ≤ 1073741824 := by rw [List.length_append, HL.out]; omega
        have hvc : (V'.length : Int) + (cl : Int) ≤ 16384 := by omega
        have hkn : (k : Int) + (cl : Int) ≤ 2 := by omega
        clear hB4 hK4 hcv
        go_wp2_with (go_at_call 23; refine (flush_any p q b r' U' _ _ HB4.out hlim4).mono ?_; intro e w5 hfl; obtain ⟨rfl, _⟩ := id hfl; have HF := Lib.hid hfl; clear hfl)
        all_goals (
          obtain ⟨r5, hB5, hK5, hr5⟩ := HF.out.kbPut
          refine ⟨relT_next HR.out cl hclm _ ?_ hB5 (by rw [List.append_assoc]) (HK1.out.trans (HK4.out.trans hK5 (fun _ _ e => e)) (fun _ _ e => e)) (fresh_trans (KB.size (HK1.out.trans HK4.out (fun _ _ e => e))) (.inl rfl) hr5), measT_lt HR.out.bw HV0.out hB5⟩
          rw [HS.out]
          exact crs_extract k m cl hkm hclm))
end Go.Proofs.Qxb6618767aDoor
