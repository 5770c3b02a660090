import Derived.Test.Qxb6618767aDoorK
import Derived.Test.Qxb6618767aDoorRows
import Derived.Room.AppendFits
import Derived.Lib.Walk
import Derived.Lib.ItoaWalk
import Derived.Lib.ItoaMem
import Derived.Lib.AppendIntMem
import Derived.Lib.BufferKept
import Derived.Lib.OwnKind
import Derived.Lib.Slices
import Derived.Lib.Hide
import Derived.OwnWalk
import Derived.BigCall
import Derived.BigGuard
import Derived.CellFam
namespace Go.Proofs.Qxb6618767aDoor
open Go.Shelf Go.RowKit Go.Sort Go.Lib
variable {P : Program} {ρ : Ren}

/-- The table's name. -/
abbrev pow10Name : String := Rows.fnBulkRepliesJoinAndMeasureRow.named.getD 1 ""

/-- The numeral lies in the row g, in place; no other old block has turned. -/
def DigOut (t : TypeId) (g u : Nat) (w : World) (e : Ending) (w' : World) : Prop :=
  e = .returned (.slice (some ⟨g, 0, none⟩) (Lib.decDigits u).length 20) ∧ w'.ownsRow 0 t 1 (.slice (some ⟨g, 0, none⟩) (Lib.decDigits u).length 20) (Lib.decDigits u).length (Lib.byteCells (Lib.decDigits u)) ∧ KB (fun k => k = g) w w'

set_option maxHeartbeats 6400000 in
set_option maxRecDepth 100000 in
theorem au_small (L : LaysM.n288 P ρ) (g u : Nat) (hu : u < 100) (w : World) (hown : w.ownsRow 0 (ρ.t 5) 1 (.slice (some ⟨g, 0, none⟩) 0 20) 0 []) :
    Calls P (ρ.f 288) #[.slice (some ⟨g, 0, none⟩) 0 20, .int .u64 u, .int .i64 10] w fun e w' => DigOut (ρ.t 5) g u w e w' := by
  have mixed := L.mixed
  have t5 := L.t5; have a5 := L.a5; have z5 := L.z5; have v5 := L.v5
  have t37 := L.t37; have u37 := run_underlying L.t37; have a37 := L.a37; have z37 := L.z37; have v37 := L.v37
  have t53 := L.t53; have a53 := L.a53; have z53 := L.z53; have v53 := L.v53
  have t3 := L.t3; have a3 := L.a3; have z3 := L.z3; have v3 := L.v3
  have t4 := L.t4; have a4 := L.a4; have z4 := L.z4; have v4 := L.v4
  have t9 := L.t9; have a9 := L.a9; have z9 := L.z9; have v9 := L.v9
  have t171 := L.t171; have a171 := L.a171; have z171 := L.z171; have v171 := L.v171
  have t0 := L.t0; have a0 := L.a0; have z0 := L.z0; have v0 := L.v0
  have t173 := L.t173; have a173 := L.a173; have z173 := L.z173; have v173 := L.v173
  have e283 : ∀ args w, (callFunc (ρ.f 283) args).run P w = .ok (.enter (ρ.f 283) args) w := enters_of L.f283 (by kernel_rfl) rfl
  obtain ⟨i0, hi, hz0, hz1, hz2⟩ := info_parts L.i5
  have hlen : (Lib.decDigits u).length ≤ 20 := by
    rw [Lib.decDigits_length]
    by_cases h10 : u < 10
    · rw [Lib.nDigits_small h10]; omega
    · rw [Lib.nDigits_big h10, Lib.nDigits_small (show u / 10 < 10 by omega)]; omega
  have hsz : (⟨(Lib.decDigits u).toArray⟩ : ByteArray).size = (Lib.decDigits u).length := by simp [ByteArray.size]
  go_enter L.f288, Body.n288_ntmps ρ
  go_wp2_with (first
    | (go_at_fn (ρ.f 283); refine (Any.internal_strconv_small { L with } u hu _).mono ?_; rintro e w' ⟨rfl, rfl⟩)
    | (at_builtin; refine Lib.wpList_append_fits_string _ rfl _ _ (ρ.t 37) (ρ.t 9) rfl 0 (ρ.t 5) i0 L.t37 L.t9 hi hz1 _ 0 20 [] rfl hown ⟨(Lib.decDigits u).toArray⟩ rfl (by omega) (by rw [hsz]; omega) ?_))
  intro w1 hown' hgrow
  go_wp2
  go_ret
  exact ⟨rfl, hown', KB.of_grown hgrow⟩

set_option maxHeartbeats 12800000 in
set_option maxRecDepth 100000 in
theorem au_big (L : LaysM.n288 P ρ) (g u : Nat) (hu : 100 ≤ u) (hu64 : u < 18446744073709551616) (w : World) (hown : w.ownsRow 0 (ρ.t 5) 1 (.slice (some ⟨g, 0, none⟩) 0 20) 0 [])
    (htab : Lib.TabIs P w pow10Name .u64 Lib.pow10Tab) :
    Calls P (ρ.f 288) #[.slice (some ⟨g, 0, none⟩) 0 20, .int .u64 u, .int .i64 10] w fun e w' => DigOut (ρ.t 5) g u w e w' := by
  have mixed := L.mixed
  have t5 := L.t5; have a5 := L.a5; have z5 := L.z5; have v5 := L.v5
  have t37 := L.t37; have u37 := run_underlying L.t37; have a37 := L.a37; have z37 := L.z37; have v37 := L.v37
  have t53 := L.t53; have a53 := L.a53; have z53 := L.z53; have v53 := L.v53
  have t3 := L.t3; have a3 := L.a3; have z3 := L.z3; have v3 := L.v3
  have t4 := L.t4; have a4 := L.a4; have z4 := L.z4; have v4 := L.v4
  have t9 := L.t9; have a9 := L.a9; have z9 := L.z9; have v9 := L.v9
  have t171 := L.t171; have a171 := L.a171; have z171 := L.z171; have v171 := L.v171
  have t0 := L.t0; have a0 := L.a0; have z0 := L.z0; have v0 := L.v0
  have t173 := L.t173; have a173 := L.a173; have z173 := L.z173; have v173 := L.v173
  have e284 : ∀ args w, (callFunc (ρ.f 284) args).run P w = .ok (.enter (ρ.f 284) args) w := enters_of L.f284 (by kernel_rfl) rfl
  have e285 : ∀ args w, (callFunc (ρ.f 285) args).run P w = .ok (.enter (ρ.f 285) args) w := enters_of L.f285 (by kernel_rfl) rfl
  obtain ⟨i0, hi, hz0, hz1, hz2⟩ := info_parts L.i5
  have hu1 : 1 ≤ u := by omega
  have hnd20 : Lib.nDigits u ≤ 20 := by have := Lib.numDigits_eq u hu1 hu64; split at this <;> omega
  have hal : P.arrayLen (ρ.t 171) = 24 := by simp [Program.arrayLen, L.t171]
  have hsl : ∀ W, (Instr.sliceAt (ρ.t 171) (.pointer (some ⟨w.heap.size, 0, none⟩)) none (some (.int .i64 (Lib.nDigits u : Int))) none).run P W = .ok (.slice (some ⟨w.heap.size, 0, none⟩) (Lib.nDigits u) 24) W := fun W => by
    rw [run_sliceAt_array_h W (ρ.t 171) ⟨w.heap.size, 0, none⟩ (by simp [Program.arrayLen, Program.elem, L.t171]) .i64 (Lib.nDigits u : Int) (by omega) (by rw [hal]; omega)]
    go_simp
  have hH0 := Lib.holds_zero0 w (ρ.t 171) (Lib.nDigits u) (by omega)
  have hfmt := Any.internal_strconv_formatBase10 { L with } w.heap.size 0 24 u (Array.replicate (Lib.nDigits u) 0) (w.alloc (.cells Lib.zeros24 (ρ.t 171))) hH0 (by rw [Array.size_replicate]; exact Lib.lt_pow_nDigits u) hu64 (by rw [Array.size_replicate]; omega)
  rw [Array.size_replicate] at hfmt
  have HH0 := Lib.hid hH0
  have iu : (100 : Int) ≤ (u : Int) := by omega
  clear hH0 hal
  go_enter L.f288, Body.n288_ntmps ρ
  go_wp2_with (first
    | (go_at_fn (ρ.f 284); refine (Any.internal_strconv_numDigits { L with } u hu1 hu64 _ (Lib.tabIs_alloc htab _)).mono ?_; rintro e w' ⟨rfl, rfl⟩))
  go_at_fn (ρ.f 285)
  refine hfmt.mono ?_
  rintro e w' ⟨rfl, k, v', dk, rfl, hF⟩
  have hcells : ∀ j u', (Lib.byteCells (Lib.decDigits u))[j]? = some u' → ((putRow (fun (b : UInt8) => Value.int .u8 (b.toNat : Int)) (w.alloc (.cells Lib.zeros24 (ρ.t 171))) w.heap.size 0 dk).drewN k).cell? ((⟨w.heap.size, 0, none⟩ : Addr).add j) = some u' := by
    intro j u' hj
    have hjl : j < (Lib.decDigits u).length := by
      have h5 := (List.getElem?_eq_some_iff.1 hj).1
      rwa [Lib.byteCells_length] at h5
    have e5 : (Lib.byteCells (Lib.decDigits u))[j]? = some (Value.int .u8 ((Lib.decDigits u)[j].toNat : Int)) := by simp [Lib.byteCells, hjl]
    rw [e5] at hj
    cases hj
    rw [Lib.row_is_numeral hF j hjl, Lib.add_plain, World.cell?_drewN]
    exact cell?_putRow (fun (b : UInt8) => Value.int .u8 (b.toNat : Int)) _ w.heap.size 0 _ dk HH0.out (by rw [hF.size, Array.size_replicate]) j (by rw [hF.size]; rw [Lib.decDigits_length] at hjl; exact hjl)
  obtain ⟨os, eo⟩ := Lib.fin_at w (.cells Lib.zeros24 (ρ.t 171)) dk k 0
  have hown2 : ((putRow (fun (b : UInt8) => Value.int .u8 (b.toNat : Int)) (w.alloc (.cells Lib.zeros24 (ρ.t 171))) w.heap.size 0 dk).drewN k).ownsRow 0 (ρ.t 5) 1 (.slice (some ⟨g, 0, none⟩) 0 20) 0 [] := by rw [eo]; exact Lib.ownsRow_grow hown k os
  have hnx2 : KB (fun k => k = g) w ((putRow (fun (b : UInt8) => Value.int .u8 (b.toNat : Int)) (w.alloc (.cells Lib.zeros24 (ρ.t 171))) w.heap.size 0 dk).drewN k) := by rw [eo]; exact KB.of_below (Lib.below_grow w.heap.size w (Nat.le_refl _) k os)
  generalize (putRow (fun (b : UInt8) => Value.int .u8 (b.toNat : Int)) (w.alloc (.cells Lib.zeros24 (ρ.t 171))) w.heap.size 0 dk).drewN k = W2 at hcells hown2 hnx2 ⊢
  clear eo HH0 hfmt
  go_wp2_with (at_builtin; refine wpList_append_fits _ rfl _ _ (ρ.t 37) rfl 0 (ρ.t 5) i0 1 L.t37 hi hz1 g 0 20 [] rfl hown2 ⟨w.heap.size, 0, none⟩ (Lib.nDigits u) 24 (Lib.byteCells (Lib.decDigits u)) rfl ?c0 hcells ?c2 ?c3 ?_)
  case c0 => rw [Lib.byteCells_length, Lib.decDigits_length, Nat.mul_one]
  case c2 => intro u' hu'; simp only [Lib.byteCells, List.mem_map] at hu'; obtain ⟨b, _, rfl⟩ := hu'; rfl
  case c3 => omega
  intro w3 hown' hgrow
  go_wp2
  go_ret
  rw [← Lib.decDigits_length] at hown'
  refine ⟨?_, hown', hnx2.trans (KB.of_grown hgrow) (fun _ _ e => e)⟩
  rw [Lib.decDigits_length]
  rfl

theorem au_any (g u : Nat) (hu64 : u < 18446744073709551616) (w : World) (hown : w.ownsRow 0 5 1 (.slice (some ⟨g, 0, none⟩) 0 20) 0 [])
    (htab : Lib.TabIs Tryd.prog w pow10Name .u64 Lib.pow10Tab) :
    Calls Tryd.prog 44 #[.slice (some ⟨g, 0, none⟩) 0 20, .int .u64 u, .int .i64 10] w fun e w' => DigOut 5 g u w e w' := by
  by_cases h : u < 100
  · exact au_small Tryd.layAU g u h w hown
  · exact au_big Tryd.layAU g u (by omega) hu64 w hown htab

set_option maxHeartbeats 400000 in
theorem ai_any (g u : Nat) (hu64 : u < 9223372036854775808) (w : World) (hown : w.ownsRow 0 5 1 (.slice (some ⟨g, 0, none⟩) 0 20) 0 [])
    (htab : Lib.TabIs Tryd.prog w pow10Name .u64 Lib.pow10Tab) :
    Calls Tryd.prog 43 #[.slice (some ⟨g, 0, none⟩) 0 20, .int .i64 u, .int .i64 10] w fun e w' => DigOut 5 g u w e w' := by
  have hcv : IntKind.u64.wrap (u : Int) = (u : Int) := by rw [IntKind.wrap_u64]; omega
  have H := Lib.hid hown
  have HT := Lib.hid htab
  clear hown htab
  go_enter Tryd.func43, Tryd.ntmps43
  go_wp2_with (go_at_call 44; refine (au_any g u (by omega) _ H.out HT.out).mono ?_; rintro e w2 ⟨rfl, h2, h3⟩; have H2 := Lib.hid h2; clear h2)
  go_wp2
  go_ret
  exact ⟨rfl, H2.out, h3⟩

set_option maxHeartbeats 400000 in
theorem aip_any (g u : Nat) (hu64 : u < 9223372036854775808) (w : World) (hown : w.ownsRow 0 5 1 (.slice (some ⟨g, 0, none⟩) 0 20) 0 [])
    (htab : Lib.TabIs Tryd.prog w pow10Name .u64 Lib.pow10Tab) :
    Calls Tryd.prog 39 #[.slice (some ⟨g, 0, none⟩) 0 20, .int .i64 u, .int .i64 10] w fun e w' => DigOut 5 g u w e w' := by
  have H := Lib.hid hown
  have HT := Lib.hid htab
  clear hown htab
  go_enter Tryd.func39, Tryd.ntmps39
  go_wp2_with (go_at_call 43; refine (ai_any g u hu64 _ H.out HT.out).mono ?_; rintro e w2 ⟨rfl, h2, h3⟩; have H2 := Lib.hid h2; clear h2)
  go_wp2
  go_ret
  exact ⟨rfl, H2.out, h3⟩
end Go.Proofs.Qxb6618767aDoor
