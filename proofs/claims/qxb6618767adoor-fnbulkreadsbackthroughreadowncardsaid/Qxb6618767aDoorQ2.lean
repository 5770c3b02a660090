import Derived.Test.Qxb6618767aDoorQ
namespace Go.Proofs.Qxb6618767aDoor
open Go.RowKit

theorem drewN_add (w : World) (a b : Nat) : (w.drewN a).drewN b = w.drewN (a + b) := by
  induction b with
  | zero => rfl
  | succ b ih => exact congrArg World.drew ih

/-- A copy of cs in a row of the call's own (nil stays nil). -/
def CloneOut (w : World) (cs : List Value) (n : Nat) (e : Ending) (w' : World) : Prop :=
  ∃ sp cap g, e = .returned (.slice sp n cap) ∧ n ≤ cap ∧ (0 < n → sp = some ⟨g, 0, none⟩ ∧ Src w' g 0 cs) ∧ KB (fun _ => False) w w'

theorem slice_nil_eq : ∀ (w : World) (a : Option Addr) (n c n' c' : Nat), (binOp .eql 22 (.slice a n c) (.slice none n' c')).run Tryd.prog w = .ok (.bool a.isNone) w := fun w a n c n' c' => Lib.run_eql_slice_nil w _ _ a n c n' c' Tryd.underlying22

theorem clone_nil (n cap : Nat) (hn : n = 0) (w : World) : Calls Tryd.prog 8 #[.slice none n cap] w fun e w' => CloneOut w [] n e w' := by
  have hnil := slice_nil_eq
  have HN := Lib.hid hn
  clear hn
  go_enter Tryd.func8, Tryd.ntmps8
  go_wp2
  go_ret
  rw [HN.out]
  exact ⟨none, 0, 0, rfl, Nat.le_refl _, fun h => by omega, KB.refl _ _⟩

set_option maxHeartbeats 400000 in
set_option maxRecDepth 100000 in
theorem clone_some (a : Addr) (n cap : Nat) (cs : List Value) (w : World) (hn : cs.length = n) (hn2 : n ≤ 1048576) (h1 : ∀ v ∈ cs, v.oneCell' = true) (hsrc : ∀ j v, cs[j]? = some v → w.cell? (a.add j) = some v) :
    Calls Tryd.prog 8 #[.slice (some a) n cap] w fun e w' => CloneOut w cs n e w' := by
  have hnil := slice_nil_eq
  obtain ⟨i0, hi, hz0, hz1, hz2⟩ := info_parts Tryd.info5'
  have HS := Lib.hid hsrc
  have HN := Lib.hid hn
  have H1 := Lib.hid h1
  clear hsrc hn h1
  go_enter Tryd.func8, Tryd.ntmps8
  go_wp2_with (at_make; refine wpList_make_full _ rfl _ _ 22 rfl w.heap.size 5 i0 (.int .u8 0) 1 Tryd.underlying22 hi hz0 hz1 .i64 .i64 _ _ n rfl rfl rfl rfl (by rw [hz2]; omega) (by unfold maxLen; omega) (Nat.le_refl _) ?_)
  intro w1 hown hgrow
  generalize (madeCells (Value.int .u8 0).cells (n * 1)).toList = mc at hown
  rcases hown.2 with ⟨hv, _⟩ | ⟨g, cap', cur, hv, hbg, hg, hnc, hcm, hcs, htake⟩
  · cases hv
  · cases hv
    have hK : KB (fun _ => False) w w1 := ⟨hgrow.os, hgrow.tape, hgrow.output, hgrow.size, fun k hk _ => hgrow.block k hk (fun e => by cases e)⟩
    have hs1 : ∀ j v, cs[j]? = some v → w1.cell? (a.add j) = some v := by
      intro j v hj
      exact (hgrow.cell (HS.out j v hj) (fun e => by cases e))
    have hcl : cur.toList.length = n := by simpa using hcs
    have HK := Lib.hid hK
    have HL := Lib.hid hcl
    have hmin : cs.length = Nat.min n n := by rw [HN.out]; exact (Nat.min_self n).symm
    have hfit : 0 + cs.length ≤ cur.size := by rw [HN.out, ← Array.length_toList, hcl]; omega
    have HM := Lib.hid hmin
    have HFT := Lib.hid hfit
    have HG1 := Lib.hid hg
    clear hown hg hcs htake hgrow hK hcl hmin hfit
    go_wp2_with ((with_reducible refine wpList_copy_kb ?_ (.tmp 9) (.tmp 10) 22 22 ?_ 5 Tryd.underlying22 Tryd.size5 w.heap.size 0 n n a n cap ?_ ?_ cur 5 HG1.out cs HM.out hs1 HFT.out H1.out ?_); rfl; rfl; rfl; rfl; intro w2 HG hK2)
    go_wp2
    go_ret
    refine ⟨some ⟨w.heap.size, 0, none⟩, n, w.heap.size, rfl, Nat.le_refl _, fun _ => ⟨rfl, _, 5, _, HG.out, ?_⟩, HK.out.trans hK2 (fun i hi e => by omega)⟩
    intro j v hj
    have hl := (List.getElem?_eq_some_iff.1 hj).1
    have hst := splice_take cur.toList cs 0 (by have := HFT.out; simpa using this)
    rw [List.take_zero, List.nil_append, Nat.zero_add] at hst
    rw [← hst, List.getElem?_take_of_lt hl] at hj
    rw [Nat.zero_add]
    simpa using hj

theorem clone_any (sp : Option Addr) (n cap : Nat) (cs : List Value) (w : World) (hn : cs.length = n) (hn2 : n ≤ 1048576) (h1 : ∀ v ∈ cs, v.oneCell' = true) (hnil : sp = none → n = 0) (hsrc : ∀ a, sp = some a → ∀ j v, cs[j]? = some v → w.cell? (a.add j) = some v) :
    Calls Tryd.prog 8 #[.slice sp n cap] w fun e w' => CloneOut w cs n e w' := by
  cases sp with
  | none =>
    have h0 := hnil rfl
    obtain rfl : cs = [] := List.eq_nil_of_length_eq_zero (by omega)
    exact clone_nil n cap h0 w
  | some a => exact clone_some a n cap cs w hn hn2 h1 (hsrc a rfl)

def U8 (cs : List Value) : Prop := ∀ v ∈ cs, ∃ x : Int, v = .int .u8 x

theorem U8.one {cs : List Value} (h : U8 cs) : ∀ v ∈ cs, v.oneCell' = true := fun v hv => by
  obtain ⟨x, rfl⟩ := h v hv
  rfl

def RelE (w : World) (n : Nat) (v5 : Value) (wr : World) : Prop := ∃ k : Nat, k ≤ n ∧ v5 = .int .i64 k ∧ Drew w wr

set_option maxHeartbeats 1000000 in
theorem bytesEq_same (sp1 sp2 : Option Addr) (n c1 c2 : Nat) (cs : List Value) (s1 o1 s2 o2 : Nat) (w : World) (hn : cs.length = n) (hn2 : n ≤ 1073741824) (hu : U8 cs) (h1 : 0 < n → sp1 = some ⟨s1, o1, none⟩ ∧ Src w s1 o1 cs) (h2 : 0 < n → sp2 = some ⟨s2, o2, none⟩ ∧ Src w s2 o2 cs) :
    Calls Tryd.prog 11 #[.slice sp1 n c1, .slice sp2 n c2] w fun e w' => e = .returned (.bool true) ∧ Drew w w' := by
  have HN := Lib.hid hn
  have HU := Lib.hid hu
  have H1 := Lib.hid h1
  have H2 := Lib.hid h2
  clear hn hu h1 h2
  go_enter Tryd.func11, Tryd.ntmps11
  go_wp2
  go_loopw [5] (fun v5 wr => RelE w n v5 wr) (fun v5 _ => n - (intOf v5).toNat)
  case atStart => exact ⟨0, Nat.zero_le _, rfl, 0, rfl⟩
  case round =>
    obtain ⟨k, hk, rfl, hD⟩ := hrel
    have HD := Lib.hid hD
    obtain ⟨nd, hnd⟩ := hD
    by_cases hlt : k < n
    · have hlt' : (k : Int) < (n : Int) := by omega
      have hk0 : (0 : Int) ≤ (k : Int) := by omega
      have hk1 : (k : Int) + 1 ≤ 1073741824 := by omega
      obtain ⟨rfl, hs1⟩ := H1.out (by omega)
      obtain ⟨rfl, hs2⟩ := H2.out (by omega)
      obtain ⟨x, hx⟩ := HU.out (cs[k]'(by have := HN.out; omega)) (List.getElem_mem _)
      have hcx : cs[k]? = some (.int .u8 x) := by rw [← hx]; exact List.getElem?_eq_getElem _
      have g1 : wr.cell? ⟨s1, o1 + k, none⟩ = some (.int .u8 x) := by rw [hnd, World.cell?_drewN]; have := hs1.cell k _ hcx; rwa [Lib.addr_add] at this
      have g2 : wr.cell? ⟨s2, o2 + k, none⟩ = some (.int .u8 x) := by rw [hnd, World.cell?_drewN]; have := hs2.cell k _ hcx; rwa [Lib.addr_add] at this
      clear hs1 hs2 hx hcx hnd
      go_wp2
      go_quiet (fail)
      go_wp2
      go_roundw
      case rel =>
        obtain ⟨nd, hnd⟩ := HD.out
        exact ⟨k + 1, by omega, by go_num, nd + nq, by rw [hnd]; exact drewN_add _ _ _⟩
      case measure => simp [intOf]; omega
    · have hlt' : ¬ (k : Int) < (n : Int) := by omega
      clear hnd
      go_wp2
      go_ret
      exact ⟨rfl, HD.out⟩
end Go.Proofs.Qxb6618767aDoor
