import Derived.Test.Qxb6618767aDoorR
namespace Go.Proofs.Qxb6618767aDoor
open Go.RowKit Go.Lib

theorem run_copy_str {P : Program} (w : World) (dT sT ty elem : TypeId) (g o dLen dCap : Nat) (s : ByteArray) (cur : Array Value) (t : TypeId) (n : Nat) (hn : n = Nat.min s.size dLen)
    (hu : P.underlying dT = some (.slice elem)) (hs : (P.info? elem).map (·.size) = some 1) (hg : w.heap[g]? = some (.cells cur t (0, 0))) (hfit : o + n ≤ cur.size) :
    (Builtin.copy_ #[dT, sT] ty #[.slice (some ⟨g, o, none⟩) dLen dCap, .string s]).run P w =
      .ok (goInt n) (w.setRow g (cur.toList.take o ++ (byteCells s.data.toList).take n ++ cur.toList.drop (o + n)).toArray) := by
  have hns : n ≤ s.size := by rw [hn]; exact Nat.min_le_left _ _
  have hlen : ((byteCells s.data.toList).take n).length = n := by rw [List.length_take, byteCells_length, ← size_eq]; omega
  have hst := run_storeCells_at P g o t ((byteCells s.data.toList).take n) 0 cur w hg (by rw [hlen]; simpa using hfit) (fun v hv => byteCells_one _ v (List.mem_of_mem_take hv))
  have htk : List.take n (List.map (fun b : UInt8 => Value.int IntKind.u8 (b.toNat : Int)) s.data.toList) = (byteCells s.data.toList).take n := rfl
  rw [hlen] at hst
  simp only [Nat.add_zero] at hst
  cases hq : P.info? elem with
  | none => simp [hq] at hs
  | some i =>
    simp [Builtin.copy_, run_underlying hu, Builtin.lenOf, Builtin.firstCells, sizeOf, typeInfo, hq, ← hn]
    rw [htk, hst]
    simp [Result.andThen]

theorem run_copy_str_none {P : Program} (w : World) (dT sT ty elem : TypeId) (d : Option Addr) (dLen dCap : Nat) (s : ByteArray)
    (hu : P.underlying dT = some (.slice elem)) (hs : (P.info? elem).map (·.size) = some 1) (h0 : Nat.min s.size dLen = 0) :
    (Builtin.copy_ #[dT, sT] ty #[.slice d dLen dCap, .string s]).run P w = .ok (goInt 0) w := by
  cases hq : P.info? elem with
  | none => simp [hq] at hs
  | some i =>
    cases d <;> simp [Builtin.copy_, run_underlying hu, Builtin.lenOf, Builtin.firstCells, sizeOf, typeInfo, hq, h0, storeCells]

theorem step_copy_str {P : Program} {ops : Array Oper} {o : Oper} {a : Act} {w : World} {K : Act → World → Prop} {Q : Exit → Act → World → Prop} {E : Prop} (hgd : o.guard = none) (d s : Operand) (dT sT : TypeId)
    (ho : o.op = .call { callee := .builtin .copy, args := #[d, s], argTypes := #[dT, sT] }) (elem : TypeId) (hu : P.underlying dT = some (.slice elem)) (hsz : (P.info? elem).map (·.size) = some 1)
    (dp : Option Addr) (dLen dCap : Nat) (str : ByteArray) (hd : a.eval d = .slice dp dLen dCap) (hs : a.eval s = .string str)
    (g off : Nat) (cur : List Value) (t : TypeId) (hg : w.heap[g]? = some (.cells cur.toArray t (0, 0))) (n : Nat) (hn : n = Nat.min str.size dLen)
    (hpos : 0 < n → dp = some ⟨g, off, none⟩) (hfit : off + n ≤ cur.length)
    (h : ∀ w', Hid (w'.heap[g]? = some (.cells (splice cur off ((byteCells str.data.toList).take n)).toArray t (0, 0))) → KB (fun k => k = g) w w' → K (a.put o.dst (goInt n)) w') :
    if Region.wanted o (yielded ops a.tmps) = true then Oper.wp P o a w K Q else E := by
  have hw : Region.wanted o (yielded ops a.tmps) = true := by simp [Region.wanted, hgd]
  rw [if_pos hw]
  by_cases h0 : n = 0
  · subst h0
    have hrun := run_copy_str_none (P := P) w dT sT o.type elem dp dLen dCap str hu hsz hn.symm
    unfold Oper.wp
    simp [execOp, ho, resolve, invoke, builtin, hd, hs, hrun, Result.andThen]
    exact h w (show _ = _ by simpa [splice] using hg) (KB.refl _ _)
  · obtain rfl := hpos (by omega)
    have hrun := run_copy_str (P := P) w dT sT o.type elem g off dLen dCap str cur.toArray t n hn hu hsz hg (by simpa using hfit)
    have hns : n ≤ str.size := by rw [hn]; exact Nat.min_le_left _ _
    have hlen : ((byteCells str.data.toList).take n).length = n := by rw [List.length_take, byteCells_length, ← size_eq]; omega
    unfold Oper.wp
    simp [execOp, ho, resolve, invoke, builtin, hd, hs, hrun, Result.andThen]
    refine h _ (show _ = _ from ?_) (KB.setRow w g _)
    unfold splice
    rw [hlen]
    exact setRow_heap w g _ _ t _ hg
end Go.Proofs.Qxb6618767aDoor
