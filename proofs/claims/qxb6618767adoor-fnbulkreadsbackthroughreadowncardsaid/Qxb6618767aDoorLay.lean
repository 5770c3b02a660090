import Derived.Test.Qxb6618767aDoorProg
import Derived.Shelf.Strconv.AppendInt10
import Derived.Shelf.Bytes.GrowSlice
import Derived.Shelf.Bytes.TryGrow
import Derived.Shelf.Bytes.Len
import Derived.Shelf.Bytes.Bytes
import Derived.Shelf.Lay
import Derived.Ground.NamesProg
namespace Go.Proofs.Qxb6618767aDoor
open Go.Shelf Go.RowKit

shelf_lay LaysM.n290 Nm 290 at Tryd as Tryd.layGS
shelf_lay LaysM.n251 Nm 251 at Tryd as Tryd.layTG
shelf_lay LaysM.n181 Nm 181 at Tryd as Tryd.layLen
shelf_lay LaysM.n183 Nm 183 at Tryd as Tryd.layBytes
shelf_lay LaysM.n288 Nm 288 at Tryd as Tryd.layAU

theorem growSlice_row (g l c n : Nat) (cur : Array Value) (w : World) (hg : w.heap[g]? = some (.cells cur 5 (0, 0))) (hcs : cur.size = c) (hlc : l ≤ c) (hn : 1 ≤ n)
    (hlim : l + n ≤ 140737488355328) (hc2 : c ≤ 140737488355328) (h1 : ∀ v ∈ cur.toList.take l, v.oneCell' = true) :
    Calls Tryd.prog 82 #[.slice (some ⟨g, 0, none⟩) l c, .int .i64 n] w fun e w' => ∃ cap2 cells, e = .returned (.slice (some ⟨w.heap.size, 0, none⟩) l cap2) ∧ w'.heap[w.heap.size]? = some (.cells cells 5 (0, 0)) ∧
      cells.size = cap2 ∧ cells.toList.take l = cur.toList.take l ∧ l + n ≤ cap2 ∧ cap2 ≤ maxLen ∧ Below w.heap.size w w' :=
  Any.bytes_growSlice_row Tryd.layGS g l c n cur w hg hcs hlc hn hlim hc2 h1
theorem growSlice_nil (n : Nat) (w : World) (hn : 1 ≤ n) (hlim : n ≤ 140737488355328) :
    Calls Tryd.prog 82 #[.slice none 0 0, .int .i64 n] w fun e w' => ∃ cap2 cells, e = .returned (.slice (some ⟨w.heap.size, 0, none⟩) 0 cap2) ∧ w'.heap[w.heap.size]? = some (.cells cells 5 (0, 0)) ∧
      cells.size = cap2 ∧ n ≤ cap2 ∧ cap2 ≤ maxLen ∧ Below w.heap.size w w' :=
  Any.bytes_growSlice_nil Tryd.layGS n w hn hlim
theorem tryGrow_room (b : Nat) (ao : Option Addr) (l cap n : Nat) (w : World) (c0 : w.cell? ⟨b, 0, none⟩ = some (.slice ao l cap)) (f0 : w.frozen? ⟨b, 0, none⟩ = false)
    (hlc : l ≤ cap) (hcap : cap ≤ maxLen) (hn : n ≤ cap - l) :
    Calls Tryd.prog 79 #[.pointer (some ⟨b, 0, none⟩), .int .i64 n] w fun e w' => e = .returned (.tuple #[.int .i64 l, .bool true]) ∧ w' = w.setCell ⟨b, 0, none⟩ (.slice ao (l + n) cap) :=
  Any.Buffer_tryGrow_room Tryd.layTG b ao l cap n w c0 f0 hlc hcap hn
theorem tryGrow_none (b : Nat) (ao : Option Addr) (l cap n : Nat) (w : World) (c0 : w.cell? ⟨b, 0, none⟩ = some (.slice ao l cap))
    (hlc : l ≤ cap) (hcap : cap ≤ maxLen) (hn : cap - l < n) :
    Calls Tryd.prog 79 #[.pointer (some ⟨b, 0, none⟩), .int .i64 n] w fun e w' => e = .returned (.tuple #[.int .i64 0, .bool false]) ∧ w' = w :=
  Any.Buffer_tryGrow_none Tryd.layTG b ao l cap n w c0 hlc hcap hn
theorem buf_Len (B b : Nat) (bs : List Value) (w : World) (h : Lib.IsBuffer 40 5 B b bs w) :
    Calls Tryd.prog 81 #[.pointer (some ⟨b, 0, none⟩)] w fun e w' => e = .returned (.int .i64 bs.length) ∧ ∃ n, w' = w.drewN n :=
  Any.Buffer_Len Tryd.layLen B b bs w h
theorem buf_Bytes (B b : Nat) (bs : List Value) (w : World) (h : Lib.IsBuffer 40 5 B b bs w) :
    Calls Tryd.prog 24 #[.pointer (some ⟨b, 0, none⟩)] w fun e w' => ∃ v, e = .returned v ∧ w'.ownsRow B 5 1 v bs.length bs ∧ ∃ n, w' = w.drewN n :=
  Any.Buffer_Bytes Tryd.layBytes B b bs w h
end Go.Proofs.Qxb6618767aDoor
