import Derived.Test.Qxb6618767aDoorE2
namespace Go.Proofs.Qxb6618767aDoor
open Go.RowKit

/-- cs lies at s, o. -/
def Src (w : World) (s o : Nat) (cs : List Value) : Prop := ∃ row t fz, w.heap[s]? = some (.cells row t fz) ∧ ∀ j v, cs[j]? = some v → row[o + j]? = some v

theorem Src.kb {S : Nat → Prop} {w w' : World} {s o : Nat} {cs : List Value} (h : Src w s o cs) (hK : KB S w w') (hn : ¬ S s) : Src w' s o cs := by
  obtain ⟨row, t, fz, h1, h2⟩ := h
  exact ⟨row, t, fz, hK.heap h1 hn, h2⟩

theorem Src.drop {w : World} {s o : Nat} {cs : List Value} (h : Src w s o cs) (k : Nat) : Src w s (o + k) (cs.drop k) := by
  obtain ⟨row, t, fz, h1, h2⟩ := h
  exact ⟨row, t, fz, h1, fun j v hj => by rw [List.getElem?_drop] at hj; rw [Nat.add_assoc]; exact h2 _ _ hj⟩

theorem Src.take {w : World} {s o : Nat} {cs : List Value} (h : Src w s o cs) (k : Nat) : Src w s o (cs.take k) := by
  obtain ⟨row, t, fz, h1, h2⟩ := h
  exact ⟨row, t, fz, h1, fun j v hj => h2 j v (by
    have hl := (List.getElem?_eq_some_iff.1 hj).1
    rw [List.length_take] at hl
    rwa [List.getElem?_take_of_lt (by omega)] at hj)⟩

theorem Src.cell {w : World} {s o : Nat} {cs : List Value} (h : Src w s o cs) : ∀ j v, cs[j]? = some v → w.cell? ((⟨s, o, none⟩ : Addr).add j) = some v := by
  obtain ⟨row, t, fz, h1, h2⟩ := h
  intro j v hj
  rw [Lib.addr_add, Lib.cell_of_heap h1]
  exact h2 j v hj

theorem Src.drewN {w : World} {s o : Nat} {cs : List Value} (h : Src w s o cs) (n : Nat) : Src (w.drewN n) s o cs := by
  obtain ⟨row, t, fz, h1, h2⟩ := h
  exact ⟨row, t, fz, by rw [drewN_heap]; exact h1, h2⟩

theorem BW.putCopy {w w1 : World} {p q b : Nat} {r : Option Nat} {U V : List Value} (H : BW w p q b r U V) (cs : List Value) (cur : Array Value) (n : Int) (hn : n = (V ++ cs).length) (hfit : V.length + cs.length ≤ 16384) (h1 : ∀ v ∈ cs, v.oneCell' = true)
    (hq : w.heap[q]? = some (.cells cur 5 (0, 0))) (hq1 : w1.heap[q]? = some (.cells (splice cur.toList V.length cs).toArray 5 (0, 0))) (hK : KB (fun k => k = q) w w1) :
    BW (w1.setCell ⟨p, 2, none⟩ (.int .i64 n)) p q b r U (V ++ cs) ∧ KB (PutS p q b r) w (w1.setCell ⟨p, 2, none⟩ (.int .i64 n)) := by
  obtain ⟨cur', hq', hcs, htk⟩ := H.hq
  obtain rfl : cur = cur' := by rw [hq] at hq'; cases hq'; rfl
  have hl : V.length + cs.length ≤ cur.toList.length := by simp; omega
  refine H.put cs n hn hfit h1 ⟨_, hq1, ?_, ?_⟩ hK
  · rw [List.size_toArray, length_splice _ _ _ hl]
    simpa using hcs
  · show (splice cur.toList V.length cs).take _ = _
    rw [List.length_append, splice_take _ _ _ hl, htk]

def WroteN (w : World) (p q b : Nat) (r : Option Nat) (T : List Value) (n : Nat) (e : Ending) (w' : World) : Prop := e = .returned (.tuple #[.int .i64 n, .nilIface]) ∧ OutW w p q b r T w'

def lenOf : Value → Nat
  | .slice _ n _ => n
  | .string s => s.size
  | _ => 0

def notZero : Option Value → Nat
  | some (.int _ z) => if z = 0 then 0 else 1
  | _ => 1

def measW (p : Nat) (v : Value) (wr : World) : Nat := 2 * lenOf v + notZero (wr.cell? ⟨p, 2, none⟩)

theorem measW_lt {p m m' n : Nat} {a a' : Option Addr} {c c' : Nat} {w w' : World} (h1 : w.cell? ⟨p, 2, none⟩ = some (.int .i64 n)) (h : m' < m ∨ (m' ≤ m ∧ ¬ n = 0)) (h2 : w'.cell? ⟨p, 2, none⟩ = some (.int .i64 0)) : measW p (.slice a' m' c') w' < measW p (.slice a m c) w := by
  unfold measW lenOf
  rw [h1, h2]
  have e0 : notZero (some (.int .i64 0)) = 0 := rfl
  rw [e0]
  rcases h with h | ⟨h, h3⟩
  · simp only; omega
  · have e1 : notZero (some (.int .i64 (n : Int))) = 1 := by show (if (n : Int) = 0 then 0 else 1) = 1; rw [if_neg (by omega)]
    rw [e1]
    simp only
    omega

structure RelS (w : World) (p q b : Nat) (r : Option Nat) (T cs : List Value) (s o k m c : Nat) (sp : Option Addr) (r' : Option Nat) (U V : List Value) (wr : World) : Prop where
  len : k + m = cs.length
  cap : m ≤ c
  at_ : 0 < m → sp = some ⟨s, o + k, none⟩
  bw : BW wr p q b r' U V
  all : U ++ V = T ++ cs.take k
  kb : KB (PutS p q b r) w wr
  fresh : r' = r ∨ ∃ g, r' = some g ∧ w.heap.size ≤ g

def RelW (w : World) (p q b : Nat) (r : Option Nat) (T cs : List Value) (s o : Nat) (v1 v4 : Value) (wr : World) : Prop :=
  ∃ (k : Nat) (m c : Nat) (sp : Option Addr) (r' : Option Nat) (U V : List Value), v1 = .slice sp m c ∧ v4 = .int .i64 k ∧ RelS w p q b r T cs s o k m c sp r' U V wr
end Go.Proofs.Qxb6618767aDoor
