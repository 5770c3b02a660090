import Derived.Test.Qxb6618767aDoorLay
import Derived.WalkKit
import Derived.WalkSpells
import Derived.WalkLawsBesides
import Derived.Laws.CopyOwn
import Derived.Deep.MidRow
import Derived.Deep.QuietTactic
import Derived.BigQuiet
import Derived.Deep.DeepCutAuto
namespace Go.Proofs.Qxb6618767aDoor
open Go.RowKit

/-- Every old block outside S is as it was. -/
structure KB (S : Nat → Prop) (w w' : World) : Prop where
  os : w'.os = w.os
  tape : w'.tape = w.tape
  output : w'.output = w.output
  size : w.heap.size ≤ w'.heap.size
  block : ∀ k, k < w.heap.size → ¬ S k → w'.heap[k]? = w.heap[k]?

theorem KB.refl (S : Nat → Prop) (w : World) : KB S w w := ⟨rfl, rfl, rfl, Nat.le_refl _, fun _ _ _ => rfl⟩
theorem KB.trans {S T : Nat → Prop} {a b c : World} (h : KB S a b) (k : KB T b c) (hs : ∀ i, i < a.heap.size → T i → S i) : KB S a c :=
  ⟨k.os.trans h.os, k.tape.trans h.tape, k.output.trans h.output, Nat.le_trans h.size k.size, fun i hi hn => (k.block i (Nat.lt_of_lt_of_le hi h.size) (fun ht => hn (hs i hi ht))).trans (h.block i hi hn)⟩
theorem KB.of_below {S : Nat → Prop} {w w' : World} (h : Below w.heap.size w w') : KB S w w' := ⟨h.os, h.tape, h.output, h.size, fun k hk _ => h.block k hk⟩
theorem KB.of_grown {w w' : World} {b : Nat} (h : w.grownBy w' (some b)) : KB (fun k => k = b) w w' := ⟨h.os, h.tape, h.output, h.size, fun k hk hn => h.block k hk (fun e => hn (Option.some.inj e))⟩
theorem KB.below {S : Nat → Prop} {w w' : World} (h : KB S w w') (B : Nat) (hB : B ≤ w.heap.size) (hS : ∀ k, S k → B ≤ k) : Below B w w' :=
  ⟨h.os, h.tape, h.output, h.size, fun k hk => h.block k (by omega) (fun hs => by have := hS k hs; omega)⟩
theorem KB.mono {S T : Nat → Prop} {w w' : World} (h : KB S w w') (hs : ∀ k, S k → T k) : KB T w w' := ⟨h.os, h.tape, h.output, h.size, fun k hk hn => h.block k hk (fun x => hn (hs k x))⟩
theorem KB.setCell {S : Nat → Prop} {a w : World} (h : KB S a w) (b i : Nat) (v : Value) (hb : S b) : KB S a (w.setCell ⟨b, i, none⟩ v) :=
  h.trans (KB.of_grown (Lib.grownBy_setCell w b i v)) (fun _ _ e => by subst e; exact hb)
theorem KB.drewN {S : Nat → Prop} {a w : World} (h : KB S a w) (n : Nat) : KB S a (w.drewN n) := by
  induction n with
  | zero => exact h
  | succ n ih => exact ⟨ih.os, ih.tape, ih.output, ih.size, ih.block⟩
theorem KB.heap {S : Nat → Prop} {w w' : World} (h : KB S w w') {k : Nat} {o : Obj} (hk : w.heap[k]? = some o) (hn : ¬ S k) : w'.heap[k]? = some o :=
  (h.block k (Lib.lt_of_heap hk) hn).trans hk
end Go.Proofs.Qxb6618767aDoor
