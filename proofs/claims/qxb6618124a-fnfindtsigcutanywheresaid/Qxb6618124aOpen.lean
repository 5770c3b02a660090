import Derived.Test.Qxb6618124aBase
import Derived.ProofKit
import Derived.OpenShut
import Derived.Deep.Slices
import Derived.ChangeOld
import Derived.Lib.SmallJoins
namespace Go.Proofs.Qxb6618124a
open Go.ChangeShapes Go.WideShapes Go.ChangeAt Go.RowKit Go.Joins

theorem Try.own : ownKnob Try.prog.godebug = none := by kernel_rfl
theorem Try.laidOut : laidOutB Try.prog = true := by kernel_rfl
theorem Try.cells40 : Try.prog.cellsOf 40 = 6 := by kernel_rfl
theorem Try.cells28 : Try.prog.cellsOf 28 = 4 := by kernel_rfl
theorem Try.cells3 : Try.prog.cellsOf 3 = 1 := by kernel_rfl
theorem Try.cells22 : Try.prog.cellsOf 22 = 1 := by kernel_rfl
theorem Try.cells37 : Try.prog.cellsOf 37 = 1 := by kernel_rfl
theorem Try.cells38 : Try.prog.cellsOf 38 = 1 := by kernel_rfl
theorem Try.cells5 : Try.prog.cellsOf 5 = 1 := by kernel_rfl

/-- The bytes that a slice header leads to are there. -/
def Dat (w : World) (da : Option Addr) (dl : Nat) : Prop :=
  (da = none → dl = 0) ∧ (0 < dl → ∃ b o, da = some ⟨b, o, none⟩ ∧ b < w.heap.size ∧ ∀ i, i < dl → ∃ n : Int, w.cell? ⟨b, o + i, none⟩ = some (.int .u8 n))

/-- What is known of a record that came in. -/
structure GoodR (w : World) (r : Rc) : Prop where
  t0 : 0 ≤ r.ttl
  t1 : r.ttl < 4294967296
  dat : Dat w r.da r.dl
  dm : r.dl ≤ maxLen

section
variable {H : Type} {enc : TypeId × Value → H} {w : World} {base : Nat} {held : Bool}

theorem open_bytes {fuel : Nat} {cs : List Value} {x : DataW H × List MemPlace} (h : DataW.trod enc Try.prog w base (fun _ => true) held fuel 38 cs = some x) :
    ∃ da dl dc, cs = [.slice da dl dc] ∧ Dat w da dl ∧ dl ≤ maxLen := by
  rcases open_ints Try.underlying38 Try.underlying5 Try.cells5 h with ⟨rfl, _⟩ | ⟨a, len, cap, zs, rfl, hb, hl, hm, hz, _, hc, _⟩
  · exact ⟨none, 0, 0, rfl, ⟨fun _ => rfl, fun h => absurd h (by omega)⟩, Nat.zero_le _⟩
  · refine ⟨some a, len, cap, rfl, ⟨(fun h => by cases h), fun hpos => ?_⟩, by omega⟩
    simp at hz
    obtain ⟨b, o, s⟩ := a
    have h0 := hc 0 (by omega)
    have hs : s = none := by simpa [Addr.add] using World.cell?_spot h0
    subst hs
    refine ⟨b, o, rfl, World.block_lt_of_cell? w _ h0, fun i hi => ⟨zs.getD i 0, ?_⟩⟩
    have := hc i (by omega)
    rwa [Addr.add_lit] at this

theorem list6 {α : Type} : ∀ (l : List α), l.length = 6 → ∃ a b c d e f, l = [a, b, c, d, e, f]
  | [a, b, c, d, e, f], _ => ⟨a, b, c, d, e, f, rfl⟩

theorem open_rec {fuel : Nat} {cs : List Value} {x : DataW H × List MemPlace} (h : DataW.trod enc Try.prog w base (fun _ => true) held fuel 40 cs = some x) :
    ∃ r : Rc, cs = r.vals ∧ GoodR w r := by
  obtain ⟨xs, n, _, _, hlen, hxs, hf⟩ := DataW.trod_struct Try.underlying40 h
  rw [Try.cells40] at hlen
  obtain ⟨c0, c1, c2, c3, c4, c5, rfl⟩ := list6 cs hlen
  obtain ⟨y0, y1, y2, y3, y4, y5, rfl⟩ := list6 xs (by simpa using hxs)
  have f0 := hf 0 _ rfl
  have f1 := hf 1 _ rfl
  have f2 := hf 2 _ rfl
  have f3 := hf 3 _ rfl
  have f4 := hf 4 _ rfl
  have f5 := hf 5 _ rfl
  simp [Try.cells3, Try.cells22, Try.cells37, Try.cells38] at f0 f1 f2 f3 f4 f5
  obtain ⟨n0, e0, _, w0⟩ := DataW.trod_int Try.underlying3 f0
  obtain ⟨n1, e1, _, w1⟩ := DataW.trod_int Try.underlying22 f1
  obtain ⟨n2, e2, _, w2⟩ := DataW.trod_int Try.underlying22 f2
  obtain ⟨n3, e3, _, w3⟩ := DataW.trod_int Try.underlying37 f3
  obtain ⟨n4, e4, _, w4⟩ := DataW.trod_int Try.underlying3 f4
  obtain ⟨da, dl, dc, e5, hd, hm⟩ := open_bytes f5
  simp at e0 e1 e2 e3 e4 e5
  subst e0 e1 e2 e3 e4 e5
  have hb := bounds_u32 w3
  exact ⟨⟨n0, n1, n2, n3, n4, da, dl, dc⟩, rfl, ⟨by show 0 ≤ n3; omega, by show n3 < 4294967296; omega, hd, hm⟩⟩

theorem open_recs {fuel : Nat} {ao : Option Addr} {len cap : Nat} {x : DataW H × List MemPlace} (h : DataW.trod enc Try.prog w base (fun _ => true) held fuel 26 [.slice ao len cap] = some x) :
    ∃ rs : List Rc, len = rs.length ∧ Recs w ao rs ∧ (ao = none → rs = [] ∧ cap = 0) ∧ rs.length ≤ maxLen ∧ rs.length ≤ cap ∧ ∀ r, r ∈ rs → GoodR w r := by
  rcases Go.Deep.open_slice Try.underlying26 h with ⟨hcs, _⟩ | ⟨a, l, c, m, n, D, Pl, hcs, hb, hl, hm, hmm, _, hel⟩
  · simp at hcs
    obtain ⟨rfl, rfl, rfl⟩ := hcs
    exact ⟨[], rfl, .inl rfl, fun _ => ⟨rfl, rfl⟩, Nat.zero_le _, Nat.zero_le _, fun r hr => by cases hr⟩
  · simp at hcs
    obtain ⟨rfl, rfl, rfl⟩ := hcs
    simp at hmm
    subst hmm
    rw [Try.cells40] at hel
    have hrec : ∀ i, i < len → ∃ r : Rc, GoodR w r ∧ ∀ j, j < 6 → w.cell? ((a.add (i * 6)).add j) = r.vals[j]? := by
      intro i hi
      obtain ⟨cs', h1, h2⟩ := hel i (by omega)
      obtain ⟨r, rfl, hg⟩ := open_rec h2
      exact ⟨r, hg, (World.cells?_some h1).2.2⟩
    obtain ⟨f, hf⟩ : ∃ f : Nat → Rc, ∀ i, i < len → GoodR w (f i) ∧ ∀ j, j < 6 → w.cell? ((a.add (i * 6)).add j) = (f i).vals[j]? := by
      classical
      exact ⟨fun i => if hi : i < len then Classical.choose (hrec i hi) else ⟨0, 0, 0, 0, 0, none, 0, 0⟩, fun i hi => by simp only [dif_pos hi]; exact Classical.choose_spec (hrec i hi)⟩
    refine ⟨(List.range len).map f, by simp, ?_, (fun h => by cases h), by simp; omega, by simp; omega, ?_⟩
    · by_cases h0 : len = 0
      · subst h0; exact .inl rfl
      · right
        obtain ⟨b, o, s⟩ := a
        have hs : s = none := by
          have := (hf 0 (by omega)).2 0 (by omega)
          have e : ((⟨b, o, s⟩ : Addr).add (0 * 6)).add 0 = ⟨b, o, s⟩ := by simp [Addr.add]
          rw [e] at this
          exact World.cell?_spot (v := .int .i64 (f 0).off) (by simpa [Rc.vals] using this)
        subst hs
        have key : ∀ i, i < len → ∀ j, j < 6 → w.cell? ⟨b, o + i * 6 + j, none⟩ = (f i).vals[j]? := by
          intro i hi j hj
          have := (hf i hi).2 j hj
          rwa [Addr.add_lit, Addr.add_lit] at this
        refine ⟨b, o, rfl, ?_, fun i r hr => ?_⟩
        · have := key 0 (by omega) 0 (by omega)
          exact World.block_lt_of_cell? w ⟨b, o + 0 * 6 + 0, none⟩ (u := .int .i64 (f 0).off) (by simpa [Rc.vals] using this)
        · have hi : i < len := by
            have := (List.getElem?_eq_some_iff.1 hr).1
            simpa using this
          have hr' : f i = r := by simpa [hi] using hr
          subst hr'
          exact ⟨by simpa [Rc.vals] using key i hi 0 (by omega), by simpa [Rc.vals] using key i hi 1 (by omega), by simpa [Rc.vals] using key i hi 2 (by omega),
            by simpa [Rc.vals] using key i hi 3 (by omega), by simpa [Rc.vals] using key i hi 4 (by omega), by simpa [Rc.vals] using key i hi 5 (by omega)⟩
    · intro r hr
      simp at hr
      obtain ⟨i, hi, rfl⟩ := hr
      exact (hf i hi).1
end
end Go.Proofs.Qxb6618124a
