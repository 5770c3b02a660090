import Derived.Test.Qxb6618124aOpen
import Derived.Test.Qxb6618124aM
namespace Go.Proofs.Qxb6618124a
open Go.ChangeShapes Go.WideShapes Go.ChangeAt Go.RowKit Go.Joins

theorem Try.cells24 : Try.prog.cellsOf 24 = 6 := by kernel_rfl
theorem Try.cells66 : Try.prog.cellsOf 66 = 3 := by kernel_rfl

theorem open_rec_val {H : Type} {enc : TypeId × Value → H} {w : World} {base b0 : Nat} {held : Bool} {r : Reach} {v : Value} {d : DataW H} {p : List MemPlace} (hv : Value.okWide Try.prog w r b0 40 v)
    (h : DataW.Trod enc Try.prog w base (fun _ => true) held 40 v d p) :
    ∃ x : Rc, v = .agg #[.int .i64 x.off, .int .u16 x.ty, .int .u16 x.cls, .int .u32 x.ttl, .int .i64 x.doff, .slice x.da x.dl x.dc] ∧ GoodR w x := by
  obtain ⟨cs, rfl, _⟩ := okWide_struct Try.underlying40 hv
  obtain ⟨fuel, hf⟩ := h
  obtain ⟨x, hx, hg⟩ := open_rec hf
  refine ⟨x, ?_, hg⟩
  congr 1
  apply Array.ext'
  simpa [Value.cells, Rc.vals] using hx

theorem open_edns_val {H : Type} {enc : TypeId × Value → H} {w : World} {base b0 : Nat} {spare : Nat → Bool} {held : Bool} {r : Reach} {v : Value} {d : DataW H} {p : List MemPlace} (hv : Value.okWide Try.prog w r b0 28 v)
    (h : DataW.Trod enc Try.prog w base spare held 28 v d p) : ∃ e : E4, v = .agg #[.int .u16 e.a0, .int .u8 e.a1, .int .u8 e.a2, .int .u16 e.a3] := by
  obtain ⟨c0, c1, c2, c3, y0, y1, y2, y3, m, rfl, _, _, h0, h1, h2, h3⟩ := open_agg4 Try.underlying28 (by kernel_rfl) Try.cells28 hv h
  obtain ⟨n0, e0, _, _⟩ := DataW.trod_int Try.underlying22 h0
  obtain ⟨n1, e1, _, _⟩ := DataW.trod_int Try.underlying5 h1
  obtain ⟨n2, e2, _, _⟩ := DataW.trod_int Try.underlying5 h2
  obtain ⟨n3, e3, _, _⟩ := DataW.trod_int Try.underlying22 h3
  simp at e0 e1 e2 e3
  subst e0 e1 e2 e3
  exact ⟨⟨n0, n1, n2, n3⟩, rfl⟩

section
variable {H : Type} {enc : TypeId × Value → H} {w : World} {base : Nat} {held : Bool}

theorem open_hdr_val {b0 : Nat} {spare : Nat → Bool} {r : Reach} {v : Value} {d : DataW H} {p : List MemPlace} (hv : Value.okWide Try.prog w r b0 24 v)
    (h : DataW.Trod enc Try.prog w base spare held 24 v d p) :
    ∃ h0 h1 h2 h3 h4 h5 : Int, v = .agg #[.int .u16 h0, .int .u16 h1, .int .u16 h2, .int .u16 h3, .int .u16 h4, .int .u16 h5] := by
  obtain ⟨cs, rfl, _⟩ := okWide_struct Try.underlying24 hv
  obtain ⟨fuel, hf⟩ := h
  obtain ⟨xs, n, _, _, hlen, hxs, hf⟩ := DataW.trod_struct Try.underlying24 hf
  rw [Try.cells24] at hlen
  obtain ⟨c0, c1, c2, c3, c4, c5, hcs⟩ := list6 _ hlen
  obtain ⟨y0, y1, y2, y3, y4, y5, rfl⟩ := list6 xs (by simpa using hxs)
  rw [hcs] at hf
  have f0 := hf 0 _ rfl
  have f1 := hf 1 _ rfl
  have f2 := hf 2 _ rfl
  have f3 := hf 3 _ rfl
  have f4 := hf 4 _ rfl
  have f5 := hf 5 _ rfl
  simp [Try.cells22] at f0 f1 f2 f3 f4 f5
  obtain ⟨n0, e0, _, _⟩ := DataW.trod_int Try.underlying22 f0
  obtain ⟨n1, e1, _, _⟩ := DataW.trod_int Try.underlying22 f1
  obtain ⟨n2, e2, _, _⟩ := DataW.trod_int Try.underlying22 f2
  obtain ⟨n3, e3, _, _⟩ := DataW.trod_int Try.underlying22 f3
  obtain ⟨n4, e4, _, _⟩ := DataW.trod_int Try.underlying22 f4
  obtain ⟨n5, e5, _, _⟩ := DataW.trod_int Try.underlying22 f5
  simp at e0 e1 e2 e3 e4 e5
  subst e0 e1 e2 e3 e4 e5
  refine ⟨n0, n1, n2, n3, n4, n5, ?_⟩
  congr 1
  apply Array.ext'
  simpa [Value.cells] using hcs

theorem list3 {α : Type} : ∀ (l : List α), l.length = 3 → ∃ a b c, l = [a, b, c]
  | [a, b, c], _ => ⟨a, b, c, rfl⟩

theorem open_q {fuel : Nat} {cs : List Value} {spare : Nat → Bool} {x : DataW H × List MemPlace} (h : DataW.trod enc Try.prog w base spare held fuel 66 cs = some x) :
    ∃ q : Qc, cs = [.int .i64 q.off, .int .u16 q.ty, .int .u16 q.cls] := by
  obtain ⟨xs, n, _, _, hlen, hxs, hf⟩ := DataW.trod_struct Try.underlying66 h
  rw [Try.cells66] at hlen
  obtain ⟨c0, c1, c2, rfl⟩ := list3 cs hlen
  obtain ⟨y0, y1, y2, rfl⟩ := list3 xs (by simpa using hxs)
  have f0 := hf 0 _ rfl
  have f1 := hf 1 _ rfl
  have f2 := hf 2 _ rfl
  simp [Try.cells3, Try.cells22] at f0 f1 f2
  obtain ⟨n0, e0, _, _⟩ := DataW.trod_int Try.underlying3 f0
  obtain ⟨n1, e1, _, _⟩ := DataW.trod_int Try.underlying22 f1
  obtain ⟨n2, e2, _, _⟩ := DataW.trod_int Try.underlying22 f2
  simp at e0 e1 e2
  subst e0 e1 e2
  exact ⟨⟨n0, n1, n2⟩, rfl⟩

theorem open_qs {fuel : Nat} {qo : Option Addr} {len cap : Nat} {x : DataW H × List MemPlace} (h : DataW.trod enc Try.prog w base (fun _ => true) held fuel 25 [.slice qo len cap] = some x) :
    ∃ qs : List Qc, len = qs.length ∧ Qs w qo qs ∧ (qo = none → qs = [] ∧ cap = 0) ∧ qs.length ≤ maxLen := by
  rcases Go.Deep.open_slice Try.underlying25 h with ⟨hcs, _⟩ | ⟨a, l, c, m, n, D, Pl, hcs, hb, hl, hm, hmm, _, hel⟩
  · simp at hcs
    obtain ⟨rfl, rfl, rfl⟩ := hcs
    exact ⟨[], rfl, .inl rfl, fun _ => ⟨rfl, rfl⟩, Nat.zero_le _⟩
  · simp at hcs
    obtain ⟨rfl, rfl, rfl⟩ := hcs
    simp at hmm
    subst hmm
    rw [Try.cells66] at hel
    have hrec : ∀ i, i < len → ∃ q : Qc, ∀ j, j < 3 → w.cell? ((a.add (i * 3)).add j) = ([.int .i64 q.off, .int .u16 q.ty, .int .u16 q.cls] : List Value)[j]? := by
      intro i hi
      obtain ⟨cs', h1, h2⟩ := hel i (by omega)
      obtain ⟨q, rfl⟩ := open_q h2
      exact ⟨q, (World.cells?_some h1).2.2⟩
    obtain ⟨f, hf⟩ : ∃ f : Nat → Qc, ∀ i, i < len → ∀ j, j < 3 → w.cell? ((a.add (i * 3)).add j) = ([.int .i64 (f i).off, .int .u16 (f i).ty, .int .u16 (f i).cls] : List Value)[j]? := by
      classical
      exact ⟨fun i => if hi : i < len then Classical.choose (hrec i hi) else ⟨0, 0, 0⟩, fun i hi => by simp only [dif_pos hi]; exact Classical.choose_spec (hrec i hi)⟩
    refine ⟨(List.range len).map f, by simp, ?_, (fun h => by cases h), by simp; omega⟩
    by_cases h0 : len = 0
    · subst h0; exact .inl rfl
    · right
      obtain ⟨b, o, s⟩ := a
      have hs : s = none := by
        have := hf 0 (by omega) 0 (by omega)
        have e : ((⟨b, o, s⟩ : Addr).add (0 * 3)).add 0 = ⟨b, o, s⟩ := by simp [Addr.add]
        rw [e] at this
        exact World.cell?_spot (v := .int .i64 (f 0).off) (by simpa using this)
      subst hs
      have key : ∀ i, i < len → ∀ j, j < 3 → w.cell? ⟨b, o + i * 3 + j, none⟩ = ([.int .i64 (f i).off, .int .u16 (f i).ty, .int .u16 (f i).cls] : List Value)[j]? := by
        intro i hi j hj
        have := hf i hi j hj
        rwa [Addr.add_lit, Addr.add_lit] at this
      refine ⟨b, o, rfl, ?_, fun i q hq => ?_⟩
      · have := key 0 (by omega) 0 (by omega)
        exact World.block_lt_of_cell? w ⟨b, o + 0 * 3 + 0, none⟩ (u := .int .i64 (f 0).off) (by simpa using this)
      · have hi : i < len := by
          have := (List.getElem?_eq_some_iff.1 hq).1
          simpa using this
        have hr' : f i = q := by simpa [hi] using hq
        subst hr'
        exact ⟨by simpa using key i hi 0 (by omega), by simpa using key i hi 1 (by omega), by simpa using key i hi 2 (by omega)⟩
end
end Go.Proofs.Qxb6618124a
