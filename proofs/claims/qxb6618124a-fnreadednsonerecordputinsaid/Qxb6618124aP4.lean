import Derived.Test.Qxb6618124aRows
import Derived.Test.Qxb6618124aL4
import Derived.Test.Qxb6618124aOpen
namespace Go.Proofs.Qxb6618124a
open Go.ChangeShapes Go.WideShapes Go.ChangeAt Go.RowKit Go.Joins

theorem open_rec_val {H : Type} {enc : TypeId × Value → H} {w : World} {base b0 : Nat} {held : Bool} {r : Reach} {v : Value} {d : DataW H} {p : List MemPlace} (hv : Value.okWide Try.prog w r b0 40 v)
    (h : DataW.Trod enc Try.prog w base (fun _ => true) held 40 v d p) :
    ∃ x : Rc, v = .agg #[.int .i64 x.off, .int .u16 x.ty, .int .u16 x.cls, .int .u32 x.ttl, .int .i64 x.doff, .slice x.da x.dl x.dc] ∧ GoodR w x := by
  obtain ⟨cs, rfl, _⟩ := okWide_struct Try.underlying40 hv
  obtain ⟨fuel, hf⟩ := h
  obtain ⟨x, hx, hg⟩ := open_rec hf
  refine ⟨x, ?_, hg⟩
  congr 1
  apply Array.ext'
  simpa [Value.cells, Rc.vals] using hx

theorem open_edns_val {H : Type} {enc : TypeId × Value → H} {w : World} {base b0 : Nat} {spare : Nat → Bool} {held : Bool} {r : Reach} {v : Value} {d : DataW H} {p : List MemPlace} (hv : Value.okWide Try.prog w r b0 28 v)
    (h : DataW.Trod enc Try.prog w base spare held 28 v d p) : ∃ e : E4, v = .agg #[.int .u16 e.a0, .int .u8 e.a1, .int .u8 e.a2, .int .u16 e.a3] := by
  obtain ⟨c0, c1, c2, c3, y0, y1, y2, y3, m, rfl, _, _, h0, h1, h2, h3⟩ := open_agg4 Try.underlying28 (by kernel_rfl) Try.cells28 hv h
  obtain ⟨n0, e0, _, _⟩ := DataW.trod_int Try.underlying22 h0
  obtain ⟨n1, e1, _, _⟩ := DataW.trod_int Try.underlying5 h1
  obtain ⟨n2, e2, _, _⟩ := DataW.trod_int Try.underlying5 h2
  obtain ⟨n3, e3, _, _⟩ := DataW.trod_int Try.underlying22 h3
  simp at e0 e1 e2 e3
  subst e0 e1 e2 e3
  exact ⟨⟨n0, n1, n2, n3⟩, rfl⟩

set_option maxRecDepth 100000 in
theorem lifted4 (os : Os) (started : os.Started) (H : Type) (enc : TypeId × Value → H) :
    ReturnsInHanded {} Try.checked os 4 .any (Rows.fnReadEDNSOneRecordPutInSpec.pre6 enc Try.prog Try.f4 Rows.fnReadEDNSOneRecordPutInRow.domain false) (Rows.fnReadEDNSOneRecordPutInSpec.post enc Try.prog Try.f4 false true false false) := by
  refine returnsInHanded_of_change (C := Try.checked) Try.own started (by kernel_rfl) Try.func4
    (ChangeSpec.witness6 (enc := enc) (C := Try.checked) false ⟨#[], #[.slice none 0 0, .int .i64 0, .agg #[.int .i64 0, .int .u16 0, .int .u16 0, .int .u32 0, .int .i64 0, .slice none 0 0], .agg #[.int .u16 0, .int .u8 0, .int .u8 0, .int .u16 0]], []⟩ 8 (by kernel_rfl) (by kernel_rfl) (by kernel_rfl) (by kernel_rfl)) ?_
  intro W base args ds gs before hval0 hW hcnd _
  have hval : ∀ (j : Nat) t v, Try.f4.params[j]? = some t → args[j]? = some v → Value.okWide Try.prog W .any base t v := hval0
  have hW' := hW
  obtain ⟨p, q, hA0, hV, rfl, hfz, hnd⟩ := hW
  have hA : DataW.TrodAll enc Try.prog W 0 (fun _ => true) true Try.f4.params.toList args.toList ds p := hA0
  rw [Try.params4] at hA hval
  obtain ⟨v0, vs0, d0, ds0, p0, q0, hargs, rfl, rfl, h0, r0⟩ := trodAll_cons hA
  obtain ⟨v1, vs1, d1, ds1, p1, q1, rfl, rfl, rfl, h1, r1⟩ := trodAll_cons r0
  obtain ⟨v2, vs2, d2, ds2, p2, q2, rfl, rfl, rfl, h2, r2⟩ := trodAll_cons r1
  obtain ⟨v3, vs3, d3, ds3, p3, q3, rfl, rfl, rfl, h3, r3⟩ := trodAll_cons r2
  obtain ⟨rfl, rfl, rfl⟩ := trodAll_nil r3
  obtain rfl : args = #[v0, v1, v2, v3] := by cases args; simp_all
  obtain ⟨rfl, rfl⟩ := trodVars_none hV
  have lt0 : ∀ x ∈ p0, x.block < W.heap.size := by obtain ⟨m, hm⟩ := h0; exact DataW.trod_lt m _ _ _ hm
  have lt1 : ∀ x ∈ p1, x.block < W.heap.size := by obtain ⟨m, hm⟩ := h1; exact DataW.trod_lt m _ _ _ hm
  have lt2 : ∀ x ∈ p2, x.block < W.heap.size := by obtain ⟨m, hm⟩ := h2; exact DataW.trod_lt m _ _ _ hm
  have lt3 : ∀ x ∈ p3, x.block < W.heap.size := by obtain ⟨m, hm⟩ := h3; exact DataW.trod_lt m _ _ _ hm
  obtain ⟨a0, len0, cap0, rfl⟩ := okWide_slice Try.underlying26 (hval 0 26 v0 rfl rfl)
  obtain ⟨rs, rfl, hR, hn, hl, _, hgood⟩ : ∃ rs : List Rc, len0 = rs.length ∧ Recs W a0 rs ∧ (a0 = none → rs = [] ∧ cap0 = 0) ∧ rs.length ≤ maxLen ∧ rs.length ≤ cap0 ∧ ∀ r, r ∈ rs → GoodR W r := by
    obtain ⟨fuel, hf⟩ := h0; exact open_recs hf
  obtain ⟨k, e1, _, _⟩ : ∃ n, v1 = .int .i64 n ∧ True ∧ True := by
    obtain ⟨n, hn, _⟩ := open_int Try.underlying3 (hval 1 3 v1 rfl rfl) h1; exact ⟨n, hn, trivial, trivial⟩
  subst e1
  obtain ⟨x, rfl, hx⟩ := open_rec_val (hval 2 40 v2 rfl rfl) h2
  obtain ⟨e, rfl⟩ := open_edns_val (hval 3 28 v3 rfl rfl) h3
  clear hA0 hval0
  refine (law4 a0 rs cap0 k x e W hR hl hn (fun r hr => ⟨(hgood r hr).t0, (hgood r hr).t1⟩) hx.t0 hx.t1).mono fun e W' ⟨he, bel⟩ => ?_
  subst he
  exact ⟨_, rfl, _, _, _, [], _, [], hW', trodAll_mk1 (shut_bool Try.underlying4 _),
    (trodAll_cons_mk (Below.trod Try.laidOut (by kernel_rfl) (of_decide_eq_true (by kernel_rfl)) h0 bel lt0)
      (trodAll_cons_mk (Below.trod Try.laidOut (by kernel_rfl) (of_decide_eq_true (by kernel_rfl)) h1 bel lt1)
        (trodAll_cons_mk (Below.trod Try.laidOut (by kernel_rfl) (of_decide_eq_true (by kernel_rfl)) h2 bel lt2)
          (trodAll_cons_mk (Below.trod Try.laidOut (by kernel_rfl) (of_decide_eq_true (by kernel_rfl)) h3 bel lt3) trodAll_mk0)))), rfl, bel.frame _, fun h => by cases h⟩

theorem proved4 : Rows.FnReadEDNSOneRecordPutInSaid :=
  OpenClaim.holds_of_wide 4 Try.f4 rfl rfl rfl rfl rfl rfl rfl ⟨rfl, rfl, rfl, rfl, rfl⟩ rfl rfl rfl rfl rfl (by kernel_rfl) Try.func4 (by kernel_rfl)
    (of_decide_eq_true (by kernel_rfl)) (by unfold Func.isWrapper; first | (rw [if_pos (by decide +kernel)]; kernel_rfl) | (rw [if_neg (by decide +kernel)]; exact ⟨rfl, rfl⟩))
    (fun os started H enc _ => lifted4 os started H enc)
end Go.Proofs.Qxb6618124a
