import Derived.Test.Qxb6618124aW3
namespace Go.Proofs.Qxb6618124a
open Go.RowKit

set_option maxHeartbeats 400000 in
theorem decode_any (c t : Int) (w : World) (h0 : 0 ≤ t) (h1 : t < 4294967296) :
    Calls Try.prog 11 #[.int .u16 c, .int .u32 t] w
      fun e w' => e = .returned (.agg #[.int .u16 c, .int .u8 (t / 16777216), .int .u8 (t / 65536 % 256), .int .u16 (t % 65536)]) ∧ Below w.heap.size w w' := by
  go_enter Try.func11, Try.ntmps11
  go_wp2
  refine bodyPost_ret (v := .agg #[.int .u16 c, .int .u8 (t / 16777216), .int .u8 (t / 65536 % 256), .int .u16 (t % 65536)]) (by simp [results, Try.results11, go_sem]) rfl ⟨rfl, ?_⟩
  exact ((Below.refl _ _).alloc (Nat.le_refl _) _)

set_option maxHeartbeats 400000 in
theorem read1_any (x : Rc) (w : World) (h0 : 0 ≤ x.ttl) (h1 : x.ttl < 4294967296) :
    Calls Try.prog 27 #[.agg #[.int .i64 x.off, .int .u16 x.ty, .int .u16 x.cls, .int .u32 x.ttl, .int .i64 x.doff, .slice x.da x.dl x.dc]] w
      fun e w' => e = .returned (.agg #[.int .u16 x.cls, .int .u8 (x.ttl / 16777216), .int .u8 (x.ttl / 65536 % 256), .int .u16 (x.ttl % 65536)]) ∧ Below w.heap.size w w' := by
  go_enter Try.func27, Try.ntmps27
  go_wp2
  refine bodyPost_ret (v := .agg #[.int .u16 x.cls, .int .u8 (x.ttl / 16777216), .int .u8 (x.ttl / 65536 % 256), .int .u16 (x.ttl % 65536)]) (by simp [results, Try.results27, go_sem, IntKind.wrap_u16]) rfl ⟨rfl, ?_⟩
  exact ((Below.refl _ _).alloc (Nat.le_refl _) _).alloc (by simp) _

/-- An EDNS value. -/
structure E4 where
  a0 : Int
  a1 : Int
  a2 : Int
  a3 : Int

def isOpt (r : Rc) : Bool := r.ty == 41
def decE (r : Rc) : E4 := ⟨r.cls, r.ttl / 16777216, r.ttl / 65536 % 256, r.ttl % 65536⟩
def foundB (rs : List Rc) : Bool := rs.any isOpt
def severalB (rs : List Rc) : Bool := decide (2 ≤ rs.countP isOpt)
def firstE (rs : List Rc) (e : E4) : E4 := match rs.find? isOpt with | some r => decE r | none => e
def Ttls (rs : List Rc) : Prop := ∀ r, r ∈ rs → 0 ≤ r.ttl ∧ r.ttl < 4294967296

/-- The four cells of an EDNS value at a block's head, free to be written. -/
structure AtE (w : World) (b : Nat) (e : E4) : Prop where
  c0 : w.cell? ⟨b, 0, none⟩ = some (.int .u16 e.a0)
  c1 : w.cell? ⟨b, 1, none⟩ = some (.int .u8 e.a1)
  c2 : w.cell? ⟨b, 2, none⟩ = some (.int .u8 e.a2)
  c3 : w.cell? ⟨b, 3, none⟩ = some (.int .u16 e.a3)
  fr : ∀ j, w.frozen? ⟨b, j, none⟩ = false

def E4.vals (e : E4) : List Value := [.int .u16 e.a0, .int .u8 e.a1, .int .u8 e.a2, .int .u16 e.a3]

theorem AtE.below {w w' : World} {B b : Nat} {e : E4} (h : AtE w b e) (hw : Below B w w') (hb : b < B) : AtE w' b e :=
  ⟨(hw.cell hb).trans h.c0, (hw.cell hb).trans h.c1, (hw.cell hb).trans h.c2, (hw.cell hb).trans h.c3, fun j => (hw.frozen hb).trans (h.fr j)⟩

theorem AtE.lt {w : World} {b : Nat} {e : E4} (h : AtE w b e) : b < w.heap.size := World.block_lt_of_cell? w _ h.c0

theorem AtE.there {w : World} {b : Nat} {e : E4} (h : AtE w b e) : w.there b 0 4 := fun j hj => by
  refine ⟨?_, h.fr _⟩
  match j, hj with
  | 0, _ => simp [h.c0]
  | 1, _ => simp [h.c1]
  | 2, _ => simp [h.c2]
  | 3, _ => simp [h.c3]

theorem AtE.stored {w : World} {b : Nat} {e : E4} (h : AtE w b e) (n : E4) : AtE (w.setCells b 0 n.vals) b n := by
  have r := World.rangeAt_setCells_same w b 0 n.vals h.there
  exact ⟨by simpa using r 0 _ rfl, by simpa using r 1 _ rfl, by simpa using r 2 _ rfl, by simpa using r 3 _ rfl, fun j => by rw [World.frozen?_setCells]; exact h.fr j⟩

theorem grownBy_trans {a b c : World} {row : Option Nat} (h : a.grownBy b row) (k : b.grownBy c row) : a.grownBy c row :=
  ⟨k.os.trans h.os, k.tape.trans h.tape, k.output.trans h.output, Nat.le_trans h.size k.size, fun i hi hn => (k.block i (by have := h.size; omega) hn).trans (h.block i hi hn)⟩

theorem grownBy_below {a b : World} (row : Option Nat) (h : Below a.heap.size a b) : a.grownBy b row := ⟨h.os, h.tape, h.output, h.size, fun i hi _ => h.block i hi⟩

theorem grownBy_setCells (w : World) (g : Nat) : ∀ (vs : List Value) (o : Nat), w.grownBy (w.setCells g o vs) (some g) := by
  intro vs
  induction vs generalizing w with
  | nil => intro o; exact World.grownBy.refl _ _
  | cons v vs ih =>
    intro o
    have h1 : w.grownBy (w.setCell ⟨g, o, none⟩ v) (some g) := ⟨rfl, rfl, rfl, by simp [World.setCell], fun k _ hne => Below.heap_setCell w ⟨g, o, none⟩ v k (by intro e; exact hne (by rw [e]))⟩
    exact grownBy_trans h1 (ih (w.setCell ⟨g, o, none⟩ v) (o + 1))

theorem Recs.grown {w w' : World} {row : Nat} {ao : Option Addr} {rs : List Rc} (h : Recs w ao rs) (hw : w.grownBy w' (some row)) (hne : ∀ a, ao = some a → rs ≠ [] → a.block ≠ row) : Recs w' ao rs := by
  by_cases hnil : rs = []
  · exact .inl hnil
  rcases h with h | ⟨b, off, rfl, hb, hc⟩
  · exact .inl h
  · refine .inr ⟨b, off, rfl, by have := hw.size; omega, fun i r hr => ?_⟩
    obtain ⟨c0, c1, c2, c3, c4, c5⟩ := hc i r hr
    have hn : b ≠ row := hne _ rfl hnil
    have key : ∀ p : Addr, p.block = b → w'.cell? p = w.cell? p := fun p hp => World.cell?_of_block (by rw [hp]; exact hw.block b hb (by simpa using hn))
    exact ⟨(key _ rfl).trans c0, (key _ rfl).trans c1, (key _ rfl).trans c2, (key _ rfl).trans c3, (key _ rfl).trans c4, (key _ rfl).trans c5⟩

theorem Try.size33 : (Try.prog.info? 33).map (·.size) = some 4 := by kernel_rfl
theorem all4 (e : E4) : (#[.int .u16 e.a0, .int .u8 e.a1, .int .u8 e.a2, .int .u16 e.a3] : Array Value).all (·.oneCell') = true := by simp [Value.oneCell']

/-- A whole EDNS value stored. -/
theorem wpList_store_e {P : Program} {ops : Array Oper} {rest : List Oper} {op : Oper} {a : Act} {w : World} {Q : Exit → Act → World → Prop} (e : E4) (ty : TypeId) (hi : (P.info? ty).map (·.size) = some 4) (x y : Operand) (b : Nat)
    (hgd : op.guard = none) (ho : op.op = .store ty x y) (hx : a.eval x = .pointer (some ⟨b, 0, none⟩))
    (hy : a.eval y = .agg #[.int .u16 e.a0, .int .u8 e.a1, .int .u8 e.a2, .int .u16 e.a3])
    (ht : w.there b 0 4) (h : wpList P ops Q rest (a.put op.dst undef) (w.setCells b 0 e.vals)) : wpList P ops Q (op :: rest) a w :=
  wpList_store_mid hgd ty x y ho b 0 _ hx hy ht hi (all4 e) h

/-! The plain side of a round. -/
theorem foundB_snoc (rs : List Rc) (k : Nat) (h : k < rs.length) : foundB (rs.take (k + 1)) = (foundB (rs.take k) || isOpt rs[k]) := by
  rw [take_snoc rs k h]; simp only [foundB, List.any_append, List.any_cons, List.any_nil, Bool.or_false]
theorem count_snoc (rs : List Rc) (k : Nat) (h : k < rs.length) : (rs.take (k + 1)).countP isOpt = (rs.take k).countP isOpt + if isOpt rs[k] then 1 else 0 := by
  rw [take_snoc rs k h, List.countP_append]; simp [List.countP_cons]
theorem foundB_count (rs : List Rc) : foundB rs = decide (1 ≤ rs.countP isOpt) := by
  rw [Bool.eq_iff_iff]
  simp only [foundB, List.any_eq_true, decide_eq_true_eq]
  rw [show (1 ≤ rs.countP isOpt) ↔ 0 < rs.countP isOpt from Iff.rfl, List.countP_pos_iff]
theorem firstE_append (L M : List Rc) (e : E4) : firstE (L ++ M) e = if foundB L then firstE L e else firstE M e := by
  unfold firstE foundB
  rw [List.find?_append]
  cases h : L.find? isOpt with
  | none => simp [List.find?_eq_none] at h; rw [if_neg (by simpa using h)]; simp
  | some r =>
    have := List.find?_some h
    have hm := List.mem_of_find?_eq_some h
    rw [if_pos (List.any_eq_true.2 ⟨r, hm, this⟩)]; simp
theorem firstE_none (L : List Rc) (e : E4) (h : foundB L = false) : firstE L e = e := by
  unfold firstE
  rw [List.find?_eq_none.2 (by simpa [foundB] using h)]
theorem firstE_one (r : Rc) (e : E4) (h : isOpt r = true) : firstE [r] e = decE r := by simp [firstE, h]
theorem firstE_one' (r : Rc) (e : E4) (h : isOpt r = false) : firstE [r] e = e := by simp [firstE, h]

theorem firstE_snoc (rs : List Rc) (k : Nat) (h : k < rs.length) (e : E4) : firstE (rs.take (k + 1)) e = if foundB (rs.take k) then firstE (rs.take k) e else firstE [rs[k]] e := by
  rw [take_snoc rs k h, firstE_append]
theorem several_at (rs : List Rc) (k : Nat) (h : k < rs.length) (hf : foundB (rs.take k) = true) (ho : isOpt rs[k] = true) : severalB rs = true ∧ foundB rs = true := by
  have h1 : 1 ≤ (rs.take k).countP isOpt := by simpa [foundB_count] using hf
  have h2 := count_snoc rs k h
  rw [if_pos ho] at h2
  have h3 : rs.countP isOpt = (rs.take (k + 1)).countP isOpt + (rs.drop (k + 1)).countP isOpt := by rw [← List.countP_append, List.take_append_drop]
  exact ⟨by simp only [severalB, decide_eq_true_eq]; omega, by rw [foundB_count]; simp only [decide_eq_true_eq]; omega⟩
theorem firstE_early (rs : List Rc) (k : Nat) (e : E4) (hf : foundB (rs.take k) = true) : firstE rs e = firstE (rs.take k) e := by
  have := firstE_append (rs.take k) (rs.drop k) e
  rwa [List.take_append_drop, if_pos hf] at this

theorem several_few (rs : List Rc) (h : rs.countP isOpt ≤ 1) : severalB rs = false := by simp only [severalB, decide_eq_false_iff_not]; omega

structure Scan (w0 : World) (eb : Nat) (rs : List Rc) (e0 : E4) (k : Nat) (wr : World) : Prop where
  at_ : AtE wr eb (firstE (rs.take k) e0)
  few : (rs.take k).countP isOpt ≤ 1
  grown : w0.grownBy wr (some eb)

def RelScan (w0 : World) (eb : Nat) (rs : List Rc) (e0 : E4) (f i : Value) (wr : World) : Prop := ∃ k : Nat, k ≤ rs.length ∧ i = .int .i64 k ∧ f = .bool (foundB (rs.take k)) ∧ Scan w0 eb rs e0 k wr

set_option maxHeartbeats 400000 in
theorem readE_any (ao : Option Addr) (rs : List Rc) (cap mb eb : Nat) (e0 : E4) (w : World) (h : Recs w ao rs) (hl : rs.length ≤ maxLen) (hne : ∀ a, ao = some a → rs ≠ [] → a.block ≠ eb) (htt : Ttls rs)
    (hm : w.cell? ⟨mb, 9, none⟩ = some (.slice ao rs.length cap)) (he : AtE w eb e0) :
    Calls Try.prog 24 #[.pointer (some ⟨mb, 0, none⟩), .pointer (some ⟨eb, 0, none⟩)] w
      fun e w' => e = .returned (.tuple #[.bool (foundB rs), .bool (severalB rs)]) ∧ AtE w' eb (firstE rs e0) ∧ w.grownBy w' (some eb) := by
  unfold maxLen at hl
  have S0 : Scan w eb rs e0 0 w := ⟨by simpa [firstE] using he, by simp, World.grownBy.refl _ _⟩
  go_enter Try.func24, Try.ntmps24
  go_wp2
  go_loopw [4, 13] (fun f i wr => RelScan w eb rs e0 f i wr) (fun _ i _ => rs.length - (intOf i).toNat)
  case atStart => exact ⟨0, Nat.zero_le _, rfl, rfl, S0⟩
  case round =>
    obtain ⟨k, hk, rfl, rfl, hS⟩ := hrel
    by_cases hlt : k < rs.length
    · have hRr := h.grown hS.grown hne
      obtain hx | ⟨b, o, rfl, hb, hc⟩ := hRr
      · simp [hx] at hlt
      obtain ⟨c0, c1, c2, c3, c4, c5⟩ := hc k rs[k] (by simp)
      have hlt' : (k : Int) < (rs.length : Int) := by omega
      have hal : Below wr.heap.size wr (wr.alloc (.cells #[.int .i64 rs[k].off, .int .u16 rs[k].ty, .int .u16 rs[k].cls, .int .u32 rs[k].ttl, .int .i64 rs[k].doff, .slice rs[k].da rs[k].dl rs[k].dc] 53)) := (Below.refl _ _).alloc (Nat.le_refl _) _
      have f1 := foundB_snoc rs k hlt
      have f2 := count_snoc rs k hlt
      have f3 := firstE_snoc rs k hlt e0
      have hmem : rs[k] ∈ rs := List.getElem_mem hlt
      cases hop : (rs[k].ty != 41) with
      | true =>
        have hno : isOpt rs[k] = false := by simp [isOpt] at hop ⊢; exact hop
        rw [hno] at f1 f2
        simp only [Bool.or_false, Bool.false_eq_true, if_false, Nat.add_zero] at f1 f2
        have S1 : Scan w eb rs e0 (k + 1) (wr.alloc (.cells #[.int .i64 rs[k].off, .int .u16 rs[k].ty, .int .u16 rs[k].cls, .int .u32 rs[k].ttl, .int .i64 rs[k].doff, .slice rs[k].da rs[k].dl rs[k].dc] 53)) := by
          refine ⟨?_, by rw [f2]; exact hS.few, grownBy_trans hS.grown (grownBy_below _ hal)⟩
          have ha := hS.at_.below hal hS.at_.lt
          rw [f3]
          cases hf : foundB (rs.take k) with
          | true => exact ha
          | false => rw [if_neg (by simp), firstE_one' _ _ hno]; rwa [firstE_none _ _ hf] at ha
        have F1 : Hid (foundB (rs.take (k + 1)) = foundB (rs.take k)) := f1
        clear f1 f2 f3
        go_wp2
        go_roundw
        case rel => exact ⟨k + 1, by omega, by go_num, by rw [F1.out], S1⟩
        case measure => simp [intOf]; omega
      | false =>
        have hyes : isOpt rs[k] = true := by simp [isOpt] at hop ⊢; exact hop
        rw [hyes] at f1 f2
        simp only [Bool.or_true, if_true] at f1 f2
        cases hf : foundB (rs.take k) with
        | true =>
          have hsv := several_at rs k hlt hf hyes
          have hfe := firstE_early rs k e0 hf
          have HH : Hid (severalB rs = true ∧ foundB rs = true ∧ firstE rs e0 = firstE (rs.take k) e0) := ⟨hsv.1, hsv.2, hfe⟩
          clear f1 f2 f3 hsv hfe
          go_wp2
          go_ret2
          obtain ⟨q1, q2, q3⟩ := HH.out
          refine ⟨by rw [q1, q2]; rfl, by rw [q3]; exact hS.at_.below hal hS.at_.lt, grownBy_trans hS.grown (grownBy_below _ hal)⟩
        | false =>
          rw [hf, if_neg (by simp), firstE_one _ _ hyes] at f3
          have hno1 : (rs.take k).countP isOpt = 0 := by simpa [foundB_count] using hf
          rw [hno1] at f2
          have HH : Hid (foundB (rs.take (k + 1)) = true ∧ (rs.take (k + 1)).countP isOpt = 0 + 1 ∧ firstE (rs.take (k + 1)) e0 = decE rs[k]) := ⟨f1, f2, f3⟩
          clear f1 f2 f3 hno1
          go_wp2_with fail
          refine (read1_any rs[k] _ (htt _ hmem).1 (htt _ hmem).2).mono ?_
          rintro e w2 ⟨rfl, hw2⟩
          have ha1 := hS.at_.below hal hS.at_.lt
          have ha2 := ha1.below hw2 ha1.lt
          have ht2 := ha2.there
          have S2 : Scan w eb rs e0 (k + 1) (w2.setCells eb 0 (decE rs[k]).vals) := by
            obtain ⟨q1, q2, q3⟩ := HH.out
            exact ⟨by rw [q3]; exact ha2.stored _, by omega, grownBy_trans (grownBy_trans hS.grown (grownBy_below _ (hal.trans (hw2.mono (by simp))))) (grownBy_setCells _ _ _ _)⟩
          clear ha1 ha2 c0 c1 c2 c3 c4 c5
          go_wp2_with ((with_reducible refine wpList_store_e (decE rs[k]) 33 Try.size33 (.tmp 24) (.tmp 23) eb ?_ ?_ ?_ ?_ ?_ ?_); rfl; rfl; rfl; rfl; exact ht2)
          go_roundw
          case rel => exact ⟨k + 1, by omega, by go_num, by rw [HH.out.1], S2⟩
          case measure => simp [intOf]; omega
    · obtain rfl : k = rs.length := by omega
      have q := hS.few
      have qa := hS.at_
      rw [List.take_of_length_le (Nat.le_refl _)] at q qa
      have HH : Hid (severalB rs = false) := several_few rs q
      clear q
      go_wp2
      go_ret2
      refine ⟨?_, qa, hS.grown⟩
      rw [HH.out]
      simp
end Go.Proofs.Qxb6618124a
