import Derived.Test.Qxb6618124aW4
namespace Go.Proofs.Qxb6618124a
open Go.RowKit

theorem rrs_any (ao : Option Addr) (rs : List Rc) (cap : Nat) (w : World) (h : Recs w ao rs) (hn : ao = none → rs = [] ∧ cap = 0) (hl : rs.length ≤ 1048577) :
    Calls Try.prog 15 #[.slice ao rs.length cap] w
      fun e w' => ∃ ao' : Option Addr, e = .returned (.slice ao' rs.length rs.length) ∧ Recs w' ao' rs ∧ (∀ a, ao' = some a → w.heap.size ≤ a.block) ∧ Below w.heap.size w w' := by
  cases ao with
  | none =>
    obtain ⟨rfl, rfl⟩ := hn rfl
    refine (rrs_nil w).mono ?_
    rintro e w' ⟨rfl, rfl⟩
    exact ⟨none, rfl, .inl rfl, (fun a h => by cases h), Below.refl _ _⟩
  | some a =>
    refine (rrs_some a rs cap w h hl).mono ?_
    rintro e w' ⟨rfl, hr, hb⟩
    exact ⟨some ⟨w.heap.size, 0, none⟩, rfl, hr, (fun x hx => by cases hx; exact Nat.le_refl _), hb⟩

set_option maxHeartbeats 400000 in
theorem zread_any (ao : Option Addr) (rs : List Rc) (cap mb eb : Nat) (e0 : E4) (w : World) (h : Recs w ao rs) (hl : rs.length ≤ maxLen) (hne : ∀ a, ao = some a → rs ≠ [] → a.block ≠ eb) (htt : Ttls rs)
    (hm : w.cell? ⟨mb, 9, none⟩ = some (.slice ao rs.length cap)) (he : AtE w eb e0) :
    Calls Try.prog 10 #[.pointer (some ⟨mb, 0, none⟩), .pointer (some ⟨eb, 0, none⟩)] w
      fun e w' => e = .returned (.tuple #[.bool (foundB rs), .bool (severalB rs)]) ∧ AtE w' eb (firstE rs e0) ∧ w.grownBy w' (some eb) := by
  go_enter Try.func10, Try.ntmps10
  go_wp2_with fail
  refine (readE_any ao rs cap mb eb e0 _ h hl hne htt hm he).mono ?_
  rintro e w2 ⟨rfl, ha, hg⟩
  go_wp2
  go_ret2
  exact ⟨rfl, ha, hg⟩

theorem AtE.grown {w w' : World} {row b : Nat} {e : E4} (h : AtE w b e) (hw : w.grownBy w' (some row)) (hne : b ≠ row) : AtE w' b e := by
  have hb : w'.heap[b]? = w.heap[b]? := hw.block b h.lt (by simpa using hne)
  have kc : ∀ j, w'.cell? ⟨b, j, none⟩ = w.cell? ⟨b, j, none⟩ := fun j => World.cell?_of_block (a := ⟨b, j, none⟩) hb
  have kf : ∀ j, w'.frozen? ⟨b, j, none⟩ = w.frozen? ⟨b, j, none⟩ := fun j => World.frozen?_of_block (a := ⟨b, j, none⟩) hb
  exact ⟨(kc _).trans h.c0, (kc _).trans h.c1, (kc _).trans h.c2, (kc _).trans h.c3, fun j => (kf j).trans (h.fr j)⟩

theorem below_grown {a b : World} {B row : Nat} (h : a.grownBy b (some row)) (hB : B ≤ a.heap.size) (hr : B ≤ row) : Below B a b := (Below.refl _ _).grown h hB (fun k hk => by cases hk; exact hr)

/-! The plain law of the first statement. -/
def ins (rs : List Rc) (K : Nat) (x : Rc) : List Rc := rs.take K ++ x :: rs.drop K

theorem count_ins (rs : List Rc) (K : Nat) (x : Rc) : (ins rs K x).countP isOpt = rs.countP isOpt + if isOpt x then 1 else 0 := by
  have h3 : rs.countP isOpt = (rs.take K).countP isOpt + (rs.drop K).countP isOpt := by rw [← List.countP_append, List.take_append_drop]
  simp only [ins, List.countP_append, List.countP_cons]
  omega

theorem found_ins_no (rs : List Rc) (K : Nat) (x : Rc) (h : isOpt x = false) (e : E4) : foundB (ins rs K x) = foundB rs ∧ severalB (ins rs K x) = severalB rs ∧ firstE (ins rs K x) e = firstE rs e := by
  have hc := count_ins rs K x
  rw [h] at hc
  simp only [Bool.false_eq_true, if_false, Nat.add_zero] at hc
  refine ⟨by rw [foundB_count, foundB_count, hc], by unfold severalB; rw [hc], ?_⟩
  have e1 := firstE_append (rs.take K) (rs.drop K) e
  rw [List.take_append_drop] at e1
  have e2 := firstE_append (rs.take K) (x :: rs.drop K) e
  have e3 : firstE (x :: rs.drop K) e = firstE (rs.drop K) e := by
    have := firstE_append [x] (rs.drop K) e
    simpa [foundB, h] using this
  unfold ins
  rw [e2, e3, e1]

/-- the index of the first OPT record, or -1 -/
def firstI (rs : List Rc) : Int := if foundB rs then (rs.findIdx isOpt : Int) else -1

theorem found_ins_yes (rs : List Rc) (K : Nat) (x : Rc) (h : isOpt x = true) : foundB (ins rs K x) = true ∧ severalB (ins rs K x) = foundB rs := by
  have hc := count_ins rs K x
  rw [h] at hc
  simp only [if_true] at hc
  refine ⟨by rw [foundB_count, hc]; simp, by unfold severalB; rw [hc, foundB_count]; congr 1; simp⟩

theorem first_ins_yes (rs : List Rc) (K : Nat) (x : Rc) (h : isOpt x = true) (e : E4) : firstE (ins rs K x) e = if foundB (rs.take K) then firstE rs e else decE x := by
  have e2 := firstE_append (rs.take K) (x :: rs.drop K) e
  unfold ins
  rw [e2]
  by_cases hf : foundB (rs.take K) = true
  · rw [if_pos hf, if_pos hf, firstE_early rs K e hf]
  · rw [if_neg hf, if_neg hf]
    have := firstE_append [x] (rs.drop K) e
    simpa [foundB, h, firstE_one] using this

theorem found_take (rs : List Rc) (K : Nat) (j : Nat) (hj : j < rs.length) (hno : foundB (rs.take j) = false) (hyes : isOpt rs[j] = true) : foundB (rs.take K) = decide (j < K) := by
  rw [Bool.eq_iff_iff]
  simp only [foundB, List.any_eq_true, decide_eq_true_eq]
  constructor
  · rintro ⟨r, hr, hro⟩
    by_cases hlt : j < K
    · exact hlt
    · exfalso
      have hsub : rs.take K = (rs.take j).take K := by rw [List.take_take]; congr 1; omega
      rw [hsub] at hr
      have := List.mem_of_mem_take hr
      have hall : ∀ r ∈ rs.take j, isOpt r = false := by simpa [foundB] using hno
      rw [hall r this] at hro
      cases hro
  · intro hlt
    refine ⟨rs[j], ?_, hyes⟩
    rw [List.mem_take_iff_getElem]
    exact ⟨j, by omega, rfl⟩
end Go.Proofs.Qxb6618124a
