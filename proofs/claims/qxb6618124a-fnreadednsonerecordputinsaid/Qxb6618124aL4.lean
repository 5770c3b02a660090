import Derived.Test.Qxb6618124aW5
namespace Go.Proofs.Qxb6618124a
open Go.RowKit

theorem AtE.grown {w w' : World} {row b : Nat} {e : E4} (h : AtE w b e) (hw : w.grownBy w' (some row)) (hne : b ≠ row) : AtE w' b e := by
  have hb : w'.heap[b]? = w.heap[b]? := hw.block b h.lt (by simpa using hne)
  have kc : ∀ j, w'.cell? ⟨b, j, none⟩ = w.cell? ⟨b, j, none⟩ := fun j => World.cell?_of_block (a := ⟨b, j, none⟩) hb
  have kf : ∀ j, w'.frozen? ⟨b, j, none⟩ = w.frozen? ⟨b, j, none⟩ := fun j => World.frozen?_of_block (a := ⟨b, j, none⟩) hb
  exact ⟨(kc _).trans h.c0, (kc _).trans h.c1, (kc _).trans h.c2, (kc _).trans h.c3, fun j => (kf j).trans (h.fr j)⟩

theorem below_grown {a b : World} {B row : Nat} (h : a.grownBy b (some row)) (hB : B ≤ a.heap.size) (hr : B ≤ row) : Below B a b := (Below.refl _ _).grown h hB (fun k hk => by cases hk; exact hr)

/-- The loop that looks for the first OPT record. -/
def RelF (rs : List Rc) (f i : Value) : Prop := ∃ (j : Nat) (F : Int), j ≤ rs.length ∧ i = .int .i64 j ∧ f = .int .i64 F ∧
  ((F = -1 ∧ foundB (rs.take j) = false) ∨ ∃ (m : Nat) (hm : m < rs.length), F = m ∧ isOpt rs[m] = true ∧ foundB (rs.take m) = false)

theorem Ttls.ins {rs : List Rc} (h : Ttls rs) (K : Nat) (x : Rc) (hx : 0 ≤ x.ttl ∧ x.ttl < 4294967296) : Ttls (rs.take K ++ x :: rs.drop K) := by
  intro r hr
  simp only [List.mem_append, List.mem_cons] at hr
  rcases hr with hr | rfl | hr
  · exact h r (List.mem_of_mem_take hr)
  · exact hx
  · exact h r (List.mem_of_mem_drop hr)

theorem found_sub (rs : List Rc) (K : Nat) (h : foundB rs = false) : foundB (rs.take K) = false := by
  have : ∀ r ∈ rs, isOpt r = false := by simpa [foundB] using h
  simpa [foundB] using fun r hr => this r (List.mem_of_mem_take hr)

/-- What stands all along the law's walk. -/
structure St (w0 : World) (ao : Option Addr) (rs : List Rc) (x : Rc) (e0 : E4) (wr : World) : Prop where
  bel : Below w0.heap.size w0 wr
  sz : w0.heap.size + 2 ≤ wr.heap.size
  recs : Recs wr ao rs
  xat : At6 wr w0.heap.size 0 x
  eat : AtE wr (w0.heap.size + 1) e0

theorem St.step {w0 : World} {ao : Option Addr} {rs : List Rc} {x : Rc} {e0 : E4} {wr w' : World} (h : St w0 ao rs x e0 wr) (hao : ∀ a, ao = some a → rs ≠ [] → a.block < w0.heap.size) (hw : Below (w0.heap.size + 2) wr w') : St w0 ao rs x e0 w' :=
  ⟨h.bel.trans (hw.mono (by omega)), by have := hw.size; have := h.sz; omega, h.recs.below hw (fun a ha hne => by have := hao a ha hne; omega), h.xat.below hw (by omega), h.eat.below hw (by omega)⟩

theorem St.full {w0 : World} {ao : Option Addr} {rs : List Rc} {x : Rc} {e0 : E4} {wr w' : World} (h : St w0 ao rs x e0 wr) (hao : ∀ a, ao = some a → rs ≠ [] → a.block < w0.heap.size) (hw : Below wr.heap.size wr w') : St w0 ao rs x e0 w' :=
  h.step hao (hw.mono h.sz)

set_option maxHeartbeats 1000000 in
theorem law4 (ao : Option Addr) (rs : List Rc) (cap : Nat) (k : Int) (x : Rc) (e0 : E4) (w : World) (h : Recs w ao rs) (hl : rs.length ≤ maxLen) (hn : ao = none → rs = [] ∧ cap = 0) (htt : Ttls rs) (hx0 : 0 ≤ x.ttl) (hx1 : x.ttl < 4294967296) :
    Calls Try.prog 4 #[.slice ao rs.length cap, .int .i64 k, .agg #[.int .i64 x.off, .int .u16 x.ty, .int .u16 x.cls, .int .u32 x.ttl, .int .i64 x.doff, .slice x.da x.dl x.dc], .agg #[.int .u16 e0.a0, .int .u8 e0.a1, .int .u8 e0.a2, .int .u16 e0.a3]] w
      fun e w' => e = .returned (.bool true) ∧ Below w.heap.size w w' := by
  have hao := h.block
  go_enter Try.func4, Try.ntmps4
  go_wp2_with fail
  obtain ⟨wb, hwb⟩ : ∃ wb, wb = (w.alloc (.cells #[.int .i64 x.off, .int .u16 x.ty, .int .u16 x.cls, .int .u32 x.ttl, .int .i64 x.doff, .slice x.da x.dl x.dc] 40)).alloc (.cells #[.int .u16 e0.a0, .int .u8 e0.a1, .int .u8 e0.a2, .int .u16 e0.a3] 28) := ⟨_, rfl⟩
  rw [← hwb]
  have hsb : St w ao rs x e0 wb := by
    rw [hwb]
    exact ⟨((Below.refl _ _).alloc (Nat.le_refl _) _).alloc (by simp) _, by simp, (h.alloc _).alloc _, by constructor <;> simp, by constructor <;> simp⟩
  clear hwb
  refine (bytes_one ao rs cap k x e0.a0 e0.a1 e0.a2 e0.a3 wb hsb.recs hl).mono ?_
  rintro e w1 ⟨⟨b, rfl⟩, hb1⟩
  have hs1 := hsb.full hao hb1
  clear hb1 hsb
  cases b with
  | false =>
    go_wp2
    go_ret
    exact ⟨rfl, hs1.bel⟩
  | true =>
    go_wp2_with fail
    refine (rec_bytes 0 ao rs cap _ hs1.recs hl (by omega) (by omega)).mono ?_
    rintro e w2 ⟨rfl, z, rfl, hz1, hz2, hz3⟩
    obtain ⟨c0, c1, c2, c3, c4, c5⟩ := hs1.xat
    simp only [Nat.zero_add] at c1 c2 c3 c4 c5
    by_cases cz : 1048576 < z
    · go_wp2
      go_ret
      exact ⟨rfl, hs1.bel⟩
    by_cases cx : 1048576 - z < (x.dl : Int)
    · go_wp2
      go_ret
      exact ⟨rfl, hs1.bel⟩
    by_cases ck : k < 0
    · go_wp2
      go_ret
      exact ⟨rfl, hs1.bel⟩
    by_cases ck2 : (rs.length : Int) < k
    · go_wp2
      go_ret
      exact ⟨rfl, hs1.bel⟩
    obtain ⟨K, rfl⟩ := Int.eq_ofNat_of_zero_le (show 0 ≤ k by omega)
    have hlen : rs.length ≤ 1048576 := by omega
    go_wp2_with fail
    refine (insert_any ao rs cap K x _ hs1.recs hlen (by omega)).mono ?_
    rintro e w3 ⟨rfl, hR3, hb3⟩
    have hs3 := hs1.full hao hb3
    have hg3 : w.heap.size + 2 ≤ w2.heap.size := hs1.sz
    have hi3 : w2.heap.size + 1 < w3.heap.size := by
      rcases hR3 with hR3 | ⟨b, o, hbo, hlt, _⟩
      · simp at hR3
      · cases hbo; exact hlt
    clear c0 c1 c2 c3 c4 c5 hb3
    obtain ⟨d0, d1, d2, d3, _⟩ := hs3.eat
    go_wp2_with fail
    obtain ⟨w4, hw4⟩ : ∃ w4, w4 = (w3.alloc (.cells #[.int .u16 e0.a0, .int .u8 e0.a1, .int .u8 e0.a2, .int .u16 e0.a3] 33)).alloc (.cells #[.int .u16 e0.a0, .int .u8 e0.a1, .int .u8 e0.a2, .int .u16 e0.a3] 33) := ⟨_, rfl⟩
    rw [← hw4]
    have hb4 : Below w3.heap.size w3 w4 := by rw [hw4]; exact ((Below.refl _ _).alloc (Nat.le_refl _) _).alloc (by simp) _
    have hz4 : w4.heap.size = w3.heap.size + 2 := by rw [hw4]; simp
    have ha4 : AtE w4 w3.heap.size e0 := by rw [hw4]; constructor <;> simp
    have hc4 : AtE w4 (w3.heap.size + 1) e0 := by rw [hw4]; constructor <;> simp
    have hs4 := hs3.full hao hb4
    have hR4 : Recs w4 (some ⟨w2.heap.size + 1, 0, none⟩) (rs.take K ++ x :: rs.drop K) := hR3.below hb4 (fun a ha _ => by cases ha; exact hi3)
    clear hw4 d0 d1 d2 d3 hb4 hR3
    have Hz4 : Hid (w4.heap.size = w3.heap.size + 2) := hz4
    clear hz4
    refine (rrs_any ao rs cap w4 hs4.recs hn (by omega)).mono ?_
    rintro e w5 ⟨ao5, rfl, hR5, hne5, hb5⟩
    go_wp2_with fail
    obtain ⟨w6, hw6⟩ : ∃ w6, w6 = w5.alloc (.cells #[.int .u16 0, .int .u16 0, .int .u16 0, .int .u16 0, .int .u16 0, .int .u16 0, .slice none 0 0, .slice none 0 0, .slice none 0 0, .slice ao5 rs.length rs.length] 50) := ⟨_, rfl⟩
    rw [← hw6]
    have hR6 : Recs w6 ao5 rs := by rw [hw6]; exact hR5.alloc _
    have hm6 : w6.cell? ⟨w5.heap.size, 9, none⟩ = some (.slice ao5 rs.length rs.length) := by rw [hw6]; simp
    have hb6 : Below w4.heap.size w4 w6 := by rw [hw6]; exact hb5.alloc hb5.size _
    clear hw6 hb5 hR5
    have ha6 := ha4.below hb6 ha4.lt
    have hc6 := hc4.below hb6 hc4.lt
    have hs6 := hs4.full hao hb6
    have hR6' := hR4.below hb6 (fun a ha _ => by cases ha; have := Hz4.out; show w2.heap.size + 1 < _; omega)
    refine (zread_any ao5 rs rs.length w5.heap.size w3.heap.size e0 w6 hR6 hl (fun a ha => by have := hne5 a ha; have := Hz4.out; omega) htt hm6 ha6).mono ?_
    rintro e w7 ⟨rfl, ha7, hg7⟩
    have hc7 := hc6.grown hg7 (by omega)
    have hs7 := hs6.step hao (below_grown hg7 hs6.sz (by omega))
    have hR7 := hR6'.grown hg7 (fun a ha => by cases ha; show w2.heap.size + 1 ≠ _; omega)
    have hz7 : w3.heap.size + 2 ≤ w7.heap.size := by have := hg7.size; have := hb6.size; have := Hz4.out; omega
    clear hg7 hm6 ha6 hc6 hR6 hR6' hb6 hs6 hs4 hs3 hR4 ha4 hc4 hne5 Hz4
    have hil : (rs.take K ++ x :: rs.drop K).length = rs.length + 1 := by simp; omega
    have C15 := rrs_any (some ⟨w2.heap.size + 1, 0, none⟩) (rs.take K ++ x :: rs.drop K) (rs.length + 1) w7 hR7 (fun hh => by cases hh) (by omega)
    rw [hil] at C15
    have H15 : Hid (Calls Try.prog 15 #[.slice (some ⟨w2.heap.size + 1, 0, none⟩) (rs.length + 1) (rs.length + 1)] w7
      fun e w' => ∃ ao' : Option Addr, e = .returned (.slice ao' (rs.length + 1) (rs.length + 1)) ∧ Recs w' ao' (rs.take K ++ x :: rs.drop K) ∧ (∀ a, ao' = some a → w7.heap.size ≤ a.block) ∧ Below w7.heap.size w7 w') := C15
    have Hil : Hid ((rs.take K ++ x :: rs.drop K).length = rs.length + 1) := hil
    clear C15 hil
    go_wp2_with fail
    refine H15.out.mono ?_
    rintro e w8 ⟨ao8, rfl, hR8, hne8, hb8⟩
    clear H15
    go_wp2_with fail
    obtain ⟨w9, hw9⟩ : ∃ w9, w9 = w8.alloc (.cells #[.int .u16 0, .int .u16 0, .int .u16 0, .int .u16 0, .int .u16 0, .int .u16 0, .slice none 0 0, .slice none 0 0, .slice none 0 0, .slice ao8 (rs.length + 1) (rs.length + 1)] 50) := ⟨_, rfl⟩
    rw [← hw9]
    have hR9 : Recs w9 ao8 (rs.take K ++ x :: rs.drop K) := by rw [hw9]; exact hR8.alloc _
    have hm9 : w9.cell? ⟨w8.heap.size, 9, none⟩ = some (.slice ao8 (rs.take K ++ x :: rs.drop K).length (rs.length + 1)) := by rw [hw9, Hil.out]; simp
    have hb9 : Below w7.heap.size w7 w9 := by rw [hw9]; exact hb8.alloc hb8.size _
    clear hw9 hb8 hR8 hR7
    have ha9 := ha7.below hb9 ha7.lt
    have hc9 := hc7.below hb9 hc7.lt
    have hs9 := hs7.full hao hb9
    refine (zread_any ao8 (rs.take K ++ x :: rs.drop K) (rs.length + 1) w8.heap.size (w3.heap.size + 1) e0 w9 hR9 (by rw [Hil.out]; unfold maxLen; omega) (fun a ha => by have := hne8 a ha; omega) (htt.ins K x ⟨hx0, hx1⟩) hm9 hc9).mono ?_
    rintro e w10 ⟨rfl, hc10, hg10⟩
    have ha10 := ha9.grown hg10 (by omega)
    have hs10 := hs9.step hao (below_grown hg10 hs9.sz (by omega))
    have hz10 : w3.heap.size + 2 ≤ w10.heap.size := by have := hg10.size; have := hb9.size; omega
    clear hg10 hm9 ha9 hc9 hR9 hb9 hs9 hs7 ha7 hc7 hne8 Hil hz7
    obtain ⟨c0, c1, c2, c3, c4, c5⟩ := hs10.xat
    simp only [Nat.zero_add] at c1 c2 c3 c4 c5
    cases hox : isOpt x with
    | false =>
      obtain ⟨q1, q2, q3⟩ := found_ins_no rs K x hox e0
      unfold ins at q1 q2 q3
      rw [q1, q2]
      rw [q3] at hc10
      clear q1 q2 q3
      have hty : (x.ty != 41) = true := by simp [isOpt] at hox; simpa using hox
      obtain ⟨f0, f1, f2, f3, _⟩ := ha10
      obtain ⟨g0, g1, g2, g3, _⟩ := hc10
      go_wp2
      go_ret
      exact ⟨rfl, hs10.bel⟩
    | true =>
      obtain ⟨q1, q2⟩ := found_ins_yes rs K x hox
      have q3 := first_ins_yes rs K x hox e0
      unfold ins at q1 q2 q3
      rw [q1, q2]
      rw [q3] at hc10
      clear q1 q2 q3
      have hty : (x.ty != 41) = false := by simp [isOpt] at hox; simpa using hox
      go_wp2
      go_loop [17, 18] (fun f i => RelF rs f i) (fun _ i => rs.length - (intOf i).toNat)
      case atStart => exact ⟨0, -1, Nat.zero_le _, rfl, rfl, .inl ⟨rfl, by simp [foundB]⟩⟩
      case round =>
        obtain ⟨j, F, hj, rfl, rfl, hF⟩ := hrel
        by_cases hgo : j < rs.length ∧ F < 0
        · obtain ⟨hlt, hF0⟩ := hgo
          have hno : F = -1 ∧ foundB (rs.take j) = false := by
            rcases hF with h | ⟨m, hm, h, _⟩
            · exact h
            · omega
          obtain ⟨hFe, hno⟩ := hno
          subst hFe
          have Hno : Hid (foundB (rs.take j) = false) := hno
          clear hno hF
          obtain h | ⟨b, o, rfl, hb, hc⟩ := hs10.recs
          · simp [h] at hlt
          have h61 := (hc j rs[j] (by simp)).c1
          have hlt' : (j : Int) < (rs.length : Int) := by omega
          cases hop : (rs[j].ty == 41) with
          | true =>
            go_wp2
            go_round
            case rel => exact ⟨j + 1, j, by omega, by go_num, rfl, .inr ⟨j, hlt, rfl, hop, Hno.out⟩⟩
            case measure => simp [intOf]; omega
          | false =>
            have hF1 : Hid (foundB (rs.take (j + 1)) = false) := by
              have := foundB_snoc rs j hlt
              rw [Hno.out] at this
              have h2 : isOpt rs[j] = false := hop
              rw [h2] at this
              exact this
            go_wp2
            go_round
            case rel => exact ⟨j + 1, -1, by omega, by go_num, rfl, .inl ⟨rfl, hF1.out⟩⟩
            case measure => simp [intOf]; omega
        · have hFb : -1 ≤ F ∧ F ≤ 1048576 := by
            rcases hF with ⟨h, _⟩ | ⟨m, hm, h, _⟩ <;> omega
          have hdec : foundB (rs.take K) = decide (0 ≤ F ∧ F < (K : Int)) := by
            rcases hF with ⟨h, hno⟩ | ⟨m, hm, h, hy, hno⟩
            · have : j = rs.length := by
                by_cases hjl : j < rs.length
                · exact absurd ⟨hjl, by omega⟩ hgo
                · omega
              subst this
              rw [List.take_of_length_le (Nat.le_refl _)] at hno
              rw [found_sub rs K hno, h]; simp
            · subst h
              rw [found_take rs K m hm hno hy]
              simp
          rw [hdec] at hc10
          have hex : (j < rs.length ∧ ¬ F < 0) ∨ ¬ j < rs.length := by
            by_cases hjl : j < rs.length
            · exact .inl ⟨hjl, fun h => hgo ⟨hjl, h⟩⟩
            · exact .inr hjl
          clear hF hgo hdec
          by_cases hK1 : 0 ≤ F ∧ F < (K : Int)
          · obtain ⟨hK2, hK3⟩ := hK1
            rw [if_pos (by simp [hK2, hK3])] at hc10
            rcases hex with ⟨hj1, hj2⟩ | hj1
            all_goals
              go_wp2_with fail
              refine (decode_any x.cls x.ttl _ hx0 hx1).mono ?_
              rintro e w11 ⟨rfl, hb11⟩
              obtain ⟨f0, f1, f2, f3, _⟩ := ha10.below hb11 ha10.lt
              obtain ⟨g0, g1, g2, g3, _⟩ := hc10.below hb11 hc10.lt
              have hz11 : w3.heap.size + 1 < w11.heap.size := by have := hb11.size; omega
              have hz12 : w3.heap.size < w11.heap.size := by omega
              have hs11 := hs10.full hao hb11
              clear c0 c1 c2 c3 c4 c5
              go_wp2
              go_ret
              exact ⟨rfl, hs11.bel.alloc (by have := hs11.sz; omega) _⟩
          · rw [if_neg (by simpa using hK1)] at hc10
            unfold decE at hc10
            by_cases hK2 : 0 ≤ F
            · have hK3 : ¬ F < (K : Int) := fun hh => hK1 ⟨hK2, hh⟩
              rcases hex with ⟨hj1, hj2⟩ | hj1
              all_goals
                go_wp2_with fail
                refine (decode_any x.cls x.ttl _ hx0 hx1).mono ?_
                rintro e w11 ⟨rfl, hb11⟩
                obtain ⟨f0, f1, f2, f3, _⟩ := ha10.below hb11 ha10.lt
                obtain ⟨g0, g1, g2, g3, _⟩ := hc10.below hb11 hc10.lt
                have hz11 : w3.heap.size + 1 < w11.heap.size := by have := hb11.size; omega
                have hz12 : w3.heap.size < w11.heap.size := by omega
                have hs11 := hs10.full hao hb11
                clear c0 c1 c2 c3 c4 c5
                go_wp2
                go_ret
                exact ⟨rfl, hs11.bel.alloc (by have := hs11.sz; omega) _⟩
            · clear hK1
              rcases hex with ⟨hj1, hj2⟩ | hj1
              · omega
              ·
                go_wp2_with fail
                refine (decode_any x.cls x.ttl _ hx0 hx1).mono ?_
                rintro e w11 ⟨rfl, hb11⟩
                obtain ⟨f0, f1, f2, f3, _⟩ := ha10.below hb11 ha10.lt
                obtain ⟨g0, g1, g2, g3, _⟩ := hc10.below hb11 hc10.lt
                have hz11 : w3.heap.size + 1 < w11.heap.size := by have := hb11.size; omega
                have hz12 : w3.heap.size < w11.heap.size := by omega
                have hs11 := hs10.full hao hb11
                clear c0 c1 c2 c3 c4 c5
                go_wp2
                go_ret
                exact ⟨rfl, hs11.bel.alloc (by have := hs11.sz; omega) _⟩
end Go.Proofs.Qxb6618124a
