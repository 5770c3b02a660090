import Derived.Test.Qxb6618170aW2
namespace Go.Proofs.Qxb6618170a
open Go.RowKit

def RelD (i a : Nat) (x : Value) : Prop := ∃ k : Nat, i ≤ k ∧ k ≤ i + a ∧ x = .int .i64 k

theorem GathC.step {wb : World} {B : Nat} {t : TypeId} {M : List C4} {v v' : Value} {wr w2 : World} {o o2 : Obj} {c : C4} (h : GathC wb B t M v wr) (hB : B ≤ wr.heap.size)
    (hown : w2.ownsRow B t 4 v' (M.length + 1) (flatC M ++ c.vals)) (hgr : ((wr.alloc o).alloc o2).grownBy w2 v.ownBlock) : GathC wb B t (M ++ [c]) v' w2 :=
  ⟨by rw [flatC_append]; simpa [flatC] using hown, ((h.bel.alloc hB o).alloc (by simp; omega) o2).grown hgr (by simp; omega) (fun k hk => (h.own.lt k hk).1)⟩

theorem _root_.Go.World.ownsRow.mono' {w : World} {base base' : Nat} {e : TypeId} {size : Nat} {v : Value} {n : Nat} {xs : List Value} (h : w.ownsRow base e size v n xs) (hb : base' ≤ base) : w.ownsRow base' e size v n xs := by
  refine ⟨h.1, ?_⟩
  rcases h.2 with h | ⟨g, cap, cur, h1, h2, h3⟩
  · exact .inl h
  · exact .inr ⟨g, cap, cur, h1, by omega, h3⟩

theorem newC2 (w : World) (o : Obj) (c : C4) (e : TypeId) : ∀ j u, c.vals[j]? = some u → ((w.alloc o).alloc (.cells #[.int .i64 (c.a : Nat), .int .i64 (c.b : Nat), .int .i64 (c.c : Nat), .int .i64 (c.d : Nat)] e)).cell? ((⟨w.heap.size + 1, 0, none⟩ : Addr).add j) = some u := by
  have := newC (w.alloc o) c e
  rwa [show (w.alloc o).heap.size = w.heap.size + 1 by simp] at this

def ChEnd (w w' : World) (D I : List Bool) (e : Ending) : Prop := ∃ v, e = .returned v ∧ GathC w w.heap.size 37 (nz 0 0 (runs D) (runs I)) v w'

set_option maxRecDepth 100000 in
set_option maxHeartbeats 2000000 in
theorem changesOf_any (ao bo : Option Addr) (D I : List Bool) (ac bc : Nat) (w : World) (hD : Bools w ao D) (hI : Bools w bo I) (lD : D.length ≤ 262144) (lI : I.length ≤ 262144) (hk : kept D = kept I) :
    Calls Try.prog 14 #[.agg #[.slice ao D.length ac, .slice bo I.length bc]] w fun e w' => ChEnd w w' D I e := by
  obtain ⟨i0, hi, hz0, hz1, hz2⟩ := info_parts Try.info37
  obtain ⟨wb, hwb⟩ : ∃ wb, wb = w.alloc (.cells #[.slice ao D.length ac, .slice bo I.length bc] 35) := ⟨_, rfl⟩
  have hbb : Below w.heap.size w wb := by rw [hwb]; exact (Below.refl _ _).alloc (Nat.le_refl _) _
  have hzb : wb.heap.size = w.heap.size + 1 := by rw [hwb]; simp
  have b0 : wb.cell? ⟨w.heap.size, 0, none⟩ = some (.slice ao D.length ac) := by rw [hwb]; simp
  have b1 : wb.cell? ⟨w.heap.size, 1, none⟩ = some (.slice bo I.length bc) := by rw [hwb]; simp
  have hDb := hD.below hbb hD.block
  have hIb := hI.below hbb hI.block
  have Hzb : Hid (wb.heap.size = w.heap.size + 1) := hzb
  have Hwb : Hid (wb = w.alloc (.cells #[.slice ao D.length ac, .slice bo I.length bc] 35)) := hwb
  have S0 : St2 wb (w.heap.size + 1) D I 0 0 [] (.slice none 0 0) wb := ⟨Nat.zero_le _, Nat.zero_le _, ⟨World.ownsRow_nil _ _ _ _, Below.refl _ _⟩, by simp, by simpa using hk, by simp⟩
  have Hk : Hid (kept D = kept I) := hk
  clear hwb hzb hk
  go_enter Try.func14, Try.ntmps14
  go_wp2
  rw [← Hwb.out]
  go_loopw [3, 4, 5] (fun v i j wr => Rel2 wb (w.heap.size + 1) D I v i j wr) (fun _ i j _ => (D.length - (intOf i).toNat) + (I.length - (intOf j).toNat))
  case atStart => exact ⟨0, 0, [], rfl, rfl, S0⟩
  case round =>
    obtain ⟨x, y, M, rfl, rfl, hS⟩ := hrel
    have hx := hS.hi
    have hy := hS.hj
    have hfew := hS.few
    have hgr : w.heap.size + 1 ≤ wr.heap.size := by have := hS.g.bel.size; have := Hzb.out; omega
    have hgr' : w.heap.size < wr.heap.size := by omega
    have r0 := (hS.g.bel.cell (p := ⟨w.heap.size, 0, none⟩) (by show w.heap.size < _; omega)).trans b0
    have r1 := (hS.g.bel.cell (p := ⟨w.heap.size, 1, none⟩) (by show w.heap.size < _; omega)).trans b1
    have hDr := hDb.below hS.g.bel (fun a ha hne => by have := hDb.block a ha hne; have := Hzb.out; omega)
    have hIr := hIb.below hS.g.bel (fun a ha hne => by have := hIb.block a ha hne; have := Hzb.out; omega)
    by_cases h1 : x < D.length
    · obtain ⟨bD1, oD1, hao1, lD1, cD1⟩ := hDr.at_ h1
      have h1i : (x : Int) < (D.length : Int) := by omega
      by_cases h2 : y < I.length
      · obtain ⟨bI1, oI1, hbo1, lI1, cI1⟩ := hIr.at_ h2
        have h2i : (y : Int) < (I.length : Int) := by omega
        cases hd : D[x] with
        | false =>
          rw [hd] at cD1
          cases hn : I[y] with
          | false =>
            rw [hn] at cI1
            have hS2 := hS.both h1 h2 hd hn
            clear hd hn
            subst hao1 hbo1
            go_wp2
            go_roundw
            case rel => exact ⟨x + 1, y + 1, M, by go_num, by go_num, hS2⟩
            case measure => simp [intOf]; omega
          | true =>
            rw [hn] at cI1
            have hor : x < D.length ∨ y < I.length := .inl h1
            have hnb : ¬ (∃ (hi : x < D.length) (hj : y < I.length), D[x] = false ∧ I[y] = false) := by
              rintro ⟨_, _, _, h⟩
              rw [hn] at h; cases h
            clear hd hn
            subst hao1 hbo1
            obtain ⟨a, b, hpos, ha1, hb1, hA, hA', hB, hB', hnext⟩ := hS.change hor hnb
            have Hnext : Hid (∀ v' wr', GathC wb (w.heap.size + 1) 37 (M ++ [⟨x, x + a, y, y + b⟩]) v' wr' → St2 wb (w.heap.size + 1) D I (x + a) (y + b) (M ++ [⟨x, x + a, y, y + b⟩]) v' wr') := hnext
            clear hnext hnb hor
            go_wp2
            go_loop [4] (fun q => RelD x a q) (fun q => x + a - (intOf q).toNat)
            case atStart => exact ⟨x, Nat.le_refl _, by omega, rfl⟩
            case round =>
              obtain ⟨k, hk1, hk2, rfl⟩ := hrel
              by_cases hka : k < x + a
              · obtain ⟨hkD, hkv⟩ := hA k hk1 hka
                obtain ⟨bD, oD, eD, lD2, cD⟩ := hDr.at_ hkD
                cases eD
                rw [hkv] at cD
                have hki : (k : Int) < (D.length : Int) := by omega
                clear hA hA' hB hB' hkv
                go_wp2
                go_round
                case rel => exact ⟨k + 1, by omega, by omega, by go_num⟩
                case measure => simp [intOf]; omega
              · have hke : k = x + a := by omega
                have Hke : Hid (k = x + a) := hke
                have hstop : (∃ hkD : k < D.length, D[k] = false) ∨ ¬ k < D.length := by
                  by_cases h1 : k < D.length
                  · left; refine ⟨h1, ?_⟩; subst hke; exact hA' h1
                  · exact .inr h1
                have HB : Hid ((∀ k, y ≤ k → k < y + b → ∃ hk : k < I.length, I[k] = true) ∧ (∀ hk : y + b < I.length, I[y + b] = false)) := ⟨hB, hB'⟩
                clear hke hA hA' hB hB'
                have hcase : (∃ bD oD, (some ⟨bD1, oD1, none⟩ : Option Addr) = some ⟨bD, oD, none⟩ ∧ bD < wr.heap.size ∧ wr.cell? ⟨bD, oD + k, none⟩ = some (.bool false) ∧ (k : Int) < (D.length : Int)) ∨ ¬ (k : Int) < (D.length : Int) := by
                  rcases hstop with ⟨h1, h2⟩ | h1
                  · obtain ⟨bD, oD, e, l, c⟩ := hDr.at_ h1
                    rw [h2] at c
                    exact .inl ⟨bD, oD, e, l, c, by omega⟩
                  · exact .inr (by omega)
                clear hstop
                rcases hcase with ⟨bD, oD, eD, lD2, cD, hki⟩ | hki
                all_goals
                  try (cases eD)
                  go_wp2
                  go_loop [5] (fun q => RelD y b q) (fun q => y + b - (intOf q).toNat)
                  case atStart => exact ⟨y, Nat.le_refl _, by omega, rfl⟩
                  case round =>
                    obtain ⟨m, hm1, hm2, rfl⟩ := hrel
                    by_cases hmb : m < y + b
                    · obtain ⟨hmI, hmv⟩ := HB.out.1 m hm1 hmb
                      obtain ⟨bI, oI, eI, lI2, cI⟩ := hIr.at_ hmI
                      cases eI
                      rw [hmv] at cI
                      have hmi : (m : Int) < (I.length : Int) := by omega
                      clear hmv
                      go_wp2
                      go_round
                      case rel => exact ⟨m + 1, by omega, by omega, by go_num⟩
                      case measure => simp [intOf]; omega
                    · have hme : m = y + b := by omega
                      have Hme : Hid (m = y + b) := hme
                      have hcase : (∃ bI oI, (some ⟨bI1, oI1, none⟩ : Option Addr) = some ⟨bI, oI, none⟩ ∧ bI < wr.heap.size ∧ wr.cell? ⟨bI, oI + m, none⟩ = some (.bool false) ∧ (m : Int) < (I.length : Int)) ∨ ¬ (m : Int) < (I.length : Int) := by
                        by_cases h1 : m < I.length
                        · have h2 : I[m] = false := by subst hme; exact HB.out.2 h1
                          obtain ⟨bI, oI, e, l, c⟩ := hIr.at_ h1
                          rw [h2] at c
                          exact .inl ⟨bI, oI, e, l, c, by omega⟩
                        · exact .inr (by omega)
                      clear hme HB
                      rcases hcase with ⟨bI, oI, eI, lI2, cI, hmi⟩ | hmi
                      all_goals
                        try (cases eI)
                        go_wp2_with (at_builtin; refine wpList_append_own _ rfl (.tmp 86) (.tmp 88) 32 rfl (w.heap.size + 1) 37 i0 (.agg #[.int .i64 0, .int .i64 0, .int .i64 0, .int .i64 0]) 4 32 Try.underlying32 hi hz0 hz1 hz2 rfl (by decide) _ _ _ rfl ((hS.g.own.alloc _).alloc _) ⟨wr.heap.size + 1, 0, none⟩ 1 1 (C4.vals ⟨x, k, y, m⟩) rfl rfl (newC2 _ _ ⟨x, k, y, m⟩ _) (oneCellC _) (by unfold maxLen; omega) (by omega) (by simp; omega) ?_)
                        intro v' w2 hown2 hgrow2 _
                        have hG2 : GathC wb (w.heap.size + 1) 37 (M ++ [⟨x, k, y, m⟩]) v' w2 := hS.g.step hgr hown2 hgrow2
                        rw [Hke.out, Hme.out] at hG2
                        have hS2 := Hnext.out v' w2 hG2
                        rw [← Hke.out, ← Hme.out] at hS2
                        clear hown2 hgrow2 hG2
                        go_wp2
                        go_roundw
                        case rel => exact ⟨k, m, _, rfl, rfl, hS2⟩
                        case measure =>
                          have := Hke.out
                          have := Hme.out
                          simp [intOf]; omega
        | true =>
          rw [hd] at cD1
          have hor : x < D.length ∨ y < I.length := .inl h1
          have hnb : ¬ (∃ (hi : x < D.length) (hj : y < I.length), D[x] = false ∧ I[y] = false) := by
            rintro ⟨_, _, h, _⟩
            rw [hd] at h; cases h
          clear hd
          subst hao1 hbo1
          obtain ⟨a, b, hpos, ha1, hb1, hA, hA', hB, hB', hnext⟩ := hS.change hor hnb
          have Hnext : Hid (∀ v' wr', GathC wb (w.heap.size + 1) 37 (M ++ [⟨x, x + a, y, y + b⟩]) v' wr' → St2 wb (w.heap.size + 1) D I (x + a) (y + b) (M ++ [⟨x, x + a, y, y + b⟩]) v' wr') := hnext
          clear hnext hnb hor
          go_wp2
          go_loop [4] (fun q => RelD x a q) (fun q => x + a - (intOf q).toNat)
          case atStart => exact ⟨x, Nat.le_refl _, by omega, rfl⟩
          case round =>
            obtain ⟨k, hk1, hk2, rfl⟩ := hrel
            by_cases hka : k < x + a
            · obtain ⟨hkD, hkv⟩ := hA k hk1 hka
              obtain ⟨bD, oD, eD, lD2, cD⟩ := hDr.at_ hkD
              cases eD
              rw [hkv] at cD
              have hki : (k : Int) < (D.length : Int) := by omega
              clear hA hA' hB hB' hkv
              go_wp2
              go_round
              case rel => exact ⟨k + 1, by omega, by omega, by go_num⟩
              case measure => simp [intOf]; omega
            · have hke : k = x + a := by omega
              have Hke : Hid (k = x + a) := hke
              have hstop : (∃ hkD : k < D.length, D[k] = false) ∨ ¬ k < D.length := by
                by_cases h1 : k < D.length
                · left; refine ⟨h1, ?_⟩; subst hke; exact hA' h1
                · exact .inr h1
              have HB : Hid ((∀ k, y ≤ k → k < y + b → ∃ hk : k < I.length, I[k] = true) ∧ (∀ hk : y + b < I.length, I[y + b] = false)) := ⟨hB, hB'⟩
              clear hke hA hA' hB hB'
              have hcase : (∃ bD oD, (some ⟨bD1, oD1, none⟩ : Option Addr) = some ⟨bD, oD, none⟩ ∧ bD < wr.heap.size ∧ wr.cell? ⟨bD, oD + k, none⟩ = some (.bool false) ∧ (k : Int) < (D.length : Int)) ∨ ¬ (k : Int) < (D.length : Int) := by
                rcases hstop with ⟨h1, h2⟩ | h1
                · obtain ⟨bD, oD, e, l, c⟩ := hDr.at_ h1
                  rw [h2] at c
                  exact .inl ⟨bD, oD, e, l, c, by omega⟩
                · exact .inr (by omega)
              clear hstop
              rcases hcase with ⟨bD, oD, eD, lD2, cD, hki⟩ | hki
              all_goals
                try (cases eD)
                go_wp2
                go_loop [5] (fun q => RelD y b q) (fun q => y + b - (intOf q).toNat)
                case atStart => exact ⟨y, Nat.le_refl _, by omega, rfl⟩
                case round =>
                  obtain ⟨m, hm1, hm2, rfl⟩ := hrel
                  by_cases hmb : m < y + b
                  · obtain ⟨hmI, hmv⟩ := HB.out.1 m hm1 hmb
                    obtain ⟨bI, oI, eI, lI2, cI⟩ := hIr.at_ hmI
                    cases eI
                    rw [hmv] at cI
                    have hmi : (m : Int) < (I.length : Int) := by omega
                    clear hmv
                    go_wp2
                    go_round
                    case rel => exact ⟨m + 1, by omega, by omega, by go_num⟩
                    case measure => simp [intOf]; omega
                  · have hme : m = y + b := by omega
                    have Hme : Hid (m = y + b) := hme
                    have hcase : (∃ bI oI, (some ⟨bI1, oI1, none⟩ : Option Addr) = some ⟨bI, oI, none⟩ ∧ bI < wr.heap.size ∧ wr.cell? ⟨bI, oI + m, none⟩ = some (.bool false) ∧ (m : Int) < (I.length : Int)) ∨ ¬ (m : Int) < (I.length : Int) := by
                      by_cases h1 : m < I.length
                      · have h2 : I[m] = false := by subst hme; exact HB.out.2 h1
                        obtain ⟨bI, oI, e, l, c⟩ := hIr.at_ h1
                        rw [h2] at c
                        exact .inl ⟨bI, oI, e, l, c, by omega⟩
                      · exact .inr (by omega)
                    clear hme HB
                    rcases hcase with ⟨bI, oI, eI, lI2, cI, hmi⟩ | hmi
                    all_goals
                      try (cases eI)
                      go_wp2_with (at_builtin; refine wpList_append_own _ rfl (.tmp 86) (.tmp 88) 32 rfl (w.heap.size + 1) 37 i0 (.agg #[.int .i64 0, .int .i64 0, .int .i64 0, .int .i64 0]) 4 32 Try.underlying32 hi hz0 hz1 hz2 rfl (by decide) _ _ _ rfl ((hS.g.own.alloc _).alloc _) ⟨wr.heap.size + 1, 0, none⟩ 1 1 (C4.vals ⟨x, k, y, m⟩) rfl rfl (newC2 _ _ ⟨x, k, y, m⟩ _) (oneCellC _) (by unfold maxLen; omega) (by omega) (by simp; omega) ?_)
                      intro v' w2 hown2 hgrow2 _
                      have hG2 : GathC wb (w.heap.size + 1) 37 (M ++ [⟨x, k, y, m⟩]) v' w2 := hS.g.step hgr hown2 hgrow2
                      rw [Hke.out, Hme.out] at hG2
                      have hS2 := Hnext.out v' w2 hG2
                      rw [← Hke.out, ← Hme.out] at hS2
                      clear hown2 hgrow2 hG2
                      go_wp2
                      go_roundw
                      case rel => exact ⟨k, m, _, rfl, rfl, hS2⟩
                      case measure =>
                        have := Hke.out
                        have := Hme.out
                        simp [intOf]; omega
      · have h2i : ¬ (y : Int) < (I.length : Int) := by omega
        have hor : x < D.length ∨ y < I.length := .inl h1
        have hnb : ¬ (∃ (hi : x < D.length) (hj : y < I.length), D[x] = false ∧ I[y] = false) := by
          rintro ⟨_, h, _⟩
          exact h2 h
        subst hao1
        obtain ⟨a, b, hpos, ha1, hb1, hA, hA', hB, hB', hnext⟩ := hS.change hor hnb
        have Hnext : Hid (∀ v' wr', GathC wb (w.heap.size + 1) 37 (M ++ [⟨x, x + a, y, y + b⟩]) v' wr' → St2 wb (w.heap.size + 1) D I (x + a) (y + b) (M ++ [⟨x, x + a, y, y + b⟩]) v' wr') := hnext
        clear hnext hnb hor
        go_wp2
        go_loop [4] (fun q => RelD x a q) (fun q => x + a - (intOf q).toNat)
        case atStart => exact ⟨x, Nat.le_refl _, by omega, rfl⟩
        case round =>
          obtain ⟨k, hk1, hk2, rfl⟩ := hrel
          by_cases hka : k < x + a
          · obtain ⟨hkD, hkv⟩ := hA k hk1 hka
            obtain ⟨bD, oD, eD, lD2, cD⟩ := hDr.at_ hkD
            cases eD
            rw [hkv] at cD
            have hki : (k : Int) < (D.length : Int) := by omega
            clear hA hA' hB hB' hkv
            go_wp2
            go_round
            case rel => exact ⟨k + 1, by omega, by omega, by go_num⟩
            case measure => simp [intOf]; omega
          · have hke : k = x + a := by omega
            have Hke : Hid (k = x + a) := hke
            have hstop : (∃ hkD : k < D.length, D[k] = false) ∨ ¬ k < D.length := by
              by_cases h1 : k < D.length
              · left; refine ⟨h1, ?_⟩; subst hke; exact hA' h1
              · exact .inr h1
            have HB : Hid ((∀ k, y ≤ k → k < y + b → ∃ hk : k < I.length, I[k] = true) ∧ (∀ hk : y + b < I.length, I[y + b] = false)) := ⟨hB, hB'⟩
            clear hke hA hA' hB hB'
            have hcase : (∃ bD oD, (some ⟨bD1, oD1, none⟩ : Option Addr) = some ⟨bD, oD, none⟩ ∧ bD < wr.heap.size ∧ wr.cell? ⟨bD, oD + k, none⟩ = some (.bool false) ∧ (k : Int) < (D.length : Int)) ∨ ¬ (k : Int) < (D.length : Int) := by
              rcases hstop with ⟨h1, h2⟩ | h1
              · obtain ⟨bD, oD, e, l, c⟩ := hDr.at_ h1
                rw [h2] at c
                exact .inl ⟨bD, oD, e, l, c, by omega⟩
              · exact .inr (by omega)
            clear hstop
            rcases hcase with ⟨bD, oD, eD, lD2, cD, hki⟩ | hki
            all_goals
              try (cases eD)
              go_wp2
              go_loop [5] (fun q => RelD y b q) (fun q => y + b - (intOf q).toNat)
              case atStart => exact ⟨y, Nat.le_refl _, by omega, rfl⟩
              case round =>
                obtain ⟨m, hm1, hm2, rfl⟩ := hrel
                by_cases hmb : m < y + b
                · obtain ⟨hmI, hmv⟩ := HB.out.1 m hm1 hmb
                  exfalso; omega
                · have hme : m = y + b := by omega
                  have Hme : Hid (m = y + b) := hme
                  have hcase : (∃ bI oI, bo = some ⟨bI, oI, none⟩ ∧ bI < wr.heap.size ∧ wr.cell? ⟨bI, oI + m, none⟩ = some (.bool false) ∧ (m : Int) < (I.length : Int)) ∨ ¬ (m : Int) < (I.length : Int) := by
                    by_cases h1 : m < I.length
                    · have h2 : I[m] = false := by subst hme; exact HB.out.2 h1
                      obtain ⟨bI, oI, e, l, c⟩ := hIr.at_ h1
                      rw [h2] at c
                      exact .inl ⟨bI, oI, e, l, c, by omega⟩
                    · exact .inr (by omega)
                  clear hme HB
                  have hmi : ¬ (m : Int) < (I.length : Int) := by omega
                  clear hcase
                  all_goals
                    try (cases eI)
                    go_wp2_with (at_builtin; refine wpList_append_own _ rfl (.tmp 86) (.tmp 88) 32 rfl (w.heap.size + 1) 37 i0 (.agg #[.int .i64 0, .int .i64 0, .int .i64 0, .int .i64 0]) 4 32 Try.underlying32 hi hz0 hz1 hz2 rfl (by decide) _ _ _ rfl ((hS.g.own.alloc _).alloc _) ⟨wr.heap.size + 1, 0, none⟩ 1 1 (C4.vals ⟨x, k, y, m⟩) rfl rfl (newC2 _ _ ⟨x, k, y, m⟩ _) (oneCellC _) (by unfold maxLen; omega) (by omega) (by simp; omega) ?_)
                    intro v' w2 hown2 hgrow2 _
                    have hG2 : GathC wb (w.heap.size + 1) 37 (M ++ [⟨x, k, y, m⟩]) v' w2 := hS.g.step hgr hown2 hgrow2
                    rw [Hke.out, Hme.out] at hG2
                    have hS2 := Hnext.out v' w2 hG2
                    rw [← Hke.out, ← Hme.out] at hS2
                    clear hown2 hgrow2 hG2
                    go_wp2
                    go_roundw
                    case rel => exact ⟨k, m, _, rfl, rfl, hS2⟩
                    case measure =>
                      have := Hke.out
                      have := Hme.out
                      simp [intOf]; omega
    · have h1i : ¬ (x : Int) < (D.length : Int) := by omega
      by_cases h2 : y < I.length
      · obtain ⟨bI1, oI1, hbo1, lI1, cI1⟩ := hIr.at_ h2
        have h2i : (y : Int) < (I.length : Int) := by omega
        have hor : x < D.length ∨ y < I.length := .inr h2
        have hnb : ¬ (∃ (hi : x < D.length) (hj : y < I.length), D[x] = false ∧ I[y] = false) := by
          rintro ⟨h, _⟩
          exact h1 h
        subst hbo1
        obtain ⟨a, b, hpos, ha1, hb1, hA, hA', hB, hB', hnext⟩ := hS.change hor hnb
        have Hnext : Hid (∀ v' wr', GathC wb (w.heap.size + 1) 37 (M ++ [⟨x, x + a, y, y + b⟩]) v' wr' → St2 wb (w.heap.size + 1) D I (x + a) (y + b) (M ++ [⟨x, x + a, y, y + b⟩]) v' wr') := hnext
        clear hnext hnb hor
        go_wp2
        go_loop [4] (fun q => RelD x a q) (fun q => x + a - (intOf q).toNat)
        case atStart => exact ⟨x, Nat.le_refl _, by omega, rfl⟩
        case round =>
          obtain ⟨k, hk1, hk2, rfl⟩ := hrel
          by_cases hka : k < x + a
          · obtain ⟨hkD, hkv⟩ := hA k hk1 hka
            exfalso; omega
          · have hke : k = x + a := by omega
            have Hke : Hid (k = x + a) := hke
            have hstop : (∃ hkD : k < D.length, D[k] = false) ∨ ¬ k < D.length := by
              by_cases h1 : k < D.length
              · left; refine ⟨h1, ?_⟩; subst hke; exact hA' h1
              · exact .inr h1
            have HB : Hid ((∀ k, y ≤ k → k < y + b → ∃ hk : k < I.length, I[k] = true) ∧ (∀ hk : y + b < I.length, I[y + b] = false)) := ⟨hB, hB'⟩
            clear hke hA hA' hB hB'
            have hcase : (∃ bD oD, ao = some ⟨bD, oD, none⟩ ∧ bD < wr.heap.size ∧ wr.cell? ⟨bD, oD + k, none⟩ = some (.bool false) ∧ (k : Int) < (D.length : Int)) ∨ ¬ (k : Int) < (D.length : Int) := by
              rcases hstop with ⟨h1, h2⟩ | h1
              · obtain ⟨bD, oD, e, l, c⟩ := hDr.at_ h1
                rw [h2] at c
                exact .inl ⟨bD, oD, e, l, c, by omega⟩
              · exact .inr (by omega)
            clear hstop
            have hki : ¬ (k : Int) < (D.length : Int) := by omega
            clear hcase
            all_goals
              try (cases eD)
              go_wp2
              go_loop [5] (fun q => RelD y b q) (fun q => y + b - (intOf q).toNat)
              case atStart => exact ⟨y, Nat.le_refl _, by omega, rfl⟩
              case round =>
                obtain ⟨m, hm1, hm2, rfl⟩ := hrel
                by_cases hmb : m < y + b
                · obtain ⟨hmI, hmv⟩ := HB.out.1 m hm1 hmb
                  obtain ⟨bI, oI, eI, lI2, cI⟩ := hIr.at_ hmI
                  cases eI
                  rw [hmv] at cI
                  have hmi : (m : Int) < (I.length : Int) := by omega
                  clear hmv
                  go_wp2
                  go_round
                  case rel => exact ⟨m + 1, by omega, by omega, by go_num⟩
                  case measure => simp [intOf]; omega
                · have hme : m = y + b := by omega
                  have Hme : Hid (m = y + b) := hme
                  have hcase : (∃ bI oI, (some ⟨bI1, oI1, none⟩ : Option Addr) = some ⟨bI, oI, none⟩ ∧ bI < wr.heap.size ∧ wr.cell? ⟨bI, oI + m, none⟩ = some (.bool false) ∧ (m : Int) < (I.length : Int)) ∨ ¬ (m : Int) < (I.length : Int) := by
                    by_cases h1 : m < I.length
                    · have h2 : I[m] = false := by subst hme; exact HB.out.2 h1
                      obtain ⟨bI, oI, e, l, c⟩ := hIr.at_ h1
                      rw [h2] at c
                      exact .inl ⟨bI, oI, e, l, c, by omega⟩
                    · exact .inr (by omega)
                  clear hme HB
                  rcases hcase with ⟨bI, oI, eI, lI2, cI, hmi⟩ | hmi
                  all_goals
                    try (cases eI)
                    go_wp2_with (at_builtin; refine wpList_append_own _ rfl (.tmp 86) (.tmp 88) 32 rfl (w.heap.size + 1) 37 i0 (.agg #[.int .i64 0, .int .i64 0, .int .i64 0, .int .i64 0]) 4 32 Try.underlying32 hi hz0 hz1 hz2 rfl (by decide) _ _ _ rfl ((hS.g.own.alloc _).alloc _) ⟨wr.heap.size + 1, 0, none⟩ 1 1 (C4.vals ⟨x, k, y, m⟩) rfl rfl (newC2 _ _ ⟨x, k, y, m⟩ _) (oneCellC _) (by unfold maxLen; omega) (by omega) (by simp; omega) ?_)
                    intro v' w2 hown2 hgrow2 _
                    have hG2 : GathC wb (w.heap.size + 1) 37 (M ++ [⟨x, k, y, m⟩]) v' w2 := hS.g.step hgr hown2 hgrow2
                    rw [Hke.out, Hme.out] at hG2
                    have hS2 := Hnext.out v' w2 hG2
                    rw [← Hke.out, ← Hme.out] at hS2
                    clear hown2 hgrow2 hG2
                    go_wp2
                    go_roundw
                    case rel => exact ⟨k, m, _, rfl, rfl, hS2⟩
                    case measure =>
                      have := Hke.out
                      have := Hme.out
                      simp [intOf]; omega
      · have h2i : ¬ (y : Int) < (I.length : Int) := by omega
        obtain rfl : x = D.length := by omega
        obtain rfl : y = I.length := by omega
        have hleft := hS.left
        have hG := hS.g
        rw [List.drop_eq_nil_of_le (Nat.le_refl _), List.drop_eq_nil_of_le (Nat.le_refl _)] at hleft
        simp [runs, nz, emit] at hleft
        have HL : Hid (M = nz 0 0 (runs D) (runs I)) := hleft
        clear hleft
        go_wp2
        go_ret
        refine ⟨u3, rfl, ?_⟩
        rw [← HL.out]
        exact ⟨hG.own.mono' (by omega), hbb.trans (hG.bel.mono (by omega))⟩
end Go.Proofs.Qxb6618170a
