import Derived.Test.Qxb6618124aW1
namespace Go.Proofs.Qxb6618124a
open Go.RowKit

set_option maxHeartbeats 1000000 in
theorem bytes_first (h0 h1 h2 h3 h4 h5 : Int) (qo : Option Addr) (qn qc : Nat) (ao bo co : Option Addr) (rs us ds : List Rc) (ac bc cc : Nat) (a0 a1 a2 a3 : Int) (w : World) (hr : Recs w ao rs) (hu : Recs w bo us) (hd : Recs w co ds)
    (hq : qn ≤ maxLen) (hrl : rs.length ≤ maxLen) (hul : us.length ≤ maxLen) (hdl : ds.length ≤ maxLen) :
    Calls Try.prog 7 #[.agg #[.int .u16 h0, .int .u16 h1, .int .u16 h2, .int .u16 h3, .int .u16 h4, .int .u16 h5], .slice qo qn qc, .slice ao rs.length ac, .slice bo us.length bc, .slice co ds.length cc, .agg #[.int .u16 a0, .int .u8 a1, .int .u8 a2, .int .u16 a3]] w
      fun e w' => SomeBool e ∧ Below w.heap.size w w' := by
  unfold maxLen at hq hrl hul hdl
  have fin : ∀ (o1 o2 : Obj), Below w.heap.size w ((w.alloc o1).alloc o2) := fun o1 o2 => ((Below.refl _ _).alloc (Nat.le_refl _) _).alloc (by simp) _
  go_enter Try.func7, Try.ntmps7
  go_wp2
  all_goals (try (go_ret; exact ⟨.mk _, fin _ _⟩))
  go_loop [13, 14] (fun z i => CtAny rs.length z i) (fun _ i => rs.length - (intOf i).toNat)
  case atStart => exact ⟨0, _, Nat.zero_le _, rfl, rfl⟩
  case round =>
    obtain ⟨k0, z0, hk0, rfl, rfl⟩ := hrel
    by_cases hlt : k0 < rs.length
    · obtain h | ⟨b, o, rfl, hb, hc⟩ := ((hr.alloc (.cells #[.int .u16 h0, .int .u16 h1, .int .u16 h2, .int .u16 h3, .int .u16 h4, .int .u16 h5] 24)).alloc (.cells #[.int .u16 a0, .int .u8 a1, .int .u8 a2, .int .u16 a3] 28))
      · simp [h] at hlt
      have h65 := (hc k0 rs[k0] (by simp)).c5
      have hlt' : (k0 : Int) < (rs.length : Int) := by omega
      go_wp2
      all_goals first
        | (go_ret; exact ⟨.mk _, fin _ _⟩)
        | (go_round
           case rel => exact ⟨k0 + 1, _, by omega, by go_num, rfl⟩
           case measure => simp [intOf]; omega)
    · go_wp2
      all_goals (try (go_ret; exact ⟨.mk _, fin _ _⟩))
      go_loop [13, 15] (fun z i => CtAny us.length z i) (fun _ i => us.length - (intOf i).toNat)
      case atStart => exact ⟨0, _, Nat.zero_le _, rfl, rfl⟩
      case round =>
        obtain ⟨k1, z1, hk1, rfl, rfl⟩ := hrel
        by_cases hlt : k1 < us.length
        · obtain h | ⟨b, o, rfl, hb, hc⟩ := ((hu.alloc (.cells #[.int .u16 h0, .int .u16 h1, .int .u16 h2, .int .u16 h3, .int .u16 h4, .int .u16 h5] 24)).alloc (.cells #[.int .u16 a0, .int .u8 a1, .int .u8 a2, .int .u16 a3] 28))
          · simp [h] at hlt
          have h65 := (hc k1 us[k1] (by simp)).c5
          have hlt' : (k1 : Int) < (us.length : Int) := by omega
          go_wp2
          all_goals first
            | (go_ret; exact ⟨.mk _, fin _ _⟩)
            | (go_round
               case rel => exact ⟨k1 + 1, _, by omega, by go_num, rfl⟩
               case measure => simp [intOf]; omega)
        · go_wp2
          all_goals (try (go_ret; exact ⟨.mk _, fin _ _⟩))
          go_loop [13, 16] (fun z i => CtAny ds.length z i) (fun _ i => ds.length - (intOf i).toNat)
          case atStart => exact ⟨0, _, Nat.zero_le _, rfl, rfl⟩
          case round =>
            obtain ⟨k2, z2, hk2, rfl, rfl⟩ := hrel
            by_cases hlt : k2 < ds.length
            · obtain h | ⟨b, o, rfl, hb, hc⟩ := ((hd.alloc (.cells #[.int .u16 h0, .int .u16 h1, .int .u16 h2, .int .u16 h3, .int .u16 h4, .int .u16 h5] 24)).alloc (.cells #[.int .u16 a0, .int .u8 a1, .int .u8 a2, .int .u16 a3] 28))
              · simp [h] at hlt
              have h65 := (hc k2 ds[k2] (by simp)).c5
              have hlt' : (k2 : Int) < (ds.length : Int) := by omega
              go_wp2
              all_goals first
                | (go_ret; exact ⟨.mk _, fin _ _⟩)
                | (go_round
                   case rel => exact ⟨k2 + 1, _, by omega, by go_num, rfl⟩
                   case measure => simp [intOf]; omega)
            · go_wp2
              all_goals (try (go_ret; exact ⟨.mk _, fin _ _⟩))

set_option maxHeartbeats 1000000 in
theorem bytes_cut (h0 h1 h2 h3 h4 h5 : Int) (qo : Option Addr) (qn qc : Nat) (ao bo co : Option Addr) (rs us ds : List Rc) (ac bc cc : Nat) (j : Int) (w : World) (hr : Recs w ao rs) (hu : Recs w bo us) (hd : Recs w co ds)
    (hq : qn ≤ maxLen) (hrl : rs.length ≤ maxLen) (hul : us.length ≤ maxLen) (hdl : ds.length ≤ maxLen) :
    Calls Try.prog 16 #[.agg #[.int .u16 h0, .int .u16 h1, .int .u16 h2, .int .u16 h3, .int .u16 h4, .int .u16 h5], .slice qo qn qc, .slice ao rs.length ac, .slice bo us.length bc, .slice co ds.length cc, .int .i64 j] w
      fun e w' => SomeBool e ∧ Below w.heap.size w w' := by
  unfold maxLen at hq hrl hul hdl
  have fin : ∀ (o1 : Obj), Below w.heap.size w (w.alloc o1) := fun o1 => (Below.refl _ _).alloc (Nat.le_refl _) _
  go_enter Try.func16, Try.ntmps16
  go_wp2
  all_goals (try (go_ret; exact ⟨.mk _, fin _⟩))
  go_loop [13, 14] (fun z i => CtAny rs.length z i) (fun _ i => rs.length - (intOf i).toNat)
  case atStart => exact ⟨0, _, Nat.zero_le _, rfl, rfl⟩
  case round =>
    obtain ⟨k0, z0, hk0, rfl, rfl⟩ := hrel
    by_cases hlt : k0 < rs.length
    · obtain h | ⟨b, o, rfl, hb, hc⟩ := (hr.alloc (.cells #[.int .u16 h0, .int .u16 h1, .int .u16 h2, .int .u16 h3, .int .u16 h4, .int .u16 h5] 24))
      · simp [h] at hlt
      have h65 := (hc k0 rs[k0] (by simp)).c5
      have hlt' : (k0 : Int) < (rs.length : Int) := by omega
      go_wp2
      all_goals first
        | (go_ret; exact ⟨.mk _, fin _⟩)
        | (go_round
           case rel => exact ⟨k0 + 1, _, by omega, by go_num, rfl⟩
           case measure => simp [intOf]; omega)
    · go_wp2
      all_goals (try (go_ret; exact ⟨.mk _, fin _⟩))
      go_loop [13, 15] (fun z i => CtAny us.length z i) (fun _ i => us.length - (intOf i).toNat)
      case atStart => exact ⟨0, _, Nat.zero_le _, rfl, rfl⟩
      case round =>
        obtain ⟨k1, z1, hk1, rfl, rfl⟩ := hrel
        by_cases hlt : k1 < us.length
        · obtain h | ⟨b, o, rfl, hb, hc⟩ := (hu.alloc (.cells #[.int .u16 h0, .int .u16 h1, .int .u16 h2, .int .u16 h3, .int .u16 h4, .int .u16 h5] 24))
          · simp [h] at hlt
          have h65 := (hc k1 us[k1] (by simp)).c5
          have hlt' : (k1 : Int) < (us.length : Int) := by omega
          go_wp2
          all_goals first
            | (go_ret; exact ⟨.mk _, fin _⟩)
            | (go_round
               case rel => exact ⟨k1 + 1, _, by omega, by go_num, rfl⟩
               case measure => simp [intOf]; omega)
        · go_wp2
          all_goals (try (go_ret; exact ⟨.mk _, fin _⟩))
          go_loop [13, 16] (fun z i => CtAny ds.length z i) (fun _ i => ds.length - (intOf i).toNat)
          case atStart => exact ⟨0, _, Nat.zero_le _, rfl, rfl⟩
          case round =>
            obtain ⟨k2, z2, hk2, rfl, rfl⟩ := hrel
            by_cases hlt : k2 < ds.length
            · obtain h | ⟨b, o, rfl, hb, hc⟩ := (hd.alloc (.cells #[.int .u16 h0, .int .u16 h1, .int .u16 h2, .int .u16 h3, .int .u16 h4, .int .u16 h5] 24))
              · simp [h] at hlt
              have h65 := (hc k2 ds[k2] (by simp)).c5
              have hlt' : (k2 : Int) < (ds.length : Int) := by omega
              go_wp2
              all_goals first
                | (go_ret; exact ⟨.mk _, fin _⟩)
                | (go_round
                   case rel => exact ⟨k2 + 1, _, by omega, by go_num, rfl⟩
                   case measure => simp [intOf]; omega)
            · go_wp2
              all_goals (try (go_ret; exact ⟨.mk _, fin _⟩))

set_option maxHeartbeats 1000000 in
theorem bytes_fone (h0 h1 h2 h3 h4 h5 : Int) (qo : Option Addr) (qn qc : Nat) (ao bo co : Option Addr) (rs us ds : List Rc) (ac bc cc : Nat) (s k : Int) (x : Rc) (w : World) (hr : Recs w ao rs) (hu : Recs w bo us) (hd : Recs w co ds)
    (hq : qn ≤ maxLen) (hrl : rs.length ≤ maxLen) (hul : us.length ≤ maxLen) (hdl : ds.length ≤ maxLen) :
    Calls Try.prog 22 #[.agg #[.int .u16 h0, .int .u16 h1, .int .u16 h2, .int .u16 h3, .int .u16 h4, .int .u16 h5], .slice qo qn qc, .slice ao rs.length ac, .slice bo us.length bc, .slice co ds.length cc, .int .i64 s, .int .i64 k, .agg #[.int .i64 x.off, .int .u16 x.ty, .int .u16 x.cls, .int .u32 x.ttl, .int .i64 x.doff, .slice x.da x.dl x.dc]] w
      fun e w' => SomeBool e ∧ Below w.heap.size w w' := by
  unfold maxLen at hq hrl hul hdl
  have fin : ∀ (o1 o2 : Obj), Below w.heap.size w ((w.alloc o1).alloc o2) := fun o1 o2 => ((Below.refl _ _).alloc (Nat.le_refl _) _).alloc (by simp) _
  go_enter Try.func22, Try.ntmps22
  go_wp2
  all_goals (try (go_ret; exact ⟨.mk _, fin _ _⟩))
  go_loop [17, 18] (fun z i => CtAny rs.length z i) (fun _ i => rs.length - (intOf i).toNat)
  case atStart => exact ⟨0, _, Nat.zero_le _, rfl, rfl⟩
  case round =>
    obtain ⟨k0, z0, hk0, rfl, rfl⟩ := hrel
    by_cases hlt : k0 < rs.length
    · obtain h | ⟨b, o, rfl, hb, hc⟩ := ((hr.alloc (.cells #[.int .u16 h0, .int .u16 h1, .int .u16 h2, .int .u16 h3, .int .u16 h4, .int .u16 h5] 24)).alloc (.cells #[.int .i64 x.off, .int .u16 x.ty, .int .u16 x.cls, .int .u32 x.ttl, .int .i64 x.doff, .slice x.da x.dl x.dc] 40))
      · simp [h] at hlt
      have h65 := (hc k0 rs[k0] (by simp)).c5
      have hlt' : (k0 : Int) < (rs.length : Int) := by omega
      go_wp2
      all_goals first
        | (go_ret; exact ⟨.mk _, fin _ _⟩)
        | (go_round
           case rel => exact ⟨k0 + 1, _, by omega, by go_num, rfl⟩
           case measure => simp [intOf]; omega)
    · go_wp2
      all_goals (try (go_ret; exact ⟨.mk _, fin _ _⟩))
      go_loop [17, 19] (fun z i => CtAny us.length z i) (fun _ i => us.length - (intOf i).toNat)
      case atStart => exact ⟨0, _, Nat.zero_le _, rfl, rfl⟩
      case round =>
        obtain ⟨k1, z1, hk1, rfl, rfl⟩ := hrel
        by_cases hlt : k1 < us.length
        · obtain h | ⟨b, o, rfl, hb, hc⟩ := ((hu.alloc (.cells #[.int .u16 h0, .int .u16 h1, .int .u16 h2, .int .u16 h3, .int .u16 h4, .int .u16 h5] 24)).alloc (.cells #[.int .i64 x.off, .int .u16 x.ty, .int .u16 x.cls, .int .u32 x.ttl, .int .i64 x.doff, .slice x.da x.dl x.dc] 40))
          · simp [h] at hlt
          have h65 := (hc k1 us[k1] (by simp)).c5
          have hlt' : (k1 : Int) < (us.length : Int) := by omega
          go_wp2
          all_goals first
            | (go_ret; exact ⟨.mk _, fin _ _⟩)
            | (go_round
               case rel => exact ⟨k1 + 1, _, by omega, by go_num, rfl⟩
               case measure => simp [intOf]; omega)
        · go_wp2
          all_goals (try (go_ret; exact ⟨.mk _, fin _ _⟩))
          go_loop [17, 20] (fun z i => CtAny ds.length z i) (fun _ i => ds.length - (intOf i).toNat)
          case atStart => exact ⟨0, _, Nat.zero_le _, rfl, rfl⟩
          case round =>
            obtain ⟨k2, z2, hk2, rfl, rfl⟩ := hrel
            by_cases hlt : k2 < ds.length
            · obtain h | ⟨b, o, rfl, hb, hc⟩ := ((hd.alloc (.cells #[.int .u16 h0, .int .u16 h1, .int .u16 h2, .int .u16 h3, .int .u16 h4, .int .u16 h5] 24)).alloc (.cells #[.int .i64 x.off, .int .u16 x.ty, .int .u16 x.cls, .int .u32 x.ttl, .int .i64 x.doff, .slice x.da x.dl x.dc] 40))
              · simp [h] at hlt
              have h65 := (hc k2 ds[k2] (by simp)).c5
              have hlt' : (k2 : Int) < (ds.length : Int) := by omega
              go_wp2
              all_goals first
                | (go_ret; exact ⟨.mk _, fin _ _⟩)
                | (go_round
                   case rel => exact ⟨k2 + 1, _, by omega, by go_num, rfl⟩
                   case measure => simp [intOf]; omega)
            · go_wp2
              all_goals (try (go_ret; exact ⟨.mk _, fin _ _⟩))
end Go.Proofs.Qxb6618124a
