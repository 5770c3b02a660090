import Derived.Test.Qxb6618767aDoorQ2
namespace Go.Proofs.Qxb6618767aDoor
open Go.RowKit

theorem KB.grown {w w' : World} (h : KB (fun _ => False) w w') : w.grownBy w' none := ⟨h.os, h.tape, h.output, h.size, fun k hk _ => h.block k hk id⟩
theorem KB.fcell {w w' : World} (h : KB (fun _ => False) w w') {a : Addr} {v : Value} (hc : w.cell? a = some v) : w'.cell? a = some v := h.grown.cell hc (fun e => by cases e)
theorem KB.ftrans {w w1 w2 : World} (h : KB (fun _ => False) w w1) (h2 : KB (fun _ => False) w1 w2) : KB (fun _ => False) w w2 := h.trans h2 (fun _ _ e => e)
theorem Drew.kb {w w' : World} (h : Drew w w') : KB (fun _ => False) w w' := by
  obtain ⟨n, rfl⟩ := h
  exact (KB.refl _ _).drewN n
theorem KB.ftab {w w' : World} (h : KB (fun _ => False) w w') (ht : TabP w.heap.size w) : Lib.TabIs Tryd.prog w' pow10Name .u64 Lib.pow10Tab :=
  ht w' (h.below _ (Nat.le_refl _) (fun _ e => e.elim))

theorem U8.bulk {cs : List Value} (h : U8 cs) : U8 (bulk cs) := by
  intro v hv
  simp only [Qxb6618767aDoor.bulk, crlf, List.mem_append, List.mem_cons, List.not_mem_nil, or_false, Lib.byteCells, List.mem_map] at hv
  rcases hv with (((rfl | ⟨b, _, rfl⟩) | rfl | rfl) | hv) | rfl | rfl
  · exact ⟨_, rfl⟩
  · exact ⟨_, rfl⟩
  · exact ⟨_, rfl⟩
  · exact ⟨_, rfl⟩
  · exact h v hv
  · exact ⟨_, rfl⟩
  · exact ⟨_, rfl⟩

theorem bulk_len (cs : List Value) : (bulk cs).length = cs.length + Lib.nDigits cs.length + 5 := by
  simp only [bulk, crlf, List.length_append, List.length_cons, List.length_nil, Lib.byteCells_length, Lib.decDigits_length]
  omega

/-- Behind the numeral: the bytes and the line's end. -/
theorem bulk_split (cs : List Value) : ∃ H : List Value, H.length = Lib.nDigits cs.length + 3 ∧ bulk cs = H ++ (cs ++ crlf) :=
  ⟨[.int .u8 36] ++ Lib.byteCells (Lib.decDigits cs.length) ++ crlf, by simp [crlf, Lib.byteCells_length, Lib.decDigits_length], by simp [bulk]⟩

theorem bulk_at (cs : List Value) (n d : Nat) (hn : cs.length = n) (hd : Lib.nDigits n = d) : (bulk cs)[n + d + 3]? = some (.int .u8 13) ∧ (bulk cs)[n + d + 4]? = some (.int .u8 10) ∧ ((bulk cs).drop (d + 3)).take n = cs := by
  obtain ⟨H, h1, h2⟩ := bulk_split cs
  subst hn
  rw [hd] at h1
  rw [h2]
  refine ⟨?_, ?_, ?_⟩
  · rw [List.getElem?_append_right (by omega), List.getElem?_append_right (by omega)]
    have : cs.length + d + 3 - H.length - cs.length = 0 := by omega
    rw [this]; rfl
  · rw [List.getElem?_append_right (by omega), List.getElem?_append_right (by omega)]
    have : cs.length + d + 4 - H.length - cs.length = 1 := by omega
    rw [this]; rfl
  · rw [← h1, List.drop_left, List.take_left]
end Go.Proofs.Qxb6618767aDoor
