/- append of a slice of fields that came in, whatever its length. -/
import Derived.Test.YtieidjlmgalihaaGreatDoorNt0
namespace Go.Proofs.YtieidjlmgalihaaGreatDoor
open Go.RowKit
set_option maxRecDepth 100000
theorem run_append_owned_zero {w : World} {base : Nat} {t ty e : TypeId} {i : TypeInfo} {size : Nat} (ht : Tryz.prog.underlying t = some (.slice e)) (hi : Tryz.prog.info? e = some i)
    {v : Value} {n : Nat} {xs : List Value} (hown : w.ownsRow base e size v n xs) (A : Option Addr) (c : Nat) :
    (Builtin.append_ #[t, t] ty #[v, .slice A 0 c]).run Tryz.prog w = .ok v w := by
  have h0 : ∀ a : Addr, (loadCells a 0).run Tryz.prog w = .ok #[] w := fun a => by simpa using run_loadCells_list (P := Tryz.prog) w a [] (by simp)
  rcases hown.2 with ⟨rfl, rfl⟩ | ⟨g, cap, cur, rfl, _, _, hnc, _⟩
  · cases A <;> simp [Builtin.append_, run_underlying ht, sizeOf, typeInfo, hi, Builtin.lenOf, Builtin.firstCells, h0]
  · cases A <;> simp [Builtin.append_, run_underlying ht, sizeOf, typeInfo, hi, Builtin.lenOf, Builtin.firstCells, hnc, storeCells, h0]
theorem bare_at (g : Nat → Fld) : ∀ (n i j : Nat), i < n → j < 15 → (bare g n)[i * 15 + j]? = (g i).arr[j]?
  | 0, _, _, h, _ => by omega
  | n + 1, i, j, h, hj => by
    rw [bare]
    by_cases hi : i < n
    · rw [List.getElem?_append_left (by rw [bare_length]; omega)]
      exact bare_at g n i j hi hj
    · obtain rfl : i = n := by omega
      rw [List.getElem?_append_right (by rw [bare_length]; omega), bare_length, Nat.add_sub_cancel_left]
      exact Array.getElem?_toList
theorem one_bare (g : Nat → Fld) : ∀ n, ∀ v ∈ bare g n, v.oneCell' = true
  | 0, v, h => by simp [bare] at h
  | n + 1, v, h => by
    rw [bare, List.mem_append] at h
    rcases h with h | h
    · exact one_bare g n v h
    · simp at h
      rcases h with rfl | rfl | rfl | rfl | rfl | rfl | rfl | rfl | rfl | rfl | rfl | rfl | rfl | rfl | rfl <;> rfl
/-- append of a slice of fields that came in, for the walk. -/
theorem wpList_append_fld {ops : Array Oper} {rest : List Oper} {o : Oper} {a : Act} {Q : Exit → Act → World → Prop} (hgd : o.guard = none) (s x : Operand)
    (ho : o.op = .call { callee := .builtin .append, args := #[s, x], argTypes := #[37, 37] })
    (w : World) (base : Nat) (v : Value) (n : Nat) (xs : List Value) (hs : a.eval s = v) (hown : w.ownsRow base 39 15 v n xs)
    (A : Option Addr) (m c : Nat) (g : Nat → Fld) (hx : a.eval x = .slice A m c) (hr : RowAt w A m 15 fun i => (g i).arr) (h63 : n + m ≤ 1000000) (hbase : base ≤ w.heap.size)
    (h : ∀ v' w', w'.ownsRow base 39 15 v' (n + m) (xs ++ bare g m) → Only (fun k => v.ownBlock = some k) w w' → wpList Tryz.prog ops Q rest (a.put o.dst v') w') : wpList Tryz.prog ops Q (o :: rest) a w := by
  obtain ⟨i, hi, hz0, hz1, hz2⟩ := info_parts info39
  rcases Nat.eq_zero_or_pos m with h0 | h0
  · subst h0
    exact Lib.wpList_append_run w hgd s x 37 37 ho _ _ hs hx v w (run_append_owned_zero Tryz.underlying37 hi hown A c) (h v w (by simpa [bare] using hown) (Only.refl _ _))
  · obtain ⟨b, off, rfl, _, _⟩ := hr 0 h0
    refine wpList_append_lies w hgd s x 37 ho base 39 i _ 15 184 Tryz.underlying37 hi hz0 hz1 hz2 rfl (by decide) v n xs hs hown ⟨b, off, none⟩ m c (bare g m) hx (bare_length g m) ?_ (one_bare g m) h0 (by unfold maxLen; omega) (by omega) hbase _ rfl ?_
    · intro j u hj
      have hlt := (List.getElem?_eq_some_iff.1 hj).1
      rw [bare_length] at hlt
      rw [Go.WideShapes.add_plain]
      have hq : j / 15 < m := by omega
      obtain ⟨b', off', hA, _, hc⟩ := hr (j / 15) hq
      obtain ⟨rfl, rfl⟩ : b = b' ∧ off = off' := by injection hA with hA; injection hA with h1 h2; exact ⟨h1, h2⟩
      have hcell := hc (j % 15) (by omega)
      have hb := bare_at g m (j / 15) (j % 15) hq (by omega)
      have ej : j / 15 * 15 + j % 15 = j := by omega
      rw [ej] at hb
      rw [← hj, hb, ← hcell, Nat.add_assoc, ej]
    · intro g' cap w' ho' hg' _ _
      exact h _ w' ho' ((Only.refl (fun k => v.ownBlock = some k) w).grown hg' (fun k hk => .inl hk))
end Go.Proofs.YtieidjlmgalihaaGreatDoor
