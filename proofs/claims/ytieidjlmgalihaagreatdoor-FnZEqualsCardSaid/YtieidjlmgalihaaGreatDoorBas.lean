/- Rows of fields, and what else serves. -/
import Derived.Test.YtieidjlmgalihaaGreatDoorCon
import Derived.Test.YtieidjlmgalihaaGreatDoorWk9
import Derived.Laws.OwnMore
set_option linter.all false
namespace Go.Proofs.YtieidjlmgalihaaGreatDoor
open Go.RowKit
set_option maxRecDepth 100000
theorem own_drew {w : World} {B : Nat} {e : TypeId} {size n : Nat} {v : Value} {xs : List Value} (h : w.ownsRow B e size v n xs) : w.drew.ownsRow B e size v n xs := h
/-- A boxed entry, cell by cell. -/
theorem boxEnt {W : World} {b : Nat} {x : Ent} (h : ∀ i, W.cell? ⟨b, i, none⟩ = x.pub[i]?) : W.cell? ⟨b, 0, none⟩ = some (.int .i8 (IntKind.i8.wrap x.level)) ∧ W.cell? ⟨b, 1, none⟩ = some (.int .i64 (momExt x.zero x.nanos)) ∧ W.cell? ⟨b, 2, none⟩ = some (.int .i32 (momNs x.zero x.nanos)) ∧ W.cell? ⟨b, 3, none⟩ = some (.string (momZone x.zero x.zone)) ∧ W.cell? ⟨b, 4, none⟩ = some (.int .i64 (momOff x.zero x.offset)) ∧ W.cell? ⟨b, 5, none⟩ = some (.string x.logger) ∧ W.cell? ⟨b, 6, none⟩ = some (.string x.message) ∧ W.cell? ⟨b, 7, none⟩ = some (.bool x.defined) ∧ W.cell? ⟨b, 8, none⟩ = some (.int .u64 0) ∧ W.cell? ⟨b, 9, none⟩ = some (.string x.file) ∧ W.cell? ⟨b, 10, none⟩ = some (.int .i64 x.line) ∧ W.cell? ⟨b, 11, none⟩ = some (.string x.function) ∧ W.cell? ⟨b, 12, none⟩ = some (.string x.stack) :=
  ⟨h 0, h 1, h 2, h 3, h 4, h 5, h 6, h 7, h 8, h 9, h 10, h 11, h 12⟩
theorem info196 : (Tryz.prog.info? 196).map (fun i => (i.zero, i.size, i.bytes)) = some (some (.agg #[.int .i64 0, .int .i64 0, .slice none 0 0]), 3, 40) := by kernel_rfl
open Go.RowKit
set_option maxRecDepth 100000
theorem info39 : (Tryz.prog.info? 39).map (fun i => (i.zero, i.size, i.bytes)) = some (some (.agg #[.int .i64 0, .string ⟨#[]⟩, .int .i64 0, .int .i64 0, .int .u64 0, .int .u64 0, .int .u64 0, .string ⟨#[]⟩, .slice none 0 0, .bool false, .int .i64 0, .int .i64 0, .string ⟨#[]⟩, .slice none 0 0, .string ⟨#[]⟩]), 15, 184) := by kernel_rfl
def bare (g : Nat → Fld) : Nat → List Value
  | 0 => []
  | n + 1 => bare g n ++ (g n).arr.toList
theorem bare_length (g : Nat → Fld) : ∀ n, (bare g n).length = n * 15
  | 0 => rfl
  | n + 1 => by rw [bare, List.length_append, bare_length g n]; simp; omega
theorem own_tag {w : World} {B : Nat} {e T : TypeId} {size n k : Nat} {v : Value} {xs : List Value} {cs : Array Value} {fz : Nat × Nat} (h : w.ownsRow B e size v n xs) (hk : w.heap[k]? = some (Obj.cells cs T fz)) (hT : e ≠ T) : v.ownBlock ≠ some k := by
  intro hv
  rcases h.2 with ⟨rfl, _⟩ | ⟨g, cap, cur, rfl, _, hg, _⟩
  · simp [Value.ownBlock] at hv
  · have : g = k := by simpa [Value.ownBlock] using hv
    subst this
    rw [hg] at hk
    injection hk with hk
    injection hk with _ h2
    exact hT h2
theorem blk_tag {w : World} {b T T' : TypeId} {cs cs' : Array Value} {fz : Nat × Nat} (h : Blk w b T cs) (hk : w.heap[b]? = some (Obj.cells cs' T' fz)) : T = T' := by
  unfold Blk at h
  rw [hk] at h
  injection h with h
  injection h with _ h2
  exact h2.symm
end Go.Proofs.YtieidjlmgalihaaGreatDoor
namespace Go.Proofs.YtieidjlmgalihaaGreatDoor
open Go.RowKit
set_option maxRecDepth 100000
theorem run_append_owned_zero {w : World} {base : Nat} {t ty e : TypeId} {i : TypeInfo} {size : Nat} (ht : Tryz.prog.underlying t = some (.slice e)) (hi : Tryz.prog.info? e = some i)
    {v : Value} {n : Nat} {xs : List Value} (hown : w.ownsRow base e size v n xs) (A : Option Addr) (c : Nat) :
    (Builtin.append_ #[t, t] ty #[v, .slice A 0 c]).run Tryz.prog w = .ok v w := by
  have h0 : ∀ a : Addr, (loadCells a 0).run Tryz.prog w = .ok #[] w := fun a => by simpa using run_loadCells_list (P := Tryz.prog) w a [] (by simp)
  rcases hown.2 with ⟨rfl, rfl⟩ | ⟨g, cap, cur, rfl, _, _, hnc, _⟩
  · cases A <;> simp [Builtin.append_, run_underlying ht, sizeOf, typeInfo, hi, Builtin.lenOf, Builtin.firstCells, h0]
  · cases A <;> simp [Builtin.append_, run_underlying ht, sizeOf, typeInfo, hi, Builtin.lenOf, Builtin.firstCells, hnc, storeCells, h0]
theorem bare_at (g : Nat → Fld) : ∀ (n i j : Nat), i < n → j < 15 → (bare g n)[i * 15 + j]? = (g i).arr[j]?
  | 0, _, _, h, _ => by omega
  | n + 1, i, j, h, hj => by
    rw [bare]
    by_cases hi : i < n
    · rw [List.getElem?_append_left (by rw [bare_length]; omega)]
      exact bare_at g n i j hi hj
    · obtain rfl : i = n := by omega
      rw [List.getElem?_append_right (by rw [bare_length]; omega), bare_length, Nat.add_sub_cancel_left]
      exact Array.getElem?_toList
theorem one_bare (g : Nat → Fld) : ∀ n, ∀ v ∈ bare g n, v.oneCell' = true
  | 0, v, h => by simp [bare] at h
  | n + 1, v, h => by
    rw [bare, List.mem_append] at h
    rcases h with h | h
    · exact one_bare g n v h
    · simp at h
      rcases h with rfl | rfl | rfl | rfl | rfl | rfl | rfl | rfl | rfl | rfl | rfl | rfl | rfl | rfl | rfl <;> rfl
/-- append of a slice of fields that came in, for the walk. -/
theorem wpList_append_fld {ops : Array Oper} {rest : List Oper} {o : Oper} {a : Act} {Q : Exit → Act → World → Prop} (hgd : o.guard = none) (s x : Operand)
    (ho : o.op = .call { callee := .builtin .append, args := #[s, x], argTypes := #[37, 37] })
    (w : World) (base : Nat) (v : Value) (n : Nat) (xs : List Value) (hs : a.eval s = v) (hown : w.ownsRow base 39 15 v n xs)
    (A : Option Addr) (m c : Nat) (g : Nat → Fld) (hx : a.eval x = .slice A m c) (hr : RowAt w A m 15 fun i => (g i).arr) (h63 : n + m ≤ 1000000) (hbase : base ≤ w.heap.size)
    (h : ∀ v' w', w'.ownsRow base 39 15 v' (n + m) (xs ++ bare g m) → Only (fun k => v.ownBlock = some k) w w' → wpList Tryz.prog ops Q rest (a.put o.dst v') w') : wpList Tryz.prog ops Q (o :: rest) a w := by
  obtain ⟨i, hi, hz0, hz1, hz2⟩ := info_parts info39
  rcases Nat.eq_zero_or_pos m with h0 | h0
  · subst h0
    exact Lib.wpList_append_run w hgd s x 37 37 ho _ _ hs hx v w (run_append_owned_zero Tryz.underlying37 hi hown A c) (h v w (by simpa [bare] using hown) (Only.refl _ _))
  · obtain ⟨b, off, rfl, _, _⟩ := hr 0 h0
    refine wpList_append_lies w hgd s x 37 ho base 39 i _ 15 184 Tryz.underlying37 hi hz0 hz1 hz2 rfl (by decide) v n xs hs hown ⟨b, off, none⟩ m c (bare g m) hx (bare_length g m) ?_ (one_bare g m) h0 (by unfold maxLen; omega) (by omega) hbase _ rfl ?_
    · intro j u hj
      have hlt := (List.getElem?_eq_some_iff.1 hj).1
      rw [bare_length] at hlt
      rw [Go.WideShapes.add_plain]
      have hq : j / 15 < m := by omega
      obtain ⟨b', off', hA, _, hc⟩ := hr (j / 15) hq
      obtain ⟨rfl, rfl⟩ : b = b' ∧ off = off' := by injection hA with hA; injection hA with h1 h2; exact ⟨h1, h2⟩
      have hcell := hc (j % 15) (by omega)
      have hb := bare_at g m (j / 15) (j % 15) hq (by omega)
      have ej : j / 15 * 15 + j % 15 = j := by omega
      rw [ej] at hb
      rw [← hj, hb, ← hcell, Nat.add_assoc, ej]
    · intro g' cap w' ho' hg' _ _
      exact h _ w' ho' ((Only.refl (fun k => v.ownBlock = some k) w).grown hg' (fun k hk => .inl hk))
end Go.Proofs.YtieidjlmgalihaaGreatDoor
namespace Go.Proofs.YtieidjlmgalihaaGreatDoor
open Go.RowKit
set_option maxRecDepth 100000
theorem own_len {w : World} {B : Nat} {e : TypeId} {size n : Nat} {v : Value} {xs : List Value} (h : w.ownsRow B e size v n xs) : ∃ a c, v = .slice a n c := by
  rcases h.2 with ⟨rfl, hn⟩ | ⟨g, cap, cur, rfl, _⟩
  · have : n = 0 := by first | exact hn | exact hn.1 | simp_all
    subst this
    exact ⟨_, _, rfl⟩
  · exact ⟨_, _, rfl⟩
/-- An owned row's slice and its element. -/
theorem own_at {w : World} {B : Nat} {e : TypeId} {n k : Nat} {v : Value} {xs : List Value} (h : w.ownsRow B e 1 v n xs) (hk : k < n) : ∃ g cap, v = .slice (some ⟨g, 0, none⟩) n cap ∧ g < w.heap.size ∧ w.cell? ⟨g, k, none⟩ = xs[k]? ∧ B ≤ g := by
  rcases h.2 with ⟨rfl, hn⟩ | ⟨g, cap, cur, rfl, hb, hg, h1, h2, h3, htk⟩
  · have : n = 0 := by first | exact hn | exact hn.1 | simp_all
    omega
  · refine ⟨g, cap, rfl, (Array.getElem?_eq_some_iff.1 hg).1, ?_, hb⟩
    rw [cell_of_row w g k _ _ _ hg]
    have := congrArg (·[k]?) htk
    simp [List.getElem?_take] at this
    simpa [hk] using this
/-- An owned row of fields, to read. -/
theorem own_flds {w : World} {B n : Nat} {V : Value} {g : Nat → Fld} (h : w.ownsRow B 39 15 V n (bare g n)) : ∃ A c, V = .slice A n c ∧ RowAt w A n 15 fun i => (g i).arr := by
  rcases h.2 with ⟨rfl, hn⟩ | ⟨q, cap, cur, rfl, _, hg, _, _, _, htk⟩
  · have : n = 0 := by first | exact hn | exact hn.1 | simp_all
    subst this
    exact ⟨_, _, rfl, fun i hi => by omega⟩
  · refine ⟨_, _, rfl, fun i hi => ⟨q, 0, rfl, rfl, fun j hj => ?_⟩⟩
    rw [cell_of_row w q _ _ _ _ hg, ← bare_at g n i j hi hj, ← htk]
    simp only [Nat.zero_add, List.getElem?_take]
    rw [if_pos (by omega)]
    simp
end Go.Proofs.YtieidjlmgalihaaGreatDoor
