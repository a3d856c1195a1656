/- Storing a field into a row's last place. -/
import Derived.Test.YtieidjlmgalihaaGreatDoorCon
import Derived.Test.YtieidjlmgalihaaGreatDoorGrt2
import Derived.Laws.OwnMore
namespace Go.Proofs.YtieidjlmgalihaaGreatDoor
open Go.RowKit
set_option maxRecDepth 100000
theorem info39 : (Tryz.prog.info? 39).map (fun i => (i.zero, i.size, i.bytes)) = some (some (.agg #[.int .i64 0, .string ⟨#[]⟩, .int .i64 0, .int .i64 0, .int .u64 0, .int .u64 0, .int .u64 0, .string ⟨#[]⟩, .slice none 0 0, .bool false, .int .i64 0, .int .i64 0, .string ⟨#[]⟩, .slice none 0 0, .string ⟨#[]⟩]), 15, 184) := by kernel_rfl
abbrev zeroFld : Array Value := #[.int .i64 0, .string ⟨#[]⟩, .int .i64 0, .int .i64 0, .int .u64 0, .int .u64 0, .int .u64 0, .string ⟨#[]⟩, .slice none 0 0, .bool false, .int .i64 0, .int .i64 0, .string ⟨#[]⟩, .slice none 0 0, .string ⟨#[]⟩]
/-- The cells of the first n of these, carried or bare. -/
def cars (g : Nat → Fld) (n : Nat) : List Value := carr g n
def bare (g : Nat → Fld) : Nat → List Value
  | 0 => []
  | n + 1 => bare g n ++ (g n).arr.toList
theorem bare_length (g : Nat → Fld) : ∀ n, (bare g n).length = n * 15
  | 0 => rfl
  | n + 1 => by rw [bare, List.length_append, bare_length g n]; simp; omega
theorem set15 (xs : List Value) (z0 z1 z2 z3 z4 z5 z6 z7 z8 z9 z10 z11 z12 z13 z14 v0 v1 v2 v3 v4 v5 v6 v7 v8 v9 v10 v11 v12 v13 v14 : Value) (m : Nat) (hm : xs.length = m) :
    (((((((((((((((xs ++ [z0, z1, z2, z3, z4, z5, z6, z7, z8, z9, z10, z11, z12, z13, z14]).set m v0).set (m + 1) v1).set (m + 2) v2).set (m + 3) v3).set (m + 4) v4).set (m + 5) v5).set (m + 6) v6).set (m + 7) v7).set (m + 8) v8).set (m + 9) v9).set (m + 10) v10).set (m + 11) v11).set (m + 12) v12).set (m + 13) v13).set (m + 14) v14 = xs ++ [v0, v1, v2, v3, v4, v5, v6, v7, v8, v9, v10, v11, v12, v13, v14] := by
  subst hm
  simp [List.set_append_right]
theorem own15 {w1 : World} {B g1 q cap : Nat} {xs : List Value} (f : Fld) (h : w1.ownsRow B 39 15 (.slice (some ⟨g1, 0, none⟩) (q + 1) cap) (q + 1) (xs ++ zeroFld.toList)) (hl : xs.length = q * 15) :
    ((((((((((((((((w1).setCell ⟨g1, q * 15, none⟩ (.int .i64 f.kind)).setCell ⟨g1, q * 15 + 1, none⟩ (.string f.key)).setCell ⟨g1, q * 15 + 2, none⟩ (.int .i64 f.width)).setCell ⟨g1, q * 15 + 3, none⟩ (.int .i64 f.int)).setCell ⟨g1, q * 15 + 4, none⟩ (.int .u64 f.uint)).setCell ⟨g1, q * 15 + 5, none⟩ (.int .u64 f.re)).setCell ⟨g1, q * 15 + 6, none⟩ (.int .u64 f.im)).setCell ⟨g1, q * 15 + 7, none⟩ (.string f.text)).setCell ⟨g1, q * 15 + 8, none⟩ (.slice f.bA f.bn f.bc)).setCell ⟨g1, q * 15 + 9, none⟩ (.bool f.zero)).setCell ⟨g1, q * 15 + 10, none⟩ (.int .i64 f.nanos)).setCell ⟨g1, q * 15 + 11, none⟩ (.int .i64 f.offset)).setCell ⟨g1, q * 15 + 12, none⟩ (.string f.zone)).setCell ⟨g1, q * 15 + 13, none⟩ (.slice f.iA f.ilen f.ic)).setCell ⟨g1, q * 15 + 14, none⟩ (.string f.fail)).ownsRow B 39 15 (.slice (some ⟨g1, 0, none⟩) (q + 1) cap) (q + 1) (xs ++ f.arr.toList) := by
  have h15 := (((((((((((((((h.stored (q * 15) (.int .i64 f.kind)).1.stored (q * 15 + 1) (.string f.key)).1.stored (q * 15 + 2) (.int .i64 f.width)).1.stored (q * 15 + 3) (.int .i64 f.int)).1.stored (q * 15 + 4) (.int .u64 f.uint)).1.stored (q * 15 + 5) (.int .u64 f.re)).1.stored (q * 15 + 6) (.int .u64 f.im)).1.stored (q * 15 + 7) (.string f.text)).1.stored (q * 15 + 8) (.slice f.bA f.bn f.bc)).1.stored (q * 15 + 9) (.bool f.zero)).1.stored (q * 15 + 10) (.int .i64 f.nanos)).1.stored (q * 15 + 11) (.int .i64 f.offset)).1.stored (q * 15 + 12) (.string f.zone)).1.stored (q * 15 + 13) (.slice f.iA f.ilen f.ic)).1.stored (q * 15 + 14) (.string f.fail)).1
  rw [set15 xs _ _ _ _ _ _ _ _ _ _ _ _ _ _ _ _ _ _ _ _ _ _ _ _ _ _ _ _ _ _ (q * 15) hl] at h15
  exact h15
/-- The list's variable and its row, behind the two stores, in either order. -/
def NoteEnd (w1 : World) (B Lb g1 q cap : Nat) (ys : List Value) (w' : World) : Prop := Blk w' Lb 37 #[.slice (some ⟨g1, 0, none⟩) (q + 1) cap] ∧ w'.ownsRow B 39 15 (.slice (some ⟨g1, 0, none⟩) (q + 1) cap) (q + 1) ys ∧ Only (fun k => k = Lb ∨ k = g1) w1 w'
theorem noteA {w1 : World} {B Lb g1 q cap : Nat} {V : Value} {xs : List Value} (f : Fld) (h : w1.ownsRow B 39 15 (.slice (some ⟨g1, 0, none⟩) (q + 1) cap) (q + 1) (xs ++ zeroFld.toList)) (hl : xs.length = q * 15) (hL : Blk w1 Lb 37 #[V]) (hne : ¬ g1 = Lb) :
    NoteEnd w1 B Lb g1 q cap (xs ++ f.arr.toList) (((((((((((((((((w1).setCell ⟨g1, q * 15, none⟩ (.int .i64 f.kind)).setCell ⟨g1, q * 15 + 1, none⟩ (.string f.key)).setCell ⟨g1, q * 15 + 2, none⟩ (.int .i64 f.width)).setCell ⟨g1, q * 15 + 3, none⟩ (.int .i64 f.int)).setCell ⟨g1, q * 15 + 4, none⟩ (.int .u64 f.uint)).setCell ⟨g1, q * 15 + 5, none⟩ (.int .u64 f.re)).setCell ⟨g1, q * 15 + 6, none⟩ (.int .u64 f.im)).setCell ⟨g1, q * 15 + 7, none⟩ (.string f.text)).setCell ⟨g1, q * 15 + 8, none⟩ (.slice f.bA f.bn f.bc)).setCell ⟨g1, q * 15 + 9, none⟩ (.bool f.zero)).setCell ⟨g1, q * 15 + 10, none⟩ (.int .i64 f.nanos)).setCell ⟨g1, q * 15 + 11, none⟩ (.int .i64 f.offset)).setCell ⟨g1, q * 15 + 12, none⟩ (.string f.zone)).setCell ⟨g1, q * 15 + 13, none⟩ (.slice f.iA f.ilen f.ic)).setCell ⟨g1, q * 15 + 14, none⟩ (.string f.fail)).setCell ⟨Lb, 0, none⟩ (.slice (some ⟨g1, 0, none⟩) (q + 1) cap)) := by
  have h1 := own15 f h hl
  have ho : Only (fun k => k = Lb ∨ k = g1) w1 ((((((((((((((((w1).setCell ⟨g1, q * 15, none⟩ (.int .i64 f.kind)).setCell ⟨g1, q * 15 + 1, none⟩ (.string f.key)).setCell ⟨g1, q * 15 + 2, none⟩ (.int .i64 f.width)).setCell ⟨g1, q * 15 + 3, none⟩ (.int .i64 f.int)).setCell ⟨g1, q * 15 + 4, none⟩ (.int .u64 f.uint)).setCell ⟨g1, q * 15 + 5, none⟩ (.int .u64 f.re)).setCell ⟨g1, q * 15 + 6, none⟩ (.int .u64 f.im)).setCell ⟨g1, q * 15 + 7, none⟩ (.string f.text)).setCell ⟨g1, q * 15 + 8, none⟩ (.slice f.bA f.bn f.bc)).setCell ⟨g1, q * 15 + 9, none⟩ (.bool f.zero)).setCell ⟨g1, q * 15 + 10, none⟩ (.int .i64 f.nanos)).setCell ⟨g1, q * 15 + 11, none⟩ (.int .i64 f.offset)).setCell ⟨g1, q * 15 + 12, none⟩ (.string f.zone)).setCell ⟨g1, q * 15 + 13, none⟩ (.slice f.iA f.ilen f.ic)).setCell ⟨g1, q * 15 + 14, none⟩ (.string f.fail)) := (((((((((((((((Only.refl (fun k => k = Lb ∨ k = g1) w1).setCell (p := ⟨g1, q * 15, none⟩) (.inl (.inr rfl)) (.int .i64 f.kind)).setCell (p := ⟨g1, q * 15 + 1, none⟩) (.inl (.inr rfl)) (.string f.key)).setCell (p := ⟨g1, q * 15 + 2, none⟩) (.inl (.inr rfl)) (.int .i64 f.width)).setCell (p := ⟨g1, q * 15 + 3, none⟩) (.inl (.inr rfl)) (.int .i64 f.int)).setCell (p := ⟨g1, q * 15 + 4, none⟩) (.inl (.inr rfl)) (.int .u64 f.uint)).setCell (p := ⟨g1, q * 15 + 5, none⟩) (.inl (.inr rfl)) (.int .u64 f.re)).setCell (p := ⟨g1, q * 15 + 6, none⟩) (.inl (.inr rfl)) (.int .u64 f.im)).setCell (p := ⟨g1, q * 15 + 7, none⟩) (.inl (.inr rfl)) (.string f.text)).setCell (p := ⟨g1, q * 15 + 8, none⟩) (.inl (.inr rfl)) (.slice f.bA f.bn f.bc)).setCell (p := ⟨g1, q * 15 + 9, none⟩) (.inl (.inr rfl)) (.bool f.zero)).setCell (p := ⟨g1, q * 15 + 10, none⟩) (.inl (.inr rfl)) (.int .i64 f.nanos)).setCell (p := ⟨g1, q * 15 + 11, none⟩) (.inl (.inr rfl)) (.int .i64 f.offset)).setCell (p := ⟨g1, q * 15 + 12, none⟩) (.inl (.inr rfl)) (.string f.zone)).setCell (p := ⟨g1, q * 15 + 13, none⟩) (.inl (.inr rfl)) (.slice f.iA f.ilen f.ic)).setCell (p := ⟨g1, q * 15 + 14, none⟩) (.inl (.inr rfl)) (.string f.fail)
  have ho2 : Only (fun k => k = g1) w1 ((((((((((((((((w1).setCell ⟨g1, q * 15, none⟩ (.int .i64 f.kind)).setCell ⟨g1, q * 15 + 1, none⟩ (.string f.key)).setCell ⟨g1, q * 15 + 2, none⟩ (.int .i64 f.width)).setCell ⟨g1, q * 15 + 3, none⟩ (.int .i64 f.int)).setCell ⟨g1, q * 15 + 4, none⟩ (.int .u64 f.uint)).setCell ⟨g1, q * 15 + 5, none⟩ (.int .u64 f.re)).setCell ⟨g1, q * 15 + 6, none⟩ (.int .u64 f.im)).setCell ⟨g1, q * 15 + 7, none⟩ (.string f.text)).setCell ⟨g1, q * 15 + 8, none⟩ (.slice f.bA f.bn f.bc)).setCell ⟨g1, q * 15 + 9, none⟩ (.bool f.zero)).setCell ⟨g1, q * 15 + 10, none⟩ (.int .i64 f.nanos)).setCell ⟨g1, q * 15 + 11, none⟩ (.int .i64 f.offset)).setCell ⟨g1, q * 15 + 12, none⟩ (.string f.zone)).setCell ⟨g1, q * 15 + 13, none⟩ (.slice f.iA f.ilen f.ic)).setCell ⟨g1, q * 15 + 14, none⟩ (.string f.fail)) := (((((((((((((((Only.refl (fun k => k = g1) w1).setCell (p := ⟨g1, q * 15, none⟩) (.inl rfl) (.int .i64 f.kind)).setCell (p := ⟨g1, q * 15 + 1, none⟩) (.inl rfl) (.string f.key)).setCell (p := ⟨g1, q * 15 + 2, none⟩) (.inl rfl) (.int .i64 f.width)).setCell (p := ⟨g1, q * 15 + 3, none⟩) (.inl rfl) (.int .i64 f.int)).setCell (p := ⟨g1, q * 15 + 4, none⟩) (.inl rfl) (.int .u64 f.uint)).setCell (p := ⟨g1, q * 15 + 5, none⟩) (.inl rfl) (.int .u64 f.re)).setCell (p := ⟨g1, q * 15 + 6, none⟩) (.inl rfl) (.int .u64 f.im)).setCell (p := ⟨g1, q * 15 + 7, none⟩) (.inl rfl) (.string f.text)).setCell (p := ⟨g1, q * 15 + 8, none⟩) (.inl rfl) (.slice f.bA f.bn f.bc)).setCell (p := ⟨g1, q * 15 + 9, none⟩) (.inl rfl) (.bool f.zero)).setCell (p := ⟨g1, q * 15 + 10, none⟩) (.inl rfl) (.int .i64 f.nanos)).setCell (p := ⟨g1, q * 15 + 11, none⟩) (.inl rfl) (.int .i64 f.offset)).setCell (p := ⟨g1, q * 15 + 12, none⟩) (.inl rfl) (.string f.zone)).setCell (p := ⟨g1, q * 15 + 13, none⟩) (.inl rfl) (.slice f.iA f.ilen f.ic)).setCell (p := ⟨g1, q * 15 + 14, none⟩) (.inl rfl) (.string f.fail)
  have hL1 := hL.only ho2 (fun e => hne e.symm)
  exact ⟨by simpa using hL1.set_ 0 (.slice (some ⟨g1, 0, none⟩) (q + 1) cap), own_only h1 ((Only.refl (fun k => k = Lb) _).setCell (.inl rfl) _) (fun k hk e => own_ne h1 hL1 (by decide) (by rw [hk, e])), ho.setCell (.inl (.inl rfl)) _⟩
theorem noteB {w1 : World} {B Lb g1 q cap : Nat} {V : Value} {xs : List Value} (f : Fld) (h : w1.ownsRow B 39 15 (.slice (some ⟨g1, 0, none⟩) (q + 1) cap) (q + 1) (xs ++ zeroFld.toList)) (hl : xs.length = q * 15) (hL : Blk w1 Lb 37 #[V]) (hne : ¬ g1 = Lb) :
    NoteEnd w1 B Lb g1 q cap (xs ++ f.arr.toList) (((((((((((((((((w1.setCell ⟨Lb, 0, none⟩ (.slice (some ⟨g1, 0, none⟩) (q + 1) cap))).setCell ⟨g1, q * 15, none⟩ (.int .i64 f.kind)).setCell ⟨g1, q * 15 + 1, none⟩ (.string f.key)).setCell ⟨g1, q * 15 + 2, none⟩ (.int .i64 f.width)).setCell ⟨g1, q * 15 + 3, none⟩ (.int .i64 f.int)).setCell ⟨g1, q * 15 + 4, none⟩ (.int .u64 f.uint)).setCell ⟨g1, q * 15 + 5, none⟩ (.int .u64 f.re)).setCell ⟨g1, q * 15 + 6, none⟩ (.int .u64 f.im)).setCell ⟨g1, q * 15 + 7, none⟩ (.string f.text)).setCell ⟨g1, q * 15 + 8, none⟩ (.slice f.bA f.bn f.bc)).setCell ⟨g1, q * 15 + 9, none⟩ (.bool f.zero)).setCell ⟨g1, q * 15 + 10, none⟩ (.int .i64 f.nanos)).setCell ⟨g1, q * 15 + 11, none⟩ (.int .i64 f.offset)).setCell ⟨g1, q * 15 + 12, none⟩ (.string f.zone)).setCell ⟨g1, q * 15 + 13, none⟩ (.slice f.iA f.ilen f.ic)).setCell ⟨g1, q * 15 + 14, none⟩ (.string f.fail)) := by
  have hL1 : Blk (w1.setCell ⟨Lb, 0, none⟩ (.slice (some ⟨g1, 0, none⟩) (q + 1) cap)) Lb 37 #[.slice (some ⟨g1, 0, none⟩) (q + 1) cap] := by simpa using hL.set_ 0 (.slice (some ⟨g1, 0, none⟩) (q + 1) cap)
  have hb : Only (fun k => k = Lb) w1 (w1.setCell ⟨Lb, 0, none⟩ (.slice (some ⟨g1, 0, none⟩) (q + 1) cap)) := (Only.refl (fun k => k = Lb) w1).setCell (.inl rfl) _
  have h0 := own_only h hb (fun k hk e => own_ne h hL (by decide) (by rw [hk, e]))
  have h1 := own15 f h0 hl
  have ho2 : Only (fun k => k = g1) (w1.setCell ⟨Lb, 0, none⟩ (.slice (some ⟨g1, 0, none⟩) (q + 1) cap)) (((((((((((((((((w1.setCell ⟨Lb, 0, none⟩ (.slice (some ⟨g1, 0, none⟩) (q + 1) cap))).setCell ⟨g1, q * 15, none⟩ (.int .i64 f.kind)).setCell ⟨g1, q * 15 + 1, none⟩ (.string f.key)).setCell ⟨g1, q * 15 + 2, none⟩ (.int .i64 f.width)).setCell ⟨g1, q * 15 + 3, none⟩ (.int .i64 f.int)).setCell ⟨g1, q * 15 + 4, none⟩ (.int .u64 f.uint)).setCell ⟨g1, q * 15 + 5, none⟩ (.int .u64 f.re)).setCell ⟨g1, q * 15 + 6, none⟩ (.int .u64 f.im)).setCell ⟨g1, q * 15 + 7, none⟩ (.string f.text)).setCell ⟨g1, q * 15 + 8, none⟩ (.slice f.bA f.bn f.bc)).setCell ⟨g1, q * 15 + 9, none⟩ (.bool f.zero)).setCell ⟨g1, q * 15 + 10, none⟩ (.int .i64 f.nanos)).setCell ⟨g1, q * 15 + 11, none⟩ (.int .i64 f.offset)).setCell ⟨g1, q * 15 + 12, none⟩ (.string f.zone)).setCell ⟨g1, q * 15 + 13, none⟩ (.slice f.iA f.ilen f.ic)).setCell ⟨g1, q * 15 + 14, none⟩ (.string f.fail)) := (((((((((((((((Only.refl (fun k => k = g1) _).setCell (p := ⟨g1, q * 15, none⟩) (.inl rfl) (.int .i64 f.kind)).setCell (p := ⟨g1, q * 15 + 1, none⟩) (.inl rfl) (.string f.key)).setCell (p := ⟨g1, q * 15 + 2, none⟩) (.inl rfl) (.int .i64 f.width)).setCell (p := ⟨g1, q * 15 + 3, none⟩) (.inl rfl) (.int .i64 f.int)).setCell (p := ⟨g1, q * 15 + 4, none⟩) (.inl rfl) (.int .u64 f.uint)).setCell (p := ⟨g1, q * 15 + 5, none⟩) (.inl rfl) (.int .u64 f.re)).setCell (p := ⟨g1, q * 15 + 6, none⟩) (.inl rfl) (.int .u64 f.im)).setCell (p := ⟨g1, q * 15 + 7, none⟩) (.inl rfl) (.string f.text)).setCell (p := ⟨g1, q * 15 + 8, none⟩) (.inl rfl) (.slice f.bA f.bn f.bc)).setCell (p := ⟨g1, q * 15 + 9, none⟩) (.inl rfl) (.bool f.zero)).setCell (p := ⟨g1, q * 15 + 10, none⟩) (.inl rfl) (.int .i64 f.nanos)).setCell (p := ⟨g1, q * 15 + 11, none⟩) (.inl rfl) (.int .i64 f.offset)).setCell (p := ⟨g1, q * 15 + 12, none⟩) (.inl rfl) (.string f.zone)).setCell (p := ⟨g1, q * 15 + 13, none⟩) (.inl rfl) (.slice f.iA f.ilen f.ic)).setCell (p := ⟨g1, q * 15 + 14, none⟩) (.inl rfl) (.string f.fail)
  exact ⟨hL1.only ho2 (fun e => hne e.symm), h1, (hb.mono (fun i _ h => .inl h)).then ho2 (fun i _ h => .inr h)⟩
theorem own_tag {w : World} {B : Nat} {e T : TypeId} {size n k : Nat} {v : Value} {xs : List Value} {cs : Array Value} {fz : Nat × Nat} (h : w.ownsRow B e size v n xs) (hk : w.heap[k]? = some (Obj.cells cs T fz)) (hT : e ≠ T) : v.ownBlock ≠ some k := by
  intro hv
  rcases h.2 with ⟨rfl, _⟩ | ⟨g, cap, cur, rfl, _, hg, _⟩
  · simp [Value.ownBlock] at hv
  · have : g = k := by simpa [Value.ownBlock] using hv
    subst this
    rw [hg] at hk
    injection hk with hk
    injection hk with _ h2
    exact hT h2
theorem blk_tag {w : World} {b T T' : TypeId} {cs cs' : Array Value} {fz : Nat × Nat} (h : Blk w b T cs) (hk : w.heap[b]? = some (Obj.cells cs' T' fz)) : T = T' := by
  unfold Blk at h
  rw [hk] at h
  injection h with h
  injection h with _ h2
  exact h2.symm
theorem note_close {w wr W3 w1 W' : World} {Ob Lb g1 q cap n : Nat} {V Vs : Value} {eo : Array Value} {g : Nat → Fld} (tO : Blk wr Ob 50 eo) (to : Only (fun b => b = Ob ∨ b = Lb) w wr) (ts : SrcF wr Vs n (carr g n)) (b3 : Below wr.heap.size wr W3) (own3 : W3.ownsRow w.heap.size 39 15 V q (bare g q)) (ho1 : Only (fun k => V.ownBlock = some k) W3 w1)
    (hown1 : w1.ownsRow w.heap.size 39 15 (.slice (some ⟨g1, 0, none⟩) (q + 1) cap) (q + 1) (bare g q ++ zeroFld.toList)) (L1 : ∃ u, Blk w1 Lb 37 #[u]) (hne : Lb ≠ Ob) (hE : NoteEnd w1 w.heap.size Lb g1 q cap (bare g q ++ (g q).arr.toList) W') :
    Blk W' Ob 50 eo ∧ (∃ V, Blk W' Lb 37 #[V] ∧ W'.ownsRow w.heap.size 39 15 V (q + 1) (bare g (q + 1))) ∧ SrcF W' Vs n (carr g n) ∧ Only (fun b => b = Ob ∨ b = Lb) w W' := by
  obtain ⟨e1, e2, e3⟩ := hE
  obtain ⟨u, L1⟩ := L1
  have O3 := tO.here b3
  have O1 := O3.only ho1 (own_ne own3 O3 (by decide))
  have gO : g1 ≠ Ob := fun e => own_ne hown1 O1 (by decide) (by rw [e]; rfl)
  refine ⟨O1.only e3 (fun h => by rcases h with h | h; exact hne h.symm; exact gO h.symm), ⟨_, e1, e2⟩, ?_, ?_⟩
  · refine ((ts.below b3).only ho1 (fun b cs fz hk => own_tag own3 hk (by decide))).only e3 (fun b cs fz hk h => ?_)
    rcases h with h | h
    · subst h
      exact absurd (blk_tag L1 hk) (by decide)
    · exact own_tag hown1 hk (by decide) (by rw [h]; rfl)
  · refine (((to.trans (Only.none_of_below b3)).then ho1 (fun i hi h => ?_))).then e3 (fun i hi h => ?_)
    · have := (own3.lt i h).1; omega
    · rcases h with h | h
      · exact .inr h
      · have := (hown1.lt g1 rfl).1; omega
end Go.Proofs.YtieidjlmgalihaaGreatDoor
