/- The reader of JSON: a text of plain bytes. -/
import Derived.Test.YtieidjlmgalihaaGreatDoorTbT
import Derived.Deep.RegionHeldLaw
import Derived.Lib.Strings
set_option linter.all false
namespace Go.Proofs.YtieidjlmgalihaaGreatDoor
open Go.RowKit Go.PlainAid
set_option maxRecDepth 100000
theorem dec_ascii (w : World) (t : ByteArray) (h : 0 < t.size) (hc : bt t 0 < 128) : Calls Tryz.prog 138 #[.string t] w fun e w' => e = .returned (.tuple #[.int .i32 (bt t 0), .int .i64 1]) ∧ w = w' := by
  have hb' := get_bt t
  have h0 := bt_nonneg t 0
  have hz0 : (0 : Int) < (t.size : Int) := by omega
  have hne : t.toList.isEmpty = false := by
    rw [Lib.toList_data]
    cases h1 : t.data.toList with
    | nil => exact absurd (by rw [Lib.size_eq, h1]; rfl) (Nat.pos_iff_ne_zero.1 h)
    | cons _ _ => rfl
  go_enter Tryz.func138, Tryz.ntmps138
  go_wp2
  exact bodyPost_ret (v := .tuple #[.int .i32 (bt t 0), .int .i64 1]) (by simp [results, Tryz.results138, go_sem]) rfl ⟨rfl, rfl⟩
/-- The bytes of a text from p on, n of them. -/
def sub (s : ByteArray) (p n : Nat) : List UInt8 := (s.data.toList.drop p).take n
theorem sub_len {s : ByteArray} {p n : Nat} (h : p + n ≤ s.size) : (sub s p n).length = n := by
  have : s.data.toList.length = s.size := (Lib.size_eq s).symm
  simp [sub]; omega
theorem sub_ext (s : ByteArray) (p n : Nat) : s.extract p (p + n) = ⟨(sub s p n).toArray⟩ := by
  rw [Lib.extract_eq, Nat.add_sub_cancel_left]; rfl
theorem sub_add (s : ByteArray) (p i j : Nat) : sub s p (i + j) = sub s p i ++ sub s (p + i) j := by
  simp [sub, List.take_add, List.drop_drop]
theorem sub_one {s : ByteArray} {p : Nat} (h : p < s.size) : ∃ c : UInt8, sub s p 1 = [c] ∧ (c.toNat : Int) = bt s p := by
  have hl := sub_len (s := s) (p := p) (n := 1) (by omega)
  refine ⟨s[p]'h, ?_, get_bt s p h⟩
  have hd : p < s.data.toList.length := by rw [← Lib.size_eq]; exact h
  unfold sub
  rw [List.drop_eq_getElem_cons hd]
  simp
  rfl
/-- append(b, s...) at a step of a region that draws. -/
theorem step_append_str {ops : Array Oper} {o : Oper} {a : Act} {K : Act → World → Prop} {Q : Exit → Act → World → Prop} {E : Prop} (w0 : World) (hgd : o.guard = none) (sl x : Operand)
    (ho : o.op = .call { callee := .builtin .append, args := #[sl, x], argTypes := #[36, 9] }) (B : Nat) (V : Value) (l : List UInt8) (hs : a.eval sl = V) (hown : Bs w0 B V l) (s : ByteArray) (hx : a.eval x = .string s) (hlen : l.length + s.size ≤ 1000000) (hB : B ≤ w0.heap.size)
    (h : ∀ V' w', Bs w' B V' (l ++ s.data.toList) → w0.grownBy w' V.ownBlock → K (a.put o.dst V') w') :
    if Region.wanted o (yielded ops a.tmps) = true then Oper.wp Tryz.prog o a w0 K Q else E := by
  have hw : Region.wanted o (yielded ops a.tmps) = true := by simp [Region.wanted, hgd]
  rw [if_pos hw]
  obtain ⟨i, hi, hz0, hz1, hz2⟩ := info_parts info5b
  obtain ⟨v', w', hr, h2, h3, h4⟩ := Lib.run_append_own_string (P := Tryz.prog) w0 B 36 9 o.type 5 i Tryz.underlying36 Tryz.underlying9 hi hz0 hz1 hz2 V l.length (bvals l) hown s (by unfold maxLen; omega) (by omega) hB
  unfold Oper.wp execOp
  simp only [ho, resolve, invoke, builtin, Sem.run_bind, Sem.run_pure, Result.andThen_ok, List.map_toArray, List.map_cons, List.map_nil, hs, hx, hr]
  refine h v' w' ?_ h3
  unfold Bs
  have e1 : (l ++ s.data.toList).length = l.length + s.size := by rw [List.length_append, ← Lib.size_eq]
  have e2 : bvals (l ++ s.data.toList) = bvals l ++ Lib.strCells s := by simp [bvals, Lib.strCells]
  rw [e1, e2]
  exact h2
end Go.Proofs.YtieidjlmgalihaaGreatDoor
