/- Field.Equals: bytes, and marshalers. -/
import Derived.Test.YtieidjlmgalihaaGreatDoorEqJ
set_option linter.all false
namespace Go.Proofs.YtieidjlmgalihaaGreatDoor
open Go.RowKit
set_option maxRecDepth 100000
theorem eql20 (W : World) (b : Bool) (t t' : TypeId) (v v' : Value) (h : (Op.equalIn 10000 20 (.iface t v) (.iface t' v')).run Tryz.prog W = .ok b W) : (binOp .eql 20 (.iface t v) (.iface t' v')).run Tryz.prog W = .ok (.bool b) W := by
  simp only [binOp]
  simp [Op.equal, Op.maxDepth, h]
theorem ifEq_told' (W : World) (z z' : ByteArray) : (Op.equalIn 10000 20 (.iface 293 (.string z)) (.iface 293 (.string z'))).run Tryz.prog W = .ok (z.toList == z'.toList) W :=
  (iface_eq W 9999 293 _ _ (by kernel_rfl)).trans (run_equalIn_string W 9998 293 z z' Tryz.underlying293)
/-- zzDeepEqual of two texts. -/
theorem deep_told (w : World) (z z' : ByteArray) : Calls Tryz.prog 111 #[.iface 293 (.string z), .iface 293 (.string z')] w (BoolIs (z.toList == z'.toList) w) := by
  have h1 : ∀ (v : Value) (W : World), (Instr.typeAssert (.iface 293 v) 20 297 true).run Tryz.prog W = .ok (.tuple #[.nilIface, .bool false]) W := fun v W => run_typeAssert_lacksB Tryz.underlying297 (by kernel_rfl) (by kernel_rfl) v 20 W
  have h2 := eql20 w (z.toList == z'.toList) 293 293 (.string z) (.string z') (ifEq_told' w z z')
  go_enter Tryz.func111, Tryz.ntmps111
  go_wp2_with fail
  go_ret
  exact ⟨rfl, Below.refl _ _⟩
/-- zzDeepEqual of a pointer and something else, or another pointer. -/
theorem deep_ptr (w : World) (p : Value) (t' : TypeId) (v' : Value) (h : (binOp .eql 20 (.iface 227 p) (.iface t' v')).run Tryz.prog w = .ok (.bool false) w) : Calls Tryz.prog 111 #[.iface 227 p, .iface t' v'] w (BoolIs false w) := by
  have h1 : ∀ (v : Value) (W : World), (Instr.typeAssert (.iface 227 v) 20 297 true).run Tryz.prog W = .ok (.tuple #[.nilIface, .bool false]) W := fun v W => run_typeAssert_lacksB Tryz.underlying297 (by kernel_rfl) (by kernel_rfl) v 20 W
  go_enter Tryz.func111, Tryz.ntmps111
  go_wp2_with fail
  go_ret
  exact ⟨rfl, Below.refl _ _⟩
/-- itemList.DeepEqual of two lists. -/
theorem itemDeep (w : World) (A A' : Option Addr) (n m c c' : Nat) (s s' : ByteArray) (l k : List FT) (h : FtsOk w A n l) (h' : FtsOk w A' m k) :
    Calls Tryz.prog 350 #[.agg #[.slice A n c, .string s], .iface 221 (.agg #[.slice A' m c', .string s'])] w (BoolIs (s.toList == s'.toList && alikeL l k) w) := by
  have h1 : ∀ (v : Value) (W : World), (Instr.typeAssert (.iface 221 v) 20 221 true).run Tryz.prog W = .ok (.tuple #[v, .bool true]) W := fun _ _ => by kernel_rfl
  have HS := Lib.hid (fun W (hb : Below w.heap.size w W) => sameItems_any (SizeOf.sizeOf l + 1) W A A' n m c c' l k (by omega) (h.below hb) (h'.below hb))
  clear h h'
  by_cases hs : (s.toList == s'.toList) = true
  · rw [hs]
    go_enter Tryz.func350, Tryz.ntmps350
    go_wp2_with (go_at_call 352; go_must (refine (HS.out _ (by go_grown)).mono ?_; rintro e w1 ⟨rfl, hb1⟩; have hB : Below w.heap.size w w1 := Below.trans (by go_grown) (hb1.mono (by simp; omega)); clear hb1))
    go_ret
    exact ⟨rfl, hB⟩
  · have hs' : (s.toList == s'.toList) = false := by simpa using hs
    rw [hs']
    clear hs
    go_enter Tryz.func350, Tryz.ntmps350
    go_wp2_with fail
    go_ret
    exact ⟨rfl, by go_grown⟩
/-- itemList.DeepEqual of a list and a pointer. -/
theorem itemDeep_no (w : World) (A : Option Addr) (n c : Nat) (s : ByteArray) (p : Value) :
    Calls Tryz.prog 350 #[.agg #[.slice A n c, .string s], .iface 227 p] w (BoolIs false w) := by
  have h1 : ∀ (v : Value) (W : World), (Instr.typeAssert (.iface 227 v) 20 221 true).run Tryz.prog W = .ok (.tuple #[.agg #[.slice none 0 0, .string ⟨#[]⟩], .bool false]) W := fun _ _ => by kernel_rfl
  go_enter Tryz.func350, Tryz.ntmps350
  go_wp2_with fail
  go_ret
  exact ⟨rfl, by go_grown⟩
/-- zzDeepEqual of a list and something. -/
theorem deep_list (w : World) (A : Option Addr) (n c : Nat) (s : ByteArray) (t' : TypeId) (v' : Value) (b : Bool) (h : Calls Tryz.prog 350 #[.agg #[.slice A n c, .string s], .iface t' v'] w (BoolIs b w)) : Calls Tryz.prog 111 #[.iface 221 (.agg #[.slice A n c, .string s]), .iface t' v'] w (BoolIs b w) := by
  have h1 : ∀ (v : Value) (W : World), (Instr.typeAssert (.iface 221 v) 20 297 true).run Tryz.prog W = .ok (.tuple #[.iface 221 v, .bool true]) W := fun v W => run_typeAssert_hasB Tryz.underlying297 (by kernel_rfl) v 20 W
  have HD := Lib.hid h
  clear h
  go_enter Tryz.func111, Tryz.ntmps111
  go_wp2_with (go_at_call 350; go_must (refine HD.out.mono ?_; rintro e w1 ⟨rfl, hb1⟩))
  go_ret
  exact ⟨rfl, hb1⟩
/-- Fields that hold marshalers. -/
theorem equals_deep (w : World) (k k' s s' : ByteArray) (T n n' : Int) (t t' : TypeId) (v v' : Value) (b : Bool) (hk : (k.toList == k'.toList) = true) (hT : T = 1 ∨ T = 2 ∨ T = 26)
    (h : ∀ W, Below w.heap.size w W → Calls Tryz.prog 111 #[.iface t v, .iface t' v'] W (BoolIs b W)) :
    Calls Tryz.prog 61 #[.agg (pubArr k T n s (.iface t v)), .agg (pubArr k' T n' s' (.iface t' v'))] w (BoolIs b w) := by
  have HH := Lib.hid h
  clear h
  rcases hT with rfl | rfl | rfl
  all_goals
    go_enter Tryz.func61, Tryz.ntmps61
    go_wp2_with (go_at_call 111; go_must (refine (HH.out _ (by go_grown)).mono ?_; rintro e w1 ⟨rfl, hb1⟩; have hB : Below w.heap.size w w1 := Below.trans (by go_grown) (hb1.mono (by simp; omega)); clear hb1))
    go_ret
    exact ⟨rfl, hB⟩
/-- Fields that hold bytes. -/
theorem equals_bytes (w : World) (k k' s s' : ByteArray) (T n n' : Int) (A A' : Option Addr) (c c' : Nat) (x y : List UInt8) (hk : (k.toList == k'.toList) = true) (hT : T = 3 ∨ T = 5) (hx : ReadsB w A x) (hy : ReadsB w A' y) :
    Calls Tryz.prog 61 #[.agg (pubArr k T n s (.iface 36 (.slice A x.length c))), .agg (pubArr k' T n' s' (.iface 36 (.slice A' y.length c')))] w (BoolIs (x == y) w) := by
  have h1 : ∀ (v : Value) (W : World), (Instr.typeAssert (.iface 36 v) 20 36 false).run Tryz.prog W = .ok v W := fun _ _ => by kernel_rfl
  have HX := Lib.hid (And.intro hx hy)
  clear hx hy
  rcases hT with rfl | rfl
  all_goals
    go_enter Tryz.func61, Tryz.ntmps61
    go_wp2_with fail
    go_region_held3 (fun w' => w'.cell? ⟨w.heap.size, 4, none⟩ = some (.iface 36 (.slice A x.length c)) ∧ w'.cell? ⟨w.heap.size + 1, 4, none⟩ = some (.iface 36 (.slice A' y.length c'))) (go_keep) (first | (go_at_call 110; go_must (refine (bytesEqual_any _ A A' x y c c' (HX.out.1.below (by go_grown)) (HX.out.2.below (by go_grown))).mono ?_; rintro e w1 ⟨rfl, rfl⟩)))
    all_goals go_wp2_with fail
    all_goals go_ret
    all_goals exact ⟨rfl, by go_grown⟩
end Go.Proofs.YtieidjlmgalihaaGreatDoor
