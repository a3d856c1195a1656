/- Small calls behind fields as the package has them. -/
import Derived.Test.YtieidjlmgalihaaGreatDoorEqT
import Derived.Test.YtieidjlmgalihaaGreatDoorBas
set_option linter.all false
namespace Go.Proofs.YtieidjlmgalihaaGreatDoor
open Go.RowKit
set_option maxRecDepth 100000
theorem info5 : (Tryz.prog.info? 5).map (fun i => (i.zero, i.size, i.bytes)) = some (some (.int .u8 0), 1, 1) := by kernel_rfl
theorem info156 : (Tryz.prog.info? 156).map (fun i => (i.zero, i.size, i.bytes)) = some (some .nilIface, 1, 16) := by kernel_rfl
theorem one_bvals (l : List UInt8) : ∀ v ∈ bvals l, v.oneCell' = true := by
  intro v hv
  simp only [bvals, List.mem_map] at hv
  obtain ⟨c, _, rfl⟩ := hv
  rfl
/-- An owned row of bytes, to read. -/
theorem own_reads {w : World} {B n : Nat} {V : Value} {l : List UInt8} (h : w.ownsRow B 5 1 V n (bvals l)) : ∃ A c, V = .slice A n c ∧ ReadsB w A l ∧ l.length = n := by
  have hl : l.length = n := by have := h.1; simpa [bvals] using this
  rcases h.2 with ⟨rfl, hn⟩ | ⟨q, cap, cur, rfl, _, hg, _, _, _, htk⟩
  · have : n = 0 := by first | exact hn | exact hn.1 | simp_all
    subst this
    exact ⟨_, _, rfl, fun j hj => by omega, hl⟩
  · refine ⟨_, _, rfl, fun j hj => ⟨q, 0, rfl, ?_⟩, hl⟩
    rw [cell_of_row w q _ _ _ _ hg, Nat.zero_add]
    have h1 : (cur.toList.take (n * 1))[j]? = (bvals l)[j]? := by rw [htk]
    rw [List.getElem?_take, if_pos (by omega)] at h1
    simp only [Array.getElem?_toList] at h1
    rw [h1]
    simp [bvals, List.getElem?_map, hj]
/-- sized. -/
def sizedN (n : Int) : Int := if n = 8 then 0 else if n = 16 then 1 else if n = 32 then 2 else 3
theorem sized_any (w : World) (n : Int) : Calls Tryz.prog 106 #[.int .i64 n] w fun e w' => e = .returned (.int .i64 (sizedN n)) ∧ w = w' := by
  by_cases h1 : n = 8
  · subst h1; go_enter Tryz.func106, Tryz.ntmps106; go_wp2; go_ret; exact ⟨rfl, rfl⟩
  · by_cases h2 : n = 16
    · subst h2; go_enter Tryz.func106, Tryz.ntmps106; go_wp2; go_ret; exact ⟨rfl, rfl⟩
    · by_cases h3 : n = 32
      · subst h3; go_enter Tryz.func106, Tryz.ntmps106; go_wp2; go_ret; exact ⟨rfl, rfl⟩
      · have e : sizedN n = 3 := by simp [sizedN, h1, h2, h3]
        rw [e]
        have b1 : (n == 8) = false := by simpa using h1
        have b2 : (n == 16) = false := by simpa using h2
        have b3 : (n == 32) = false := by simpa using h3
        clear e
        go_enter Tryz.func106, Tryz.ntmps106
        go_wp2
        go_ret
        exact ⟨rfl, rfl⟩
/-- slices.Clone of bytes. -/
def ClonePost (w : World) (x : List UInt8) (n : Nat) (e : Ending) (w' : World) : Prop := ∃ A c, e = .returned (.slice A n c) ∧ ReadsB w' A x ∧ Below w.heap.size w w' ∧ ∀ a, A = some a → w.heap.size ≤ a.block
theorem clone_none (w : World) (x : List UInt8) (n c : Nat) (hx : x.length = n) (hr : ReadsB w none x) : Calls Tryz.prog 108 #[.slice none n c] w (ClonePost w x n) := by
  have h0 : n = 0 := by
    rcases Nat.eq_zero_or_pos n with h | h
    · exact h
    · obtain ⟨_, _, h1, _⟩ := hr 0 (by omega)
      cases h1
  subst h0
  clear hr
  have q0 : ∀ W : World, (binOp .eql 36 (.slice none 0 c) (.slice none 0 0)).run Tryz.prog W = .ok (.bool true) W := fun _ => by kernel_rfl
  go_enter Tryz.func108, Tryz.ntmps108
  go_wp2
  go_ret
  exact ⟨_, _, rfl, fun j hj => by omega, Below.refl _ _, fun a h => by cases h⟩
theorem clone_some (w : World) (a : Addr) (x : List UInt8) (n c : Nat) (hx : x.length = n) (hr : ReadsB w (some a) x) (hn : n ≤ 2147483647) : Calls Tryz.prog 108 #[.slice (some a) n c] w (ClonePost w x n) := by
  obtain ⟨i, hi, hz0, hz1, hz2⟩ := info_parts info5
  have q0 : ∀ (W : World) (a : Addr) (n c : Nat), (binOp .eql 36 (.slice (some a) n c) (.slice none 0 0)).run Tryz.prog W = .ok (.bool false) W := fun _ _ _ _ => by kernel_rfl
  have hown0 : (w.alloc (.cells #[] 5)).ownsRow w.heap.size 5 1 (.slice (some ⟨w.heap.size, 0, none⟩) 0 0) 0 [] :=
    ⟨by simp, .inr ⟨w.heap.size, 0, #[], rfl, Nat.le_refl _, heap_alloc_new w _, Nat.le_refl _, Nat.zero_le _, by simp, by simp⟩⟩
  have HO := Lib.hid hown0
  have HR := Lib.hid hr
  have hb0 : Below w.heap.size w (w.alloc (.cells #[] 5)) := (Below.refl _ _).alloc (Nat.le_refl _) _
  have HB := Lib.hid hb0
  clear hr hown0 hb0
  rcases Nat.eq_zero_or_pos n with h0 | h0
  · subst h0
    have hrun := run_append_owned_zero (t := 36) (ty := 36) Tryz.underlying36 hi HO.out (some a) c
    have HN := Lib.hid hrun
    clear hrun
    go_enter Tryz.func108, Tryz.ntmps108
    go_wp2_with (at_builtin; go_must (refine Lib.wpList_append_run _ rfl (.tmp 5) (.tmp 6) 36 36 rfl _ _ rfl rfl _ _ HN.out ?_))
    go_ret
    exact ⟨_, _, rfl, fun j hj => by omega, HB.out, fun a h => by cases h; exact Nat.le_refl _⟩
  · obtain ⟨b, o, ha, _⟩ := HR.out 0 (by omega)
    injection ha with ha
    subst ha
    have hnews : ∀ j u, (bvals x)[j]? = some u → (w.alloc (.cells #[] 5)).cell? ((⟨b, o, none⟩ : Addr).add j) = some u := by
      intro j u hj
      have hlt := (List.getElem?_eq_some_iff.1 hj).1
      simp only [bvals, List.length_map] at hlt
      obtain ⟨b', o', hA, hc⟩ := (HR.out.below HB.out) j hlt
      obtain ⟨rfl, rfl⟩ : b = b' ∧ o = o' := by injection hA with hA; injection hA with h1 h2; exact ⟨h1, h2⟩
      rw [Go.WideShapes.add_plain, hc]
      simpa [bvals, List.getElem?_map, hlt] using hj
    have HW := Lib.hid hnews
    clear hnews
    go_enter Tryz.func108, Tryz.ntmps108
    go_wp2_with (at_builtin; go_must (refine wpList_append_lies _ rfl (.tmp 5) (.tmp 6) 36 rfl w.heap.size 5 i _ 1 1 Tryz.underlying36 hi hz0 hz1 hz2 rfl (by decide) _ 0 [] rfl HO.out ⟨b, o, none⟩ n c (bvals x) rfl (by simp [bvals, hx]) HW.out (one_bvals x) h0 (by unfold maxLen; omega) (by omega) (by simp) _ rfl ?_; intro g cap w1 hown1 hg1 _ _))
    go_ret
    simp only [Nat.zero_add, List.nil_append] at hown1
    obtain ⟨A', c', hv, hrd, _⟩ := own_reads hown1
    injection hv with q1 q2 q3
    subst q1
    refine ⟨_, _, rfl, hrd, ?_, fun a h => by cases h; exact (hown1.lt g rfl).1⟩
    exact (HB.out.trans (((Only.refl (fun k => k = w.heap.size) _).grown hg1 (fun k hk => .inl (Option.some.inj (show some w.heap.size = some k from hk)).symm)).below (by simp) (fun k hk => by omega)))
theorem clone_any (w : World) (A : Option Addr) (x : List UInt8) (n c : Nat) (hx : x.length = n) (hr : ReadsB w A x) (hn : n ≤ 2147483647) : Calls Tryz.prog 108 #[.slice A n c] w (ClonePost w x n) := by
  cases A with
  | none => exact clone_none w x n c hx hr
  | some a => exact clone_some w a x n c hx hr hn
theorem ReadsB.far {w : World} {A : Option Addr} {x : List UInt8} (h : ReadsB w A x) {p : Addr} (hp : ∀ a, A = some a → p.block ≠ a.block) (v : Value) : ReadsB (w.setCell p v) A x := fun j hj => by
  obtain ⟨b, o, hA, hc⟩ := h j hj
  refine ⟨b, o, hA, ?_⟩
  rw [World.cell?_setCell_other w _ _ _ (fun e => hp _ hA (by rw [e])), hc]
/-- bytes.Equal. -/
theorem bytesEqual_any (w : World) (A A' : Option Addr) (x y : List UInt8) (c c' : Nat) (hx : ReadsB w A x) (hy : ReadsB w A' y) : Calls Tryz.prog 110 #[.slice A x.length c, .slice A' y.length c'] w fun e w' => e = .returned (.bool (x == y)) ∧ w = w' := by
  have h1 := conv_read hx c
  have h2 := conv_read hy c'
  clear hx hy
  go_enter Tryz.func110, Tryz.ntmps110
  go_wp2
  go_ret
  exact ⟨rfl, rfl⟩
/-- errorsOf: some slice of errors. -/
def SomeSlice (w : World) (e : Ending) (w' : World) : Prop := ∃ A n c, e = .returned (.slice A n c) ∧ Below w.heap.size w w'
set_option maxHeartbeats 2000000 in
theorem errorsOf_any (w : World) (A : Option Addr) (n c : Nat) (l : List FT) (h : FtsOk w A n l) (hn : n ≤ 2147483647) : Calls Tryz.prog 155 #[.slice A n c] w (SomeSlice w) := by
  have hr := h.2.2.1
  clear h
  go_enter Tryz.func155, Tryz.ntmps155
  go_wp2_with fail
  go_loopw [3, 8] (fun V i wr => ∃ (q : Nat) (xs : List Value), q ≤ n ∧ i = .int .i64 q ∧ Below w.heap.size w wr ∧ wr.ownsRow w.heap.size 156 1 V q xs) (fun _ i _ => n - (intOf i).toNat)
  case atStart => exact ⟨0, [], Nat.zero_le _, rfl, Below.refl _ _, World.ownsRow_nil _ _ _ _⟩
  case round =>
    obtain ⟨q, xs, hq, rfl, hb, hown⟩ := hrel
    by_cases hlt : q < n
    · obtain ⟨b, off, rfl, hs, hc⟩ := (hr.below hb) q hlt
      have hcs := Fld.cells hc
      clear hc hs hr
      generalize (at_ l q).f = f at *
      obtain ⟨a0, a1, a2, a3, a4, a5, a6, a7, a8, a9, a10, a11, a12, a13, a14⟩ := hcs
      have hsz := hb.size
      go_wp2_with (at_builtin; go_must (refine wpList_append1 rfl (.tmp 12) (.tmp 16) 295 rfl w.heap.size 156 _ 1 16 info156 Tryz.underlying295 rfl (by decide) u3 q xs _ rfl (hown.alloc _) #[.iface 293 (.string f.text)] _ rfl (by simp) rfl (by simp [Value.oneCell']) (by unfold maxLen; omega) (by omega) (by simp; omega) ?_; intro g1 cap w1 hown1 ho1 hlies hg1))
      go_roundw
      case rel =>
        have hb1 : Below w.heap.size (wr.alloc (.cells f.arr 39)) w1 := ho1.below (by simp; omega) (fun j hj e => by have := (hown.lt j e).1; omega)
        exact ⟨q + 1, _, by omega, by go_num, Below.trans (hb.alloc hsz _) hb1, by simpa using hown1⟩
      case measure => simp [intOf]; omega
    · go_wp2_with fail
      go_ret
      obtain ⟨a, c', rfl⟩ := own_len hown
      exact ⟨_, _, _, rfl, hb⟩
theorem errorArray_any (w : World) (A : Option Addr) (n c : Nat) : Calls Tryz.prog 154 #[.slice A n c] w fun e w' => e = .returned (.iface 323 (.slice A n c)) ∧ w = w' := by
  go_enter Tryz.func154, Tryz.ntmps154
  go_wp2
  go_ret
  exact ⟨rfl, rfl⟩
end Go.Proofs.YtieidjlmgalihaaGreatDoor
