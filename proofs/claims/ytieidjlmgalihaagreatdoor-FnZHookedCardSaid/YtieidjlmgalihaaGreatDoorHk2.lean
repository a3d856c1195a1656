/- A hook's body: four cases. -/
import Derived.Test.YtieidjlmgalihaaGreatDoorCon
namespace Go.Proofs.YtieidjlmgalihaaGreatDoor
open Go.RowKit
set_option maxRecDepth 100000
/-- A hook. -/
structure Hook where
  before : ByteArray
  change : Bool
  drop : Bool
  level : Int
  aA : Option Addr
  an : Nat
  ac : Nat
instance : Inhabited Hook := ⟨⟨.empty, false, false, 0, none, 0, 0⟩⟩
abbrev Hook.arr (h : Hook) : Array Value := #[.string h.before, .bool h.change, .bool h.drop, .int .i64 h.level, .slice h.aA h.an h.ac]
/-- An entry behind a hook. -/
abbrev Hook.on (h : Hook) (x : Ent) : Ent := { x with message := h.before ++ x.message, level := if h.change then h.level else x.level }
def HookPost (w : World) (h : Hook) (x : Ent) (n : Nat) (xs : List Value) (e : Ending) (w' : World) : Prop :=
  ∃ V, e = .returned (.tuple #[.agg (h.on x).pub, V]) ∧ w'.ownsRow w.heap.size 131 5 V n xs ∧ Below w.heap.size w w' ∧ (n = 0 → V = .slice none 0 0)
abbrev zeroEnt : Array Value := #[.int .i8 0, .int .i64 0, .int .i32 0, .string ⟨#[]⟩, .int .i64 0, .string ⟨#[]⟩, .string ⟨#[]⟩, .bool false, .int .u64 0, .string ⟨#[]⟩, .int .i64 0, .string ⟨#[]⟩, .string ⟨#[]⟩]
/-- A hook's body at work. -/
structure HkSt (w : World) (H : Nat) (h : Hook) (y : Ent) (V : Value) (n : Nat) (xs : List Value) (g : Nat → Fld) (W : World) : Prop where
  box : Blk W w.heap.size 154 y.pub
  out : Blk W (w.heap.size + 1) 154 zeroEnt
  hook : Blk W H 62 h.arr
  src : SrcF W V n xs
  add : RowAt W h.aA h.an 15 fun i => (g i).arr
  below : Below w.heap.size w W
theorem HkSt.here {w : World} {H : Nat} {h : Hook} {y : Ent} {V : Value} {n : Nat} {xs : List Value} {g : Nat → Fld} {W w' : World} (s : HkSt w H h y V n xs g W) (hb : Below W.heap.size W w') : HkSt w H h y V n xs g w' :=
  ⟨s.box.here hb, s.out.here hb, s.hook.here hb, s.src.below hb, s.add.below hb, s.below.trans (hb.mono s.below.size)⟩
theorem hook_fin {w w2 : World} {H n m : Nat} {h : Hook} {x : Ent} {V V2 : Value} {xs ys : List Value} {g : Nat → Fld} (s : HkSt w H h (h.on x) V n xs g w2) (hown : w2.ownsRow w.heap.size 131 5 V2 m ys) (hz : m = 0 → V2 = .slice none 0 0) :
    let y := h.on x
    (∀ i, ((((((((((((((w2).setCell ⟨w.heap.size + 1, 0, none⟩ (.int .i8 (IntKind.i8.wrap y.level))).setCell ⟨w.heap.size + 1, 1, none⟩ (.int .i64 (momExt y.zero y.nanos))).setCell ⟨w.heap.size + 1, 2, none⟩ (.int .i32 (momNs y.zero y.nanos))).setCell ⟨w.heap.size + 1, 3, none⟩ (.string (momZone y.zero y.zone))).setCell ⟨w.heap.size + 1, 4, none⟩ (.int .i64 (momOff y.zero y.offset))).setCell ⟨w.heap.size + 1, 5, none⟩ (.string y.logger)).setCell ⟨w.heap.size + 1, 6, none⟩ (.string y.message)).setCell ⟨w.heap.size + 1, 7, none⟩ (.bool y.defined)).setCell ⟨w.heap.size + 1, 8, none⟩ (.int .u64 0)).setCell ⟨w.heap.size + 1, 9, none⟩ (.string y.file)).setCell ⟨w.heap.size + 1, 10, none⟩ (.int .i64 y.line)).setCell ⟨w.heap.size + 1, 11, none⟩ (.string y.function)).setCell ⟨w.heap.size + 1, 12, none⟩ (.string y.stack)).cell? ⟨w.heap.size + 1, i, none⟩ = y.pub[i]?) ∧ HookPost w h x m ys (.returned (.tuple #[.agg y.pub, V2])) ((((((((((((((w2).setCell ⟨w.heap.size + 1, 0, none⟩ (.int .i8 (IntKind.i8.wrap y.level))).setCell ⟨w.heap.size + 1, 1, none⟩ (.int .i64 (momExt y.zero y.nanos))).setCell ⟨w.heap.size + 1, 2, none⟩ (.int .i32 (momNs y.zero y.nanos))).setCell ⟨w.heap.size + 1, 3, none⟩ (.string (momZone y.zero y.zone))).setCell ⟨w.heap.size + 1, 4, none⟩ (.int .i64 (momOff y.zero y.offset))).setCell ⟨w.heap.size + 1, 5, none⟩ (.string y.logger)).setCell ⟨w.heap.size + 1, 6, none⟩ (.string y.message)).setCell ⟨w.heap.size + 1, 7, none⟩ (.bool y.defined)).setCell ⟨w.heap.size + 1, 8, none⟩ (.int .u64 0)).setCell ⟨w.heap.size + 1, 9, none⟩ (.string y.file)).setCell ⟨w.heap.size + 1, 10, none⟩ (.int .i64 y.line)).setCell ⟨w.heap.size + 1, 11, none⟩ (.string y.function)).setCell ⟨w.heap.size + 1, 12, none⟩ (.string y.stack)) := by
  intro y
  refine ⟨set13 s.out.cell _ _ _ _ _ _ _ _ _ _ _ _ _, V2, rfl, own_only (S := fun k => k = w.heap.size + 1) hown ?_ (fun k hk e => own_ne hown s.out (by decide) (by rw [hk, e])), belowSet13 s.below (by omega) _ _ _ _ _ _ _ _ _ _ _ _ _, hz⟩
  exact (((((((((((((Only.refl (fun k => k = w.heap.size + 1) w2).setCell (.inl rfl) _).setCell (.inl rfl) _).setCell (.inl rfl) _).setCell (.inl rfl) _).setCell (.inl rfl) _).setCell (.inl rfl) _).setCell (.inl rfl) _).setCell (.inl rfl) _).setCell (.inl rfl) _).setCell (.inl rfl) _).setCell (.inl rfl) _).setCell (.inl rfl) _).setCell (.inl rfl) _
set_option maxHeartbeats 8000000 in
theorem hook_ff (w : World) (H : Nat) (h : Hook) (x : Ent) (V : Value) (n : Nat) (xs : List Value) (g : Nat → Fld) (hH : Blk w H 62 h.arr) (hsrc : SrcF w V n xs) (hn : n ≤ 100000) (han : h.an ≤ 300) (hr : RowAt w h.aA h.an 15 fun i => (g i).arr)
    (hm : x.message.size ≤ 100000) (hm2 : h.before.size ≤ 100000) (hd : h.drop = false) (hc : h.change = false) :
    Calls Tryz.prog 76 #[.agg x.pub, V, .pointer (some ⟨H, 0, none⟩)] w (HookPost w h x (n + h.an) (xs ++ carr g h.an)) := by
  obtain ⟨A, c, rfl⟩ := hsrc.form
  obtain ⟨before, change, drop, level, aA, an, ac⟩ := h
  simp only at hd hc han hr hm2
  subst hd hc
  have u0 := hH.cell 0
  have u1 := hH.cell 1
  have u2 := hH.cell 2
  have u3 := hH.cell 3
  have u4 := hH.cell 4
  simp only [List.getElem?_toArray, List.getElem?_cons_zero, List.getElem?_cons_succ] at u0 u1 u2 u3 u4
  have hHl := hH.lt
  have HH := Lib.hid (And.intro hH (And.intro hsrc hr))
  clear hH hsrc hr
  obtain ⟨y, hy⟩ : ∃ y : Ent, y = Hook.on ⟨before, false, false, level, aA, an, ac⟩ x := ⟨_, rfl⟩
  go_enter Tryz.func76, Tryz.ntmps76
  go_wp2_with fail
  obtain ⟨W, hW⟩ : ∃ W : World, W = (w.alloc (.cells y.pub 154)).alloc (.cells zeroEnt 154) := ⟨_, rfl⟩
  have st : HkSt w H ⟨before, false, false, level, aA, an, ac⟩ y (.slice A n c) n xs g W := by
    have hb : Below w.heap.size w W := by rw [hW]; exact ((Below.refl _ _).alloc (Nat.le_refl _) _).alloc (by simp) _
    exact ⟨by rw [hW]; exact (Blk.new _ _ _).alloc _, by rw [hW]; exact Blk.new_at _ _ _ _ (by simp), HH.out.1.here hb, HH.out.2.1.below hb, HH.out.2.2.below hb, hb⟩
  have hWy : W = (w.alloc (.cells #[.int .i8 (IntKind.i8.wrap x.level), .int .i64 (momExt x.zero x.nanos), .int .i32 (momNs x.zero x.nanos), .string (momZone x.zero x.zone), .int .i64 (momOff x.zero x.offset), .string x.logger, .string (before ++ x.message), .bool x.defined, .int .u64 0, .string x.file, .int .i64 x.line, .string x.function, .string x.stack] 154)).alloc (.cells #[.int .i8 0, .int .i64 0, .int .i32 0, .string ⟨#[]⟩, .int .i64 0, .string ⟨#[]⟩, .string ⟨#[]⟩, .bool false, .int .u64 0, .string ⟨#[]⟩, .int .i64 0, .string ⟨#[]⟩, .string ⟨#[]⟩] 154) := by rw [hW, hy]; rfl
  clear hW
  rw [← hWy]
  clear hWy u0 u1 u2 u3 u4
  have bx := boxEnt st.box.cell
  have u4 : W.cell? ⟨H, 4, none⟩ = some (.slice aA an ac) := st.hook.cell 4
  have std : HkSt w H ⟨before, false, false, level, aA, an, ac⟩ y (.slice A n c) n xs g W.drew := st.here (Below.refl _ _).drew
  have SD := Lib.hid std
  have hWs : w.heap.size ≤ W.heap.size := st.below.size
  have ne1 : ¬ H = w.heap.size + 1 := by omega
  have ne2 : ¬ w.heap.size + 1 = H := by omega
  clear st std
  go_region_held3 (fun w' => w'.cell? ⟨w.heap.size, 0, none⟩ = some (.int .i8 (IntKind.i8.wrap y.level)) ∧ w'.cell? ⟨w.heap.size, 1, none⟩ = some (.int .i64 (momExt y.zero y.nanos)) ∧ w'.cell? ⟨w.heap.size, 2, none⟩ = some (.int .i32 (momNs y.zero y.nanos)) ∧ w'.cell? ⟨w.heap.size, 3, none⟩ = some (.string (momZone y.zero y.zone)) ∧ w'.cell? ⟨w.heap.size, 4, none⟩ = some (.int .i64 (momOff y.zero y.offset)) ∧ w'.cell? ⟨w.heap.size, 5, none⟩ = some (.string y.logger) ∧ w'.cell? ⟨w.heap.size, 6, none⟩ = some (.string y.message) ∧ w'.cell? ⟨w.heap.size, 7, none⟩ = some (.bool y.defined) ∧ w'.cell? ⟨w.heap.size, 8, none⟩ = some (.int .u64 0) ∧ w'.cell? ⟨w.heap.size, 9, none⟩ = some (.string y.file) ∧ w'.cell? ⟨w.heap.size, 10, none⟩ = some (.int .i64 y.line) ∧ w'.cell? ⟨w.heap.size, 11, none⟩ = some (.string y.function) ∧ w'.cell? ⟨w.heap.size, 12, none⟩ = some (.string y.stack) ∧ w'.cell? ⟨H, 4, none⟩ = some (.slice aA an ac)) (go_keep) (first
    | (go_at_call 78; go_must ((with_reducible refine (carried_any _ aA an ac g (by omega) SD.out.add).mono ?_); rintro e w1 ⟨V1, rfl, hown1, hb1, hz1⟩; have s1 := SD.out.here hb1; have S1 := Lib.hid (And.intro s1 (And.intro hb1 (src_own hown1 hz1 (one_carr g an)))); have bx1 := boxEnt s1.box.cell; have v4 : w1.cell? ⟨H, 4, none⟩ = some (.slice aA an ac) := s1.hook.cell 4; obtain ⟨A1, k1, hV1⟩ := S1.out.2.2.form; subst hV1; clear s1 hown1 hb1 hz1))
    | (go_at_call 77; go_must ((refine (concat_two _ w1.heap.size (.slice A n c) (.slice A1 an k1) n an xs (carr g an) ((S1.out.1.here ((Below.refl _ _).alloc (Nat.le_refl _) _)).src) (S1.out.2.2.below ((Below.refl _ _).alloc (Nat.le_refl _) _)) (by simp [go_sem]) (by simp [go_sem]) (by omega) (by omega)).mono ?_); rintro e w2 ⟨V2, rfl, hown2, hb2, hz2⟩; have s2 := (S1.out.1.here ((Below.refl _ _).alloc (Nat.le_refl _) _)).here hb2; have bx2 := boxEnt s2.box.cell; have x4 : w2.cell? ⟨H, 4, none⟩ = some (.slice aA an ac) := s2.hook.cell 4; have oc := s2.out.cell; have of := s2.out.frozen; have S2 := Lib.hid (And.intro s2 (And.intro hown2 hz2)); clear s2 hown2 hz2)))
  have hfin := hook_fin (w := w) (h := ⟨before, false, false, level, aA, an, ac⟩) (x := x) (V2 := V2) (m := n + an) (ys := xs ++ carr g an) (by have h1 := S2.out.1; rw [hy] at h1; exact h1) (own_mono S2.out.2.1 (Nat.le_trans S1.out.1.below.size (by simp))) S2.out.2.2
  obtain ⟨hcc, hpp⟩ := hfin
  simp only [Hook.on, if_false, Bool.false_eq_true] at hcc
  have HP := Lib.hid hpp
  clear hpp bx bx1 bx2
  go_wp2_with fail
  exact bodyPost_ret (v := .tuple #[.agg (Ent.pub (Hook.on ⟨before, false, false, level, aA, an, ac⟩ x)), V2]) (by simp [results, Tryz.results76, go_sem, hcc]) rfl HP.out
set_option maxHeartbeats 8000000 in
theorem hook_ft (w : World) (H : Nat) (h : Hook) (x : Ent) (V : Value) (n : Nat) (xs : List Value) (g : Nat → Fld) (hH : Blk w H 62 h.arr) (hsrc : SrcF w V n xs) (hn : n ≤ 100000) (han : h.an ≤ 300) (hr : RowAt w h.aA h.an 15 fun i => (g i).arr)
    (hm : x.message.size ≤ 100000) (hm2 : h.before.size ≤ 100000) (hd : h.drop = true) (hc : h.change = false) :
    Calls Tryz.prog 76 #[.agg x.pub, V, .pointer (some ⟨H, 0, none⟩)] w (HookPost w h x h.an (carr g h.an)) := by
  obtain ⟨A, c, rfl⟩ := hsrc.form
  obtain ⟨before, change, drop, level, aA, an, ac⟩ := h
  simp only at hd hc han hr hm2
  subst hd hc
  have u0 := hH.cell 0
  have u1 := hH.cell 1
  have u2 := hH.cell 2
  have u3 := hH.cell 3
  have u4 := hH.cell 4
  simp only [List.getElem?_toArray, List.getElem?_cons_zero, List.getElem?_cons_succ] at u0 u1 u2 u3 u4
  have hHl := hH.lt
  have HH := Lib.hid (And.intro hH (And.intro hsrc hr))
  clear hH hsrc hr
  obtain ⟨y, hy⟩ : ∃ y : Ent, y = Hook.on ⟨before, false, true, level, aA, an, ac⟩ x := ⟨_, rfl⟩
  go_enter Tryz.func76, Tryz.ntmps76
  go_wp2_with fail
  obtain ⟨W, hW⟩ : ∃ W : World, W = (w.alloc (.cells y.pub 154)).alloc (.cells zeroEnt 154) := ⟨_, rfl⟩
  have st : HkSt w H ⟨before, false, true, level, aA, an, ac⟩ y (.slice none 0 0) 0 [] g W := by
    have hb : Below w.heap.size w W := by rw [hW]; exact ((Below.refl _ _).alloc (Nat.le_refl _) _).alloc (by simp) _
    exact ⟨by rw [hW]; exact (Blk.new _ _ _).alloc _, by rw [hW]; exact Blk.new_at _ _ _ _ (by simp), HH.out.1.here hb, .inl ⟨rfl, rfl, rfl⟩, HH.out.2.2.below hb, hb⟩
  have hWy : W = (w.alloc (.cells #[.int .i8 (IntKind.i8.wrap x.level), .int .i64 (momExt x.zero x.nanos), .int .i32 (momNs x.zero x.nanos), .string (momZone x.zero x.zone), .int .i64 (momOff x.zero x.offset), .string x.logger, .string (before ++ x.message), .bool x.defined, .int .u64 0, .string x.file, .int .i64 x.line, .string x.function, .string x.stack] 154)).alloc (.cells #[.int .i8 0, .int .i64 0, .int .i32 0, .string ⟨#[]⟩, .int .i64 0, .string ⟨#[]⟩, .string ⟨#[]⟩, .bool false, .int .u64 0, .string ⟨#[]⟩, .int .i64 0, .string ⟨#[]⟩, .string ⟨#[]⟩] 154) := by rw [hW, hy]; rfl
  clear hW
  rw [← hWy]
  clear hWy u0 u1 u2 u3 u4
  have bx := boxEnt st.box.cell
  have u4 : W.cell? ⟨H, 4, none⟩ = some (.slice aA an ac) := st.hook.cell 4
  have std : HkSt w H ⟨before, false, true, level, aA, an, ac⟩ y (.slice none 0 0) 0 [] g W.drew := st.here (Below.refl _ _).drew
  have SD := Lib.hid std
  have hWs : w.heap.size ≤ W.heap.size := st.below.size
  have ne1 : ¬ H = w.heap.size + 1 := by omega
  have ne2 : ¬ w.heap.size + 1 = H := by omega
  clear st std
  go_region_held3 (fun w' => w'.cell? ⟨w.heap.size, 0, none⟩ = some (.int .i8 (IntKind.i8.wrap y.level)) ∧ w'.cell? ⟨w.heap.size, 1, none⟩ = some (.int .i64 (momExt y.zero y.nanos)) ∧ w'.cell? ⟨w.heap.size, 2, none⟩ = some (.int .i32 (momNs y.zero y.nanos)) ∧ w'.cell? ⟨w.heap.size, 3, none⟩ = some (.string (momZone y.zero y.zone)) ∧ w'.cell? ⟨w.heap.size, 4, none⟩ = some (.int .i64 (momOff y.zero y.offset)) ∧ w'.cell? ⟨w.heap.size, 5, none⟩ = some (.string y.logger) ∧ w'.cell? ⟨w.heap.size, 6, none⟩ = some (.string y.message) ∧ w'.cell? ⟨w.heap.size, 7, none⟩ = some (.bool y.defined) ∧ w'.cell? ⟨w.heap.size, 8, none⟩ = some (.int .u64 0) ∧ w'.cell? ⟨w.heap.size, 9, none⟩ = some (.string y.file) ∧ w'.cell? ⟨w.heap.size, 10, none⟩ = some (.int .i64 y.line) ∧ w'.cell? ⟨w.heap.size, 11, none⟩ = some (.string y.function) ∧ w'.cell? ⟨w.heap.size, 12, none⟩ = some (.string y.stack) ∧ w'.cell? ⟨H, 4, none⟩ = some (.slice aA an ac)) (go_keep) (first
    | (go_at_call 78; go_must ((with_reducible refine (carried_any _ aA an ac g (by omega) SD.out.add).mono ?_); rintro e w1 ⟨V1, rfl, hown1, hb1, hz1⟩; have s1 := SD.out.here hb1; have S1 := Lib.hid (And.intro s1 (And.intro hb1 (src_own hown1 hz1 (one_carr g an)))); have bx1 := boxEnt s1.box.cell; have v4 : w1.cell? ⟨H, 4, none⟩ = some (.slice aA an ac) := s1.hook.cell 4; obtain ⟨A1, k1, hV1⟩ := S1.out.2.2.form; subst hV1; clear s1 hown1 hb1 hz1))
    | (go_at_call 77; go_must ((refine (concat_two _ w1.heap.size (.slice none 0 0) (.slice A1 an k1) 0 an [] (carr g an) ((S1.out.1.here ((Below.refl _ _).alloc (Nat.le_refl _) _)).src) (S1.out.2.2.below ((Below.refl _ _).alloc (Nat.le_refl _) _)) (by simp [go_sem]) (by simp [go_sem]) (by omega) (by omega)).mono ?_); rintro e w2 ⟨V2, rfl, hown2, hb2, hz2⟩; have s2 := (S1.out.1.here ((Below.refl _ _).alloc (Nat.le_refl _) _)).here hb2; have bx2 := boxEnt s2.box.cell; have x4 : w2.cell? ⟨H, 4, none⟩ = some (.slice aA an ac) := s2.hook.cell 4; have oc := s2.out.cell; have of := s2.out.frozen; have S2 := Lib.hid (And.intro s2 (And.intro hown2 hz2)); clear s2 hown2 hz2)))
  have hfin := hook_fin (w := w) (h := ⟨before, false, true, level, aA, an, ac⟩) (x := x) (V2 := V2) (m := an) (ys := carr g an) (by have h1 := S2.out.1; rw [hy] at h1; exact h1) (by have h2 := own_mono S2.out.2.1 (Nat.le_trans S1.out.1.below.size (by simp)); simpa using h2) (by have h3 := S2.out.2.2; simpa using h3)
  obtain ⟨hcc, hpp⟩ := hfin
  simp only [Hook.on, if_false, Bool.false_eq_true] at hcc
  have HP := Lib.hid hpp
  clear hpp bx bx1 bx2
  go_wp2_with fail
  exact bodyPost_ret (v := .tuple #[.agg (Ent.pub (Hook.on ⟨before, false, true, level, aA, an, ac⟩ x)), V2]) (by simp [results, Tryz.results76, go_sem, hcc]) rfl HP.out
set_option maxHeartbeats 8000000 in
theorem hook_tf (w : World) (H : Nat) (h : Hook) (x : Ent) (V : Value) (n : Nat) (xs : List Value) (g : Nat → Fld) (hH : Blk w H 62 h.arr) (hsrc : SrcF w V n xs) (hn : n ≤ 100000) (han : h.an ≤ 300) (hr : RowAt w h.aA h.an 15 fun i => (g i).arr)
    (hm : x.message.size ≤ 100000) (hm2 : h.before.size ≤ 100000) (hd : h.drop = false) (hc : h.change = true) :
    Calls Tryz.prog 76 #[.agg x.pub, V, .pointer (some ⟨H, 0, none⟩)] w (HookPost w h x (n + h.an) (xs ++ carr g h.an)) := by
  obtain ⟨A, c, rfl⟩ := hsrc.form
  obtain ⟨before, change, drop, level, aA, an, ac⟩ := h
  simp only at hd hc han hr hm2
  subst hd hc
  have u0 := hH.cell 0
  have u1 := hH.cell 1
  have u2 := hH.cell 2
  have u3 := hH.cell 3
  have u4 := hH.cell 4
  simp only [List.getElem?_toArray, List.getElem?_cons_zero, List.getElem?_cons_succ] at u0 u1 u2 u3 u4
  have hHl := hH.lt
  have HH := Lib.hid (And.intro hH (And.intro hsrc hr))
  clear hH hsrc hr
  obtain ⟨y, hy⟩ : ∃ y : Ent, y = Hook.on ⟨before, true, false, level, aA, an, ac⟩ x := ⟨_, rfl⟩
  go_enter Tryz.func76, Tryz.ntmps76
  go_wp2_with fail
  obtain ⟨W, hW⟩ : ∃ W : World, W = (w.alloc (.cells y.pub 154)).alloc (.cells zeroEnt 154) := ⟨_, rfl⟩
  have st : HkSt w H ⟨before, true, false, level, aA, an, ac⟩ y (.slice A n c) n xs g W := by
    have hb : Below w.heap.size w W := by rw [hW]; exact ((Below.refl _ _).alloc (Nat.le_refl _) _).alloc (by simp) _
    exact ⟨by rw [hW]; exact (Blk.new _ _ _).alloc _, by rw [hW]; exact Blk.new_at _ _ _ _ (by simp), HH.out.1.here hb, HH.out.2.1.below hb, HH.out.2.2.below hb, hb⟩
  have hWy : W = (w.alloc (.cells #[.int .i8 (IntKind.i8.wrap level), .int .i64 (momExt x.zero x.nanos), .int .i32 (momNs x.zero x.nanos), .string (momZone x.zero x.zone), .int .i64 (momOff x.zero x.offset), .string x.logger, .string (before ++ x.message), .bool x.defined, .int .u64 0, .string x.file, .int .i64 x.line, .string x.function, .string x.stack] 154)).alloc (.cells #[.int .i8 0, .int .i64 0, .int .i32 0, .string ⟨#[]⟩, .int .i64 0, .string ⟨#[]⟩, .string ⟨#[]⟩, .bool false, .int .u64 0, .string ⟨#[]⟩, .int .i64 0, .string ⟨#[]⟩, .string ⟨#[]⟩] 154) := by rw [hW, hy]; rfl
  clear hW
  rw [← hWy]
  clear hWy u0 u1 u2 u3 u4
  have bx := boxEnt st.box.cell
  have u4 : W.cell? ⟨H, 4, none⟩ = some (.slice aA an ac) := st.hook.cell 4
  have std : HkSt w H ⟨before, true, false, level, aA, an, ac⟩ y (.slice A n c) n xs g W.drew := st.here (Below.refl _ _).drew
  have SD := Lib.hid std
  have hWs : w.heap.size ≤ W.heap.size := st.below.size
  have ne1 : ¬ H = w.heap.size + 1 := by omega
  have ne2 : ¬ w.heap.size + 1 = H := by omega
  clear st std
  go_region_held3 (fun w' => w'.cell? ⟨w.heap.size, 0, none⟩ = some (.int .i8 (IntKind.i8.wrap y.level)) ∧ w'.cell? ⟨w.heap.size, 1, none⟩ = some (.int .i64 (momExt y.zero y.nanos)) ∧ w'.cell? ⟨w.heap.size, 2, none⟩ = some (.int .i32 (momNs y.zero y.nanos)) ∧ w'.cell? ⟨w.heap.size, 3, none⟩ = some (.string (momZone y.zero y.zone)) ∧ w'.cell? ⟨w.heap.size, 4, none⟩ = some (.int .i64 (momOff y.zero y.offset)) ∧ w'.cell? ⟨w.heap.size, 5, none⟩ = some (.string y.logger) ∧ w'.cell? ⟨w.heap.size, 6, none⟩ = some (.string y.message) ∧ w'.cell? ⟨w.heap.size, 7, none⟩ = some (.bool y.defined) ∧ w'.cell? ⟨w.heap.size, 8, none⟩ = some (.int .u64 0) ∧ w'.cell? ⟨w.heap.size, 9, none⟩ = some (.string y.file) ∧ w'.cell? ⟨w.heap.size, 10, none⟩ = some (.int .i64 y.line) ∧ w'.cell? ⟨w.heap.size, 11, none⟩ = some (.string y.function) ∧ w'.cell? ⟨w.heap.size, 12, none⟩ = some (.string y.stack) ∧ w'.cell? ⟨H, 4, none⟩ = some (.slice aA an ac)) (go_keep) (first
    | (go_at_call 78; go_must ((with_reducible refine (carried_any _ aA an ac g (by omega) SD.out.add).mono ?_); rintro e w1 ⟨V1, rfl, hown1, hb1, hz1⟩; have s1 := SD.out.here hb1; have S1 := Lib.hid (And.intro s1 (And.intro hb1 (src_own hown1 hz1 (one_carr g an)))); have bx1 := boxEnt s1.box.cell; have v4 : w1.cell? ⟨H, 4, none⟩ = some (.slice aA an ac) := s1.hook.cell 4; obtain ⟨A1, k1, hV1⟩ := S1.out.2.2.form; subst hV1; clear s1 hown1 hb1 hz1))
    | (go_at_call 77; go_must ((refine (concat_two _ w1.heap.size (.slice A n c) (.slice A1 an k1) n an xs (carr g an) ((S1.out.1.here ((Below.refl _ _).alloc (Nat.le_refl _) _)).src) (S1.out.2.2.below ((Below.refl _ _).alloc (Nat.le_refl _) _)) (by simp [go_sem]) (by simp [go_sem]) (by omega) (by omega)).mono ?_); rintro e w2 ⟨V2, rfl, hown2, hb2, hz2⟩; have s2 := (S1.out.1.here ((Below.refl _ _).alloc (Nat.le_refl _) _)).here hb2; have bx2 := boxEnt s2.box.cell; have x4 : w2.cell? ⟨H, 4, none⟩ = some (.slice aA an ac) := s2.hook.cell 4; have oc := s2.out.cell; have of := s2.out.frozen; have S2 := Lib.hid (And.intro s2 (And.intro hown2 hz2)); clear s2 hown2 hz2)))
  have hfin := hook_fin (w := w) (h := ⟨before, true, false, level, aA, an, ac⟩) (x := x) (V2 := V2) (m := n + an) (ys := xs ++ carr g an) (by have h1 := S2.out.1; rw [hy] at h1; exact h1) (own_mono S2.out.2.1 (Nat.le_trans S1.out.1.below.size (by simp))) S2.out.2.2
  obtain ⟨hcc, hpp⟩ := hfin
  simp only [Hook.on, if_true] at hcc
  have HP := Lib.hid hpp
  clear hpp bx bx1 bx2
  go_wp2_with fail
  exact bodyPost_ret (v := .tuple #[.agg (Ent.pub (Hook.on ⟨before, true, false, level, aA, an, ac⟩ x)), V2]) (by simp [results, Tryz.results76, go_sem, hcc]) rfl HP.out
set_option maxHeartbeats 8000000 in
theorem hook_tt (w : World) (H : Nat) (h : Hook) (x : Ent) (V : Value) (n : Nat) (xs : List Value) (g : Nat → Fld) (hH : Blk w H 62 h.arr) (hsrc : SrcF w V n xs) (hn : n ≤ 100000) (han : h.an ≤ 300) (hr : RowAt w h.aA h.an 15 fun i => (g i).arr)
    (hm : x.message.size ≤ 100000) (hm2 : h.before.size ≤ 100000) (hd : h.drop = true) (hc : h.change = true) :
    Calls Tryz.prog 76 #[.agg x.pub, V, .pointer (some ⟨H, 0, none⟩)] w (HookPost w h x h.an (carr g h.an)) := by
  obtain ⟨A, c, rfl⟩ := hsrc.form
  obtain ⟨before, change, drop, level, aA, an, ac⟩ := h
  simp only at hd hc han hr hm2
  subst hd hc
  have u0 := hH.cell 0
  have u1 := hH.cell 1
  have u2 := hH.cell 2
  have u3 := hH.cell 3
  have u4 := hH.cell 4
  simp only [List.getElem?_toArray, List.getElem?_cons_zero, List.getElem?_cons_succ] at u0 u1 u2 u3 u4
  have hHl := hH.lt
  have HH := Lib.hid (And.intro hH (And.intro hsrc hr))
  clear hH hsrc hr
  obtain ⟨y, hy⟩ : ∃ y : Ent, y = Hook.on ⟨before, true, true, level, aA, an, ac⟩ x := ⟨_, rfl⟩
  go_enter Tryz.func76, Tryz.ntmps76
  go_wp2_with fail
  obtain ⟨W, hW⟩ : ∃ W : World, W = (w.alloc (.cells y.pub 154)).alloc (.cells zeroEnt 154) := ⟨_, rfl⟩
  have st : HkSt w H ⟨before, true, true, level, aA, an, ac⟩ y (.slice none 0 0) 0 [] g W := by
    have hb : Below w.heap.size w W := by rw [hW]; exact ((Below.refl _ _).alloc (Nat.le_refl _) _).alloc (by simp) _
    exact ⟨by rw [hW]; exact (Blk.new _ _ _).alloc _, by rw [hW]; exact Blk.new_at _ _ _ _ (by simp), HH.out.1.here hb, .inl ⟨rfl, rfl, rfl⟩, HH.out.2.2.below hb, hb⟩
  have hWy : W = (w.alloc (.cells #[.int .i8 (IntKind.i8.wrap level), .int .i64 (momExt x.zero x.nanos), .int .i32 (momNs x.zero x.nanos), .string (momZone x.zero x.zone), .int .i64 (momOff x.zero x.offset), .string x.logger, .string (before ++ x.message), .bool x.defined, .int .u64 0, .string x.file, .int .i64 x.line, .string x.function, .string x.stack] 154)).alloc (.cells #[.int .i8 0, .int .i64 0, .int .i32 0, .string ⟨#[]⟩, .int .i64 0, .string ⟨#[]⟩, .string ⟨#[]⟩, .bool false, .int .u64 0, .string ⟨#[]⟩, .int .i64 0, .string ⟨#[]⟩, .string ⟨#[]⟩] 154) := by rw [hW, hy]; rfl
  clear hW
  rw [← hWy]
  clear hWy u0 u1 u2 u3 u4
  have bx := boxEnt st.box.cell
  have u4 : W.cell? ⟨H, 4, none⟩ = some (.slice aA an ac) := st.hook.cell 4
  have std : HkSt w H ⟨before, true, true, level, aA, an, ac⟩ y (.slice none 0 0) 0 [] g W.drew := st.here (Below.refl _ _).drew
  have SD := Lib.hid std
  have hWs : w.heap.size ≤ W.heap.size := st.below.size
  have ne1 : ¬ H = w.heap.size + 1 := by omega
  have ne2 : ¬ w.heap.size + 1 = H := by omega
  clear st std
  go_region_held3 (fun w' => w'.cell? ⟨w.heap.size, 0, none⟩ = some (.int .i8 (IntKind.i8.wrap y.level)) ∧ w'.cell? ⟨w.heap.size, 1, none⟩ = some (.int .i64 (momExt y.zero y.nanos)) ∧ w'.cell? ⟨w.heap.size, 2, none⟩ = some (.int .i32 (momNs y.zero y.nanos)) ∧ w'.cell? ⟨w.heap.size, 3, none⟩ = some (.string (momZone y.zero y.zone)) ∧ w'.cell? ⟨w.heap.size, 4, none⟩ = some (.int .i64 (momOff y.zero y.offset)) ∧ w'.cell? ⟨w.heap.size, 5, none⟩ = some (.string y.logger) ∧ w'.cell? ⟨w.heap.size, 6, none⟩ = some (.string y.message) ∧ w'.cell? ⟨w.heap.size, 7, none⟩ = some (.bool y.defined) ∧ w'.cell? ⟨w.heap.size, 8, none⟩ = some (.int .u64 0) ∧ w'.cell? ⟨w.heap.size, 9, none⟩ = some (.string y.file) ∧ w'.cell? ⟨w.heap.size, 10, none⟩ = some (.int .i64 y.line) ∧ w'.cell? ⟨w.heap.size, 11, none⟩ = some (.string y.function) ∧ w'.cell? ⟨w.heap.size, 12, none⟩ = some (.string y.stack) ∧ w'.cell? ⟨H, 4, none⟩ = some (.slice aA an ac)) (go_keep) (first
    | (go_at_call 78; go_must ((with_reducible refine (carried_any _ aA an ac g (by omega) SD.out.add).mono ?_); rintro e w1 ⟨V1, rfl, hown1, hb1, hz1⟩; have s1 := SD.out.here hb1; have S1 := Lib.hid (And.intro s1 (And.intro hb1 (src_own hown1 hz1 (one_carr g an)))); have bx1 := boxEnt s1.box.cell; have v4 : w1.cell? ⟨H, 4, none⟩ = some (.slice aA an ac) := s1.hook.cell 4; obtain ⟨A1, k1, hV1⟩ := S1.out.2.2.form; subst hV1; clear s1 hown1 hb1 hz1))
    | (go_at_call 77; go_must ((refine (concat_two _ w1.heap.size (.slice none 0 0) (.slice A1 an k1) 0 an [] (carr g an) ((S1.out.1.here ((Below.refl _ _).alloc (Nat.le_refl _) _)).src) (S1.out.2.2.below ((Below.refl _ _).alloc (Nat.le_refl _) _)) (by simp [go_sem]) (by simp [go_sem]) (by omega) (by omega)).mono ?_); rintro e w2 ⟨V2, rfl, hown2, hb2, hz2⟩; have s2 := (S1.out.1.here ((Below.refl _ _).alloc (Nat.le_refl _) _)).here hb2; have bx2 := boxEnt s2.box.cell; have x4 : w2.cell? ⟨H, 4, none⟩ = some (.slice aA an ac) := s2.hook.cell 4; have oc := s2.out.cell; have of := s2.out.frozen; have S2 := Lib.hid (And.intro s2 (And.intro hown2 hz2)); clear s2 hown2 hz2)))
  have hfin := hook_fin (w := w) (h := ⟨before, true, true, level, aA, an, ac⟩) (x := x) (V2 := V2) (m := an) (ys := carr g an) (by have h1 := S2.out.1; rw [hy] at h1; exact h1) (by have h2 := own_mono S2.out.2.1 (Nat.le_trans S1.out.1.below.size (by simp)); simpa using h2) (by have h3 := S2.out.2.2; simpa using h3)
  obtain ⟨hcc, hpp⟩ := hfin
  simp only [Hook.on, if_true] at hcc
  have HP := Lib.hid hpp
  clear hpp bx bx1 bx2
  go_wp2_with fail
  exact bodyPost_ret (v := .tuple #[.agg (Ent.pub (Hook.on ⟨before, true, true, level, aA, an, ac⟩ x)), V2]) (by simp [results, Tryz.results76, go_sem, hcc]) rfl HP.out
/-- A hook's body. -/
theorem hook_all (w : World) (H : Nat) (h : Hook) (x : Ent) (V : Value) (n : Nat) (xs : List Value) (g : Nat → Fld) (hH : Blk w H 62 h.arr) (hsrc : SrcF w V n xs) (hn : n ≤ 100000) (han : h.an ≤ 300) (hr : RowAt w h.aA h.an 15 fun i => (g i).arr)
    (hm : x.message.size ≤ 100000) (hm2 : h.before.size ≤ 100000) :
    Calls Tryz.prog 76 #[.agg x.pub, V, .pointer (some ⟨H, 0, none⟩)] w (HookPost w h x ((if h.drop then 0 else n) + h.an) ((if h.drop then [] else xs) ++ carr g h.an)) := by
  cases hd : h.drop <;> cases hc : h.change
  · simp only [if_false, Bool.false_eq_true]
    exact hook_ff w H h x V n xs g hH hsrc hn han hr hm hm2 hd hc
  · simp only [if_false, Bool.false_eq_true]
    exact hook_tf w H h x V n xs g hH hsrc hn han hr hm hm2 hd hc
  · simp only [if_true, Nat.zero_add, List.nil_append]
    exact hook_ft w H h x V n xs g hH hsrc hn han hr hm hm2 hd hc
  · simp only [if_true, Nat.zero_add, List.nil_append]
    exact hook_tt w H h x V n xs g hH hsrc hn han hr hm hm2 hd hc
end Go.Proofs.YtieidjlmgalihaaGreatDoor
