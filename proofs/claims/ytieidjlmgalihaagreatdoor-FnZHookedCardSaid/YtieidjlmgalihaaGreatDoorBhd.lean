/- ZBehind: the reference's entry and fields behind hooks. -/
import Derived.Test.YtieidjlmgalihaaGreatDoorHkLaw
import Derived.Test.YtieidjlmgalihaaGreatDoorKit4
namespace Go.Proofs.YtieidjlmgalihaaGreatDoor
open Go.RowKit
set_option maxRecDepth 100000
abbrev zeroZEnt : Array Value := #[.int .i64 0, .bool false, .int .i64 0, .int .i64 0, .string ⟨#[]⟩, .string ⟨#[]⟩, .string ⟨#[]⟩, .bool false, .string ⟨#[]⟩, .int .i64 0, .string ⟨#[]⟩, .string ⟨#[]⟩]
/-- Hooks in memory, with what they add. -/
def HooksAt (w : World) (A : Option Addr) (m : Nat) (hs : Nat → Hook) (gs : Nat → Nat → Fld) : Prop := RowAt w A m 5 (fun i => (hs i).arr) ∧ ∀ i, i < m → RowAt w (hs i).aA (hs i).an 15 (fun j => (gs i j).arr)
theorem HooksAt.below {w w' : World} {A : Option Addr} {m : Nat} {hs : Nat → Hook} {gs : Nat → Nat → Fld} (h : HooksAt w A m hs gs) (hb : Below w.heap.size w w') : HooksAt w' A m hs gs := ⟨h.1.below hb, fun i hi => (h.2 i hi).below hb⟩
theorem Hook.cells {w : World} {b q : Nat} {h : Hook} (hc : ∀ j, j < 5 → w.cell? ⟨b, q + j, none⟩ = h.arr[j]?) : w.cell? ⟨b, q, none⟩ = some (.string h.before) ∧ w.cell? ⟨b, q + 1, none⟩ = some (.bool h.change) ∧ w.cell? ⟨b, q + 2, none⟩ = some (.bool h.drop) ∧ w.cell? ⟨b, q + 3, none⟩ = some (.int .i64 h.level) ∧ w.cell? ⟨b, q + 4, none⟩ = some (.slice h.aA h.an h.ac) :=
  ⟨hc 0 (by omega), hc 1 (by omega), hc 2 (by omega), hc 3 (by omega), hc 4 (by omega)⟩
theorem own_empty {W : World} {B k : Nat} (hB : B ≤ k) (hk : W.heap[k]? = some (Obj.cells #[] 39 (0, 0))) : W.ownsRow B 39 15 (.slice (some ⟨k, 0, none⟩) 0 0) 0 [] :=
  ⟨by simp, .inr ⟨k, 0, #[], rfl, hB, hk, Nat.le_refl _, by simp [maxLen], by simp, by simp⟩⟩
theorem own_empty3 (w : World) (o1 o2 : Obj) : (((w.alloc o1).alloc o2).alloc (.cells #[] 39)).ownsRow w.heap.size 39 15 (.slice (some ⟨w.heap.size + 1 + 1, 0, none⟩) 0 0) 0 [] :=
  own_empty (by omega) (by have h := heap_alloc_new ((w.alloc o1).alloc o2) (.cells #[] 39); simpa using h)
theorem far3 {w : World} {j : Nat} (hj : j < w.heap.size) (he : (Value.slice (some ⟨w.heap.size + 1 + 1, 0, none⟩) 0 0).ownBlock = some j) : False := by
  have h1 : w.heap.size + 1 + 1 = j := by simpa [Value.ownBlock] using he
  omega
theorem far4 {N k : Nat} (h : N ≠ k) : ¬ (Value.slice (some ⟨N, 0, none⟩) 0 0).ownBlock = some k := by
  simpa [Value.ownBlock] using h
theorem own_slice2 {w : World} {B : Nat} {e : TypeId} {size n : Nat} {v : Value} {xs : List Value} (h : w.ownsRow B e size v n xs) : ∃ a l c, v = .slice a l c := by
  rcases h.2 with ⟨rfl, _⟩ | ⟨g, cap, cur, rfl, _⟩
  · exact ⟨_, _, _, rfl⟩
  · exact ⟨_, _, _, rfl⟩
def BhdPost (w : World) (e : Ent) (N : Nat) (G : Nat → Fld) (en : Ending) (w' : World) : Prop := ∃ V, en = .returned (.tuple #[.agg e.arr, V]) ∧ w'.ownsRow w.heap.size 39 15 V N (bare G N) ∧ Below w.heap.size w w'
theorem bhd_fin {w wr : World} {y : Ent} {V : Value} {N : Nat} {G : Nat → Fld} (q1 : Blk wr w.heap.size 50 y.arr) (q2 : Blk wr (w.heap.size + 1) 50 zeroZEnt) (hown : wr.ownsRow w.heap.size 39 15 V N (bare G N)) (hb : Below w.heap.size w wr) :
    (∀ i, (((((((((((((wr).setCell ⟨w.heap.size + 1, 0, none⟩ (.int .i64 y.level)).setCell ⟨w.heap.size + 1, 1, none⟩ (.bool y.zero)).setCell ⟨w.heap.size + 1, 2, none⟩ (.int .i64 y.nanos)).setCell ⟨w.heap.size + 1, 3, none⟩ (.int .i64 y.offset)).setCell ⟨w.heap.size + 1, 4, none⟩ (.string y.zone)).setCell ⟨w.heap.size + 1, 5, none⟩ (.string y.logger)).setCell ⟨w.heap.size + 1, 6, none⟩ (.string y.message)).setCell ⟨w.heap.size + 1, 7, none⟩ (.bool y.defined)).setCell ⟨w.heap.size + 1, 8, none⟩ (.string y.file)).setCell ⟨w.heap.size + 1, 9, none⟩ (.int .i64 y.line)).setCell ⟨w.heap.size + 1, 10, none⟩ (.string y.function)).setCell ⟨w.heap.size + 1, 11, none⟩ (.string y.stack)).cell? ⟨w.heap.size + 1, i, none⟩ = y.arr[i]?) ∧ BhdPost w y N G (.returned (.tuple #[.agg y.arr, V])) (((((((((((((wr).setCell ⟨w.heap.size + 1, 0, none⟩ (.int .i64 y.level)).setCell ⟨w.heap.size + 1, 1, none⟩ (.bool y.zero)).setCell ⟨w.heap.size + 1, 2, none⟩ (.int .i64 y.nanos)).setCell ⟨w.heap.size + 1, 3, none⟩ (.int .i64 y.offset)).setCell ⟨w.heap.size + 1, 4, none⟩ (.string y.zone)).setCell ⟨w.heap.size + 1, 5, none⟩ (.string y.logger)).setCell ⟨w.heap.size + 1, 6, none⟩ (.string y.message)).setCell ⟨w.heap.size + 1, 7, none⟩ (.bool y.defined)).setCell ⟨w.heap.size + 1, 8, none⟩ (.string y.file)).setCell ⟨w.heap.size + 1, 9, none⟩ (.int .i64 y.line)).setCell ⟨w.heap.size + 1, 10, none⟩ (.string y.function)).setCell ⟨w.heap.size + 1, 11, none⟩ (.string y.stack)) :=
  ⟨set12 q2.cell _ _ _ _ _ _ _ _ _ _ _ _, V, rfl, own_only (S := fun k => k = w.heap.size + 1) hown (((((((((((((Only.refl (fun k => k = w.heap.size + 1) wr).setCell (.inl rfl) (.int .i64 y.level)).setCell (.inl rfl) (.bool y.zero)).setCell (.inl rfl) (.int .i64 y.nanos)).setCell (.inl rfl) (.int .i64 y.offset)).setCell (.inl rfl) (.string y.zone)).setCell (.inl rfl) (.string y.logger)).setCell (.inl rfl) (.string y.message)).setCell (.inl rfl) (.bool y.defined)).setCell (.inl rfl) (.string y.file)).setCell (.inl rfl) (.int .i64 y.line)).setCell (.inl rfl) (.string y.function)).setCell (.inl rfl) (.string y.stack)) (fun k hk e => own_ne hown q2 (by decide) (by rw [hk, e])), belowSet12 hb (by omega) _ _ _ _ _ _ _ _ _ _ _ _⟩
theorem bhd_step {w W w2 : World} {hs : Nat → Hook} {gs : Nat → Nat → Fld} {n k np : Nat} {g : Nat → Fld} {e y z : Ent} {h : Hook} {Vp V2 : Value} {xsp : List Value} (hh : hs k = h) (hye : hkEnt hs e k = y) (q1 : Blk W w.heap.size 50 z.arr) (hz : h.on y = z) (q2 : Blk W (w.heap.size + 1) 50 zeroZEnt) (hbW : Below w.heap.size w W)
    (hownW : W.ownsRow w.heap.size 39 15 Vp np xsp) (hown3 : w2.ownsRow w.heap.size 39 15 V2 (np + h.an) (xsp ++ bare (gs k) h.an)) (ho3 : Only (fun j => Vp.ownBlock = some j) W w2) (hnp : np = if h.drop then 0 else hkLen hs n k) (hxs : xsp = if h.drop then [] else bare (hkFld hs gs n g k) (hkLen hs n k)) :
    Below w.heap.size w w2 ∧ w2.ownsRow w.heap.size 39 15 V2 (hkLen hs n (k + 1)) (bare (hkFld hs gs n g (k + 1)) (hkLen hs n (k + 1))) ∧ Blk w2 w.heap.size 50 (hkEnt hs e (k + 1)).arr ∧ Blk w2 (w.heap.size + 1) 50 zeroZEnt := by
  refine ⟨hbW.trans (ho3.below hbW.size (fun j hj e => by have := (hownW.lt j e).1; omega)), ?_, ?_, q2.only ho3 (own_ne hownW q2 (by decide))⟩
  · rw [hk_bare, hh, ← hxs]
    have hl : hkLen hs n (k + 1) = np + h.an := by
      simp only [hkLen, hkKept, hh]
      rw [hnp]
    rw [hl]
    exact hown3
  · have h1 : hkEnt hs e (k + 1) = z := by rw [hkEnt, hh, hye, hz]
    rw [h1]
    exact q1.only ho3 (own_ne hownW q1 (by decide))
set_option maxHeartbeats 4000000 in
theorem behind_any (w : World) (e : Ent) (A HA : Option Addr) (n c m mc : Nat) (g : Nat → Fld) (hs : Nat → Hook) (gs : Nat → Nat → Fld) (hr : RowAt w A n 15 fun i => (g i).arr) (hh : HooksAt w HA m hs gs) (hn : n ≤ 300) (hm : m ≤ 20) (han : ∀ k, (hs k).an ≤ 300) (hms : e.message.size ≤ 2000) (hbs : ∀ k, (hs k).before.size ≤ 200) :
    Calls Tryz.prog 32 #[.agg e.arr, .slice A n c, .slice HA m mc] w (BhdPost w (hkEnt hs e m) (hkLen hs n m) (hkFld hs gs n g m)) := by
  have hmk : ∀ (W : World), (Instr.buildSlice 37 0 #[]).run Tryz.prog W = .ok (.slice (some ⟨W.heap.size, 0, none⟩) 0 0) (W.alloc (.cells #[] 39)) := fun _ => by kernel_rfl
  have H := Lib.hid (And.intro hr hh)
  clear hr hh
  go_enter Tryz.func32, Tryz.ntmps32
  go_wp2_with (at_builtin; go_must (refine wpList_append_fld rfl (.tmp 11) (.tmp 12) rfl _ w.heap.size (.slice (some ⟨w.heap.size + 1 + 1, 0, none⟩) 0 0) 0 [] rfl (own_empty3 w _ _) A n c g rfl (H.out.1.below (by go_grown)) (by omega) (by simp; omega) ?_; intro V w1 hown ho1; have hbx : Below w.heap.size w w1 := Below.trans (by go_grown) (ho1.below (by simp; omega) (fun j hj he => far3 hj he)); have b1 : Blk w1 w.heap.size 50 e.arr := (((Blk.new w 50 e.arr).alloc _).alloc _).only ho1 (far4 (by omega)); have b2 : Blk w1 (w.heap.size + 1) 50 zeroZEnt := ((Blk.new_at _ 50 _ _ (by simp)).alloc _).only ho1 (far4 (by omega))))
  go_loopw [8, 9] (fun V i wr => ∃ k : Nat, k ≤ m ∧ i = .int .i64 k ∧ Below w.heap.size w wr ∧ wr.ownsRow w.heap.size 39 15 V (hkLen hs n k) (bare (hkFld hs gs n g k) (hkLen hs n k)) ∧ Blk wr w.heap.size 50 (hkEnt hs e k).arr ∧ Blk wr (w.heap.size + 1) 50 zeroZEnt) (fun _ i _ => m - (intOf i).toNat)
  case atStart => exact ⟨0, Nat.zero_le _, rfl, hbx, by simpa [hkLen, hkFld] using hown, b1, b2⟩
  case round =>
    obtain ⟨k, hk, rfl, hb, hown2, q1, q2⟩ := hrel
    by_cases hlt : k < m
    · obtain ⟨b, off, rfl, hsz, hc⟩ := (H.out.2.below hb).1 k hlt
      have hcs := Hook.cells hc
      have hadd := (H.out.2.below hb).2 k hlt
      have HL := Lib.hid (And.intro (hk_bare hs gs n g k) (show hkEnt hs e (k + 1) = (hs k).on (hkEnt hs e k) from rfl))
      have hle := hkLen_le hs n han k
      have hmle := hkMsg_le hs e hbs k
      have ha := han k
      have hbk := hbs k
      have HA2 := Lib.hid hadd
      obtain ⟨h, hh⟩ : ∃ h, hs k = h := ⟨_, rfl⟩
      rw [hh] at hcs ha hbk
      obtain ⟨y, hy⟩ : ∃ y, hkEnt hs e k = y := ⟨_, rfl⟩
      rw [hy] at q1 hmle
      have HY := Lib.hid (And.intro hh hy)
      clear hc hsz hadd hh hy
      have q1' := q1
      have x0 := q1.cell 0
      have x6 := q1.cell 6
      have fx := q1.frozen
      have nl := q1.lt
      have nn1 : ¬ wr.heap.size = w.heap.size := by omega
      have nn2 : ¬ w.heap.size = wr.heap.size := by omega
      simp only [List.getElem?_toArray, List.getElem?_cons_zero, List.getElem?_cons_succ] at x0 x6
      obtain ⟨la, ln, lc, rfl⟩ := own_slice2 hown2
      have HO : ∀ W : World, Only (fun j => j = w.heap.size) wr W → W.ownsRow w.heap.size 39 15 (.slice la ln lc) (hkLen hs n k) (bare (hkFld hs gs n g k) (hkLen hs n k)) := fun W ho => own_only hown2 ho (fun j hj e => own_ne hown2 q1 (by decide) (by rw [hj, e]))
      have HB : ∀ W : World, Only (fun j => j = w.heap.size) wr W → Below w.heap.size w W := fun W ho => hb.trans (ho.below hb.size (fun j hj e => by omega))
      have HQ := Lib.hid (And.intro q1 (And.intro q2 (And.intro HO HB)))
      clear q1 q1' q2 hown2 HO HB
      obtain ⟨v0, v1, v2, v3, v4⟩ := hcs
      obtain ⟨before, change, drop, level, aA, an, ac⟩ := h
      simp only at v0 v1 v2 v3 v4 ha hbk
      cases change <;> cases drop
      · go_wp2_with (at_builtin; go_must (refine wpList_append_fld rfl (.tmp 37) (.tmp 39) rfl _ w.heap.size (.slice la ln lc) (hkLen hs n k) (bare (hkFld hs gs n g k) (hkLen hs n k)) rfl (HQ.out.2.2.1 _ ?_) aA an ac (gs k) rfl ?_ (by omega) ?_ ?_))
        · exact ((Only.refl (fun j => j = w.heap.size) wr).setCell (p := ⟨w.heap.size, 6, none⟩) (.inl rfl) _).alloc _
        · have hr := H.out.2.2 k hlt
          rw [HY.out.1] at hr
          exact hr.below (HQ.out.2.2.2 _ (((Only.refl (fun j => j = w.heap.size) wr).setCell (p := ⟨w.heap.size, 6, none⟩) (.inl rfl) _).alloc _))
        · have := hb.size
          simp
          omega
        · intro V2 w2 hown3 ho3
          have hW := ((Only.refl (fun j => j = w.heap.size) wr).setCell (p := ⟨w.heap.size, 6, none⟩) (.inl rfl) (.string (before ++ y.message))).alloc (.cells #[.string before, .bool false, .bool false, .int .i64 level, .slice aA an ac] 62)
          have hst := bhd_step (n := n) (g := g) (gs := gs) (z := Hook.on ⟨before, false, false, level, aA, an, ac⟩ y) HY.out.1 HY.out.2 (Blk.alloc (by have hq := HQ.out.1.set_ 6 (.string (before ++ y.message)); simp only [List.setIfInBounds_toArray, List.set_cons_zero, List.set_cons_succ] at hq; exact hq) _) rfl (HQ.out.2.1.only hW (by omega)) (HQ.out.2.2.2 _ hW) (HQ.out.2.2.1 _ hW) hown3 ho3 rfl rfl
          have HS := Lib.hid hst
          clear hst hown3 ho3 hW
          go_wp2_with fail
          go_roundw
          case rel => exact ⟨k + 1, by omega, by go_num, HS.out.1, HS.out.2.1, HS.out.2.2.1, HS.out.2.2.2⟩
          case measure => simp [intOf]; omega
      · go_wp2_with (at_builtin; go_must (refine wpList_append_fld rfl (.tmp 37) (.tmp 39) rfl _ w.heap.size (.slice none 0 0) 0 [] rfl (World.ownsRow_nil _ _ _ _) aA an ac (gs k) rfl ?_ (by omega) ?_ ?_))
        · have hr := H.out.2.2 k hlt
          rw [HY.out.1] at hr
          exact hr.below (HQ.out.2.2.2 _ (((Only.refl (fun j => j = w.heap.size) wr).setCell (p := ⟨w.heap.size, 6, none⟩) (.inl rfl) _).alloc _))
        · have := hb.size
          simp
          omega
        · intro V2 w2 hown3 ho3
          have hW := ((Only.refl (fun j => j = w.heap.size) wr).setCell (p := ⟨w.heap.size, 6, none⟩) (.inl rfl) (.string (before ++ y.message))).alloc (.cells #[.string before, .bool false, .bool true, .int .i64 level, .slice aA an ac] 62)
          have hst := bhd_step (n := n) (g := g) (gs := gs) (z := Hook.on ⟨before, false, true, level, aA, an, ac⟩ y) HY.out.1 HY.out.2 (Blk.alloc (by have hq := HQ.out.1.set_ 6 (.string (before ++ y.message)); simp only [List.setIfInBounds_toArray, List.set_cons_zero, List.set_cons_succ] at hq; exact hq) _) rfl (HQ.out.2.1.only hW (by omega)) (HQ.out.2.2.2 _ hW) (World.ownsRow_nil _ _ _ _) (by rw [Nat.zero_add, List.nil_append]; exact hown3) ho3 rfl rfl
          have HS := Lib.hid hst
          clear hst hown3 ho3 hW
          go_wp2_with fail
          go_roundw
          case rel => exact ⟨k + 1, by omega, by go_num, HS.out.1, HS.out.2.1, HS.out.2.2.1, HS.out.2.2.2⟩
          case measure => simp [intOf]; omega
      · go_wp2_with (at_builtin; go_must (refine wpList_append_fld rfl (.tmp 37) (.tmp 39) rfl _ w.heap.size (.slice la ln lc) (hkLen hs n k) (bare (hkFld hs gs n g k) (hkLen hs n k)) rfl (HQ.out.2.2.1 _ ?_) aA an ac (gs k) rfl ?_ (by omega) ?_ ?_))
        · exact (((Only.refl (fun j => j = w.heap.size) wr).setCell (p := ⟨w.heap.size, 6, none⟩) (.inl rfl) _).setCell (p := ⟨w.heap.size, 0, none⟩) (.inl rfl) _).alloc _
        · have hr := H.out.2.2 k hlt
          rw [HY.out.1] at hr
          exact hr.below (HQ.out.2.2.2 _ ((((Only.refl (fun j => j = w.heap.size) wr).setCell (p := ⟨w.heap.size, 6, none⟩) (.inl rfl) _).setCell (p := ⟨w.heap.size, 0, none⟩) (.inl rfl) _).alloc _))
        · have := hb.size
          simp
          omega
        · intro V2 w2 hown3 ho3
          have hW := (((Only.refl (fun j => j = w.heap.size) wr).setCell (p := ⟨w.heap.size, 6, none⟩) (.inl rfl) (.string (before ++ y.message))).setCell (p := ⟨w.heap.size, 0, none⟩) (.inl rfl) (.int .i64 level)).alloc (.cells #[.string before, .bool true, .bool false, .int .i64 level, .slice aA an ac] 62)
          have hst := bhd_step (n := n) (g := g) (gs := gs) (z := Hook.on ⟨before, true, false, level, aA, an, ac⟩ y) HY.out.1 HY.out.2 (Blk.alloc (by have hq := (HQ.out.1.set_ 6 (.string (before ++ y.message))).set_ 0 (.int .i64 level); simp only [List.setIfInBounds_toArray, List.set_cons_zero, List.set_cons_succ] at hq; exact hq) _) rfl (HQ.out.2.1.only hW (by omega)) (HQ.out.2.2.2 _ hW) (HQ.out.2.2.1 _ hW) hown3 ho3 rfl rfl
          have HS := Lib.hid hst
          clear hst hown3 ho3 hW
          go_wp2_with fail
          go_roundw
          case rel => exact ⟨k + 1, by omega, by go_num, HS.out.1, HS.out.2.1, HS.out.2.2.1, HS.out.2.2.2⟩
          case measure => simp [intOf]; omega
      · go_wp2_with (at_builtin; go_must (refine wpList_append_fld rfl (.tmp 37) (.tmp 39) rfl _ w.heap.size (.slice none 0 0) 0 [] rfl (World.ownsRow_nil _ _ _ _) aA an ac (gs k) rfl ?_ (by omega) ?_ ?_))
        · have hr := H.out.2.2 k hlt
          rw [HY.out.1] at hr
          exact hr.below (HQ.out.2.2.2 _ ((((Only.refl (fun j => j = w.heap.size) wr).setCell (p := ⟨w.heap.size, 6, none⟩) (.inl rfl) _).setCell (p := ⟨w.heap.size, 0, none⟩) (.inl rfl) _).alloc _))
        · have := hb.size
          simp
          omega
        · intro V2 w2 hown3 ho3
          have hW := (((Only.refl (fun j => j = w.heap.size) wr).setCell (p := ⟨w.heap.size, 6, none⟩) (.inl rfl) (.string (before ++ y.message))).setCell (p := ⟨w.heap.size, 0, none⟩) (.inl rfl) (.int .i64 level)).alloc (.cells #[.string before, .bool true, .bool true, .int .i64 level, .slice aA an ac] 62)
          have hst := bhd_step (n := n) (g := g) (gs := gs) (z := Hook.on ⟨before, true, true, level, aA, an, ac⟩ y) HY.out.1 HY.out.2 (Blk.alloc (by have hq := (HQ.out.1.set_ 6 (.string (before ++ y.message))).set_ 0 (.int .i64 level); simp only [List.setIfInBounds_toArray, List.set_cons_zero, List.set_cons_succ] at hq; exact hq) _) rfl (HQ.out.2.1.only hW (by omega)) (HQ.out.2.2.2 _ hW) (World.ownsRow_nil _ _ _ _) (by rw [Nat.zero_add, List.nil_append]; exact hown3) ho3 rfl rfl
          have HS := Lib.hid hst
          clear hst hown3 ho3 hW
          go_wp2_with fail
          go_roundw
          case rel => exact ⟨k + 1, by omega, by go_num, HS.out.1, HS.out.2.1, HS.out.2.2.1, HS.out.2.2.2⟩
          case measure => simp [intOf]; omega
    · have hke : k = m := by omega
      subst hke
      obtain ⟨y, hy⟩ : ∃ y, hkEnt hs e k = y := ⟨_, rfl⟩
      rw [hy] at q1
      have hfin := bhd_fin q1 q2 hown2 hb
      rw [← hy] at hfin
      have HF := Lib.hid hfin
      have hcc := (hfin).1
      rw [hy] at hcc
      have x0 := q1.cell 0
      have x1 := q1.cell 1
      have x2 := q1.cell 2
      have x3 := q1.cell 3
      have x4 := q1.cell 4
      have x5 := q1.cell 5
      have x6 := q1.cell 6
      have x7 := q1.cell 7
      have x8 := q1.cell 8
      have x9 := q1.cell 9
      have xa := q1.cell 10
      have xb := q1.cell 11
      simp only [List.getElem?_toArray, List.getElem?_cons_zero, List.getElem?_cons_succ] at x0 x1 x2 x3 x4 x5 x6 x7 x8 x9 xa xb
      have c2 := q2.cell
      have f2 := q2.frozen
      clear hfin q1 q2
      go_wp2_with fail
      refine bodyPost_ret (v := .tuple #[.agg y.arr, u8]) (by simp [results, Tryz.results32, go_sem, hcc]) rfl ?_
      have hp := HF.out.2
      rw [hy] at hp
      rw [hy]
      exact hp
end Go.Proofs.YtieidjlmgalihaaGreatDoor
