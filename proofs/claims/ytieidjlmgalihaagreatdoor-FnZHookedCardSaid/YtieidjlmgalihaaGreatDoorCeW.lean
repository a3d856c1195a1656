/- CheckedEntry.Write: hooks first, then one catcher. -/
import Derived.Test.YtieidjlmgalihaaGreatDoorCatW
import Derived.Test.YtieidjlmgalihaaGreatDoorBhd
namespace Go.Proofs.YtieidjlmgalihaaGreatDoor
open Go.RowKit
set_option maxRecDepth 100000
/-- Hook k's function value. -/
abbrev hkFun (Hk : Nat → Nat) (k : Nat) : Value := .func (.func 76) #[] #[.pointer (some ⟨Hk k, 0, none⟩)]
/-- What the walk reads of a checked entry ahead of its hooks. -/
structure CeSt (w : World) (ce : Nat) (x : Ent) (Vc Vb : Value) (hs : Nat → Hook) (gs : Nat → Nat → Fld) (n : Nat) (g : Nat → Fld) (k : Nat) (V : Value) (W : World) : Prop where
  chk : Blk W ce 250 (x.ce2 true Vc Vb)
  box : Blk W w.heap.size 154 (hkEnt hs x k).pub
  src : SrcF W V (hkLen hs n k) (carr (hkFld hs gs n g k) (hkLen hs n k))
  only : Only (fun b => b = ce) w W
theorem only_box {S : Nat → Prop} {w0 w : World} {b : Nat} (h : Only S w0 w) (hb : S b ∨ w0.heap.size ≤ b) (v0 v1 v2 v3 v4 v5 v6 v7 v8 v9 v10 v11 v12 : Value) : Only S w0 ((((((((((((((w).setCell ⟨b, 0, none⟩ v0).setCell ⟨b, 1, none⟩ v1).setCell ⟨b, 2, none⟩ v2).setCell ⟨b, 3, none⟩ v3).setCell ⟨b, 4, none⟩ v4).setCell ⟨b, 5, none⟩ v5).setCell ⟨b, 6, none⟩ v6).setCell ⟨b, 7, none⟩ v7).setCell ⟨b, 8, none⟩ v8).setCell ⟨b, 9, none⟩ v9).setCell ⟨b, 10, none⟩ v10).setCell ⟨b, 11, none⟩ v11).setCell ⟨b, 12, none⟩ v12) :=
  (((((((((((((h).setCell (p := ⟨b, 0, none⟩) hb v0).setCell (p := ⟨b, 1, none⟩) hb v1).setCell (p := ⟨b, 2, none⟩) hb v2).setCell (p := ⟨b, 3, none⟩) hb v3).setCell (p := ⟨b, 4, none⟩) hb v4).setCell (p := ⟨b, 5, none⟩) hb v5).setCell (p := ⟨b, 6, none⟩) hb v6).setCell (p := ⟨b, 7, none⟩) hb v7).setCell (p := ⟨b, 8, none⟩) hb v8).setCell (p := ⟨b, 9, none⟩) hb v9).setCell (p := ⟨b, 10, none⟩) hb v10).setCell (p := ⟨b, 11, none⟩) hb v11).setCell (p := ⟨b, 12, none⟩) hb v12
theorem blk_box {w : World} {b : Nat} {v0 v1 v2 v3 v4 v5 v6 v7 v8 v9 v10 v11 v12 : Value} {a0 a1 a2 a3 a4 a5 a6 a7 a8 a9 a10 a11 a12 : Value} (h : Blk w b 154 #[a0, a1, a2, a3, a4, a5, a6, a7, a8, a9, a10, a11, a12]) : Blk ((((((((((((((w).setCell ⟨b, 0, none⟩ v0).setCell ⟨b, 1, none⟩ v1).setCell ⟨b, 2, none⟩ v2).setCell ⟨b, 3, none⟩ v3).setCell ⟨b, 4, none⟩ v4).setCell ⟨b, 5, none⟩ v5).setCell ⟨b, 6, none⟩ v6).setCell ⟨b, 7, none⟩ v7).setCell ⟨b, 8, none⟩ v8).setCell ⟨b, 9, none⟩ v9).setCell ⟨b, 10, none⟩ v10).setCell ⟨b, 11, none⟩ v11).setCell ⟨b, 12, none⟩ v12) b 154 #[v0, v1, v2, v3, v4, v5, v6, v7, v8, v9, v10, v11, v12] := by
  have hc := ((((((((((((h.set_ 0 v0).set_ 1 v1).set_ 2 v2).set_ 3 v3).set_ 4 v4).set_ 5 v5).set_ 6 v6).set_ 7 v7).set_ 8 v8).set_ 9 v9).set_ 10 v10).set_ 11 v11).set_ 12 v12
  simp only [List.setIfInBounds_toArray, List.set_cons_zero, List.set_cons_succ] at hc
  exact hc
theorem own_len {w : World} {B : Nat} {e : TypeId} {size n : Nat} {v : Value} {xs : List Value} (h : w.ownsRow B e size v n xs) : ∃ a c, v = .slice a n c := by
  rcases h.2 with ⟨rfl, hn⟩ | ⟨g, cap, cur, rfl, _⟩
  · have : n = 0 := by first | exact hn | exact hn.1 | simp_all
    subst this
    exact ⟨_, _, rfl⟩
  · exact ⟨_, _, rfl⟩
/-- An owned row's slice and its element. -/
theorem own_at {w : World} {B : Nat} {e : TypeId} {n k : Nat} {v : Value} {xs : List Value} (h : w.ownsRow B e 1 v n xs) (hk : k < n) : ∃ g cap, v = .slice (some ⟨g, 0, none⟩) n cap ∧ g < w.heap.size ∧ w.cell? ⟨g, k, none⟩ = xs[k]? ∧ B ≤ g := by
  rcases h.2 with ⟨rfl, hn⟩ | ⟨g, cap, cur, rfl, hb, hg, h1, h2, h3, htk⟩
  · have : n = 0 := by first | exact hn | exact hn.1 | simp_all
    omega
  · refine ⟨g, cap, rfl, (Array.getElem?_eq_some_iff.1 hg).1, ?_, hb⟩
    rw [cell_of_row w g k _ _ _ hg]
    have := congrArg (·[k]?) htk
    simp [List.getElem?_take] at this
    simpa [hk] using this
theorem ce_step {w wr w1 : World} {ce : Nat} {x y : Ent} {Vc Vb V V2 : Value} {hs : Nat → Hook} {gs : Nat → Nat → Fld} {n k N1 : Nat} {g : Nat → Fld} {h : Hook} (st : CeSt w ce x Vc Vb hs gs n g k V wr) (hh : hs k = h) (hy : hkEnt hs x k = y) (hce : ce < w.heap.size) (hN : hkLen hs n (k + 1) = N1)
    (hown : w1.ownsRow wr.drew.heap.size 131 5 V2 N1 (carr (hkFld hs gs n g (k + 1)) (hkLen hs n (k + 1)))) (hb : Below wr.drew.heap.size wr.drew w1) (hz : N1 = 0 → V2 = .slice none 0 0) :
    CeSt w ce x Vc Vb hs gs n g (k + 1) V2 ((((((((((((((w1).setCell ⟨w.heap.size, 0, none⟩ (.int .i8 (IntKind.i8.wrap (h.on y).level))).setCell ⟨w.heap.size, 1, none⟩ (.int .i64 (momExt y.zero y.nanos))).setCell ⟨w.heap.size, 2, none⟩ (.int .i32 (momNs y.zero y.nanos))).setCell ⟨w.heap.size, 3, none⟩ (.string (momZone y.zero y.zone))).setCell ⟨w.heap.size, 4, none⟩ (.int .i64 (momOff y.zero y.offset))).setCell ⟨w.heap.size, 5, none⟩ (.string y.logger)).setCell ⟨w.heap.size, 6, none⟩ (.string (h.on y).message)).setCell ⟨w.heap.size, 7, none⟩ (.bool y.defined)).setCell ⟨w.heap.size, 8, none⟩ (.int .u64 0)).setCell ⟨w.heap.size, 9, none⟩ (.string y.file)).setCell ⟨w.heap.size, 10, none⟩ (.int .i64 y.line)).setCell ⟨w.heap.size, 11, none⟩ (.string y.function)).setCell ⟨w.heap.size, 12, none⟩ (.string y.stack)) := by
  subst hh
  have hbx : Blk w1 w.heap.size 154 y.pub := by rw [← hy]; exact (st.box.drew).here hb
  have he : hkEnt hs x (k + 1) = (hs k).on y := by rw [← hy]; rfl
  refine ⟨?_, ?_, ?_, ?_⟩
  · exact ((st.chk.drew).here hb).only (only_box (Only.refl (fun b => b = w.heap.size) w1) (.inl rfl) _ _ _ _ _ _ _ _ _ _ _ _ _) (fun e => by omega)
  · rw [he]
    exact blk_box hbx
  · rw [hN] at hown ⊢
    exact src_own (own_only hown (only_box (Only.refl (fun b => b = w.heap.size) w1) (.inl rfl) _ _ _ _ _ _ _ _ _ _ _ _ _) (fun i hi e => own_ne hown hbx (by decide) (by rw [hi, e]))) hz (one_carr _ _)
  · exact only_box ((st.only.drew).trans (Only.none_of_below hb)) (.inr (Nat.le_refl _)) _ _ _ _ _ _ _ _ _ _ _ _ _
theorem row_read {w : World} {B gc capc : Nat} {e : TypeId} {v : Value} (h : w.ownsRow B e 1 (.slice (some ⟨gc, 0, none⟩) 1 capc) 1 [v]) : w.cell? ⟨gc, 0, none⟩ = some v := by
  obtain ⟨_, _, hv2, _, hc2, _⟩ := own_at h (k := 0) (by omega)
  injection hv2 with e1 _ _
  injection e1 with e1
  injection e1 with e1 _ _
  subst e1
  rw [hc2]
  rfl
set_option maxHeartbeats 8000000 in
theorem ce_write (w0 w : World) (ce Ob Lb m n gc capc : Nat) (x : Ent) (e : Ent) (V Vb : Value) (g : Nat → Fld) (hs : Nat → Hook) (gs : Nat → Nat → Fld) (Hk : Nat → Nat)
    (hb0 : Below w0.heap.size w0 w) (hce : Blk w ce 250 (x.ce2 false (.slice (some ⟨gc, 0, none⟩) 1 capc) Vb)) (hceB : w0.heap.size ≤ ce) (hrow : w.ownsRow w0.heap.size 139 1 (.slice (some ⟨gc, 0, none⟩) 1 capc) 1 [.iface 187 (.agg (catArr Ob Lb))])
    (hown : w.ownsRow w0.heap.size 252 1 Vb m ((List.range m).map (hkFun Hk))) (hhk : ∀ k, k < m → Blk w (Hk k) 62 (hs k).arr) (hadd : ∀ k, k < m → RowAt w0 (hs k).aA (hs k).an 15 fun j => (gs k j).arr) (h3 : ∀ k, (hs k).an ≤ 300) (h2 : ∀ k, (hs k).before.size ≤ 200) (hmsg : x.message.size ≤ 2000)
    (hO : Blk w Ob 50 e.arr) (hL : Blk w Lb 37 #[.slice none 0 0]) (hsrc : SrcF w V n (carr g n)) (hn : n ≤ 300) (hm : m ≤ 20) :
    Calls Tryz.prog 66 #[.pointer (some ⟨ce, 0, none⟩), V] w (fun en w' => en = .returned (.tuple #[]) ∧ Blk w' Ob 50 ({ e with level := IntKind.i8.wrap (hkEnt hs x m).level, message := (hkEnt hs x m).message } : Ent).arr ∧ (∃ V, Blk w' Lb 37 #[V] ∧ w'.ownsRow w0.heap.size 39 15 V (hkLen hs n m) (bare (hkFld hs gs n g m) (hkLen hs n m))) ∧ Only (fun b => b = ce ∨ b = Ob ∨ b = Lb) w w') := by
  obtain ⟨c1, f1, l1⟩ := hce.use
  have hneb : Vb.ownBlock ≠ some ce := own_ne hown hce (by decide)
  have hnec : gc ≠ ce := fun e => own_ne hrow hce (by decide) (by rw [e]; rfl)
  obtain ⟨_, _, hcv, gcl, gcc, _⟩ := own_at hrow (k := 0) (by omega)
  obtain ⟨bA, bC, rfl⟩ := own_len hown
  have hsz : (w.setCell ⟨ce, 13, none⟩ (.bool true)).heap.size = w.heap.size := by simp [World.setCell]
  go_enter Tryz.func66, Tryz.ntmps66
  go_wp2_with fail
  obtain ⟨W, hW⟩ : ∃ W : World, W = (w.setCell ⟨ce, 13, none⟩ (.bool true)).alloc (.cells x.pub 154) := ⟨_, rfl⟩
  have ho : Only (fun k => k = ce) w W := by rw [hW]; exact ((Only.refl (fun k => k = ce) w).setCell (p := ⟨ce, 13, none⟩) (.inl rfl) _).alloc _
  have st : CeSt w ce x (.slice (some ⟨gc, 0, none⟩) 1 capc) (.slice bA m bC) hs gs n g 0 V W :=
    ⟨by rw [hW]; exact Blk.alloc (by simpa using hce.set_ 13 (.bool true)) _, by rw [hW]; exact Blk.new_at _ _ _ _ hsz, hsrc.only ho (fun b cs fz hk e => by subst e; exact absurd (blk_tag hce hk) (by decide)), ho⟩
  rw [← hW]
  clear hW hsz c1 f1 ho hsrc
  have HA := Lib.hid (And.intro hhk (And.intro hadd (And.intro h3 (And.intro h2 (And.intro hown hrow)))))
  clear hhk hadd h3 h2
  go_loopw [26, 1] (fun i V wr => ∃ k : Nat, k ≤ m ∧ i = .int .i64 k ∧ CeSt w ce x (.slice (some ⟨gc, 0, none⟩) 1 capc) (.slice bA m bC) hs gs n g k V wr) (fun i _ _ => m - (intOf i).toNat)
  case atStart => exact ⟨0, Nat.zero_le _, rfl, st⟩
  case round =>
    obtain ⟨k, hk, rfl, st⟩ := hrel
    by_cases hlt : k < m
    · obtain ⟨gb, cb, hbv, hgl, hgc, _⟩ := own_at HA.out.2.2.2.2.1 hlt
      injection hbv with e1 e2 e3
      subst e1 e3
      have ownW := own_only HA.out.2.2.2.2.1 st.only (fun i hi e => hneb (by rw [hi, e]))
      have hc0 : wr.cell? ⟨gb, k, none⟩ = some (hkFun Hk k) := by
        obtain ⟨_, _, hv2, _, hc2, _⟩ := own_at ownW hlt
        injection hv2 with e1 _ _
        injection e1 with e1
        injection e1 with e1 _ _
        subst e1
        rw [hc2]
        simp [hlt]
      clear hgc ownW
      have c16 := st.chk.cell 16
      simp only [List.getElem?_toArray, List.getElem?_cons_zero, List.getElem?_cons_succ] at c16
      have hcl := st.chk.lt
      have hgl2 := World.block_lt_of_cell? wr _ hc0
      have hxm := hkMsg_le hs x HA.out.2.2.2.1 k
      have hle := hkLen_le hs n HA.out.2.2.1 k
      obtain ⟨y, hy⟩ : ∃ y, hkEnt hs x k = y := ⟨_, rfl⟩
      have hb := hb0.trans (st.only.below (B := w0.heap.size) hb0.size (fun j hj e => by omega))
      have hcall := hook_all wr.drew (Hk k) (hs k) (hkEnt hs x k) u1 (hkLen hs n k) (carr (hkFld hs gs n g k) (hkLen hs n k)) (gs k) (((HA.out.1 k hlt).only st.only ((HA.out.1 k hlt).ne_ hce (by decide))).drew) (st.src.below ((Below.refl _ _).drew)) (by omega) (HA.out.2.2.1 k) ((HA.out.2.1 k hlt).below (hb.trans ((Below.refl _ _).drew))) (by omega) (by have := HA.out.2.2.2.1 k; omega)
      rw [← hk_carr] at hcall
      rw [hy] at hcall hxm
      obtain ⟨N1, hN1⟩ : ∃ N1, hkLen hs n (k + 1) = N1 := ⟨_, rfl⟩
      have hN2 : (if (hs k).drop then 0 else hkLen hs n k) + (hs k).an = N1 := by rw [← hN1]; rfl
      rw [hN2] at hcall
      have bx := st.box
      rw [hy] at bx
      have bxc := boxEnt bx.cell
      have bxl := bx.lt
      have bxf := bx.frozen
      have HS := Lib.hid (And.intro st (And.intro hcall (And.intro hb (And.intro hN1 (And.intro bx hN2)))))
      clear st hcall hb hN1 hN2 bx
      have ne1 : ¬ ce = w.heap.size := by omega
      have ne2 : ¬ w.heap.size = ce := by omega
      have ne3 : ¬ gb = w.heap.size := by omega
      have ne4 : ¬ w.heap.size = gb := by omega
      obtain ⟨A1, k1, hV1⟩ := HS.out.1.src.form
      subst hV1
      go_wp2_with fail
      go_region_with (go_at_call 76; go_must ((refine HS.out.2.1.mono ?_); rintro en w1 ⟨V2, rfl, hown2, hb2, hz2⟩; have S1 := Lib.hid (And.intro hown2 (And.intro hb2 hz2)); have bx1 := (HS.out.2.2.2.2.1.drew).here hb2; have bxc1 := boxEnt bx1.cell; have bxf1 := bx1.frozen; have BX1 := Lib.hid bx1; have bxl1 := bx1.lt; have d16 : w1.cell? ⟨ce, 16, none⟩ = some (.slice (some ⟨gb, 0, none⟩) m bC) := (hb2.cell (p := ⟨ce, 16, none⟩) hcl).trans c16; have dk : w1.cell? ⟨gb, k, none⟩ = some (hkFun Hk k) := (hb2.cell (p := ⟨gb, k, none⟩) hgl2).trans hc0; clear hown2 hb2 hz2 bx1))
      all_goals go_wp2_with fail
      all_goals go_roundw
      all_goals first
        | exact ⟨k + 1, by omega, by go_num, ce_step HS.out.1 rfl hy l1 HS.out.2.2.2.1 S1.out.1 S1.out.2.1 S1.out.2.2⟩
        | (simp [intOf]; omega)
    · obtain rfl : k = m := by omega
      obtain ⟨y, hy⟩ : ∃ y, hkEnt hs x k = y := ⟨_, rfl⟩
      have c14 := st.chk.cell 14
      have c15 := st.chk.cell 15
      simp only [List.getElem?_toArray, List.getElem?_cons_zero, List.getElem?_cons_succ] at c14 c15
      have hcl := st.chk.lt
      have rowW := own_only HA.out.2.2.2.2.2 st.only (fun i hi e => hnec (by have : gc = i := by simpa [Value.ownBlock] using hi
                                                                             omega))
      have hgc := row_read rowW
      have hgl := World.block_lt_of_cell? wr _ hgc
      have hb := hb0.trans (st.only.below (B := w0.heap.size) hb0.size (fun j hj e => by omega))
      have hle := hkLen_le hs n HA.out.2.2.1 k
      have hcall := catch_write wr.drew w0.heap.size Ob Lb (hkLen hs n k) u1 e (hkEnt hs x k) (hkFld hs gs n g k) ((hO.only st.only (hO.ne_ hce (by decide))).drew) ((hL.only st.only (hL.ne_ hce (by decide))).drew) hb.size (st.src.below ((Below.refl _ _).drew)) (by omega)
      rw [hy] at hcall
      have bx := st.box
      rw [hy] at bx
      have bxc := boxEnt bx.cell
      have bxl := bx.lt
      have HS := Lib.hid (And.intro st (And.intro hcall (And.intro hb (And.intro bx rowW))))
      clear st hcall hb bx rowW
      obtain ⟨A1, k1, hV1⟩ := HS.out.1.src.form
      subst hV1
      go_wp2_with fail
      refine wp_loop_rounds 2 ?_
      rw [rounds_succ]
      go_wp2_with fail
      go_region_held3 (fun w' => w'.cell? ⟨ce, 15, none⟩ = some (.slice (some ⟨gc, 0, none⟩) 1 capc) ∧ w'.cell? ⟨gc, 0, none⟩ = some (.iface 187 (.agg (catArr Ob Lb))) ∧ w'.cell? ⟨w.heap.size, 0, none⟩ = some (.int .i8 (IntKind.i8.wrap y.level)) ∧ w'.cell? ⟨w.heap.size, 1, none⟩ = some (.int .i64 (momExt y.zero y.nanos)) ∧ w'.cell? ⟨w.heap.size, 2, none⟩ = some (.int .i32 (momNs y.zero y.nanos)) ∧ w'.cell? ⟨w.heap.size, 3, none⟩ = some (.string (momZone y.zero y.zone)) ∧ w'.cell? ⟨w.heap.size, 4, none⟩ = some (.int .i64 (momOff y.zero y.offset)) ∧ w'.cell? ⟨w.heap.size, 5, none⟩ = some (.string y.logger) ∧ w'.cell? ⟨w.heap.size, 6, none⟩ = some (.string y.message) ∧ w'.cell? ⟨w.heap.size, 7, none⟩ = some (.bool y.defined) ∧ w'.cell? ⟨w.heap.size, 8, none⟩ = some (.int .u64 0) ∧ w'.cell? ⟨w.heap.size, 9, none⟩ = some (.string y.file) ∧ w'.cell? ⟨w.heap.size, 10, none⟩ = some (.int .i64 y.line) ∧ w'.cell? ⟨w.heap.size, 11, none⟩ = some (.string y.function) ∧ w'.cell? ⟨w.heap.size, 12, none⟩ = some (.string y.stack)) (go_keep) (first
        | (go_at_call 273; go_must ((refine HS.out.2.1.mono ?_); rintro en w1 ⟨rfl, p1, p2, p3⟩; have bx1 := (HS.out.2.2.2.1.drew).only p3 (fun h => by rcases h with h | h; exact (HS.out.2.2.2.1).ne_ (hO.only HS.out.1.only (hO.ne_ hce (by decide))) (by decide) h; exact (HS.out.2.2.2.1).ne_ (hL.only HS.out.1.only (hL.ne_ hce (by decide))) (by decide) h); have bxc1 := boxEnt bx1.cell; have ch1 := (HS.out.1.chk.drew).only p3 (fun h => by rcases h with h | h; exact (HS.out.1.chk).ne_ (hO.only HS.out.1.only (hO.ne_ hce (by decide))) (by decide) h; exact (HS.out.1.chk).ne_ (hL.only HS.out.1.only (hL.ne_ hce (by decide))) (by decide) h); have d14 := ch1.cell 14; have d15 := ch1.cell 15; simp only [List.getElem?_toArray, List.getElem?_cons_zero, List.getElem?_cons_succ] at d14 d15; have dg : w1.cell? ⟨gc, 0, none⟩ = some (.iface 187 (.agg (catArr Ob Lb))) := row_read (own_only (own_drew HS.out.2.2.2.2) p3 (fun i hi h => by rcases h with h | h; exact own_ne HS.out.2.2.2.2 (hO.only HS.out.1.only (hO.ne_ hce (by decide))) (by decide) (by rw [hi, h]); exact own_ne HS.out.2.2.2.2 (hL.only HS.out.1.only (hL.ne_ hce (by decide))) (by decide) (by rw [hi, h]))); have P := Lib.hid (And.intro p1 (And.intro p2 p3)); clear p1 p2 p3 bx1 ch1))) 
      go_wp2_with fail
      rw [rounds_succ]
      go_wp2_with fail
      go_returns
      refine ⟨rfl, ?_, P.out.2.1, ((HS.out.1.only.drew).mono (fun _ _ h => .inl h)).then P.out.2.2 (fun i _ h => .inr h)⟩
      rw [hy]
      exact P.out.1
end Go.Proofs.YtieidjlmgalihaaGreatDoor
