/- ZHooked. -/
import Derived.Test.YtieidjlmgalihaaGreatDoorCeW
namespace Go.Proofs.YtieidjlmgalihaaGreatDoor
open Go.RowKit
set_option maxRecDepth 100000
/-- ZHooked at work: k hooks are laid. -/
structure HkdSt (w : World) (x : Ent) (ce xv : Nat) (Vc : Value) (hs : Nat → Hook) (k : Nat) (W : World) : Prop where
  res : Blk W (w.heap.size + 1) 50 zeroZEnt
  out : Blk W (w.heap.size + 1 + 1) 50 x.arr
  lst : Blk W (w.heap.size + 1 + 1 + 1) 37 #[.slice none 0 0]
  xbl : Blk W xv 154 x.pub
  ces : w.heap.size ≤ ce
  row : W.ownsRow w.heap.size 139 1 Vc 1 [.iface 187 (.agg (catArr (w.heap.size + 1 + 1) (w.heap.size + 1 + 1 + 1)))]
  chk : ∃ Vb Hk, Blk W ce 250 (x.ce2 false Vc Vb) ∧ W.ownsRow w.heap.size 252 1 Vb k ((List.range k).map (hkFun Hk)) ∧ ∀ i, i < k → Blk W (Hk i) 62 (hs i).arr
  below : Below w.heap.size w W
theorem HkdSt.here {w : World} {x : Ent} {ce xv : Nat} {Vc : Value} {hs : Nat → Hook} {k : Nat} {W W' : World} (s : HkdSt w x ce xv Vc hs k W) (hb : Below W.heap.size W W') : HkdSt w x ce xv Vc hs k W' := by
  obtain ⟨a1, a2, a3, a4, a5, a6, ⟨Vb, Hk, a7, a8, a9⟩, a10⟩ := s
  have ho : Only (fun _ => False) W W' := Only.none_of_below hb
  exact ⟨a1.here hb, a2.here hb, a3.here hb, a4.here hb, a5, own_only a6 ho (fun _ _ h => h), ⟨Vb, Hk, a7.here hb, own_only a8 ho (fun _ _ h => h), fun i hi => (a9 i hi).here hb⟩, a10.trans (hb.mono a10.size)⟩
theorem hkd_step {w wr w2 : World} {x : Ent} {ce xv k g2 cap2 : Nat} {Vc Vb : Value} {hs : Nat → Hook} {Hk : Nat → Nat} {h : Hook} (hh : hs k = h) (s : HkdSt w x ce xv Vc hs k wr) (c1 : Blk wr ce 250 (x.ce2 false Vc Vb)) (c2 : wr.ownsRow w.heap.size 252 1 Vb k ((List.range k).map (hkFun Hk))) (c3 : ∀ i, i < k → Blk wr (Hk i) 62 (hs i).arr)
    (p1 : Blk w2 ce 250 (x.ce2 false Vc (.slice (some ⟨g2, 0, none⟩) (k + 1) cap2))) (p2 : w2.ownsRow w.heap.size 252 1 (.slice (some ⟨g2, 0, none⟩) (k + 1) cap2) (k + 1) ((List.range k).map (hkFun Hk) ++ [.func (.func 76) #[] #[.pointer (some ⟨wr.heap.size, 0, none⟩)]])) (p3 : Only (fun b => b = ce ∨ Vb.ownBlock = some b) (wr.alloc (.cells h.arr 62)) w2) :
    HkdSt w x ce xv Vc hs (k + 1) w2 := by
  subst hh
  have q : ∀ {b T cs}, Blk wr b T cs → T ≠ 250 → T ≠ 252 → Blk w2 b T cs := fun hb h1 h2 => (hb.alloc _).only p3 (fun e => by
    rcases e with e | e
    · exact hb.ne_ c1 h1 e
    · exact own_ne c2 hb (fun e => h2 e.symm) e)
  refine ⟨q s.res (by decide) (by decide), q s.out (by decide) (by decide), q s.lst (by decide) (by decide), q s.xbl (by decide) (by decide), s.ces, own_only (s.row.alloc _) p3 ?_, ⟨_, fun i => if i = k then wr.heap.size else Hk i, p1, ?_, ?_⟩, ?_⟩
  · intro g' hg' e
    rcases e with e | e
    · exact own_ne s.row c1 (by decide) (by rw [hg', e])
    · exact own_ne_own c2 s.row (by decide) g' e hg'
  · have e : ((List.range (k + 1)).map (hkFun fun i => if i = k then wr.heap.size else Hk i)) = (List.range k).map (hkFun Hk) ++ [.func (.func 76) #[] #[.pointer (some ⟨wr.heap.size, 0, none⟩)]] := by
      rw [List.range_succ, List.map_append]
      congr 1
      · apply List.map_congr_left
        intro i hi
        have : i ≠ k := by have := List.mem_range.1 hi; omega
        simp [this]
      · simp
    rw [e]
    exact p2
  · intro i hi
    by_cases hik : i = k
    · subst hik
      simp only [if_true]
      exact (Blk.new wr 62 _).only p3 (fun e => by
        rcases e with e | e
        · have := c1.lt; omega
        · have := (c2.lt _ e).2; omega)
    · simp only [if_neg hik]
      exact q (c3 i (by omega)) (by decide) (by decide)
  · refine s.below.trans ?_
    have hb : Below w.heap.size (wr.alloc (.cells (hs k).arr 62)) w2 := p3.below (by have := s.below.size; simp; omega) (fun i hi e => by
      rcases e with e | e
      · have := s.ces; omega
      · have := (c2.lt _ e).1; omega)
    exact ((Below.refl _ wr).alloc s.below.size _).trans hb
theorem hkd_fin {w wr : World} {y : Ent} {V : Value} {N : Nat} {G : Nat → Fld} (q2 : Blk wr (w.heap.size + 1) 50 zeroZEnt) (hown : wr.ownsRow w.heap.size 39 15 V N (bare G N)) (hb : Below w.heap.size w wr) :
    (∀ i, (((((((((((((wr).setCell ⟨w.heap.size + 1, 0, none⟩ (.int .i64 y.level)).setCell ⟨w.heap.size + 1, 1, none⟩ (.bool y.zero)).setCell ⟨w.heap.size + 1, 2, none⟩ (.int .i64 y.nanos)).setCell ⟨w.heap.size + 1, 3, none⟩ (.int .i64 y.offset)).setCell ⟨w.heap.size + 1, 4, none⟩ (.string y.zone)).setCell ⟨w.heap.size + 1, 5, none⟩ (.string y.logger)).setCell ⟨w.heap.size + 1, 6, none⟩ (.string y.message)).setCell ⟨w.heap.size + 1, 7, none⟩ (.bool y.defined)).setCell ⟨w.heap.size + 1, 8, none⟩ (.string y.file)).setCell ⟨w.heap.size + 1, 9, none⟩ (.int .i64 y.line)).setCell ⟨w.heap.size + 1, 10, none⟩ (.string y.function)).setCell ⟨w.heap.size + 1, 11, none⟩ (.string y.stack)).cell? ⟨w.heap.size + 1, i, none⟩ = y.arr[i]?) ∧ BhdPost w y N G (.returned (.tuple #[.agg y.arr, V])) (((((((((((((wr).setCell ⟨w.heap.size + 1, 0, none⟩ (.int .i64 y.level)).setCell ⟨w.heap.size + 1, 1, none⟩ (.bool y.zero)).setCell ⟨w.heap.size + 1, 2, none⟩ (.int .i64 y.nanos)).setCell ⟨w.heap.size + 1, 3, none⟩ (.int .i64 y.offset)).setCell ⟨w.heap.size + 1, 4, none⟩ (.string y.zone)).setCell ⟨w.heap.size + 1, 5, none⟩ (.string y.logger)).setCell ⟨w.heap.size + 1, 6, none⟩ (.string y.message)).setCell ⟨w.heap.size + 1, 7, none⟩ (.bool y.defined)).setCell ⟨w.heap.size + 1, 8, none⟩ (.string y.file)).setCell ⟨w.heap.size + 1, 9, none⟩ (.int .i64 y.line)).setCell ⟨w.heap.size + 1, 10, none⟩ (.string y.function)).setCell ⟨w.heap.size + 1, 11, none⟩ (.string y.stack)) :=
  ⟨set12 q2.cell _ _ _ _ _ _ _ _ _ _ _ _, V, rfl, own_only (S := fun k => k = w.heap.size + 1) hown (((((((((((((Only.refl (fun k => k = w.heap.size + 1) wr).setCell (.inl rfl) (.int .i64 y.level)).setCell (.inl rfl) (.bool y.zero)).setCell (.inl rfl) (.int .i64 y.nanos)).setCell (.inl rfl) (.int .i64 y.offset)).setCell (.inl rfl) (.string y.zone)).setCell (.inl rfl) (.string y.logger)).setCell (.inl rfl) (.string y.message)).setCell (.inl rfl) (.bool y.defined)).setCell (.inl rfl) (.string y.file)).setCell (.inl rfl) (.int .i64 y.line)).setCell (.inl rfl) (.string y.function)).setCell (.inl rfl) (.string y.stack)) (fun k hk e => own_ne hown q2 (by decide) (by rw [hk, e])), belowSet12 hb (by omega) _ _ _ _ _ _ _ _ _ _ _ _⟩
theorem BhdPost.drew {w w' : World} {e : Ent} {N : Nat} {G : Nat → Fld} {en : Ending} (h : BhdPost w e N G en w') : BhdPost w e N G en w'.drew := by
  obtain ⟨V, h1, h2, h3⟩ := h
  exact ⟨V, h1, own_drew h2, h3.drew⟩
/-- What comes of an entry behind hooks. -/
abbrev hkOut (hs : Nat → Hook) (x : Ent) (m : Nat) : Ent := { x with level := IntKind.i8.wrap (hkEnt hs x m).level, message := (hkEnt hs x m).message }
theorem hkd_boxes {w w1 : World} {x : Ent} {c : Array Value} (hb : Below (((((w.alloc (.cells x.arr 50)).alloc (.cells zeroZEnt 50)).alloc (.cells x.arr 50)).alloc (.cells #[.slice none 0 0] 37)).alloc (.cells c 187)).heap.size (((((w.alloc (.cells x.arr 50)).alloc (.cells zeroZEnt 50)).alloc (.cells x.arr 50)).alloc (.cells #[.slice none 0 0] 37)).alloc (.cells c 187)) w1) :
    Blk w1 (w.heap.size + 1) 50 zeroZEnt ∧ Blk w1 (w.heap.size + 1 + 1) 50 x.arr ∧ Blk w1 (w.heap.size + 1 + 1 + 1) 37 #[.slice none 0 0] ∧ Blk w1 (w.heap.size + 1 + 1 + 1 + 1) 187 c ∧ Below w.heap.size w w1 :=
  ⟨((((Blk.new_at _ 50 _ _ (by simp)).alloc _).alloc _).alloc _).here hb, (((Blk.new_at _ 50 _ _ (by simp)).alloc _).alloc _).here hb, ((Blk.new_at _ 37 _ _ (by simp)).alloc _).here hb, (Blk.new_at _ 187 _ _ (by simp)).here hb, Below.trans (by go_grown) (hb.mono (by simp; omega))⟩
theorem Ent.cells12 {W : World} {b : Nat} {e : Ent} (h : Blk W b 50 e.arr) : W.cell? ⟨b, 0, none⟩ = some (.int .i64 e.level) ∧ W.cell? ⟨b, 1, none⟩ = some (.bool e.zero) ∧ W.cell? ⟨b, 2, none⟩ = some (.int .i64 e.nanos) ∧ W.cell? ⟨b, 3, none⟩ = some (.int .i64 e.offset) ∧ W.cell? ⟨b, 4, none⟩ = some (.string e.zone) ∧ W.cell? ⟨b, 5, none⟩ = some (.string e.logger) ∧ W.cell? ⟨b, 6, none⟩ = some (.string e.message) ∧ W.cell? ⟨b, 7, none⟩ = some (.bool e.defined) ∧ W.cell? ⟨b, 8, none⟩ = some (.string e.file) ∧ W.cell? ⟨b, 9, none⟩ = some (.int .i64 e.line) ∧ W.cell? ⟨b, 10, none⟩ = some (.string e.function) ∧ W.cell? ⟨b, 11, none⟩ = some (.string e.stack) :=
  ⟨h.cell 0, h.cell 1, h.cell 2, h.cell 3, h.cell 4, h.cell 5, h.cell 6, h.cell 7, h.cell 8, h.cell 9, h.cell 10, h.cell 11⟩
set_option maxHeartbeats 8000000 in
theorem zHooked_any (w : World) (A1 A2 : Option Addr) (n c1 m c2 : Nat) (x : Ent) (g : Nat → Fld) (hs : Nat → Hook) (gs : Nat → Nat → Fld) (h0 : -9223372036854775808 ≤ x.nanos) (h1 : x.nanos ≤ 9223372036854775807)
    (hr : RowAt w A1 n 15 fun i => (g i).arr) (hh : HooksAt w A2 m hs gs) (h3 : ∀ k, (hs k).an ≤ 300) (h2 : ∀ k, (hs k).before.size ≤ 200) (hmsg : x.message.size ≤ 2000) (hn : n ≤ 300) (hm : m ≤ 20) :
    Calls Tryz.prog 31 #[.agg x.arr, .slice A1 n c1, .slice A2 m c2] w (BhdPost w (hkOut hs x m) (hkLen hs n m) (hkFld hs gs n g m)) := by
  have H := Lib.hid (And.intro hr (And.intro hh (And.intro h3 h2)))
  clear hr hh h3 h2
  go_enter Tryz.func31, Tryz.ntmps31
  go_wp2_with (first
    | (go_at_call 65; go_must (refine (entry_any _ x h0 h1).mono ?_; rintro en w1 ⟨rfl, hb1⟩; obtain ⟨b1, b2, b3, b4, b5⟩ := hkd_boxes hb1; clear hb1; have k0 := b4.cell 0; have k1 := b4.cell 1; simp only [List.getElem?_toArray, List.getElem?_cons_zero, List.getElem?_cons_succ] at k0 k1; have kl := b4.lt; have B1 := Lib.hid (And.intro b1 (And.intro b2 (And.intro b3 b5))); clear b1 b2 b3 b4 b5))
    | (go_at_call 74; go_must (refine (catCheck _ (w.heap.size + 1 + 1) (w.heap.size + 1 + 1 + 1) x).mono ?_; rintro en w2 ⟨ce, gc, capc, rfl, hceB, hce, hrow, hb2⟩; have B2 := Lib.hid (And.intro hceB (And.intro hce (And.intro hrow hb2))); clear hceB hce hrow hb2)))
  have hN : w.heap.size ≤ w1.heap.size := B1.out.2.2.2.size
  have st : HkdSt w x ce w1.heap.size (.slice (some ⟨gc, 0, none⟩) 1 capc) hs 0 w2 := by
    obtain ⟨b1, b2, b3, b5⟩ := B1.out
    obtain ⟨hceB, hce, hrow, hb2⟩ := B2.out
    exact ⟨(b1.alloc _).here hb2, (b2.alloc _).here hb2, (b3.alloc _).here hb2, (Blk.new w1 154 _).here hb2, by simp at hceB; omega, own_mono hrow (by simp; omega), ⟨.slice none 0 0, fun _ => 0, hce, World.ownsRow_nil _ _ _ _, fun i hi => by omega⟩, b5.trans (((Below.refl _ w1).alloc (Nat.le_refl _) _).trans (hb2.mono (by simp)) |>.mono hN)⟩
  clear B1 B2 k0 k1 kl
  go_loopw [27, 12] (fun i p wr => ∃ k : Nat, k ≤ m ∧ i = .int .i64 k ∧ p = .pointer (some ⟨ce, 0, none⟩) ∧ HkdSt w x ce w1.heap.size (.slice (some ⟨gc, 0, none⟩) 1 capc) hs k wr) (fun i _ _ => m - (intOf i).toNat)
  case atStart => exact ⟨0, Nat.zero_le _, rfl, rfl, st⟩
  case round =>
    obtain ⟨k, hk, rfl, rfl, st⟩ := hrel
    by_cases hlt : k < m
    · obtain ⟨b, off, rfl, hsz, hc⟩ := (H.out.2.1.below st.below).1 k hlt
      have hcs := Hook.cells hc
      clear hsz hc
      obtain ⟨h, hh⟩ : ∃ h, hs k = h := ⟨_, rfl⟩
      rw [hh] at hcs
      obtain ⟨⟨before, change, drop, level, aA, an, ac⟩, hq⟩ : ∃ q, q = h := ⟨_, rfl⟩
      subst hq
      simp only at hcs
      obtain ⟨Vb, Hk, d1, d2, d3⟩ := st.chk
      have xb := boxEnt st.xbl.cell
      have xl := st.xbl.lt
      have bN := st.below.size
      have HS := Lib.hid (And.intro st (And.intro d1 (And.intro d2 (And.intro d3 hh))))
      clear st d1 d2 d3 hh
      go_wp2_with (go_at_call 75; go_must (refine (before_more _ x x false w.heap.size ce k (.slice (some ⟨gc, 0, none⟩) 1 capc) Vb ((List.range k).map (hkFun Hk)) (.func 76) #[] #[.pointer (some ⟨wr.heap.size, 0, none⟩)] (HS.out.2.1.alloc _) (HS.out.2.2.1.alloc _) (by simp; omega) (by omega)).mono ?_; rintro en w2 ⟨g2, cap2, rfl, p1, p2, p3⟩; have P := Lib.hid (hkd_step HS.out.2.2.2.2 HS.out.1 HS.out.2.1 HS.out.2.2.1 HS.out.2.2.2.1 p1 p2 p3); clear p1 p2 p3))
      go_roundw
      case rel => exact ⟨k + 1, by omega, by go_num, rfl, P.out⟩
      case measure => simp [intOf]; omega
    · obtain rfl : k = m := by omega
      have bN := st.below.size
      have HS := Lib.hid st
      clear st
      go_wp2_with (first
        | (go_at_call 78; go_must (refine (carried_any _ A1 n c1 g (by omega) (H.out.1.below HS.out.below)).mono ?_; rintro en w3 ⟨V, rfl, hown3, hb3, hz3⟩; have S3 := Lib.hid (And.intro (HS.out.here hb3) (And.intro (src_own hown3 hz3 (one_carr _ _)) hb3)); clear hown3 hb3 hz3; obtain ⟨Vb, Hk, d1, d2, d3⟩ := S3.out.1.chk; have D := Lib.hid (And.intro d1 (And.intro d2 d3)); clear d1 d2 d3))
        | (go_at_call 66; go_must (refine (ce_write w w3 ce (w.heap.size + 1 + 1) (w.heap.size + 1 + 1 + 1) k n gc capc x x V Vb g hs gs Hk S3.out.1.below D.out.1 S3.out.1.ces S3.out.1.row D.out.2.1 D.out.2.2 H.out.2.1.2 H.out.2.2.1 H.out.2.2.2 hmsg S3.out.1.out S3.out.1.lst S3.out.2.1 hn hm).mono ?_; rintro en w4 ⟨rfl, p1, ⟨V4, p2, p3⟩, p4⟩)))
      have r1 : Blk w4 (w.heap.size + 1) 50 zeroZEnt := S3.out.1.res.only p4 (fun h => by
        rcases h with h | h | h
        · exact S3.out.1.res.ne_ D.out.1 (by decide) h
        · omega
        · omega)
      have hb4 : Below w.heap.size w w4 := S3.out.1.below.trans (p4.below S3.out.1.below.size (fun i hi h => by
        rcases h with h | h | h
        · have := S3.out.1.ces; omega
        · omega
        · omega))
      obtain ⟨y, hy⟩ : ∃ y, hkOut hs x k = y := ⟨_, rfl⟩
      have p1 : Blk w4 (w.heap.size + 1 + 1) 50 y.arr := by rw [← hy]; exact p1
      have hfin := hkd_fin (y := y) r1 p3 hb4
      have oc := Ent.cells12 p1
      have l0 := p2.cell 0
      simp only [List.getElem?_toArray, List.getElem?_cons_zero, List.getElem?_cons_succ] at l0
      have rc := r1.cell
      have rf := r1.frozen
      have rl := r1.lt
      obtain ⟨hcc, hp⟩ := hfin
      have HP := Lib.hid hp
      have HY := Lib.hid hy
      have HCC := Lib.hid hcc
      clear r1 p1 p2 p3 p4 hb4 hp hy hcc
      go_region_held3 (fun w' => w'.cell? ⟨w.heap.size + 1 + 1, 0, none⟩ = some (.int .i64 y.level) ∧ w'.cell? ⟨w.heap.size + 1 + 1, 1, none⟩ = some (.bool y.zero) ∧ w'.cell? ⟨w.heap.size + 1 + 1, 2, none⟩ = some (.int .i64 y.nanos) ∧ w'.cell? ⟨w.heap.size + 1 + 1, 3, none⟩ = some (.int .i64 y.offset) ∧ w'.cell? ⟨w.heap.size + 1 + 1, 4, none⟩ = some (.string y.zone) ∧ w'.cell? ⟨w.heap.size + 1 + 1, 5, none⟩ = some (.string y.logger) ∧ w'.cell? ⟨w.heap.size + 1 + 1, 6, none⟩ = some (.string y.message) ∧ w'.cell? ⟨w.heap.size + 1 + 1, 7, none⟩ = some (.bool y.defined) ∧ w'.cell? ⟨w.heap.size + 1 + 1, 8, none⟩ = some (.string y.file) ∧ w'.cell? ⟨w.heap.size + 1 + 1, 9, none⟩ = some (.int .i64 y.line) ∧ w'.cell? ⟨w.heap.size + 1 + 1, 10, none⟩ = some (.string y.function) ∧ w'.cell? ⟨w.heap.size + 1 + 1, 11, none⟩ = some (.string y.stack) ∧ w'.cell? ⟨w.heap.size + 1 + 1 + 1, 0, none⟩ = some V4) (go_keep) (fail)
      go_wp2_with fail
      have hcc := HCC.out
      refine bodyPost_ret (v := .tuple #[.agg y.arr, V4]) (by simp [results, Tryz.results31, go_sem, hcc]) rfl ?_
      rw [HY.out]
      exact HP.out.drew
end Go.Proofs.YtieidjlmgalihaaGreatDoor
