/- Write of a checked entry with leaves: the walk. -/
import Derived.Test.YtieidjlmgalihaaGreatDoorCoQ
set_option linter.all false
namespace Go.Proofs.YtieidjlmgalihaaGreatDoor
open Go.RowKit
set_option maxRecDepth 100000
/-- What leaves note. -/
abbrev noted (ls : List Lf) (ent : Nat) (fs : List Fld) : List Seen := ls.map fun l => (l.num, ent, l.F ++ fs)
structure WrSt (w : World) (S : Typ) (N B ce : Nat) (x : Ent) (Vc V : Value) (cores : List Value) (ls : List Lf) (ent : Nat) (lv : Int) (L : List Seen) (fs : List Fld) (k : Nat) (W : World) : Prop where
  chk : Blk W ce 250 (x.ce true Vc)
  box : Blk W w.heap.size 154 x.pub
  row : W.ownsRow B 139 1 Vc ls.length cores
  hp : Hp S N B W
  notes : NotesAt B N ent lv W (L ++ noted (ls.take k) ent fs)
  src : SrcF W V fs.length (carL fs)
  only : Only (fun b => B ≤ b ∧ TyW w b) w W
theorem own_block {w : World} {B : Nat} {e : TypeId} {size n : Nat} {v : Value} {xs : List Value} (h : w.ownsRow B e size v n xs) {g : Nat} (hg : v.ownBlock = some g) : B ≤ g ∧ ∃ cs fz, w.heap[g]? = some (Obj.cells cs e fz) := by
  refine ⟨(h.lt g hg).1, ?_⟩
  rcases h.2 with ⟨hv, _⟩ | ⟨g', cap', cur, hv, _, hk, _⟩
  · rw [hv] at hg; simp [Value.ownBlock] at hg
  · rw [hv] at hg
    have : g' = g := by simpa [Value.ownBlock] using hg
    subst this
    exact ⟨_, _, hk⟩
theorem wr_step {w wr w1 : World} {S : Typ} {N B ce ent : Nat} {x : Ent} {Vc V seenV : Value} {cores xs : List Value} {ls : List Lf} {lv : Int} {L : List Seen} {fs : List Fld} {k : Nat} {l : Lf} (st : WrSt w S N B ce x Vc V cores ls ent lv L fs k wr) (hl : ls[k]? = some l) (hk : k < ls.length)
    (hNB : B ≤ N) (hN : Blk wr N 145 #[.int .i64 ent, .int .i64 lv, seenV]) (hown : wr.ownsRow B 196 3 seenV (L ++ noted (ls.take k) ent fs).length xs) (hseen : SeenOf B wr xs (L ++ noted (ls.take k) ent fs)) (e : Ending)
    (hw : LeafW B N (L ++ noted (ls.take k) ent fs).length ent lv l.num seenV xs (l.F ++ fs) wr.drew e w1) : e = .returned .nilIface ∧ WrSt w S N B ce x Vc V cores ls ent lv L fs (k + 1) w1 := by
  obtain ⟨g, cap, Vf, h1, h2, h3, h4, h5, h6⟩ := hw
  have hT : Only (fun b => B ≤ b ∧ TyW wr b) wr w1 := by
    have h5' : Only (fun k => k = N ∨ seenV.ownBlock = some k) wr w1 := (Only.refl _ wr).drew.trans h5
    refine h5'.mono (fun i _ hi => ?_)
    rcases hi with hi | hi
    · subst hi; exact ⟨hNB, _, 145, (0, 0), hN, .inr (.inl rfl)⟩
    · obtain ⟨q1, cs, fz, q2⟩ := own_block hown hi
      exact ⟨q1, cs, 196, fz, q2, .inr (.inr rfl)⟩
  have hWB : B ≤ wr.heap.size := st.hp.base
  have hlist : L ++ noted (ls.take (k + 1)) ent fs = (L ++ noted (ls.take k) ent fs) ++ [(l.num, ent, l.F ++ fs)] := by
    rw [List.append_assoc]
    congr 1
    have : ls.take (k + 1) = ls.take k ++ [l] := by rw [List.take_add_one, hl]; rfl
    rw [noted, this, List.map_append]
    rfl
  have hs := (hseen.keep hT (fun b cs fz hk ⟨_, hx⟩ => tyW_not hk (by decide) (by decide) (by decide) hx)).snoc (l.num, ent, l.F ++ fs) Vf (own_mono h4 hWB)
  refine ⟨h1, ?_, tyW_blk hT st.box (by decide) (by decide) (by decide), tyW_own hT st.row (by decide) (by decide) (by decide), tyW_hp st.hp hT, ?_, tyW_src hT st.src, tyW_then st.only hT⟩
  · exact st.chk.drew.only h5 (fun hx => by
      rcases hx with hx | hx
      · exact st.chk.ne_ hN (by decide) hx
      · exact own_ne hown st.chk (by decide) hx)
  · rw [hlist]
    refine ⟨_, _, hNB, h2, ?_, hs⟩
    have e1 : ((L ++ noted (ls.take k) ent fs) ++ [(l.num, ent, l.F ++ fs)]).length = (L ++ noted (ls.take k) ent fs).length + 1 := by rw [List.length_append]; rfl
    rw [e1]
    exact h3
set_option maxHeartbeats 8000000 in
theorem ceWriteL (w : World) (S : Typ) (N B ce ent : Nat) (x : Ent) (Vc V : Value) (cores : List Value) (ls : List Lf) (lv : Int) (L : List Seen) (fs : List Fld)
    (hp : Hp S N B w) (hce : Blk w ce 250 (x.ce false Vc)) (hceB : B ≤ ce) (hown : w.ownsRow B 139 1 Vc ls.length cores) (hrep : ∀ (i : Nat) (l : Lf), ls[i]? = some l → ∃ v, cores[i]? = some v ∧ RepC S v (.leaf l.num l.lev l.F)) (hn : NotesAt B N ent lv w L) (hs : SrcF w V fs.length (carL fs))
    (hlen : L.length + ls.length ≤ 1000000) (hls : ls.length ≤ 100000) (hfs : fs.length ≤ 100000) (hF : ∀ (i : Nat) (l : Lf), ls[i]? = some l → l.F.length ≤ 100000) :
    Calls Tryz.prog 66 #[.pointer (some ⟨ce, 0, none⟩), V] w (fun e w' => e = .returned (.tuple #[]) ∧ Hp S N B w' ∧ NotesAt B N ent lv w' (L ++ noted ls ent fs) ∧ Only (fun b => B ≤ b ∧ TyW w b) w w') := by
  obtain ⟨A, c, rfl⟩ := hs.form
  obtain ⟨cA, cC, rfl⟩ := own_len hown
  obtain ⟨c1, f1, l1⟩ := hce.use
  have hsz : (w.setCell ⟨ce, 13, none⟩ (.bool true)).heap.size = w.heap.size := by simp [World.setCell]
  have ho : Only (fun k => k = ce) w ((w.setCell ⟨ce, 13, none⟩ (.bool true)).alloc (.cells x.pub 154)) := ((Only.refl (fun k => k = ce) w).setCell (p := ⟨ce, 13, none⟩) (.inl rfl) _).alloc _
  have hT : Only (fun b => B ≤ b ∧ TyW w b) w ((w.setCell ⟨ce, 13, none⟩ (.bool true)).alloc (.cells x.pub 154)) := ho.mono (fun i _ hi => by subst hi; exact ⟨hceB, _, 250, (0, 0), hce, .inl rfl⟩)
  have st0 : WrSt w S N B ce x (.slice cA ls.length cC) (.slice A fs.length c) cores ls ent lv L fs 0 ((w.setCell ⟨ce, 13, none⟩ (.bool true)).alloc (.cells x.pub 154)) := by
    refine ⟨Blk.alloc (by simpa using hce.set_ 13 (.bool true)) _, Blk.new_at _ _ _ _ hsz, tyW_own hT hown (by decide) (by decide) (by decide), tyW_hp hp hT, ?_, tyW_src hT hs, hT⟩
    obtain ⟨seenV, xs, q1, q2, q3, q4⟩ := hn
    refine ⟨seenV, xs, q1, q2.only ho (q2.ne_ hce (by decide)), ?_, ?_⟩
    · simpa [noted] using own_only q3 ho (fun g hg e => own_ne q3 hce (by decide) (by rw [hg, e]))
    · simpa [noted] using q4.keep ho (fun b cs fz hk e => by subst e; exact absurd (blk_tag hce hk) (by decide))
  have H := Lib.hid (And.intro st0 (And.intro hrep hF))
  clear hp hce hown hrep hn hs hF ho hT st0
  go_enter Tryz.func66, Tryz.ntmps66
  go_wp2_with fail
  obtain ⟨W, hW⟩ : ∃ W : World, W = (w.setCell ⟨ce, 13, none⟩ (.bool true)).alloc (.cells x.pub 154) := ⟨_, rfl⟩
  have st := H.out.1
  rw [← hW] at st
  rw [← hW]
  clear hW c1 f1 hsz
  have u15 := st.chk.cell 15
  simp only [List.getElem?_toArray, List.getElem?_cons_zero, List.getElem?_cons_succ] at u15
  have ST := Lib.hid st
  clear st
  refine wp_loop_rounds 1 ?_
  rw [rounds_succ]
  go_wp2_with fail
  go_loopw [48] (fun i wr => ∃ k : Nat, k ≤ ls.length ∧ i = .int .i64 k ∧ WrSt w S N B ce x (.slice cA ls.length cC) (.slice A fs.length c) cores ls ent lv L fs k wr) (fun i _ => ls.length - (intOf i).toNat)
  case atStart => exact ⟨0, Nat.zero_le _, rfl, ST.out⟩
  case round =>
    obtain ⟨k, hk, rfl, st⟩ := hrel
    by_cases hlt : k < ls.length
    · obtain ⟨l, hl⟩ : ∃ l, ls[k]? = some l := ⟨_, List.getElem?_eq_getElem hlt⟩
      obtain ⟨v, hv, b, rfl, hb⟩ := H.out.2.1 k l hl
      obtain ⟨g, cap, hvc, gl, gc, _⟩ := own_at st.row hlt
      injection hvc with e1 _ e3
      subst e1 e3
      rw [hv] at gc
      obtain ⟨V1, kL, sL⟩ := (st.hp.holds b _ hb).2
      obtain ⟨seenV, xs, q1, q2, q3, q4⟩ := st.notes
      have hcount : (L ++ noted (ls.take k) ent fs).length ≤ 1000000 := by simp [noted]; omega
      have hcall := leafWrite wr.drew B b N (L ++ noted (ls.take k) ent fs).length l.lev l.num ent lv seenV V1 (.slice A fs.length c) xs x l.F fs kL.drew q2.drew (own_drew q3) st.hp.base hcount (sL.below (Below.refl _ _).drew) (st.src.below (Below.refl _ _).drew) (H.out.2.2 k l hl) hfs
      have c15 := st.chk.cell 15
      simp only [List.getElem?_toArray, List.getElem?_cons_zero, List.getElem?_cons_succ] at c15
      have bx := boxEnt st.box.cell
      have hstep := fun (e : Ending) (w1 : World) => wr_step (w1 := w1) st hl hlt q1 q2 q3 q4 e
      have P := Lib.hid (And.intro hcall hstep)
      clear st hcall hstep q1 q2 q3 q4 kL sL hv hb
      go_wp2_with fail
      go_region_with (first
        | (go_at_call 264; go_must (refine P.out.1.mono ?_; rintro e w1 hpost; obtain ⟨he, hst⟩ := P.out.2 e w1 hpost; subst he; have R := Lib.hid hst; clear hst hpost)))
      all_goals go_wp2_with fail
      all_goals go_roundw
      all_goals first
        | exact ⟨k + 1, by omega, by go_num, R.out⟩
        | (simp [intOf]; omega)
    · obtain rfl : k = ls.length := by omega
      have c14 := st.chk.cell 14
      simp only [List.getElem?_toArray, List.getElem?_cons_zero, List.getElem?_cons_succ] at c14
      have R := Lib.hid st
      clear st
      go_wp2_with fail
      go_returns
      refine ⟨rfl, R.out.hp, ?_, R.out.only⟩
      have := R.out.notes
      rwa [List.take_length] at this
end Go.Proofs.YtieidjlmgalihaaGreatDoor
