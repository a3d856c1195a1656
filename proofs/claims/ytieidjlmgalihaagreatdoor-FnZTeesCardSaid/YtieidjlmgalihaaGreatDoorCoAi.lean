/- ZWrite: the walk. -/
import Derived.Test.YtieidjlmgalihaaGreatDoorCoAh
set_option linter.all false
namespace Go.Proofs.YtieidjlmgalihaaGreatDoor
open Go.RowKit
set_option maxRecDepth 100000
set_option maxHeartbeats 8000000 in
theorem zWrite_mk (kf dk : Nat) (w : World) (kind lev : Int) (kA fA : Option Addr) (kn kc fn fc : Nat) (kid : Nat → Arg) (fld : Nat → Fld) (A1 A2 : Option Addr) (n1 c1 n2 c2 : Nat) (es : Nat → Ent) (fs : Nat → FRow)
    (ha : ArgAt kf dk w (.mk kind lev kA kn kc fA fn fc kid fld)) (hcnt : (Arg.mk kind lev kA kn kc fA fn fc kid fld).cnt ≤ 25000) (hsz : (Arg.mk kind lev kA kn kc fA fn fc kid fld).sz ≤ 10000) (hn1 : n1 ≤ 20) (hn2 : n2 ≤ 20)
    (hr1 : RowAt w A1 n1 12 fun i => (es i).arr) (hns : ∀ i, i < n1 → -9223372036854775808 ≤ (es i).nanos ∧ (es i).nanos ≤ 9223372036854775807)
    (hr2 : RowAt w A2 n2 1 fun i => (fs i).arr) (hF : ∀ i, i < n2 → FldsOk kf w (fs i).A (fs i).n (fs i).g ∧ (fs i).n ≤ 300) :
    Calls Tryz.prog 37 #[.agg #[.int .i64 kind, .int .i64 lev, .slice kA kn kc, .slice fA fn fc], .slice A1 n1 c1, .slice A2 n2 c2] w (ZwPost (.mk kind lev kA kn kc fA fn fc kid fld) (lvOf es) (fldOf n2 fs) n1 w) := by
  have hb2 : Below w.heap.size w ((w.alloc (.cells #[.int .i64 kind, .int .i64 lev, .slice kA kn kc, .slice fA fn fc] 69)).alloc (.cells #[.int .i64 0, .int .i64 0, .slice none 0 0] 145)) := ((Below.refl _ _).alloc (Nat.le_refl _) _).alloc (by simp) _
  have hcore := core_of dk (.mk kind lev kA kn kc fA fn fc kid fld) w ((w.alloc (.cells #[.int .i64 kind, .int .i64 lev, .slice kA kn kc, .slice fA fn fc] 69)).alloc (.cells #[.int .i64 0, .int .i64 0, .slice none 0 0] 145)) (fun _ => none) (w.heap.size + 1) 0 kf 0 (.slice none 0 0) ha hb2 ⟨hb2.size, fun b t h => by cases h⟩ (by omega) (Blk.new_at _ 145 _ _ (by simp)) (by omega) (by omega)
  have hcore : Calls Tryz.prog 81 #[.agg #[.int .i64 kind, .int .i64 lev, .slice kA kn kc, .slice fA fn fc], .pointer (some ⟨w.heap.size + 1, 0, none⟩)] _ _ := hcore
  have hbx : Blk ((w.alloc (.cells #[.int .i64 kind, .int .i64 lev, .slice kA kn kc, .slice fA fn fc] 69)).alloc (.cells #[.int .i64 0, .int .i64 0, .slice none 0 0] 145)) w.heap.size 69 #[.int .i64 kind, .int .i64 lev, .slice kA kn kc, .slice fA fn fc] := (Blk.new _ _ _).alloc _
  have H := Lib.hid (And.intro hb2 (And.intro hcore (And.intro hr1 (And.intro hns (And.intro hr2 (And.intro hF (And.intro hcnt hsz)))))))
  clear ha hb2 hcore hr1 hns hr2 hF hcnt hsz hbx
  go_enter Tryz.func37, Tryz.ntmps37
  go_wp2_with (go_at_call 81; go_must (refine H.out.2.1.mono ?_; rintro e w1 (⟨m1, c, v, S, hbu, rfl, s1, r1, k1⟩ | ⟨m1, hbu, rfl, hbel⟩); obtain ⟨T, u, rfl⟩ := r1.form; have R := Lib.hid (And.intro hbu (And.intro s1 (And.intro r1 k1))); clear hbu s1 r1 k1))
  · have bl := build_le _ _ _ _ R.out.1
    have bc : c.cnt ≤ 25000 := Nat.le_trans bl.1 H.out.2.2.2.2.2.2.1
    have bz : c.sz ≤ 10000 := Nat.le_trans bl.2.2 H.out.2.2.2.2.2.2.2
    have st0 : ZwSt w (w.heap.size + 1) c (.iface T u) (lvOf es) (fldOf n2 fs) 0 w1 S :=
      ⟨R.out.2.1.hp, R.out.2.2.1, ⟨0, m1, .slice none 0 0, [], by omega, R.out.2.2.2, World.ownsRow_nil _ _ _ _, SeenOf.nil⟩, H.out.1.trans (R.out.2.1.below ⟨H.out.1.size, fun b t h => by cases h⟩ (by omega))⟩
    have hna := ahead_rep R.out.2.2.1
    have ST := Lib.hid (And.intro st0 hna)
    have BC := Lib.hid (And.intro bc bz)
    clear bl bc bz st0 hna
    go_wp2_with fail
    go_loopw [27] (fun i wr => ∃ (k : Nat) (S1 : Typ), k ≤ n1 ∧ i = .int .i64 k ∧ ZwSt w (w.heap.size + 1) c (.iface T u) (lvOf es) (fldOf n2 fs) k wr S1) (fun i _ => n1 - (intOf i).toNat)
    case atStart => exact ⟨0, S, Nat.zero_le _, rfl, ST.out.1⟩
    case round =>
      obtain ⟨k, S1, hk, rfl, st⟩ := hrel
      obtain ⟨ent, m2, seenV, xs, q1, q2, q3, q4⟩ := st.notes
      obtain ⟨nc, nf, nl⟩ := q2.use
      have nc2 := nc 2
      simp only [List.getElem?_toArray, List.getElem?_cons_zero, List.getElem?_cons_succ] at nc2
      by_cases hlt : k < n1
      · obtain ⟨b, off, rfl, hs, hc⟩ := (H.out.2.2.1.below st.below) k hlt
        have hce := Ent.cells hc
        have P := Lib.hid st
        clear hc hs st q1 q2 q3 q4 nc2
        by_cases hkf : k < n2
        · obtain ⟨b2, off2, rfl, hs2, hc2⟩ := H.out.2.2.2.2.1 k hkf
          have hf00 := hc2 0 (by omega)
          simp only [List.getElem?_toArray, List.getElem?_cons_zero, Nat.mul_one, Nat.add_zero] at hf00
          have hb2l := World.block_lt_of_cell? w _ hf00
          have hf0 := (P.out.below.cell (p := ⟨b2, off2 + k, none⟩) hb2l).trans hf00
          have nn1 : ¬ b2 = w.heap.size + 1 := by simp only at hb2l; omega
          have nn2 : ¬ w.heap.size + 1 = b2 := by simp only at hb2l; omega
          have hb2r : b2 < wr.heap.size := Nat.lt_of_lt_of_le hb2l P.out.below.size
          have hfk := (H.out.2.2.2.2.2.1 k hkf).2
          have hFk : fldOf n2 (fs) k = (fs k).l := if_pos hkf
          have m0 := zw_turn P.out (by omega) (.cells (es k).arr 50)
          have hcar := carried_any ((wr.setCell ⟨w.heap.size + 1, 0, none⟩ (.int .i64 k)).alloc (.cells (es k).arr 50)) (fs k).A (fs k).n (fs k).c (fs k).g (by omega) (((H.out.2.2.2.2.2.1 k hkf).1.2.1).below m0.below)
          have bx := Blk.new_at (wr.setCell ⟨w.heap.size + 1, 0, none⟩ (.int .i64 k)) 50 (es k).arr wr.heap.size (by simp [World.setCell])
          have M0 := Lib.hid (And.intro m0 (And.intro hcar (And.intro hFk bx)))
          clear hc2 hs2 hf00 hb2l m0 hcar hFk bx
          go_wp2_with (go_at_call 78; go_must (refine M0.out.2.1.mono ?_; rintro en w1 ⟨V1, rfl, hc1, hb1, hz1⟩; obtain ⟨A3, k3, rfl⟩ := own_len hc1; have M := Lib.hid (And.intro (show ZwMid w (w.heap.size + 1) c (.iface T u) (written c (lvOf es) (fldOf n2 fs) k) k (fldOf n2 fs k) (.slice A3 (fs k).n k3) w1 S1 from (M0.out.1.here hb1).src_ (by rw [M0.out.2.2.1, FRow.l, carL_of, List.length_map, List.length_range]; exact src_own hc1 hz1 (one_carr _ _))) (M0.out.2.2.2.here hb1)); clear hc1 hb1 hz1))
          have hmf : ∀ (fn : Fn) (first cap : Array Value) (w : World), (Instr.makeFunc fn first cap).run Tryz.prog w = .ok (.func fn first cap) w := fun _ _ _ _ => rfl
          have hna := ST.out.2
          have xc := Ent.cells12 M.out.2
          cases hh : c.hits (lvOf es k) with
          | nil =>
            have HH := Lib.hid hh
            clear hh
            go_region_with (first
              | (go_at_call 65; go_must (refine (entry_any _ (es k) (H.out.2.2.2.1 k hlt).1 (H.out.2.2.2.1 k hlt).2).mono ?_; rintro en w2 ⟨rfl, hb2⟩; have M2 := Lib.hid (M.out.1.here ((Below.refl _ _).drew.trans hb2)); obtain ⟨f, r, hm, hcf, hcall⟩ := (chk_all c.ht c S1 (w.heap.size + 1) w.heap.size w2 (.iface T u) (.pointer none) (es k) [] (Nat.le_refl _) (by have := BC.out.2; omega) (by have := BC.out.1; simp; omega) M2.out.hp M2.out.rep (.inl ⟨rfl, rfl⟩)).at_; have hcall : Calls Tryz.prog f #[r, .agg (es k).pub, .pointer none] w2 (ChkPost S1 (w.heap.size + 1) w.heap.size w2 (es k) [] c) := hcall; have Y := Lib.hid hcall; clear hb2 hcall))
              | (refine Y.out.mono ?_; rintro en w3 hpost; obtain ⟨p, S3, rfl, m3, ce3⟩ := zw_chk M2.out hpost; rw [HH.out] at ce3; obtain rfl := ceat_nil ce3; have Z := Lib.hid m3; clear hpost m3 ce3))
            all_goals go_wp2_with fail
            all_goals exact ⟨⟨k + 1, S3, by omega, by go_num, zw_none Z.out HH.out⟩, by simp [intOf]; omega⟩
          | cons l0 lt =>
            have HH := Lib.hid hh
            clear hh
            go_region_with (first
              | (go_at_call 65; go_must (refine (entry_any _ (es k) (H.out.2.2.2.1 k hlt).1 (H.out.2.2.2.1 k hlt).2).mono ?_; rintro en w2 ⟨rfl, hb2⟩; have M2 := Lib.hid (M.out.1.here ((Below.refl _ _).drew.trans hb2)); obtain ⟨f, r, hm, hcf, hcall⟩ := (chk_all c.ht c S1 (w.heap.size + 1) w.heap.size w2 (.iface T u) (.pointer none) (es k) [] (Nat.le_refl _) (by have := BC.out.2; omega) (by have := BC.out.1; simp; omega) M2.out.hp M2.out.rep (.inl ⟨rfl, rfl⟩)).at_; have hcall : Calls Tryz.prog f #[r, .agg (es k).pub, .pointer none] w2 (ChkPost S1 (w.heap.size + 1) w.heap.size w2 (es k) [] c) := hcall; have Y := Lib.hid hcall; clear hb2 hcall))
              | (refine Y.out.mono ?_; rintro en w3 hpost; obtain ⟨p, S3, rfl, m3, ce3⟩ := zw_chk M2.out hpost; rw [HH.out] at ce3; obtain ⟨ce, Vc, cores, rfl, x1, x2, x3, x4⟩ := ceat_cons ce3; have Z := Lib.hid (zw_write m3 HH.out x1 x2 x3 x4 BC.out.1 BC.out.2 (by omega) (fldOf_le n2 fs (fun i hi => (H.out.2.2.2.2.2.1 i hi).2) k)); clear hpost m3 ce3 x1 x2 x3 x4))
            all_goals go_wp2_with (go_at_call 66; go_must (refine Z.out.mono ?_; rintro en w4 ⟨rfl, z4⟩; have ZZ := Lib.hid z4; clear z4))
            all_goals exact ⟨⟨k + 1, S3, by omega, by go_num, ZZ.out⟩, by simp [intOf]; omega⟩
        · have hFk : fldOf n2 (fs) k = [] := if_neg hkf
          have m0 := zw_turn P.out (by omega) (.cells (es k).arr 50)
          rw [← hFk] at m0
          have bx := Blk.new_at (wr.setCell ⟨w.heap.size + 1, 0, none⟩ (.int .i64 k)) 50 (es k).arr wr.heap.size (by simp [World.setCell])
          obtain ⟨w1, hw1⟩ : ∃ W : World, W = (wr.setCell ⟨w.heap.size + 1, 0, none⟩ (.int .i64 k)).alloc (.cells (es k).arr 50) := ⟨_, rfl⟩
          rw [← hw1] at m0 bx
          have M := Lib.hid (And.intro m0 bx)
          clear m0 bx hFk
          go_wp2_with fail
          rw [← hw1]
          clear hw1
          have hmf : ∀ (fn : Fn) (first cap : Array Value) (w : World), (Instr.makeFunc fn first cap).run Tryz.prog w = .ok (.func fn first cap) w := fun _ _ _ _ => rfl
          have hna := ST.out.2
          have xc := Ent.cells12 M.out.2
          cases hh : c.hits (lvOf es k) with
          | nil =>
            have HH := Lib.hid hh
            clear hh
            go_region_with (first
              | (go_at_call 65; go_must (refine (entry_any _ (es k) (H.out.2.2.2.1 k hlt).1 (H.out.2.2.2.1 k hlt).2).mono ?_; rintro en w2 ⟨rfl, hb2⟩; have M2 := Lib.hid (M.out.1.here ((Below.refl _ _).drew.trans hb2)); obtain ⟨f, r, hm, hcf, hcall⟩ := (chk_all c.ht c S1 (w.heap.size + 1) w.heap.size w2 (.iface T u) (.pointer none) (es k) [] (Nat.le_refl _) (by have := BC.out.2; omega) (by have := BC.out.1; simp; omega) M2.out.hp M2.out.rep (.inl ⟨rfl, rfl⟩)).at_; have hcall : Calls Tryz.prog f #[r, .agg (es k).pub, .pointer none] w2 (ChkPost S1 (w.heap.size + 1) w.heap.size w2 (es k) [] c) := hcall; have Y := Lib.hid hcall; clear hb2 hcall))
              | (refine Y.out.mono ?_; rintro en w3 hpost; obtain ⟨p, S3, rfl, m3, ce3⟩ := zw_chk M2.out hpost; rw [HH.out] at ce3; obtain rfl := ceat_nil ce3; have Z := Lib.hid m3; clear hpost m3 ce3))
            all_goals go_wp2_with fail
            all_goals exact ⟨⟨k + 1, S3, by omega, by go_num, zw_none Z.out HH.out⟩, by simp [intOf]; omega⟩
          | cons l0 lt =>
            have HH := Lib.hid hh
            clear hh
            go_region_with (first
              | (go_at_call 65; go_must (refine (entry_any _ (es k) (H.out.2.2.2.1 k hlt).1 (H.out.2.2.2.1 k hlt).2).mono ?_; rintro en w2 ⟨rfl, hb2⟩; have M2 := Lib.hid (M.out.1.here ((Below.refl _ _).drew.trans hb2)); obtain ⟨f, r, hm, hcf, hcall⟩ := (chk_all c.ht c S1 (w.heap.size + 1) w.heap.size w2 (.iface T u) (.pointer none) (es k) [] (Nat.le_refl _) (by have := BC.out.2; omega) (by have := BC.out.1; simp; omega) M2.out.hp M2.out.rep (.inl ⟨rfl, rfl⟩)).at_; have hcall : Calls Tryz.prog f #[r, .agg (es k).pub, .pointer none] w2 (ChkPost S1 (w.heap.size + 1) w.heap.size w2 (es k) [] c) := hcall; have Y := Lib.hid hcall; clear hb2 hcall))
              | (refine Y.out.mono ?_; rintro en w3 hpost; obtain ⟨p, S3, rfl, m3, ce3⟩ := zw_chk M2.out hpost; rw [HH.out] at ce3; obtain ⟨ce, Vc, cores, rfl, x1, x2, x3, x4⟩ := ceat_cons ce3; have Z := Lib.hid (zw_write m3 HH.out x1 x2 x3 x4 BC.out.1 BC.out.2 (by omega) (fldOf_le n2 fs (fun i hi => (H.out.2.2.2.2.2.1 i hi).2) k)); clear hpost m3 ce3 x1 x2 x3 x4))
            all_goals go_wp2_with (go_at_call 66; go_must (refine Z.out.mono ?_; rintro en w4 ⟨rfl, z4⟩; have ZZ := Lib.hid z4; clear z4))
            all_goals exact ⟨⟨k + 1, S3, by omega, by go_num, ZZ.out⟩, by simp [intOf]; omega⟩
      · obtain rfl : k = n1 := by omega
        have P := Lib.hid (And.intro st (And.intro q3 q4))
        clear st q1 q2 q3 q4 nc
        go_wp2_with fail
        all_goals go_ret2
        all_goals exact .inr ⟨c, seenV, xs, by rw [R.out.1], rfl, P.out.2.1, P.out.2.2, P.out.1.below⟩
  · go_wp2_with fail
    go_ret2
    exact .inl ⟨by rw [hbu], rfl, H.out.1.trans hbel⟩
end Go.Proofs.YtieidjlmgalihaaGreatDoor
