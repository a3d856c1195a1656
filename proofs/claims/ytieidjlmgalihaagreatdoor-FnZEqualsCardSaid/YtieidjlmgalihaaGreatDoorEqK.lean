/- ZSameFields. -/
import Derived.Test.YtieidjlmgalihaaGreatDoorEqI
import Derived.Test.YtieidjlmgalihaaGreatDoorSam
set_option linter.all false
namespace Go.Proofs.YtieidjlmgalihaaGreatDoor
open Go.RowKit
set_option maxRecDepth 100000
theorem neq23g (W : World) (z z' : Bool) (n n' o o' : Int) (s s' : ByteArray) : (binOp .neq 23 (.agg #[.bool z, .int .i64 n, .int .i64 o, .string s]) (.agg #[.bool z', .int .i64 n', .int .i64 o', .string s'])).run Tryz.prog W = .ok (.bool (!(z == z' && n == n' && o == o' && s.toList == s'.toList))) W := by
  by_cases h1 : z = z'
  · by_cases h2 : n = n'
    · by_cases h3 : o = o'
      · by_cases h4 : s.toList = s'.toList
        · subst h1 h2 h3; simp [go_sem, h4]
        · subst h1 h2 h3; simp [go_sem, h4]
      · subst h1 h2; simp [go_sem, h3]
    · subst h1; simp [go_sem, h2]
  · simp [go_sem, h1]
theorem ex_frame {A : Act} {f : (Nat → Value) → Act} (h : A = f (fun i => A.tmps.getD i undef)) : ∃ e, A = f e := ⟨_, h⟩
theorem wpAnyH_cut {P : Program} {md : Region.Mode} {ops : Array Oper} {Q : Exit → Act → World → Prop} {S : World → Prop} {fuel : Nat} {listed : Array Bool} {a0 : Act} {w0 : World} (R : Act → World → Prop) (fuel' : Nat) (listed' : Array Bool)
    (later : ∀ a w, R a w → S w → wpAnyH P md ops Q S fuel' listed' a w) (now : Hid (∀ a w, R a w → S w → wpAnyH P md ops Q S fuel' listed' a w) → wpAnyH P md ops Q S fuel listed a0 w0) : wpAnyH P md ops Q S fuel listed a0 w0 := now (Lib.hid later)
theorem wpAnyH_swap {P : Program} {md : Region.Mode} {ops : Array Oper} {Q : Exit → Act → World → Prop} {S : World → Prop} {fuel fuel' : Nat} {listed listed' : Array Bool} {a : Act} {w : World} (hl : listed = listed') (hf : fuel = fuel') (h : wpAnyH P md ops Q S fuel' listed' a w) : wpAnyH P md ops Q S fuel listed a w := by
  subst hl hf
  exact h
set_option maxHeartbeats 16000000 in
theorem sameFields_round (w : World) (A A' : Option Addr) (n m c c' : Nat) (l k : List FT) (h : FtsOk w A n l) (h' : FtsOk w A' m k)
    (ih : ∀ q, q < n → q < m → ∀ W, Below w.heap.size w W → Calls Tryz.prog 33 #[.slice (at_ l q).f.iA (at_ l q).f.ilen (at_ l q).f.ic, .slice (at_ k q).f.iA (at_ k q).f.ilen (at_ k q).f.ic] W (BoolIs (alikeL (at_ l q).kids (at_ k q).kids) W)) :
    Calls Tryz.prog 33 #[.slice A n c, .slice A' m c'] w (BoolIs (alikeL l k) w) := by
  have hn := h.1
  have hm := h'.1
  unfold maxLen at hn hm
  by_cases he : n = m
  · subst he
    have HH := Lib.hid (And.intro h h')
    have HI := Lib.hid ih
    have HN := Lib.hid (And.intro h.2.1 h'.2.1)
    clear h h' ih
    obtain ⟨res, hres⟩ : ∃ res, res = alikeL l k := ⟨_, rfl⟩
    have HR := Lib.hid hres
    rw [← hres]
    clear hres
    go_enter Tryz.func33, Tryz.ntmps33
    go_wp2_with fail
    go_loopw [5] (fun i wr => ∃ q : Nat, q ≤ n ∧ i = .int .i64 q ∧ Below w.heap.size w wr ∧ Hid (alikeL (l.drop q) (k.drop q) = alikeL l k)) (fun i _ => n - (intOf i).toNat)
    case atStart => exact ⟨0, Nat.zero_le _, rfl, Below.refl _ _, Lib.hid rfl⟩
    case round =>
      obtain ⟨q, hq, rfl, hb, HD⟩ := hrel
      by_cases hlt : q < n
      · obtain ⟨b, off, rfl, hbl, hc⟩ := elem_cells (HH.out.1.below hb) q hlt
        obtain ⟨b', off', rfl, hbl', hc'⟩ := elem_cells (HH.out.2.below hb) q hlt
        have hcs := Fld.cells hc
        have hcs' := Fld.cells hc'
        have HC := Lib.hid (alikeL_drop l k q (by rw [HN.out.1]; exact hlt) (by rw [HN.out.2]; exact hlt))
        have HE := Lib.hid (HI.out q hlt hlt)
        have HA := Lib.hid (FT.alike_eq (at_ l q) (at_ k q))
        have hby := FT.ok_bytes (FT.ok_below hb _ (okL_at HH.out.1.2.2.2 q (by rw [HN.out.1]; exact hlt)))
        have hby' := FT.ok_bytes (FT.ok_below hb _ (okL_at HH.out.2.2.2.2 q (by rw [HN.out.2]; exact hlt)))
        have HBY := Lib.hid (And.intro (And.intro hby.2.1 hby.2.2) (And.intro hby'.2.1 hby'.2.2))
        clear hc hc' hby hby'
        generalize (at_ l q).bs = x at *
        generalize (at_ k q).bs = y at *
        generalize alikeL (at_ l q).kids (at_ k q).kids = kb at *
        generalize (at_ l q).alike (at_ k q) = r at *
        generalize (at_ l q).f = f at *
        generalize (at_ k q).f = g at *
        obtain ⟨kind, key, width, int, uint, re, im, text, bA, bn, bc, zero, nanos, offset, zone, iA, ilen, ic, fail⟩ := f
        obtain ⟨kind', key', width', int', uint', re', im', text', bA', bn', bc', zero', nanos', offset', zone', iA', ilen', ic', fail'⟩ := g
        simp only [alike1, momEq] at HA HE HBY hcs hcs'
        obtain ⟨a0, a1, a2, a3, a4, a5, a6, a7, a8, a9, a10, a11, a12, a13, a14⟩ := hcs
        obtain ⟨b0, b1, b2, b3, b4, b5, b6, b7, b8, b9, b10, b11, b12, b13, b14⟩ := hcs'
        have h23 := fun W => neq23g W zero zero' nanos nanos' offset offset' zone zone'
        obtain ⟨mb, hmb⟩ : ∃ mb, mb = (zero == zero' && nanos == nanos' && offset == offset' && zone.toList == zone'.toList) := ⟨_, rfl⟩
        rw [← hmb] at h23 HA
        clear hmb
        have i1 : (0 : Int) ≤ (q : Int) := by omega
        have i2 : (q : Int) < (n : Int) := by omega
        have hsz := hb.size
        go_wp2_with fail
        refine wp_region_noPanic ?_
        refine wp_region_held_drew (S := fun w' => w'.cell? ⟨b, off + q * 15, none⟩ = some (.int .i64 kind) ∧ w'.cell? ⟨b, off + q * 15 + 1, none⟩ = some (.string key) ∧ w'.cell? ⟨b, off + q * 15 + 2, none⟩ = some (.int .i64 width) ∧ w'.cell? ⟨b, off + q * 15 + 3, none⟩ = some (.int .i64 int) ∧ w'.cell? ⟨b, off + q * 15 + 4, none⟩ = some (.int .u64 uint) ∧ w'.cell? ⟨b, off + q * 15 + 5, none⟩ = some (.int .u64 re) ∧ w'.cell? ⟨b, off + q * 15 + 6, none⟩ = some (.int .u64 im) ∧ w'.cell? ⟨b, off + q * 15 + 7, none⟩ = some (.string text) ∧ w'.cell? ⟨b, off + q * 15 + 8, none⟩ = some (.slice bA bn bc) ∧ w'.cell? ⟨b, off + q * 15 + 9, none⟩ = some (.bool zero) ∧ w'.cell? ⟨b, off + q * 15 + 10, none⟩ = some (.int .i64 nanos) ∧ w'.cell? ⟨b, off + q * 15 + 11, none⟩ = some (.int .i64 offset) ∧ w'.cell? ⟨b, off + q * 15 + 12, none⟩ = some (.string zone) ∧ w'.cell? ⟨b, off + q * 15 + 13, none⟩ = some (.slice iA ilen ic) ∧ w'.cell? ⟨b, off + q * 15 + 14, none⟩ = some (.string fail) ∧ w'.cell? ⟨b', off' + q * 15, none⟩ = some (.int .i64 kind') ∧ w'.cell? ⟨b', off' + q * 15 + 1, none⟩ = some (.string key') ∧ w'.cell? ⟨b', off' + q * 15 + 2, none⟩ = some (.int .i64 width') ∧ w'.cell? ⟨b', off' + q * 15 + 3, none⟩ = some (.int .i64 int') ∧ w'.cell? ⟨b', off' + q * 15 + 4, none⟩ = some (.int .u64 uint') ∧ w'.cell? ⟨b', off' + q * 15 + 5, none⟩ = some (.int .u64 re') ∧ w'.cell? ⟨b', off' + q * 15 + 6, none⟩ = some (.int .u64 im') ∧ w'.cell? ⟨b', off' + q * 15 + 7, none⟩ = some (.string text') ∧ w'.cell? ⟨b', off' + q * 15 + 8, none⟩ = some (.slice bA' bn' bc') ∧ w'.cell? ⟨b', off' + q * 15 + 9, none⟩ = some (.bool zero') ∧ w'.cell? ⟨b', off' + q * 15 + 10, none⟩ = some (.int .i64 nanos') ∧ w'.cell? ⟨b', off' + q * 15 + 11, none⟩ = some (.int .i64 offset') ∧ w'.cell? ⟨b', off' + q * 15 + 12, none⟩ = some (.string zone') ∧ w'.cell? ⟨b', off' + q * 15 + 13, none⟩ = some (.slice iA' ilen' ic') ∧ w'.cell? ⟨b', off' + q * 15 + 14, none⟩ = some (.string fail')) (by kernel_rfl) (by (try dsimp only); go_keep) (fun hHeld => ?_)
        refine wpAnyH_cut (fun (a : Act) (X : World) => ∃ p6 p7 : Nat, (∃ e : Nat → Value, a = ⟨#[.slice (some ⟨b, off, none⟩) n c, .slice (some ⟨b', off', none⟩) n c', undef, undef, e 4, .int .i64 (q : Int), .pointer (some ⟨p6, 0, none⟩), .pointer (some ⟨p7, 0, none⟩), .slice (some ⟨b, off, none⟩) n c, .int .i64 (n : Int), .slice (some ⟨b', off', none⟩) n c', .int .i64 (n : Int), .bool false, e 13, e 14, e 15, e 16, e 17, e 18, e 19, e 20, e 21, e 22, e 23, e 24, e 25, e 26, e 27, e 28, e 29, e 30, e 31, e 32, e 33, e 34, e 35, e 36, e 37, e 38, e 39, e 40, e 41, e 42, e 43, e 44, e 45, e 46, e 47, e 48, e 49, e 50, e 51, e 52, e 53, e 54, e 55, e 56, e 57, e 58, e 59, e 60, e 61, e 62, e 63, e 64, e 65, e 66, e 67, e 68, e 69, e 70, e 71, e 72, e 73, e 74, e 75, e 76, e 77, e 78, e 79, e 80, e 81, e 82, e 83, e 84, e 85, e 86, e 87, e 88, e 89, e 90, e 91, e 92, e 93, e 94, e 95, e 96, e 97, e 98, e 99, e 100, e 101, e 102, e 103, e 104, e 105, e 106, e 107, e 108, e 109, e 110, e 111], []⟩) ∧ Blk X p6 39 #[.int .i64 kind, .string key, .int .i64 width, .int .i64 int, .int .u64 uint, .int .u64 re, .int .u64 im, .string text, .slice bA bn bc, .bool zero, .int .i64 nanos, .int .i64 offset, .string zone, .slice iA ilen ic, .string fail] ∧ Blk X p7 39 #[.int .i64 kind', .string key', .int .i64 width', .int .i64 int', .int .u64 uint', .int .u64 re', .int .u64 im', .string text', .slice bA' bn' bc', .bool zero', .int .i64 nanos', .int .i64 offset', .string zone', .slice iA' ilen' ic', .string fail'] ∧ Below wr.heap.size wr X) 0 #[true, true, true, true, true, true, true, true, true, true, true, true] ?later ?now
        case later =>
          intro a X hR _
          obtain ⟨p6, p7, ⟨e, rfl⟩, B6, B7, hX⟩ := hR
          refine wpAnyH_done (by kernel_rfl) ?_ _
          refine NoPanic.normal ?_
          have hcv := conv_read (HBY.out.1.2.below hX) bc
          have hcv' := conv_read (HBY.out.2.2.below hX) bc'
          rw [HBY.out.1.1] at hcv
          rw [HBY.out.2.1] at hcv'
          have u0 := B6.cell 0; have v0 := B7.cell 0; have u1 := B6.cell 1; have v1 := B7.cell 1; have u2 := B6.cell 2; have v2 := B7.cell 2; have u3 := B6.cell 3; have v3 := B7.cell 3; have u4 := B6.cell 4; have v4 := B7.cell 4; have u5 := B6.cell 5; have v5 := B7.cell 5; have u6 := B6.cell 6; have v6 := B7.cell 6; have u7 := B6.cell 7; have v7 := B7.cell 7; have u8 := B6.cell 8; have v8 := B7.cell 8; have u9 := B6.cell 9; have v9 := B7.cell 9; have u10 := B6.cell 10; have v10 := B7.cell 10; have u11 := B6.cell 11; have v11 := B7.cell 11; have u12 := B6.cell 12; have v12 := B7.cell 12; have u13 := B6.cell 13; have v13 := B7.cell 13; have u14 := B6.cell 14; have v14 := B7.cell 14
          simp only [List.getElem?_toArray, List.getElem?_cons_zero, List.getElem?_cons_succ] at u0 v0 u1 v1 u2 v2 u3 v3 u4 v4 u5 v5 u6 v6 u7 v7 u8 v8 u9 v9 u10 v10 u11 v11 u12 v12 u13 v13 u14 v14
          have hB0 : Below w.heap.size w X := hb.trans (hX.mono hsz)
          have HB0 := Lib.hid hB0
          clear B6 B7 hX hB0
          go_wp2_with (go_at_call 33; go_must (refine (HE.out X HB0.out).mono ?_; rintro en w1 ⟨rfl, hb1⟩; have hB : Below w.heap.size w w1 := HB0.out.trans (hb1.mono HB0.out.size); cases kb))
          all_goals first
            | (obtain rfl : res = false := by rw [HR.out, ← HD.out, HC.out, HA.out]; simp [*]
               go_ret
               exact ⟨rfl, by first | exact HB0.out | exact hB⟩)
            | (go_roundw
               case rel => exact ⟨q + 1, by omega, by go_num, hB, Lib.hid (by rw [← HD.out, HC.out, HA.out]; simp [*])⟩
               case measure => simp [intOf]; omega)
        case now =>
          intro HL
          refine wpAnyH_take (i := 0) (oi := ⟨some 19, .move (.tmp 0), _, _, _, _⟩) (v := ?vs1) rfl (by kernel_rfl) (by kernel_rfl) (by kernel_rfl) (fun _ _ _ h => h) (Or.inl ⟨by rfl, ?ys1⟩) (by assumption) ?rs1
          case ys1 => (intro w hSw; (try dsimp only at hSw); go_simp; first | done | with_reducible rfl)
          try simp only [Act.put, List.setIfInBounds_toArray, List.set_cons_zero, List.set_cons_succ]
          refine wpAnyH_take (i := 1) (oi := ⟨some 20, .move (.tmp 5), _, _, _, _⟩) (v := ?vs2) rfl (by kernel_rfl) (by kernel_rfl) (by kernel_rfl) (fun _ _ _ h => h) (Or.inl ⟨by rfl, ?ys2⟩) (by assumption) ?rs2
          case ys2 => (intro w hSw; (try dsimp only at hSw); go_simp; first | done | with_reducible rfl)
          try simp only [Act.put, List.setIfInBounds_toArray, List.set_cons_zero, List.set_cons_succ]
          refine wpAnyH_take (i := 2) (oi := ⟨some 21, .indexAddr 37 (.tmp 19) (.tmp 20), _, _, _, _⟩) (v := ?vs3) rfl (by kernel_rfl) (by kernel_rfl) (by kernel_rfl) (fun _ _ _ h => h) (Or.inl ⟨by rfl, ?ys3⟩) (by assumption) ?rs3
          case ys3 => (intro w hSw; (try dsimp only at hSw); go_simp; first | done | with_reducible rfl)
          try simp only [Act.put, List.setIfInBounds_toArray, List.set_cons_zero, List.set_cons_succ]
          refine wpAnyH_take (i := 3) (oi := ⟨some 22, .load 39 (.tmp 21), _, _, _, _⟩) (v := ?vs4) rfl (by kernel_rfl) (by kernel_rfl) (by kernel_rfl) (fun _ _ _ h => h) (Or.inl ⟨by rfl, ?ys4⟩) (by assumption) ?rs4
          case ys4 => (intro w hSw; (try dsimp only at hSw); go_simp; first | done | with_reducible rfl)
          try simp only [Act.put, List.setIfInBounds_toArray, List.set_cons_zero, List.set_cons_succ]
          refine wpAnyH_take (i := 4) (oi := ⟨some 23, .move (.tmp 1), _, _, _, _⟩) (v := ?vs5) rfl (by kernel_rfl) (by kernel_rfl) (by kernel_rfl) (fun _ _ _ h => h) (Or.inl ⟨by rfl, ?ys5⟩) (by assumption) ?rs5
          case ys5 => (intro w hSw; (try dsimp only at hSw); go_simp; first | done | with_reducible rfl)
          try simp only [Act.put, List.setIfInBounds_toArray, List.set_cons_zero, List.set_cons_succ]
          refine wpAnyH_take (i := 5) (oi := ⟨some 24, .move (.tmp 5), _, _, _, _⟩) (v := ?vs6) rfl (by kernel_rfl) (by kernel_rfl) (by kernel_rfl) (fun _ _ _ h => h) (Or.inl ⟨by rfl, ?ys6⟩) (by assumption) ?rs6
          case ys6 => (intro w hSw; (try dsimp only at hSw); go_simp; first | done | with_reducible rfl)
          try simp only [Act.put, List.setIfInBounds_toArray, List.set_cons_zero, List.set_cons_succ]
          refine wpAnyH_take (i := 6) (oi := ⟨some 25, .indexAddr 37 (.tmp 23) (.tmp 24), _, _, _, _⟩) (v := ?vs7) rfl (by kernel_rfl) (by kernel_rfl) (by kernel_rfl) (fun _ _ _ h => h) (Or.inl ⟨by rfl, ?ys7⟩) (by assumption) ?rs7
          case ys7 => (intro w hSw; (try dsimp only at hSw); go_simp; first | done | with_reducible rfl)
          try simp only [Act.put, List.setIfInBounds_toArray, List.set_cons_zero, List.set_cons_succ]
          refine wpAnyH_take (i := 7) (oi := ⟨some 26, .load 39 (.tmp 25), _, _, _, _⟩) (v := ?vs8) rfl (by kernel_rfl) (by kernel_rfl) (by kernel_rfl) (fun _ _ _ h => h) (Or.inl ⟨by rfl, ?ys8⟩) (by assumption) ?rs8
          case ys8 => (intro w hSw; (try dsimp only at hSw); go_simp; first | done | with_reducible rfl)
          try simp only [Act.put, List.setIfInBounds_toArray, List.set_cons_zero, List.set_cons_succ]
          refine wpAnyH_ready (rs := [8, 9]) (by kernel_rfl) (by simp) ?_
          refine AllReadyH.cons (o := ⟨some 6, .alloc 39, _, _, _, _⟩) rfl (fun Kx hKx => ?_) (AllReadyH.cons (o := ⟨some 7, .alloc 39, _, _, _, _⟩) rfl (fun Kx hKx => ?_) AllReadyH.nil)
          · go_simp
            refine hKx.out _ _ (by (try dsimp only); go_keep) (fun hNew => ?_)
            clear hKx Kx hHeld
            have hHeld := hNew
            clear hNew
            try simp only [Act.put, List.setIfInBounds_toArray, List.set_cons_zero, List.set_cons_succ]
            refine wpAnyH_ready (rs := [9]) (by kernel_rfl) (by simp) ?_
            refine AllReadyH.cons (o := ⟨some 7, .alloc 39, _, _, _, _⟩) rfl (fun Kx hKx => ?_) AllReadyH.nil
            go_simp
            refine hKx.out _ _ (by (try dsimp only); go_keep) (fun hNew => ?_)
            clear hKx Kx hHeld
            have hHeld := hNew
            clear hNew
            try simp only [Act.put, List.setIfInBounds_toArray, List.set_cons_zero, List.set_cons_succ]
            refine wpAnyH_ready (rs := [10]) (by kernel_rfl) (by simp) ?_
            refine AllReadyH.cons (o := ⟨none, .store 39 (.tmp 6) (.tmp 22), _, _, _, _⟩) rfl (fun Kx hKx => ?_) AllReadyH.nil
            go_simp
            refine hKx.out _ _ (by (try dsimp only); go_keep) (fun hNew => ?_)
            clear hKx Kx hHeld
            have hHeld := hNew
            clear hNew
            try simp only [Act.put, List.setIfInBounds_toArray, List.set_cons_zero, List.set_cons_succ]
            refine wpAnyH_ready (rs := [11]) (by kernel_rfl) (by simp) ?_
            refine AllReadyH.cons (o := ⟨none, .store 39 (.tmp 7) (.tmp 26), _, _, _, _⟩) rfl (fun Kx hKx => ?_) AllReadyH.nil
            go_simp
            refine hKx.out _ _ (by (try dsimp only); go_keep) (fun hNew => ?_)
            clear hKx Kx hHeld
            have hHeld := hNew
            clear hNew
            try simp only [Act.put, List.setIfInBounds_toArray, List.set_cons_zero, List.set_cons_succ]
            refine wpAnyH_swap (listed' := #[true, true, true, true, true, true, true, true, true, true, true, true]) (fuel' := 0) (by kernel_rfl) (by kernel_rfl) ?_
            exact HL.out _ _ ⟨wr.heap.size, wr.heap.size + 1, ex_frame (by kernel_rfl), ⟨(Blk.new wr.drew 39 _).alloc _, Blk.new_at _ 39 _ _ (by simp), (((Below.refl _ _).drew).alloc (Nat.le_refl _) _).alloc (by simp) _⟩⟩ hHeld
          · go_simp
            refine hKx.out _ _ (by (try dsimp only); go_keep) (fun hNew => ?_)
            clear hKx Kx hHeld
            have hHeld := hNew
            clear hNew
            try simp only [Act.put, List.setIfInBounds_toArray, List.set_cons_zero, List.set_cons_succ]
            refine wpAnyH_ready (rs := [8]) (by kernel_rfl) (by simp) ?_
            refine AllReadyH.cons (o := ⟨some 6, .alloc 39, _, _, _, _⟩) rfl (fun Kx hKx => ?_) AllReadyH.nil
            go_simp
            refine hKx.out _ _ (by (try dsimp only); go_keep) (fun hNew => ?_)
            clear hKx Kx hHeld
            have hHeld := hNew
            clear hNew
            try simp only [Act.put, List.setIfInBounds_toArray, List.set_cons_zero, List.set_cons_succ]
            refine wpAnyH_ready (rs := [10]) (by kernel_rfl) (by simp) ?_
            refine AllReadyH.cons (o := ⟨none, .store 39 (.tmp 6) (.tmp 22), _, _, _, _⟩) rfl (fun Kx hKx => ?_) AllReadyH.nil
            go_simp
            refine hKx.out _ _ (by (try dsimp only); go_keep) (fun hNew => ?_)
            clear hKx Kx hHeld
            have hHeld := hNew
            clear hNew
            try simp only [Act.put, List.setIfInBounds_toArray, List.set_cons_zero, List.set_cons_succ]
            refine wpAnyH_ready (rs := [11]) (by kernel_rfl) (by simp) ?_
            refine AllReadyH.cons (o := ⟨none, .store 39 (.tmp 7) (.tmp 26), _, _, _, _⟩) rfl (fun Kx hKx => ?_) AllReadyH.nil
            go_simp
            refine hKx.out _ _ (by (try dsimp only); go_keep) (fun hNew => ?_)
            clear hKx Kx hHeld
            have hHeld := hNew
            clear hNew
            try simp only [Act.put, List.setIfInBounds_toArray, List.set_cons_zero, List.set_cons_succ]
            refine wpAnyH_swap (listed' := #[true, true, true, true, true, true, true, true, true, true, true, true]) (fuel' := 0) (by kernel_rfl) (by kernel_rfl) ?_
            exact HL.out _ _ ⟨wr.heap.size + 1, wr.heap.size, ex_frame (by kernel_rfl), ⟨Blk.new_at _ 39 _ _ (by simp), (Blk.new wr.drew 39 _).alloc _, (((Below.refl _ _).drew).alloc (Nat.le_refl _) _).alloc (by simp) _⟩⟩ hHeld
      · go_wp2_with fail
        go_ret
        have e1 : q = n := by omega
        subst e1
        refine ⟨?_, hb⟩
        rw [HR.out, ← HD.out, alikeL_end l k q HN.out.1 HN.out.2]
        rfl
  · have hr : alikeL l k = false := by
      rw [Bool.eq_false_iff]
      intro hx
      have := alikeL_len hx
      have e1 := h.2.1
      have e2 := h'.2.1
      omega
    rw [hr]
    clear h h' ih hr
    have hd : ((n : Int) != (m : Int)) = true := by simp; omega
    go_enter Tryz.func33, Tryz.ntmps33
    go_wp2_with fail
    go_ret
    exact ⟨rfl, Below.refl _ _⟩
end Go.Proofs.YtieidjlmgalihaaGreatDoor
