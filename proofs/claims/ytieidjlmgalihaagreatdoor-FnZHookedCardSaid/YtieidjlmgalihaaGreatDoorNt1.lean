/- The noting body. -/
import Derived.Test.YtieidjlmgalihaaGreatDoorNt0
namespace Go.Proofs.YtieidjlmgalihaaGreatDoor
open Go.RowKit
set_option maxRecDepth 100000
theorem wrap8_64' (z : Int) : wrap64 (IntKind.i8.wrap z) = IntKind.i8.wrap z := by
  rw [← i64_wrap64]
  have h : -128 ≤ IntKind.i8.wrap z ∧ IntKind.i8.wrap z ≤ 127 := by
    simp [IntKind.wrap, IntKind.bits, IntKind.signed]
    split <;> omega
  exact IntWalk.i64_in _ (by omega)
theorem own_slice' {w : World} {B : Nat} {e : TypeId} {size n : Nat} {v : Value} {xs : List Value} (h : w.ownsRow B e size v n xs) : ∃ a l c, v = .slice a l c := by
  rcases h.2 with ⟨rfl, _⟩ | ⟨g, cap, cur, rfl, _⟩
  · exact ⟨_, _, _, rfl⟩
  · exact ⟨_, _, _, rfl⟩
/-- What the noting body turns: the entry's level and message, the list. -/
def NotePost (w : World) (B Ob Lb n : Nat) (Vl : Value) (e x : Ent) (g : Nat → Fld) (en : Ending) (w' : World) : Prop :=
  en = .returned (.tuple #[]) ∧ Blk w' Ob 50 ({ e with level := IntKind.i8.wrap x.level, message := x.message } : Ent).arr ∧ (∃ V, Blk w' Lb 37 #[V] ∧ w'.ownsRow B 39 15 V n (bare g n)) ∧ Only (fun b => b = Ob ∨ b = Lb ∨ Vl.ownBlock = some b) w w'
set_option maxHeartbeats 20000000 in
theorem note_any (w : World) (B Ob Lb n : Nat) (V : Value) (e x : Ent) (g : Nat → Fld) (hO : Blk w Ob 50 e.arr) (hL : Blk w Lb 37 #[.slice none 0 0]) (hB : B ≤ w.heap.size) (hsrc : SrcF w V n (carr g n)) (hn : n ≤ 100000) :
    Calls Tryz.prog 73 #[.agg x.pub, V, .pointer (some ⟨Ob, 0, none⟩), .pointer (some ⟨Lb, 0, none⟩)] w (NotePost w B Ob Lb n (.slice none 0 0) e x g) := by
  obtain ⟨A, c, rfl⟩ := hsrc.form
  have ol := hO.lt
  have ll := hL.lt
  have hne : Lb ≠ Ob := hL.ne_ hO (by decide)
  have ne1 : ¬ w.heap.size = Ob := by omega
  have ne2 : ¬ Ob = w.heap.size := by omega
  go_enter Tryz.func73, Tryz.ntmps73
  go_wp2_with fail
  obtain ⟨W, hW⟩ : ∃ W : World, W = w.alloc (.cells x.pub 154) := ⟨_, rfl⟩
  have hb : Below w.heap.size w W := by rw [hW]; exact (Below.refl _ _).alloc (Nat.le_refl _) _
  have qO := hO.here hb
  have qL := hL.here hb
  have qx : Blk W w.heap.size 154 x.pub := by rw [hW]; exact Blk.new _ _ _
  have qs := hsrc.below hb
  rw [← hW]
  clear hW hO hL hsrc
  have o0 := qO.cell 0
  have o6 := qO.cell 6
  have of := qO.frozen
  have x0 := qx.cell 0
  have x6 := qx.cell 6
  simp only [List.getElem?_toArray, List.getElem?_cons_zero, List.getElem?_cons_succ] at o0 o6 x0 x6
  have HH := Lib.hid (And.intro qO (And.intro qL (And.intro qs hb)))
  clear qO qL qx qs hb
  go_region_held3 (fun w' => w'.cell? ⟨w.heap.size, 0, none⟩ = some (.int .i8 (IntKind.i8.wrap x.level)) ∧ w'.cell? ⟨w.heap.size, 6, none⟩ = some (.string x.message)) (go_keep) (fail)
  all_goals go_wp2_with fail
  obtain ⟨W2, hW2⟩ : ∃ W2 : World, W2 = ((W.setCell ⟨Ob, 0, none⟩ (.int .i64 (wrap64 (IntKind.i8.wrap x.level)))).setCell ⟨Ob, 6, none⟩ (.string x.message)).drew := ⟨_, rfl⟩
  have ho2 : Only (fun b => b = Ob ∨ b = Lb) w W2 := by
    rw [hW2]
    exact ((((Only.none_of_below (S := fun b => b = Ob ∨ b = Lb) HH.out.2.2.2).setCell (.inl (.inl rfl)) _).setCell (.inl (.inl rfl)) _)).drew
  have ho3 : Only (fun b => b = Ob) W W2 := by
    rw [hW2]
    exact ((((Only.refl (fun b => b = Ob) W).setCell (.inl rfl) _).setCell (.inl rfl) _)).drew
  have rO : Blk W2 Ob 50 ({ e with level := IntKind.i8.wrap x.level, message := x.message } : Ent).arr := by
    rw [hW2]
    exact Blk.drew (by simpa [wrap8_64' x.level] using (HH.out.1.set_ 0 (.int .i64 (wrap64 (IntKind.i8.wrap x.level)))).set_ 6 (.string x.message))
  have rL : Blk W2 Lb 37 #[.slice none 0 0] := HH.out.2.1.only ho3 hne
  have rs : SrcF W2 (.slice A n c) n (carr g n) := HH.out.2.2.1.only ho3 (fun b cs fz hk e => by
    subst e
    have h1 := HH.out.1
    unfold Blk at h1
    rw [hk] at h1
    injection h1 with h1
    injection h1 with _ h2
    exact absurd h2 (by decide))
  rw [← hW2]
  clear hW2 o0 o6 of x0 x6 HH ho3
  go_loopw [17] (fun i wr => ∃ q : Nat, q ≤ n ∧ i = .int .i64 q ∧ Blk wr Ob 50 ({ e with level := IntKind.i8.wrap x.level, message := x.message } : Ent).arr ∧ (∃ V, Blk wr Lb 37 #[V] ∧ wr.ownsRow w.heap.size 39 15 V q (bare g q)) ∧ SrcF wr (.slice A n c) n (carr g n) ∧ Only (fun b => b = Ob ∨ b = Lb) w wr) (fun i _ => n - (intOf i).toNat)
  case atStart => exact ⟨0, Nat.zero_le _, rfl, rO, ⟨_, rL, World.ownsRow_nil _ _ _ _⟩, rs, ho2⟩
  case round =>
    obtain ⟨q, hq, rfl, tO, ⟨Vl, tL, town⟩, ts, to⟩ := hrel
    by_cases hlt : q < n
    · rcases ts with ⟨h0, _, _⟩ | ⟨h0, b, off, c', hV, hl, hc, h1, cs, fz, hk⟩
      · omega
      · injection hV with hA hn2 hc2
        subst hA hc2
        have k0 := hc (q * 5) (.string (g q).key) ((carr_at g n q 0 hlt (by omega)).trans rfl)
        have k1 := hc (q * 5 + 1) (.int .u8 27) ((carr_at g n q 1 hlt (by omega)).trans rfl)
        have k2 := hc (q * 5 + 2) (.int .i64 0) ((carr_at g n q 2 hlt (by omega)).trans rfl)
        have k3 := hc (q * 5 + 3) (.string ⟨#[]⟩) ((carr_at g n q 3 hlt (by omega)).trans rfl)
        have k4 := hc (q * 5 + 4) (.iface 39 (.agg (g q).arr)) ((carr_at g n q 4 hlt (by omega)).trans rfl)
        simp only [← Nat.add_assoc] at k0 k1 k2 k3 k4
        have l0 := tL.cell 0
        simp only [List.getElem?_toArray, List.getElem?_cons_zero] at l0
        have HT := Lib.hid (And.intro tO (And.intro tL (And.intro town to)))
        have HSrc := Lib.hid (show SrcF wr (.slice (some ⟨b, off, none⟩) n c) n (carr g n) from .inr ⟨h0, b, off, c, rfl, hl, hc, h1, cs, fz, hk⟩)
        clear tO tL town to hc hl h1 hk
        obtain ⟨f, hgf⟩ : ∃ f, g q = f := ⟨_, rfl⟩
        rw [hgf] at k0 k4
        have HG := Lib.hid hgf
        clear hgf
        obtain ⟨la, ll2, lcc, rfl⟩ := own_slice' HT.out.2.2.1
        have hlen : ll2 = q := by
          rcases HT.out.2.2.1.2 with ⟨h, h2⟩ | ⟨_, _, _, h, _⟩
          · injection h with _ h3 _; omega
          · injection h with _ h3 _
        subst hlen
        have hta : ∀ (v : Value) (W : World), (Instr.typeAssert (.iface 39 v) 20 39 false).run Tryz.prog W = .ok v W := fun _ _ => by kernel_rfl
        have hone : ∀ u ∈ zeroFld.toList, u.oneCell' = true := by simp [Value.oneCell']
        have hmax : ll2 + 1 ≤ maxLen := by unfold maxLen; omega
        have hbyt : (ll2 + 1) * 184 ≤ 140737488355328 := by omega
        go_wp2_with fail
        obtain ⟨W3, hW3⟩ : ∃ W3 : World, W3 = wr.alloc (.cells #[.string f.key, .int .u8 27, .int .i64 0, .string ⟨#[]⟩, .iface 39 (.agg f.arr)] 131) := ⟨_, rfl⟩
        have b3 : Below wr.heap.size wr W3 := by rw [hW3]; exact (Below.refl _ _).alloc (Nat.le_refl _) _
        have x3 : Blk W3 wr.heap.size 131 #[.string f.key, .int .u8 27, .int .i64 0, .string ⟨#[]⟩, .iface 39 (.agg f.arr)] := by rw [hW3]; exact Blk.new _ _ _
        rw [← hW3]
        clear hW3 k0 k1 k2 k3 k4 l0
        have L3 := HT.out.2.1.here b3
        have O3 := HT.out.1.here b3
        have own3 := own_only HT.out.2.2.1 (Only.none_of_below (S := fun _ => False) b3) (fun _ _ h => h)
        have l3 : W3.cell? ⟨Lb, 0, none⟩ = some (.slice la ll2 lcc) := L3.cell 0
        have i3 : W3.cell? ⟨wr.heap.size, 4, none⟩ = some (.iface 39 (.agg f.arr)) := x3.cell 4
        have hne3 : (Value.slice la ll2 lcc).ownBlock ≠ some Lb := own_ne own3 L3 (by decide)
        have hne4 : (Value.slice la ll2 lcc).ownBlock ≠ some wr.heap.size := own_ne own3 x3 (by decide)
        have hB3 : w.heap.size ≤ W3.heap.size := Nat.le_trans HT.out.2.2.2.size b3.size
        have H3 := Lib.hid (And.intro L3 (And.intro O3 (And.intro own3 (And.intro x3 (And.intro b3 (And.intro hne3 (And.intro hne4 hB3)))))))
        clear L3 O3 own3 x3 b3 hne3 hne4 hB3
        have n3 : ∀ o : Obj, (W3.alloc o).cell? ⟨wr.heap.size, 4, none⟩ = some (.iface 39 (.agg f.arr)) := fun o => (((Below.refl _ W3).alloc (Nat.le_refl _) o).cell (p := ⟨wr.heap.size, 4, none⟩) (World.block_lt_of_cell? W3 _ i3)).trans i3
        have n4 : ∀ o : Obj, (W3.alloc o).cell? ⟨Lb, 0, none⟩ = some (.slice la ll2 lcc) := fun o => (((Below.refl _ W3).alloc (Nat.le_refl _) o).cell (p := ⟨Lb, 0, none⟩) (World.block_lt_of_cell? W3 _ l3)).trans l3
        have i5 : (ll2 : Int) < (ll2 : Int) + 1 := by omega
        have nLg : ¬ Lb = wr.heap.size := by have := HT.out.2.1.lt; omega
        refine wp_region_held_drew (S := fun w' => w'.cell? ⟨wr.heap.size, 4, none⟩ = some (.iface 39 (.agg f.arr))) (by kernel_rfl) i3 (fun hHeld => ?_)
        refine wpAnyH_take (i := 1) (oi := ⟨some 22, .fieldAddr 131 (.tmp 7) 4, _, _, _, none⟩) (v := ?v6) rfl (by kernel_rfl) (by kernel_rfl) (by kernel_rfl) (fun _ _ _ h => h) (Or.inl ⟨by rfl, ?y6⟩) (by assumption) ?r6
        case y6 => (intro w hSw; (try dsimp only at hSw); go_simp; first | done | with_reducible rfl)
        try simp only [Act.put, List.setIfInBounds_toArray, List.set_cons_zero, List.set_cons_succ]
        refine wpAnyH_take (i := 2) (oi := ⟨some 23, .load 20 (.tmp 22), _, _, _, none⟩) (v := ?v7) rfl (by kernel_rfl) (by kernel_rfl) (by kernel_rfl) (fun _ _ _ h => h) (Or.inl ⟨by rfl, ?y7⟩) (by assumption) ?r7
        case y7 => (intro w hSw; (try dsimp only at hSw); go_simp; first | done | with_reducible rfl)
        try simp only [Act.put, List.setIfInBounds_toArray, List.set_cons_zero, List.set_cons_succ]
        refine wpAnyH_take (i := 3) (oi := ⟨some 24, .typeAssert (.tmp 23) 20 39 false, _, _, _, none⟩) (v := ?v8) rfl (by kernel_rfl) (by kernel_rfl) (by kernel_rfl) (fun _ _ _ h => h) (Or.inl ⟨by rfl, ?y8⟩) (by assumption) ?r8
        case y8 => (intro w hSw; (try dsimp only at hSw); go_simp; first | done | with_reducible rfl)
        try simp only [Act.put, List.setIfInBounds_toArray, List.set_cons_zero, List.set_cons_succ]
        refine wpAnyH_ready (rs := [0, 5]) (by kernel_rfl) (by simp) ?_
        refine AllReadyH.cons (o := ⟨some 21, .load 37 (.tmp 3), _, _, _, none⟩) rfl (fun K hK => ?_) (AllReadyH.cons (o := ⟨some 26, .buildSlice 37 1 #[(0, .const (.agg zeroFld))], _, _, _, none⟩) rfl (fun K hK => ?_) AllReadyH.nil)
        · go_simp
          refine hK.out _ _ (by (try dsimp only); go_keep) (fun hHeld => ?_)
          clear hK K
          try simp only [Act.put, List.setIfInBounds_toArray, List.set_cons_zero, List.set_cons_succ]
          refine wpAnyH_take (i := 4) (oi := ⟨some 25, .call { callee := .builtin .len, args := #[.tmp 21], argTypes := #[37] }, _, _, _, none⟩) (v := ?v9) rfl (by kernel_rfl) (by kernel_rfl) (by kernel_rfl) (fun _ _ _ h => h) (Or.inl ⟨by rfl, ?y9⟩) (by assumption) ?r9
          case y9 => (intro w hSw; (try dsimp only at hSw); go_simp; first | done | with_reducible rfl)
          try simp only [Act.put, List.setIfInBounds_toArray, List.set_cons_zero, List.set_cons_succ]
          refine wpAnyH_ready (rs := [5]) (by kernel_rfl) (by simp) ?_
          refine AllReadyH.cons (o := ⟨some 26, .buildSlice 37 1 #[(0, .const (.agg zeroFld))], _, _, _, none⟩) rfl (fun K hK => ?_) AllReadyH.nil
          go_simp
          refine hK.out _ _ (by (try dsimp only); go_keep) (fun hHeld => ?_)
          clear hK K
          try simp only [Act.put, List.setIfInBounds_toArray, List.set_cons_zero, List.set_cons_succ]
          refine wpAnyH_ready (rs := [6]) (by kernel_rfl) (by simp) ?_
          refine AllReadyH.cons (o := ⟨some 27, .call { callee := .builtin .append, args := #[.tmp 21, .tmp 26], argTypes := #[37, 37] }, _, _, _, none⟩) rfl (fun K hK => ?_) AllReadyH.nil
          refine step_append1 rfl (.tmp 21) (.tmp 26) 37 rfl w.heap.size 39 _ 15 184 info39 Tryz.underlying37 rfl (by decide) (.slice la ll2 lcc) ll2 (bare g ll2) W3 rfl H3.out.2.2.1 zeroFld _ rfl rfl rfl hone hmax hbyt H3.out.2.2.2.2.2.2.2 ?_; intro g1 cap w1 hown1 ho1 hlies hg1; have L1 := H3.out.1.only ho1 H3.out.2.2.2.2.2.1; have l1 : w1.cell? ⟨Lb, 0, none⟩ = some (.slice la ll2 lcc) := L1.cell 0; have lf := L1.frozen 0; have i1' : w1.cell? ⟨wr.heap.size, 4, none⟩ = some (.iface 39 (.agg f.arr)) := (H3.out.2.2.2.1.only ho1 H3.out.2.2.2.2.2.2.1).cell 4; have gf := hown1.frozenAt; have zz : ∀ j, j < 15 → w1.cell? ⟨g1, ll2 * 15 + j, none⟩ = zeroFld[j]? := fun j hj => (by rw [hown1.cellAt (ll2 * 15 + j) (by omega), List.getElem?_append_right (by rw [bare_length]; omega), bare_length, Nat.add_sub_cancel_left]; exact Array.getElem?_toList); have z0 : w1.cell? ⟨g1, ll2 * 15, none⟩ = some (.int .i64 0) := zz 0 (by omega); have z1 : w1.cell? ⟨g1, ll2 * 15 + 1, none⟩ = some (.string ⟨#[]⟩) := zz 1 (by omega); have z2 : w1.cell? ⟨g1, ll2 * 15 + 2, none⟩ = some (.int .i64 0) := zz 2 (by omega); have z3 : w1.cell? ⟨g1, ll2 * 15 + 3, none⟩ = some (.int .i64 0) := zz 3 (by omega); have z4 : w1.cell? ⟨g1, ll2 * 15 + 4, none⟩ = some (.int .u64 0) := zz 4 (by omega); have z5 : w1.cell? ⟨g1, ll2 * 15 + 5, none⟩ = some (.int .u64 0) := zz 5 (by omega); have z6 : w1.cell? ⟨g1, ll2 * 15 + 6, none⟩ = some (.int .u64 0) := zz 6 (by omega); have z7 : w1.cell? ⟨g1, ll2 * 15 + 7, none⟩ = some (.string ⟨#[]⟩) := zz 7 (by omega); have z8 : w1.cell? ⟨g1, ll2 * 15 + 8, none⟩ = some (.slice none 0 0) := zz 8 (by omega); have z9 : w1.cell? ⟨g1, ll2 * 15 + 9, none⟩ = some (.bool false) := zz 9 (by omega); have z10 : w1.cell? ⟨g1, ll2 * 15 + 10, none⟩ = some (.int .i64 0) := zz 10 (by omega); have z11 : w1.cell? ⟨g1, ll2 * 15 + 11, none⟩ = some (.int .i64 0) := zz 11 (by omega); have z12 : w1.cell? ⟨g1, ll2 * 15 + 12, none⟩ = some (.string ⟨#[]⟩) := zz 12 (by omega); have z13 : w1.cell? ⟨g1, ll2 * 15 + 13, none⟩ = some (.slice none 0 0) := zz 13 (by omega); have z14 : w1.cell? ⟨g1, ll2 * 15 + 14, none⟩ = some (.string ⟨#[]⟩) := zz 14 (by omega); have gL : ¬ g1 = Lb := fun e => own_ne hown1 L1 (by decide) (by rw [e]; rfl); have Lg : ¬ Lb = g1 := fun e => gL e.symm; have gx : ¬ g1 = wr.heap.size := fun e => own_ne hown1 (H3.out.2.2.2.1.only ho1 H3.out.2.2.2.2.2.2.1) (by decide) (by rw [e]; rfl); have xg : ¬ wr.heap.size = g1 := fun e => gx e.symm; have HH1 := Lib.hid (And.intro hown1 (And.intro ho1 (And.intro hlies L1))); clear hown1 ho1 hlies L1 zz
          refine hK.out _ _ (by (try dsimp only); go_keep) (fun hHeld => ?_)
          clear hK K
          try simp only [Act.put, List.setIfInBounds_toArray, List.set_cons_zero, List.set_cons_succ]
          refine wpAnyH_take (i := 7) (oi := ⟨some 28, .indexAddr 37 (.tmp 27) (.tmp 25), _, _, _, none⟩) (v := ?v10) rfl (by kernel_rfl) (by kernel_rfl) (by kernel_rfl) (fun _ _ _ h => h) (Or.inl ⟨by rfl, ?y10⟩) (by assumption) ?r10
          case y10 => (intro w hSw; (try dsimp only at hSw); go_simp; first | done | with_reducible rfl)
          try simp only [Act.put, List.setIfInBounds_toArray, List.set_cons_zero, List.set_cons_succ]
          refine wpAnyH_ready (rs := [8, 9]) (by kernel_rfl) (by simp) ?_
          refine AllReadyH.cons (o := ⟨none, .store 39 (.tmp 28) (.tmp 24), _, _, _, none⟩) rfl (fun K hK => ?_) (AllReadyH.cons (o := ⟨none, .store 37 (.tmp 3) (.tmp 27), _, _, _, none⟩) rfl (fun K hK => ?_) AllReadyH.nil)
          · go_simp
            refine hK.out _ _ (by (try dsimp only); go_keep) (fun hHeld => ?_)
            clear hK K
            try simp only [Act.put, List.setIfInBounds_toArray, List.set_cons_zero, List.set_cons_succ]
            refine wpAnyH_ready (rs := [9]) (by kernel_rfl) (by simp) ?_
            refine AllReadyH.cons (o := ⟨none, .store 37 (.tmp 3) (.tmp 27), _, _, _, none⟩) rfl (fun K hK => ?_) AllReadyH.nil
            go_simp
            refine hK.out _ _ (by (try dsimp only); go_keep) (fun hHeld => ?_)
            clear hK K
            try simp only [Act.put, List.setIfInBounds_toArray, List.set_cons_zero, List.set_cons_succ]
            refine wpAnyH_done (by kernel_rfl) ?_ _
            go_wp2_with fail
            go_roundw
            all_goals try clear hta hone n3 n4
            all_goals first
              | (refine ⟨ll2 + 1, by omega, by go_num, ?_⟩
                 refine note_close HT.out.1 HT.out.2.2.2 HSrc.out H3.out.2.2.2.2.1 H3.out.2.2.1 HH1.out.2.1 HH1.out.1 ⟨_, HH1.out.2.2.2⟩ hne ?_
                 rw [HG.out]
                 with_reducible exact noteA f HH1.out.1 (bare_length g ll2) HH1.out.2.2.2 gL)
              | (simp [intOf]; omega)
          · go_simp
            refine hK.out _ _ (by (try dsimp only); go_keep) (fun hHeld => ?_)
            clear hK K
            try simp only [Act.put, List.setIfInBounds_toArray, List.set_cons_zero, List.set_cons_succ]
            refine wpAnyH_ready (rs := [8]) (by kernel_rfl) (by simp) ?_
            refine AllReadyH.cons (o := ⟨none, .store 39 (.tmp 28) (.tmp 24), _, _, _, none⟩) rfl (fun K hK => ?_) AllReadyH.nil
            go_simp
            refine hK.out _ _ (by (try dsimp only); go_keep) (fun hHeld => ?_)
            clear hK K
            try simp only [Act.put, List.setIfInBounds_toArray, List.set_cons_zero, List.set_cons_succ]
            refine wpAnyH_done (by kernel_rfl) ?_ _
            go_wp2_with fail
            go_roundw
            all_goals try clear hta hone n3 n4
            all_goals first
              | (refine ⟨ll2 + 1, by omega, by go_num, ?_⟩
                 refine note_close HT.out.1 HT.out.2.2.2 HSrc.out H3.out.2.2.2.2.1 H3.out.2.2.1 HH1.out.2.1 HH1.out.1 ⟨_, HH1.out.2.2.2⟩ hne ?_
                 rw [HG.out]
                 with_reducible exact noteB f HH1.out.1 (bare_length g ll2) HH1.out.2.2.2 gL)
              | (simp [intOf]; omega)
        · go_simp
          refine hK.out _ _ (by (try dsimp only); go_keep) (fun hHeld => ?_)
          clear hK K
          try simp only [Act.put, List.setIfInBounds_toArray, List.set_cons_zero, List.set_cons_succ]
          refine wpAnyH_ready (rs := [0]) (by kernel_rfl) (by simp) ?_
          refine AllReadyH.cons (o := ⟨some 21, .load 37 (.tmp 3), _, _, _, none⟩) rfl (fun K hK => ?_) AllReadyH.nil
          go_simp
          refine hK.out _ _ (by (try dsimp only); go_keep) (fun hHeld => ?_)
          clear hK K
          try simp only [Act.put, List.setIfInBounds_toArray, List.set_cons_zero, List.set_cons_succ]
          refine wpAnyH_take (i := 4) (oi := ⟨some 25, .call { callee := .builtin .len, args := #[.tmp 21], argTypes := #[37] }, _, _, _, none⟩) (v := ?v11) rfl (by kernel_rfl) (by kernel_rfl) (by kernel_rfl) (fun _ _ _ h => h) (Or.inl ⟨by rfl, ?y11⟩) (by assumption) ?r11
          case y11 => (intro w hSw; (try dsimp only at hSw); go_simp; first | done | with_reducible rfl)
          try simp only [Act.put, List.setIfInBounds_toArray, List.set_cons_zero, List.set_cons_succ]
          refine wpAnyH_ready (rs := [6]) (by kernel_rfl) (by simp) ?_
          refine AllReadyH.cons (o := ⟨some 27, .call { callee := .builtin .append, args := #[.tmp 21, .tmp 26], argTypes := #[37, 37] }, _, _, _, none⟩) rfl (fun K hK => ?_) AllReadyH.nil
          refine step_append1 rfl (.tmp 21) (.tmp 26) 37 rfl w.heap.size 39 _ 15 184 info39 Tryz.underlying37 rfl (by decide) (.slice la ll2 lcc) ll2 (bare g ll2) W3 rfl H3.out.2.2.1 zeroFld _ rfl rfl rfl hone hmax hbyt H3.out.2.2.2.2.2.2.2 ?_; intro g1 cap w1 hown1 ho1 hlies hg1; have L1 := H3.out.1.only ho1 H3.out.2.2.2.2.2.1; have l1 : w1.cell? ⟨Lb, 0, none⟩ = some (.slice la ll2 lcc) := L1.cell 0; have lf := L1.frozen 0; have i1' : w1.cell? ⟨wr.heap.size, 4, none⟩ = some (.iface 39 (.agg f.arr)) := (H3.out.2.2.2.1.only ho1 H3.out.2.2.2.2.2.2.1).cell 4; have gf := hown1.frozenAt; have zz : ∀ j, j < 15 → w1.cell? ⟨g1, ll2 * 15 + j, none⟩ = zeroFld[j]? := fun j hj => (by rw [hown1.cellAt (ll2 * 15 + j) (by omega), List.getElem?_append_right (by rw [bare_length]; omega), bare_length, Nat.add_sub_cancel_left]; exact Array.getElem?_toList); have z0 : w1.cell? ⟨g1, ll2 * 15, none⟩ = some (.int .i64 0) := zz 0 (by omega); have z1 : w1.cell? ⟨g1, ll2 * 15 + 1, none⟩ = some (.string ⟨#[]⟩) := zz 1 (by omega); have z2 : w1.cell? ⟨g1, ll2 * 15 + 2, none⟩ = some (.int .i64 0) := zz 2 (by omega); have z3 : w1.cell? ⟨g1, ll2 * 15 + 3, none⟩ = some (.int .i64 0) := zz 3 (by omega); have z4 : w1.cell? ⟨g1, ll2 * 15 + 4, none⟩ = some (.int .u64 0) := zz 4 (by omega); have z5 : w1.cell? ⟨g1, ll2 * 15 + 5, none⟩ = some (.int .u64 0) := zz 5 (by omega); have z6 : w1.cell? ⟨g1, ll2 * 15 + 6, none⟩ = some (.int .u64 0) := zz 6 (by omega); have z7 : w1.cell? ⟨g1, ll2 * 15 + 7, none⟩ = some (.string ⟨#[]⟩) := zz 7 (by omega); have z8 : w1.cell? ⟨g1, ll2 * 15 + 8, none⟩ = some (.slice none 0 0) := zz 8 (by omega); have z9 : w1.cell? ⟨g1, ll2 * 15 + 9, none⟩ = some (.bool false) := zz 9 (by omega); have z10 : w1.cell? ⟨g1, ll2 * 15 + 10, none⟩ = some (.int .i64 0) := zz 10 (by omega); have z11 : w1.cell? ⟨g1, ll2 * 15 + 11, none⟩ = some (.int .i64 0) := zz 11 (by omega); have z12 : w1.cell? ⟨g1, ll2 * 15 + 12, none⟩ = some (.string ⟨#[]⟩) := zz 12 (by omega); have z13 : w1.cell? ⟨g1, ll2 * 15 + 13, none⟩ = some (.slice none 0 0) := zz 13 (by omega); have z14 : w1.cell? ⟨g1, ll2 * 15 + 14, none⟩ = some (.string ⟨#[]⟩) := zz 14 (by omega); have gL : ¬ g1 = Lb := fun e => own_ne hown1 L1 (by decide) (by rw [e]; rfl); have Lg : ¬ Lb = g1 := fun e => gL e.symm; have gx : ¬ g1 = wr.heap.size := fun e => own_ne hown1 (H3.out.2.2.2.1.only ho1 H3.out.2.2.2.2.2.2.1) (by decide) (by rw [e]; rfl); have xg : ¬ wr.heap.size = g1 := fun e => gx e.symm; have HH1 := Lib.hid (And.intro hown1 (And.intro ho1 (And.intro hlies L1))); clear hown1 ho1 hlies L1 zz
          refine hK.out _ _ (by (try dsimp only); go_keep) (fun hHeld => ?_)
          clear hK K
          try simp only [Act.put, List.setIfInBounds_toArray, List.set_cons_zero, List.set_cons_succ]
          refine wpAnyH_take (i := 7) (oi := ⟨some 28, .indexAddr 37 (.tmp 27) (.tmp 25), _, _, _, none⟩) (v := ?v12) rfl (by kernel_rfl) (by kernel_rfl) (by kernel_rfl) (fun _ _ _ h => h) (Or.inl ⟨by rfl, ?y12⟩) (by assumption) ?r12
          case y12 => (intro w hSw; (try dsimp only at hSw); go_simp; first | done | with_reducible rfl)
          try simp only [Act.put, List.setIfInBounds_toArray, List.set_cons_zero, List.set_cons_succ]
          refine wpAnyH_ready (rs := [8, 9]) (by kernel_rfl) (by simp) ?_
          refine AllReadyH.cons (o := ⟨none, .store 39 (.tmp 28) (.tmp 24), _, _, _, none⟩) rfl (fun K hK => ?_) (AllReadyH.cons (o := ⟨none, .store 37 (.tmp 3) (.tmp 27), _, _, _, none⟩) rfl (fun K hK => ?_) AllReadyH.nil)
          · go_simp
            refine hK.out _ _ (by (try dsimp only); go_keep) (fun hHeld => ?_)
            clear hK K
            try simp only [Act.put, List.setIfInBounds_toArray, List.set_cons_zero, List.set_cons_succ]
            refine wpAnyH_ready (rs := [9]) (by kernel_rfl) (by simp) ?_
            refine AllReadyH.cons (o := ⟨none, .store 37 (.tmp 3) (.tmp 27), _, _, _, none⟩) rfl (fun K hK => ?_) AllReadyH.nil
            go_simp
            refine hK.out _ _ (by (try dsimp only); go_keep) (fun hHeld => ?_)
            clear hK K
            try simp only [Act.put, List.setIfInBounds_toArray, List.set_cons_zero, List.set_cons_succ]
            refine wpAnyH_done (by kernel_rfl) ?_ _
            go_wp2_with fail
            go_roundw
            all_goals try clear hta hone n3 n4
            all_goals first
              | (refine ⟨ll2 + 1, by omega, by go_num, ?_⟩
                 refine note_close HT.out.1 HT.out.2.2.2 HSrc.out H3.out.2.2.2.2.1 H3.out.2.2.1 HH1.out.2.1 HH1.out.1 ⟨_, HH1.out.2.2.2⟩ hne ?_
                 rw [HG.out]
                 with_reducible exact noteA f HH1.out.1 (bare_length g ll2) HH1.out.2.2.2 gL)
              | (simp [intOf]; omega)
          · go_simp
            refine hK.out _ _ (by (try dsimp only); go_keep) (fun hHeld => ?_)
            clear hK K
            try simp only [Act.put, List.setIfInBounds_toArray, List.set_cons_zero, List.set_cons_succ]
            refine wpAnyH_ready (rs := [8]) (by kernel_rfl) (by simp) ?_
            refine AllReadyH.cons (o := ⟨none, .store 39 (.tmp 28) (.tmp 24), _, _, _, none⟩) rfl (fun K hK => ?_) AllReadyH.nil
            go_simp
            refine hK.out _ _ (by (try dsimp only); go_keep) (fun hHeld => ?_)
            clear hK K
            try simp only [Act.put, List.setIfInBounds_toArray, List.set_cons_zero, List.set_cons_succ]
            refine wpAnyH_done (by kernel_rfl) ?_ _
            go_wp2_with fail
            go_roundw
            all_goals try clear hta hone n3 n4
            all_goals first
              | (refine ⟨ll2 + 1, by omega, by go_num, ?_⟩
                 refine note_close HT.out.1 HT.out.2.2.2 HSrc.out H3.out.2.2.2.2.1 H3.out.2.2.1 HH1.out.2.1 HH1.out.1 ⟨_, HH1.out.2.2.2⟩ hne ?_
                 rw [HG.out]
                 with_reducible exact noteB f HH1.out.1 (bare_length g ll2) HH1.out.2.2.2 gL)
              | (simp [intOf]; omega)
    · have hqe : q = n := by omega
      subst hqe
      go_wp2_with fail
      go_returns
      exact ⟨rfl, tO, ⟨_, tL, own_mono town hB⟩, to.mono (fun i _ h => by rcases h with h | h; exact .inl h; exact .inr (.inl h))⟩
end Go.Proofs.YtieidjlmgalihaaGreatDoor
