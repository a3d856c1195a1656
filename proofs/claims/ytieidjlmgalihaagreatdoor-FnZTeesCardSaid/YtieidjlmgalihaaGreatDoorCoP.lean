/- Write of a leaf with fields. -/
import Derived.Test.YtieidjlmgalihaaGreatDoorCoN
set_option linter.all false
namespace Go.Proofs.YtieidjlmgalihaaGreatDoor
open Go.RowKit
set_option maxRecDepth 100000
theorem list_get (L : List Fld) : (List.range L.length).map (fun i => L.getD i default) = L := by
  apply List.ext_getElem
  · simp
  · intro i h1 h2
    simp [List.getD, h2]
theorem carL_get (L : List Fld) : carr (fun i => L.getD i default) L.length = carL L := by rw [← carL_of, list_get]
theorem barL_get (L : List Fld) : bare (fun i => L.getD i default) L.length = barL L := by rw [← barL_of, list_get]
/-- What a leaf's Write leaves. -/
def LeafW (B N n : Nat) (ent lv num : Int) (seenV : Value) (xs : List Value) (L : List Fld) (w : World) (e : Ending) (w' : World) : Prop :=
  ∃ g cap Vf, e = .returned .nilIface ∧ Blk w' N 145 #[.int .i64 ent, .int .i64 lv, .slice (some ⟨g, 0, none⟩) (n + 1) cap] ∧ w'.ownsRow B 196 3 (.slice (some ⟨g, 0, none⟩) (n + 1) cap) (n + 1) (xs ++ [.int .i64 num, .int .i64 ent, Vf]) ∧ w'.ownsRow w.heap.size 39 15 Vf L.length (barL L) ∧ Only (fun k => k = N ∨ seenV.ownBlock = some k) w w' ∧ (seenV.ownBlock = some g ∨ w.heap.size ≤ g)
theorem leafFinW {w W w1 : World} {B N n g cap : Nat} {ent lv num : Int} {seenV Vf : Value} {xs : List Value} {L : List Fld} (q4 : Only (fun k => k = N ∨ seenV.ownBlock = some k) w W)
    (hown1 : w1.ownsRow B 196 3 (.slice (some ⟨g, 0, none⟩) (n + 1) cap) (n + 1) (xs ++ [.int .i64 num, .int .i64 ent, Vf])) (hf : w1.ownsRow w.heap.size 39 15 Vf L.length (barL L)) (ho1 : Only (fun k => seenV.ownBlock = some k) W w1) (hlies : seenV.ownBlock = some g ∨ W.heap.size ≤ g) (hN1 : Blk w1 N 145 #[.int .i64 ent, .int .i64 lv, seenV]) :
    LeafW B N n ent lv num seenV xs L w (.returned .nilIface) (w1.setCell ⟨N, 2, none⟩ (.slice (some ⟨g, 0, none⟩) (n + 1) cap)) := by
  refine ⟨g, cap, Vf, rfl, by simpa using hN1.set_ 2 (.slice (some ⟨g, 0, none⟩) (n + 1) cap), own_only hown1 ((Only.refl (fun k => k = N) w1).setCell (.inl rfl) _) (fun k hk e => own_ne hown1 hN1 (by decide) (by rw [hk, e])), own_only hf ((Only.refl (fun k => k = N) w1).setCell (.inl rfl) _) (fun k hk e => own_ne hf hN1 (by decide) (by rw [hk, e])), ?_, ?_⟩
  · exact (q4.then ho1 (fun i _ h => .inr h)).setCell (.inl (.inl rfl)) _
  · have := q4.size
    rcases hlies with h | h
    · exact .inl h
    · exact .inr (by omega)
/-- A leaf's Write at work: q fields are noted. -/
structure LwSt (w : World) (num ent : Int) (V3 : Value) (m : Nat) (g : Nat → Fld) (q : Nat) (W : World) : Prop where
  seen : ∃ Vf, Blk W (w.heap.size + 1) 196 #[.int .i64 num, .int .i64 ent, Vf] ∧ W.ownsRow w.heap.size 39 15 Vf q (bare g q)
  src : SrcF W V3 m (carr g m)
  below : Below w.heap.size w W
theorem one_fld (f : Fld) : ∀ u ∈ f.arr.toList, u.oneCell' = true := by simp [Value.oneCell']
theorem lw_step {w wr W3 w2 : World} {num ent : Int} {V3 Vf : Value} {m q g1 cap : Nat} {g : Nat → Fld} (st : LwSt w num ent V3 m g q wr) (hX : Blk wr (w.heap.size + 1) 196 #[.int .i64 num, .int .i64 ent, Vf]) (b3 : Below wr.heap.size wr W3) (own3 : W3.ownsRow w.heap.size 39 15 Vf q (bare g q)) (hown1 : w2.ownsRow w.heap.size 39 15 (.slice (some ⟨g1, 0, none⟩) (q + 1) cap) (q + 1) (bare g q ++ (g q).arr.toList)) (ho1 : Only (fun k => Vf.ownBlock = some k) W3 w2) :
    LwSt w num ent V3 m g (q + 1) (w2.setCell ⟨w.heap.size + 1, 2, none⟩ (.slice (some ⟨g1, 0, none⟩) (q + 1) cap)) := by
  have X3 := hX.here b3
  have X2 := X3.only ho1 (own_ne own3 X3 (by decide))
  have hset : Only (fun k => k = w.heap.size + 1) w2 (w2.setCell ⟨w.heap.size + 1, 2, none⟩ (.slice (some ⟨g1, 0, none⟩) (q + 1) cap)) := (Only.refl (fun k => k = w.heap.size + 1) w2).setCell (.inl rfl) _
  have hsz : w.heap.size ≤ W3.heap.size := Nat.le_trans st.below.size b3.size
  have hb2 : Below w.heap.size W3 w2 := ho1.below hsz (fun k hk e => by have := (own3.lt k e).1; omega)
  refine ⟨⟨_, by simpa using X2.set_ 2 (.slice (some ⟨g1, 0, none⟩) (q + 1) cap), ?_⟩, ?_, ?_⟩
  · exact own_only hown1 hset (fun k hk e => own_ne hown1 X2 (by decide) (by rw [hk, e]))
  · exact ((st.src.below b3).only ho1 (fun b cs fz hk => own_tag own3 hk (by decide))).only hset (fun b cs fz hk e => by subst e; exact absurd (blk_tag X2 hk) (by decide))
  · exact ((st.below.trans (b3.mono st.below.size)).trans hb2).setCell (by show w.heap.size ≤ w.heap.size + 1; omega) _
set_option maxHeartbeats 16000000 in
theorem leafWrite (w : World) (B b N n : Nat) (a num ent lv : Int) (seenV V1 V2 : Value) (xs : List Value) (x : Ent) (F fs : List Fld) (hL : Blk w b 150 (leafArr a num V1 N)) (hN : Blk w N 145 #[.int .i64 ent, .int .i64 lv, seenV]) (hown : w.ownsRow B 196 3 seenV n xs) (hB : B ≤ w.heap.size) (hn : n ≤ 1000000) (h1 : SrcF w V1 F.length (carL F)) (h2 : SrcF w V2 fs.length (carL fs)) (hF : F.length ≤ 100000) (hfs : fs.length ≤ 100000) :
    Calls Tryz.prog 264 #[.pointer (some ⟨b, 0, none⟩), .agg x.pub, V2] w (LeafW B N n ent lv num seenV xs (F ++ fs) w) := by
  obtain ⟨A1, k1, rfl⟩ := h1.form
  obtain ⟨A2, k2, rfl⟩ := h2.form
  have d1 := hL.cell 1
  have d2 := hL.cell 2
  have d3 := hL.cell 3
  have e0 := hN.cell 0
  simp only [List.getElem?_toArray, List.getElem?_cons_zero, List.getElem?_cons_succ] at d1 d2 d3 e0
  have bl := hL.lt
  have nl := hN.lt
  have hneN : seenV.ownBlock ≠ some N := own_ne hown hN (by decide)
  have hneL : seenV.ownBlock ≠ some b := own_ne hown hL (by decide)
  have H := Lib.hid (And.intro hL (And.intro hN (And.intro hown (And.intro h1 (And.intro h2 (And.intro hneN hneL))))))
  clear hL hN hown h1 h2 hneN hneL
  go_enter Tryz.func264, Tryz.ntmps264
  go_wp2
  go_region_held3 (fun w' => w'.cell? ⟨b, 1, none⟩ = some (.int .i64 num) ∧ w'.cell? ⟨b, 2, none⟩ = some (.slice A1 F.length k1) ∧ w'.cell? ⟨b, 3, none⟩ = some (.pointer (some ⟨N, 0, none⟩)) ∧ w'.cell? ⟨N, 0, none⟩ = some (.int .i64 ent)) (go_keep) (first
    | go_in)
  have hW5 : ∀ o1 o2 o3 : Obj, Below w.heap.size w (((w.alloc o1).alloc o2).alloc o3).drew := fun o1 o2 o3 => ((((Below.refl _ _).alloc (Nat.le_refl _) o1).alloc (by simp) o2).alloc (by simp; omega) o3).drew
  have hcat := fun o1 o2 => concat_two (((w.alloc o1).alloc o2).alloc (.cells #[.slice A1 F.length k1, .slice A2 fs.length k2] 148)).drew (w.heap.size + 1 + 1) (.slice A1 F.length k1) (.slice A2 fs.length k2) F.length fs.length (carL F) (carL fs) (H.out.2.2.2.1.below (hW5 _ _ _)) (H.out.2.2.2.2.1.below (hW5 _ _ _)) (by simp [go_sem]) (by simp [go_sem]) (by omega) (by omega)
  have HC := Lib.hid (And.intro hcat hW5)
  clear hcat hW5
  go_wp2_with (go_at_call 77; go_must (refine (HC.out.1 (.cells x.pub 154) (.cells #[.int .i64 num, .int .i64 ent, .slice none 0 0] 196)).mono ?_; rintro e w1 ⟨V3, rfl, hc3, hb3, hz3⟩; obtain ⟨A3, k3, rfl⟩ := own_len hc3))
  obtain ⟨g, hg⟩ : ∃ g : Nat → Fld, g = fun i => (F ++ fs).getD i default := ⟨_, rfl⟩
  have hcar : carr g (F.length + fs.length) = carL F ++ carL fs := by rw [hg, ← List.length_append, carL_get, carL_append]
  have hbar : bare g (F.length + fs.length) = barL (F ++ fs) := by rw [hg, ← List.length_append, barL_get]
  clear hg
  have hbelow : Below w.heap.size w w1 := (HC.out.2 _ _ _).trans (hb3.mono (HC.out.2 _ _ _).size)
  have st0 : LwSt w num ent (.slice A3 (F.length + fs.length) k3) (F.length + fs.length) g 0 w1 := by
    refine ⟨⟨.slice none 0 0, ?_, World.ownsRow_nil _ _ _ _⟩, ?_, hbelow⟩
    · exact ((((Blk.new_at (w.alloc _) 196 _ (w.heap.size + 1) (by simp)).alloc _)).drew).here hb3
    · rw [hcar]
      exact src_own hc3 hz3 (fun v hv => by
        rcases List.mem_append.1 hv with h | h
        · exact one_carL _ v h
        · exact one_carL _ v h)
  have HB := Lib.hid (And.intro hcar hbar)
  have hm : F.length + fs.length ≤ 200000 := by omega
  obtain ⟨m, hm2⟩ : ∃ m, F.length + fs.length = m := ⟨_, rfl⟩
  rw [hm2] at HB st0 hm ⊢
  have ST0 := Lib.hid st0
  clear hcar hbar hbelow st0 hc3 hb3 hz3 HC
  go_wp2_with fail
  have hta : ∀ (v : Value) (W : World), (Instr.typeAssert (.iface 39 v) 20 39 false).run Tryz.prog W = .ok v W := fun _ _ => by kernel_rfl
  go_loopw [30] (fun i wr => ∃ q : Nat, q ≤ m ∧ i = .int .i64 q ∧ LwSt w num ent (.slice A3 m k3) m g q wr) (fun i _ => m - (intOf i).toNat)
  case atStart => exact ⟨0, Nat.zero_le _, rfl, ST0.out⟩
  case round =>
    obtain ⟨q, hq, rfl, st⟩ := hrel
    by_cases hlt : q < m
    · obtain ⟨Vf, hX, hown⟩ := st.seen
      obtain ⟨vA, vC, rfl⟩ := own_len hown
      rcases st.src with ⟨h0, _, _⟩ | ⟨h0, bb, off, c', hV, hl, hc, h1, cs, fz, hk⟩
      · omega
      injection hV with hA _ hc2
      subst hA hc2
      have k0 := hc (q * 5) (.string (g q).key) ((carr_at g m q 0 hlt (by omega)).trans rfl)
      have k1 := hc (q * 5 + 1) (.int .u8 27) ((carr_at g m q 1 hlt (by omega)).trans rfl)
      have k2 := hc (q * 5 + 2) (.int .i64 0) ((carr_at g m q 2 hlt (by omega)).trans rfl)
      have k3 := hc (q * 5 + 3) (.string ⟨#[]⟩) ((carr_at g m q 3 hlt (by omega)).trans rfl)
      have k4 := hc (q * 5 + 4) (.iface 39 (.agg (g q).arr)) ((carr_at g m q 4 hlt (by omega)).trans rfl)
      simp only [← Nat.add_assoc] at k0 k1 k2 k3 k4
      have hW3 : Below wr.heap.size wr (wr.alloc (.cells #[.string (g q).key, .int .u8 27, .int .i64 0, .string ⟨#[]⟩, .iface 39 (.agg (g q).arr)] 131)) := (Below.refl _ _).alloc (Nat.le_refl _) _
      have hstep := fun (W3 w2 : World) (g1 cap : Nat) => lw_step (W3 := W3) (w2 := w2) (g1 := g1) (cap := cap) st hX
      have hwx := hX.lt
      have P := Lib.hid (And.intro hstep (And.intro hX (And.intro hown (And.intro hW3 (And.intro st.below.size hwx)))))
      clear st hX hown hW3 hc hl h1 hk hstep h0
      obtain ⟨f, hf⟩ : ∃ f, g q = f := ⟨_, rfl⟩
      rw [hf] at P k0 k4
      have HF := Lib.hid hf
      clear hf
      go_wp2_with fail
      obtain ⟨W3, hW⟩ : ∃ W3 : World, W3 = wr.alloc (.cells #[.string f.key, .int .u8 27, .int .i64 0, .string ⟨#[]⟩, .iface 39 (.agg f.arr)] 131) := ⟨_, rfl⟩
      have b3 : Below wr.heap.size wr W3 := by rw [hW]; exact P.out.2.2.2.1
      have x3 : Blk W3 wr.heap.size 131 #[.string f.key, .int .u8 27, .int .i64 0, .string ⟨#[]⟩, .iface 39 (.agg f.arr)] := by rw [hW]; exact Blk.new _ _ _
      rw [← hW]
      clear hW k0 k1 k2 k3 k4
      have X3 := P.out.2.1.here b3
      have own3 := own_only P.out.2.2.1 (Only.none_of_below (S := fun _ => False) b3) (fun _ _ h => h)
      have e2 : W3.cell? ⟨w.heap.size + 1, 2, none⟩ = some (.slice vA q vC) := X3.cell 2
      have e4 : W3.cell? ⟨wr.heap.size, 4, none⟩ = some (.iface 39 (.agg f.arr)) := x3.cell 4
      have el1 := X3.lt
      have el2 := x3.lt
      have u1 := ups el1
      have u2 := ups el2
      have hB3 : w.heap.size ≤ W3.heap.size := Nat.le_trans P.out.2.2.2.2.1 b3.size
      have hmax : q + 1 ≤ maxLen := by unfold maxLen; omega
      have hbyt : (q + 1) * 184 ≤ 140737488355328 := by omega
      have hneX : (Value.slice vA q vC).ownBlock ≠ some (w.heap.size + 1) := own_ne own3 X3 (by decide)
      have Q := Lib.hid (And.intro b3 (And.intro X3 (And.intro own3 (And.intro hB3 hneX))))
      have hone := one_fld f
      clear b3 x3 X3 own3 hB3 hneX
      go_region_law (refine step_append1 rfl (.tmp 35) (.tmp 39) 37 rfl w.heap.size 39 _ 15 184 info39 Tryz.underlying37 rfl (by decide) (.slice vA q vC) q (bare g q) W3 rfl Q.out.2.2.1 f.arr _ rfl rfl rfl hone hmax hbyt Q.out.2.2.2.1 ?_; intro g1 cap w2 hown1 ho1 hlies hlt2; have X2 := Q.out.2.1.only ho1 Q.out.2.2.2.2; have xc : w2.cell? ⟨w.heap.size + 1, 2, none⟩ = some (.slice vA q vC) := X2.cell 2; have xf := X2.frozen; have xl := X2.lt; have R := Lib.hid (And.intro hown1 ho1); clear hown1 ho1 X2 hlies)
      all_goals go_wp2_with fail
      all_goals go_roundw
      all_goals first
        | exact ⟨q + 1, by omega, by go_num, P.out.1 _ _ _ _ Q.out.1 Q.out.2.2.1 R.out.1 R.out.2⟩
        | (simp [intOf]; omega)
    · obtain rfl : q = m := by omega
      obtain ⟨Vf, hX, hown⟩ := st.seen
      obtain ⟨vA, vC, rfl⟩ := own_len hown
      have hb := st.below
      have hL := H.out.1.here hb
      have hN := H.out.2.1.here hb
      have hseen := own_only H.out.2.2.1 (Only.none_of_below (S := fun _ => False) hb) (fun _ _ h => h)
      have p1 := hN.cell 2
      have p2 := hX.cell 0
      have p3 := hX.cell 1
      have p4 := hX.cell 2
      have p5 := hL.cell 3
      simp only [List.getElem?_toArray, List.getElem?_cons_zero, List.getElem?_cons_succ] at p1 p2 p3 p4 p5
      have z1 := hN.lt
      have z2 := hX.lt
      have z3 := hL.lt
      have q1 := ups hN.lt
      have q2 := ups hX.lt
      have q3 := ups hL.lt
      have nf := hN.frozen
      have hbar := HB.out.2
      have hBw : B ≤ wr.heap.size := Nat.le_trans hB hb.size
      have hmax : n + 1 ≤ maxLen := by unfold maxLen; omega
      have hbyt : (n + 1) * 40 ≤ 140737488355328 := by omega
      have hone : ∀ u ∈ (#[.int .i64 num, .int .i64 ent, .slice vA q vC] : Array Value).toList, u.oneCell' = true := by simp [Value.oneCell']
      have hoL : seenV.ownBlock ≠ some b := own_ne hseen hL (by decide)
      have hoN : seenV.ownBlock ≠ some N := own_ne hseen hN (by decide)
      have hoF := own_ne_own hseen hown (by decide)
      have Q := Lib.hid (And.intro hL (And.intro hN (And.intro hseen (And.intro hown (And.intro hb (And.intro hoL (And.intro hoN (And.intro hoF hbar))))))))
      clear st hX hown hb hL hN hseen hoL hoN hoF hbar
      go_wp2_with fail
      go_region_law (refine step_append1 rfl (.tmp 53) (.tmp 55) 74 rfl B 196 (.agg #[.int .i64 0, .int .i64 0, .slice none 0 0]) 3 40 info196 Tryz.underlying74 rfl (by decide) seenV n xs wr rfl Q.out.2.2.1 #[.int .i64 num, .int .i64 ent, .slice vA q vC] _ rfl rfl rfl hone hmax hbyt hBw ?_; intro g1 cap w2 hown1 ho1 hlies hlt; have hN1 := Q.out.2.1.only ho1 Q.out.2.2.2.2.2.2.1; obtain ⟨c3, f3, l3⟩ := hN1.use; have pL : w2.cell? ⟨b, 3, none⟩ = some (.pointer (some ⟨N, 0, none⟩)) := (Q.out.1.only ho1 Q.out.2.2.2.2.2.1).cell 3; have FIN := Lib.hid (leafFinW (lv := lv) (L := F ++ fs) (Only.none_of_below Q.out.2.2.2.2.1) hown1 (by rw [List.length_append, hm2, ← Q.out.2.2.2.2.2.2.2.2]; exact own_only Q.out.2.2.2.1 ho1 (fun g hg h => Q.out.2.2.2.2.2.2.2.1 g h hg)) ho1 hlies hN1))
      all_goals go_wp2
      all_goals go_ret
      all_goals exact FIN.out
end Go.Proofs.YtieidjlmgalihaaGreatDoor
