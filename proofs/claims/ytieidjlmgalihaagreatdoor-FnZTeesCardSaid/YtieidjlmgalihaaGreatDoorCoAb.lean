/- coreOf: a core of kids. -/
import Derived.Test.YtieidjlmgalihaaGreatDoorCoAa
set_option linter.all false
namespace Go.Proofs.YtieidjlmgalihaaGreatDoor
open Go.RowKit
set_option maxRecDepth 100000
theorem Arg.cells {w : World} {b q : Nat} {kind lev : Int} {kA fA : Option Addr} {kn kc fn fc : Nat} {kid : Nat → Arg} {fld : Nat → Fld} (h : ∀ j, j < 4 → w.cell? ⟨b, q + j, none⟩ = (Arg.mk kind lev kA kn kc fA fn fc kid fld).arr[j]?) : w.cell? ⟨b, q, none⟩ = some (.int .i64 kind) ∧ w.cell? ⟨b, q + 1, none⟩ = some (.int .i64 lev) ∧ w.cell? ⟨b, q + 2, none⟩ = some (.slice kA kn kc) ∧ w.cell? ⟨b, q + 3, none⟩ = some (.slice fA fn fc) :=
  ⟨h 0 (by omega), h 1 (by omega), h 2 (by omega), h 3 (by omega)⟩
/-- coreOf in the midst of its kids. -/
structure CfSt (w : World) (S : Typ) (N B m : Nat) (ent : Int) (seenV : Value) (box : Array Value) (f : Nat → Nat → Nat × Option Cor) (k : Nat) (V : Value) (W : World) (l : List Cor) (m1 : Nat) (S1 : Typ) : Prop where
  built : buildAll f k m = (m1, some l)
  bst : Bst S N B w S1 W
  kids : Kids S1 w.heap.size W V l
  notes : Blk W N 145 #[.int .i64 ent, .int .i64 m1, seenV]
  box : Blk W w.heap.size 69 box
theorem cf_call {w wr wa w2 : World} {S S1 S2 : Typ} {N B m m1 : Nat} {ent : Int} {seenV V : Value} {box : Array Value} {f : Nat → Nat → Nat × Option Cor} {k : Nat} {l : List Cor} (st : CfSt w S N B m ent seenV box f k V wr l m1 S1) (hba : Below wr.heap.size wr wa) (h : Hp S N B w) (s2 : Bst S1 N B wa S2 w2) :
    ∃ vs, w2.ownsRow w.heap.size 139 1 V l.length vs ∧ (∀ (i : Nat) (c : Cor), l[i]? = some c → ∃ v, vs[i]? = some v ∧ RepC S2 v c) ∧ (∀ g, V.ownBlock = some g → S2 g = none) ∧ Bst S N B w S2 w2 ∧ Blk w2 w.heap.size 69 box := by
  have hpa := st.bst.hp.here hba
  have ha : Bst S1 N B wr S1 wa := Bst.of (Stp.of_below st.bst.hp hba)
  have hNa := st.notes.here hba
  have ka := st.kids.step st.bst.hp st.notes ha
  have k2 := ka.step hpa hNa s2
  obtain ⟨vs, q1, q2⟩ := k2.row
  exact ⟨vs, q1, q2, k2.off, (st.bst.trans ha).trans s2, s2.blk hpa hNa (st.box.here hba) (by decide) (by decide)⟩
theorem cf_step {w w2 w3 : World} {S S2 : Typ} {N B m m1 m2 g cap : Nat} {ent : Int} {seenV V v : Value} {box : Array Value} {f : Nat → Nat → Nat × Option Cor} {k : Nat} {l : List Cor} {c : Cor} {vs : List Value} (hbuilt : buildAll f k m = (m1, some l)) (hb2 : f k m1 = (m2, some c)) (r2 : RepC S2 v c) (n2 : Blk w2 N 145 #[.int .i64 ent, .int .i64 m2, seenV])
    (hown : w2.ownsRow w.heap.size 139 1 V l.length vs) (hrep : ∀ (i : Nat) (c : Cor), l[i]? = some c → ∃ v, vs[i]? = some v ∧ RepC S2 v c) (hoff : ∀ g, V.ownBlock = some g → S2 g = none) (hb : Bst S N B w S2 w2) (hbox : Blk w2 w.heap.size 69 box)
    (hown3 : w3.ownsRow w.heap.size 139 1 (.slice (some ⟨g, 0, none⟩) (l.length + 1) cap) (l.length + 1) (vs ++ [v])) (ho3 : Only (fun k => V.ownBlock = some k) w2 w3) (hlies : V.ownBlock = some g ∨ w2.heap.size ≤ g) :
    CfSt w S N B m ent seenV box f (k + 1) (.slice (some ⟨g, 0, none⟩) (l.length + 1) cap) w3 (l ++ [c]) m2 S2 := by
  have hvs : vs.length = l.length := by have := hown.1; simpa using this
  refine ⟨buildAll_snoc hbuilt hb2, hb.row hown hoff ho3, Kids.snoc hvs hrep r2 hown3 ?_, n2.only ho3 (own_ne hown n2 (by decide)), hbox.only ho3 (own_ne hown hbox (by decide))⟩
  rcases hlies with h | h
  · exact hoff g h
  · exact hb.hp.off h
/-- What is made of the kids, if it is no tee. -/
def restOf (kind lev : Int) (fn : Nat) (fld : Nat → Fld) (m1 : Nat) : List Cor → Nat × Option Cor
  | [] => (m1, none)
  | c :: _ =>
    if kind = 2 then (m1, if incOk c (IntKind.i8.wrap lev) then some (.inc (IntKind.i8.wrap lev) c) else none)
    else if kind = 3 then (m1, some (c.wth ((List.range fn).map fld)))
    else if kind = 4 then (m1, some (.lazy c ((List.range fn).map fld)))
    else (m1, none)
theorem build_rest {kind lev : Int} {kA fA : Option Addr} {kn kc fn fc m m1 : Nat} {kid : Nat → Arg} {fld : Nat → Fld} {l : List Cor} (h0 : kind ≠ 0) (h5 : kind ≠ 5) (h1 : kind ≠ 1) (h : buildAll (fun i => (kid i).build) kn m = (m1, some l)) : (Arg.mk kind lev kA kn kc fA fn fc kid fld).build m = restOf kind lev fn fld m1 l := by
  simp only [Arg.build]
  rw [if_neg h0, if_neg h5, h]
  simp only
  rw [if_neg h1]
  cases l <;> rfl
theorem rest2_no {lev : Int} {fn m1 : Nat} {fld : Nat → Fld} {c : Cor} {t : List Cor} (h : incOk c (IntKind.i8.wrap lev) = false) : restOf 2 lev fn fld m1 (c :: t) = (m1, none) := by simp [restOf, h]
theorem rest2_yes {lev : Int} {fn m1 : Nat} {fld : Nat → Fld} {c : Cor} {t : List Cor} (h : incOk c (IntKind.i8.wrap lev) = true) : restOf 2 lev fn fld m1 (c :: t) = (m1, some (.inc (IntKind.i8.wrap lev) c)) := by simp [restOf, h]
set_option maxHeartbeats 16000000 in
theorem cof_kids (w0 w : World) (S : Typ) (N m kf dk : Nat) (ent kind lev : Int) (seenV : Value) (kA fA : Option Addr) (kn kc fn fc : Nat) (kid : Nat → Arg) (fld : Nat → Fld) (h0 : kind ≠ 0) (h5 : kind ≠ 5) (ha : ArgAt kf (dk + 1) w0 (.mk kind lev kA kn kc fA fn fc kid fld)) (hb0 : Below w0.heap.size w0 w)
    (h : Hp S N w0.heap.size w) (hBN : w0.heap.size ≤ N) (hN : Blk w N 145 #[.int .i64 ent, .int .i64 m, seenV]) (hm : m + (Arg.mk kind lev kA kn kc fA fn fc kid fld).cnt ≤ 1000000) (hz : (Arg.mk kind lev kA kn kc fA fn fc kid fld).sz ≤ 300000)
    (ih : ∀ i, i < kn → ∀ (S1 : Typ) (W : World) (m1 : Nat), Below w0.heap.size w0 W → Hp S1 N w0.heap.size W → Blk W N 145 #[.int .i64 ent, .int .i64 m1, seenV] → m1 + (kid i).cnt ≤ 1000000 → Calls Tryz.prog 81 #[.agg (kid i).arr, .pointer (some ⟨N, 0, none⟩)] W (CofPost (kid i) m1 ent seenV S1 N w0.heap.size W)) :
    Calls Tryz.prog 81 #[.agg (Arg.mk kind lev kA kn kc fA fn fc kid fld).arr, .pointer (some ⟨N, 0, none⟩)] w (CofPost (.mk kind lev kA kn kc fA fn fc kid fld) m ent seenV S N w0.heap.size w) := by
  obtain ⟨hkn, hrow, hkids, hflds, hfn⟩ := ha
  have harr : (Arg.mk kind lev kA kn kc fA fn fc kid fld).arr = #[.int .i64 kind, .int .i64 lev, .slice kA kn kc, .slice fA fn fc] := rfl
  have hba : Below w.heap.size w (w.alloc (.cells #[.int .i64 kind, .int .i64 lev, .slice kA kn kc, .slice fA fn fc] 69)) := (Below.refl _ _).alloc (Nat.le_refl _) _
  have st0 : CfSt w S N w0.heap.size m ent seenV #[.int .i64 kind, .int .i64 lev, .slice kA kn kc, .slice fA fn fc] (fun i => (kid i).build) 0 (.slice none 0 0) (w.alloc (.cells #[.int .i64 kind, .int .i64 lev, .slice kA kn kc, .slice fA fn fc] 69)) [] m S :=
    ⟨rfl, Bst.of (Stp.of_below h hba), ⟨⟨[], World.ownsRow_nil _ _ _ _, fun i c hc => by simp at hc⟩, fun g hg => by simp [Value.ownBlock] at hg⟩, hN.here hba, Blk.new _ _ _⟩
  have hcnt : (Arg.mk kind lev kA kn kc fA fn fc kid fld).cnt = sumN (fun i => (kid i).cnt) kn := by simp [Arg.cnt, h0]
  rw [hcnt] at hm
  have H := Lib.hid (And.intro h (And.intro hrow (And.intro hkids (And.intro hflds (And.intro hfn (And.intro hz (And.intro ih (And.intro hb0 (And.intro hm st0)))))))))
  clear h hrow hkids hflds hfn hz ih hm st0 hba hcnt hN
  rw [harr]
  have h0b : (kind == 0) = false := by simpa using h0
  have h5b : (kind == 5) = false := by simpa using h5
  go_enter Tryz.func81, Tryz.ntmps81
  go_wp2_with fail
  go_loopw [43, 6] (fun i V wr => ∃ (k : Nat) (l : List Cor) (m1 : Nat) (S1 : Typ), k ≤ kn ∧ i = .int .i64 k ∧ CfSt w S N w0.heap.size m ent seenV #[.int .i64 kind, .int .i64 lev, .slice kA kn kc, .slice fA fn fc] (fun i => (kid i).build) k V wr l m1 S1) (fun i _ _ => kn - (intOf i).toNat)
  case atStart => exact ⟨0, [], m, S, Nat.zero_le _, rfl, H.out.2.2.2.2.2.2.2.2.2⟩
  case round =>
    obtain ⟨k, l, m1, S1, hk, rfl, st⟩ := hrel
    have hlk : l.length = k := buildAll_len _ k m l m1 st.built
    by_cases hlt : k < kn
    · have hbw : Below w0.heap.size w0 wr := H.out.2.2.2.2.2.2.2.1.trans (st.bst.below H.out.1 hBN)
      obtain ⟨b, off, rfl, _, hc⟩ := (H.out.2.1.below hbw) k hlt
      have hka := H.out.2.2.1 k hlt
      have hbound : m1 + (kid k).cnt ≤ 1000000 := by
        have h1 := (buildAll_m (fun i => (kid i).build) (fun i => (kid i).cnt) (fun i m m1 r => build_m (kid i) m m1 r) k m m1 _ st.built).2
        have h2 : sumN (fun i => (kid i).cnt) k + (kid k).cnt ≤ sumN (fun i => (kid i).cnt) kn := sumN_part (fun i => (kid i).cnt) hlt
        have h3 := H.out.2.2.2.2.2.2.2.2.1
        omega
      have hih := H.out.2.2.2.2.2.2.1 k hlt
      have hbs : ∀ m2 r, (fun i => (kid i).build) k m1 = (m2, r) ↔ (kid k).build m1 = (m2, r) := fun _ _ => Iff.rfl
      cases hkk : kid k with
      | nil => rw [hkk] at hka; cases dk <;> exact hka.elim
      | mk k1 l1 A1 n1 c1 A2 n2 c2 kd fl =>
        have hcs := Arg.cells (kid := kd) (fld := fl) (by simp only [hkk] at hc; exact hc)
        obtain ⟨vs, hown, hrep⟩ := st.kids.row
        obtain ⟨vA, vC, rfl⟩ := own_len hown
        have hba : ∀ o, Below wr.heap.size wr (wr.alloc o) := fun o => (Below.refl _ _).alloc (Nat.le_refl _) o
        have harr2 : (Arg.mk k1 l1 A1 n1 c1 A2 n2 c2 kd fl).arr = #[.int .i64 k1, .int .i64 l1, .slice A1 n1 c1, .slice A2 n2 c2] := rfl
        rw [hkk] at hih hbound
        have hcall := hih S1 (wr.alloc (.cells #[.int .i64 k1, .int .i64 l1, .slice A1 n1 c1, .slice A2 n2 c2] 69)) m1 (hbw.trans ((hba _).mono hbw.size)) (st.bst.hp.here (hba _)) (st.notes.here (hba _)) hbound
        rw [harr2] at hcall
        have hkid : (kid k).build = (Arg.mk k1 l1 A1 n1 c1 A2 n2 c2 kd fl).build := by rw [hkk]
        have hwsz := st.bst.only.size
        have P := Lib.hid (And.intro st (And.intro hcall (And.intro hbw (And.intro hkid (And.intro hba hlk)))))
        have hl1 : l.length ≤ 1000 := by omega
        clear hcall hbw hkid hba hih hbs hka hc hbound hkk harr2 hown hrep st hlk
        go_wp2_with (first
          | (go_at_call 81; go_must (refine P.out.2.1.mono ?_; rintro e w2 (⟨m2, c, v, S2, hb2, rfl, s2, r2, n2⟩ | ⟨m2, hb2, rfl, hbel⟩); obtain ⟨T, u, rfl⟩ := r2.form; obtain ⟨vs, hown, hrep, hoff, R⟩ := cf_call P.out.1 (P.out.2.2.2.2.1 _) H.out.1 s2; have R2 := Lib.hid (And.intro hb2 (And.intro r2 (And.intro n2 (And.intro hrep (And.intro hoff R))))); have hbase := R.1.only.size; clear hb2 s2 r2 n2 hrep hoff R))
          | (at_builtin; go_must (refine wpList_append1 rfl (.tmp 55) (.tmp 57) 247 rfl w.heap.size 139 .nilIface 1 16 info139 Tryz.underlying247 rfl (by decide) (.slice vA l.length vC) l.length vs _ rfl hown #[.iface T u] _ rfl (by simp) rfl (by simp [Value.oneCell']) (by unfold maxLen; omega) (by omega) hbase ?_; intro g cap w3 hown3 ho3 hlies hg3)))
        · refine ⟨⟨k + 1, l ++ [c], m2, S2, by omega, by go_num, cf_step P.out.1.built (by show (kid k).build m1 = _; rw [P.out.2.2.2.1]; exact R2.out.1) R2.out.2.1 R2.out.2.2.1 hown R2.out.2.2.2.1 R2.out.2.2.2.2.1 R2.out.2.2.2.2.2.1 R2.out.2.2.2.2.2.2 hown3 ho3 hlies⟩, by simp [intOf]; omega⟩
        · go_ret2
          obtain ⟨m3, h3⟩ := buildAll_none _ m k m1 m2 l P.out.1.built (by show (kid k).build m1 = _; rw [P.out.2.2.2.1]; exact hb2) kn hlt
          have hwr := P.out.1.bst.below H.out.1 hBN
          exact .inr ⟨m3, build_fail h0 h5 h3, rfl, (hwr.trans ((P.out.2.2.2.2.1 _).mono P.out.2.2.1.size)).trans hbel⟩
    · obtain rfl : k = kn := by omega
      have hbw : Below w0.heap.size w0 wr := H.out.2.2.2.2.2.2.2.1.trans (st.bst.below H.out.1 hBN)
      have hF := H.out.2.2.2.1.below hbw
      have bc := Arg.cells (kid := kid) (fld := fld) (b := w.heap.size) (q := 0) (fun j hj => by rw [Nat.zero_add]; exact (st.box.cell j))
      simp only [Nat.zero_add] at bc
      obtain ⟨vs, hown, hrep⟩ := st.kids.row
      obtain ⟨vA, vC, rfl⟩ := own_len hown
      have hl1 : l.length ≤ 1000 := by omega
      by_cases k1 : kind = 1
      · subst k1
        have htee := newTee wr S1 N w0.heap.size w.heap.size (.slice vA l.length vC) l st.bst.hp st.kids H.out.2.2.2.2.2.2.2.1.size hl1
        have P := Lib.hid (And.intro st (And.intro htee hlk))
        clear st htee hown hrep hF hlk
        go_wp2_with (go_at_call 120; go_must (refine P.out.2.1.mono ?_; rintro e w2 ⟨v, S2, rfl, rfl, q1, q2, q3, q4⟩))
        go_ret2
        have hown2 := P.out.1.kids.row
        refine .inl ⟨m1, teeOf l, _, S2, by rw [tee_build, P.out.1.built], rfl, ⟨fun b t e => q1 b t (P.out.1.bst.up b t e), fun b hb e => q2 b (P.out.1.bst.new b hb e) (fun hv => ?_), q3, P.out.1.bst.only⟩, q4, P.out.1.notes⟩
        obtain ⟨vs, ho, _⟩ := hown2
        have := (ho.lt b hv).1
        omega
      · have k1b : (kind == 1) = false := by simpa using k1
        have hbl := build_rest (lev := lev) (kA := kA) (kc := kc) (fA := fA) (fn := fn) (fc := fc) (fld := fld) h0 h5 k1 st.built
        have hrest := st.bst.below H.out.1 hBN
        have P := Lib.hid (And.intro hbl (And.intro hrest (And.intro st (And.intro hF hlk))))
        clear hbl hrest st hF hlk
        cases l with
        | nil =>
          clear hown hrep
          go_wp2_with fail
          go_ret2
          exact .inr ⟨m1, P.out.1, rfl, P.out.2.1⟩
        | cons c0 t =>
          obtain ⟨v0, hv0, hr0⟩ := hrep 0 c0 rfl
          obtain ⟨g0, cap0, hg0, gl0, gc0, _⟩ := own_at hown (k := 0) (by simp)
          injection hg0 with e1 _ e3
          subst e1 e3
          rw [hv0] at gc0
          obtain ⟨T, u, rfl⟩ := hr0.form
          have R := Lib.hid (And.intro hr0 hown)
          clear hr0 hown hrep hv0
          by_cases k2 : kind = 2
          · subst k2
            have bx := P.out.2.2.1.box.cell 1
            simp only [List.getElem?_toArray, List.getElem?_cons_zero, List.getElem?_cons_succ] at bx
            have bxl := P.out.2.2.1.box.lt
            have hinc := newInc wr.drew S1 N w0.heap.size (.iface T u) c0 (IntKind.i8.wrap lev) (P.out.2.2.1.bst.hp.here (Below.refl _ _).drew) R.out.1
            cases hi : incOk c0 (IntKind.i8.wrap lev)
            · have HC := Lib.hid (hinc.mono (fun e w h => (by
                rcases h with h | h
                · rw [hi] at h; cases h.1
                · exact h.2 : ∃ T q, e = .returned (.tuple #[.nilIface, .iface T q]) ∧ Below wr.drew.heap.size wr.drew w)))
              have HI := Lib.hid hi
              clear hinc hi
              go_wp2_with fail
              go_region_with (first
                | (go_at_call 121; go_must (refine HC.out.mono ?_; rintro e w1 ⟨T1, q1, rfl, hb1⟩; have Q := Lib.hid ((Below.refl wr.heap.size wr).drew.trans hb1); clear hb1))
                | fail)
              all_goals go_wp2_with fail
              all_goals go_region
              all_goals go_wp2_with fail
              all_goals refine bodyPost_ret (v := .tuple #[.nilIface, .bool false]) (by simp [results, Tryz.results81, go_sem]) rfl ?_
              all_goals exact .inr ⟨m1, P.out.1.trans (rest2_no HI.out), rfl, (P.out.2.1.trans (Q.out.mono P.out.2.2.1.bst.hp.base)).drew⟩
            · have HC := Lib.hid (hinc.mono (fun e w h => (by
                rcases h with h | h
                · exact h.2
                · rw [hi] at h; cases h.1 : ∃ u S', e = .returned (.tuple #[u, .nilIface]) ∧ Stp S1 N w0.heap.size wr.drew S' w ∧ RepC S' u (.inc (IntKind.i8.wrap lev) c0))))
              have HI := Lib.hid hi
              clear hinc hi
              go_wp2_with fail
              go_region_with (first
                | (go_at_call 121; go_must (refine HC.out.mono ?_; rintro e w1 ⟨u1, S2, rfl, s2, r2⟩; obtain ⟨T1, q1, rfl⟩ := r2.form; have Z := Lib.hid (And.intro s2 r2); clear s2 r2))
                | fail)
              all_goals go_wp2_with fail
              all_goals go_region
              all_goals go_wp2_with fail
              all_goals refine bodyPost_ret (v := .tuple #[.iface T1 q1, .bool true]) (by simp [results, Tryz.results81, go_sem]) rfl ?_
              all_goals exact .inl ⟨m1, _, _, S2, P.out.1.trans (rest2_yes HI.out), rfl, P.out.2.2.1.bst.trans (Bst.of (((Stp.of_below P.out.2.2.1.bst.hp (Below.refl _ _).drew).trans Z.out.1).trans (Stp.of_below Z.out.1.hp (Below.refl _ _).drew))), Z.out.2, (Z.out.1.blk (P.out.2.2.1.bst.hp.here (Below.refl _ _).drew) (P.out.2.2.1.notes.here (Below.refl _ _).drew) (by decide)).drew⟩
          by_cases k3 : kind = 3
          · subst k3
            have bx := P.out.2.2.1.box.cell 3
            simp only [List.getElem?_toArray, List.getElem?_cons_zero, List.getElem?_cons_succ] at bx
            have bxl := P.out.2.2.1.box.lt
            have hk0 : 0 < k := by have := P.out.2.2.2.2; simp at this; omega
            have hsz : c0.sz + fn ≤ 300000 := by
              obtain ⟨_, hcc⟩ := buildAll_le (fun i => (kid i).build) (fun c i => c.sz ≤ (kid i).sz) (fun i m m1 c h => (build_le (kid i) m m1 c h).2.2) k m m1 _ P.out.2.2.1.built
              have q1 := hcc 0 c0 rfl
              have q2 := le_supN (fun i => (kid i).sz) hk0
              have q3 : supN (fun i => (kid i).sz) k + fn ≤ 300000 := H.out.2.2.2.2.2.1
              have q2' : (kid 0).sz ≤ supN (fun i => (kid i).sz) k := q2
              omega
            have hcar := carried_any wr.drew fA fn fc fld (by have := H.out.2.2.2.2.1; omega) (P.out.2.2.2.1.2.1.below (Below.refl _ _).drew)
            have HC := Lib.hid (And.intro hcar hsz)
            clear hcar hsz
            go_wp2_with fail
            go_region_with (first
              | (go_at_call 78; go_must (refine HC.out.1.mono ?_; rintro e w1 ⟨V1, rfl, hc1, hb1, hz1⟩; obtain ⟨A1, kk1, rfl⟩ := own_len hc1; have e1 : w1.cell? ⟨g0, 0, none⟩ = some (.iface T u) := (hb1.cell (p := ⟨g0, 0, none⟩) gl0).trans gc0; have e2 : w1.cell? ⟨w.heap.size, 3, none⟩ = some (.slice fA fn fc) := (hb1.cell (p := ⟨w.heap.size, 3, none⟩) bxl).trans bx; have Q := Lib.hid (And.intro (src_own hc1 hz1 (one_carr _ _)) ((Below.refl wr.heap.size wr).drew.trans hb1)); obtain ⟨f, r, hm, hcf, hcall⟩ := (with_all c0.ht c0 S1 N w0.heap.size w1 (.iface T u) (.slice A1 fn kk1) ((List.range fn).map fld) (Nat.le_refl _) (by rw [List.length_map, List.length_range]; have := HC.out.2; omega) (P.out.2.2.1.bst.hp.here Q.out.2) R.out.1 (by rw [carL_of, List.length_map, List.length_range]; exact Q.out.1)).at_; have hcall : Calls Tryz.prog f #[r, .slice A1 fn kk1] w1 (WithPost S1 N w0.heap.size w1 c0 ((List.range fn).map fld)) := hcall; have Y := Lib.hid hcall; clear hc1 hb1 hz1 hcall))
              | (refine Y.out.mono ?_; rintro e w2 ⟨u2, S2, rfl, s2, r2⟩; obtain ⟨T2, q2, rfl⟩ := r2.form; have Z := Lib.hid (And.intro s2 r2); clear s2 r2))
            all_goals go_wp2_with fail
            all_goals go_ret2
            all_goals exact .inl ⟨m1, _, _, S2, by rw [P.out.1]; rfl, rfl, P.out.2.2.1.bst.trans (Bst.of ((Stp.of_below P.out.2.2.1.bst.hp Q.out.2).trans Z.out.1)), Z.out.2, Z.out.1.blk (P.out.2.2.1.bst.hp.here Q.out.2) (P.out.2.2.1.notes.here Q.out.2) (by decide)⟩
          by_cases k4 : kind = 4
          · subst k4
            have bx := P.out.2.2.1.box.cell 3
            simp only [List.getElem?_toArray, List.getElem?_cons_zero, List.getElem?_cons_succ] at bx
            have bxl := P.out.2.2.1.box.lt
            have hcar := carried_any wr.drew fA fn fc fld (by have := H.out.2.2.2.2.1; omega) (P.out.2.2.2.1.2.1.below (Below.refl _ _).drew)
            have HC := Lib.hid hcar
            clear hcar
            go_wp2_with fail
            go_region_with (first
              | (go_at_call 78; go_must (refine HC.out.mono ?_; rintro e w1 ⟨V1, rfl, hc1, hb1, hz1⟩; obtain ⟨A1, kk1, rfl⟩ := own_len hc1; have e1 : w1.cell? ⟨g0, 0, none⟩ = some (.iface T u) := (hb1.cell (p := ⟨g0, 0, none⟩) gl0).trans gc0; have e2 : w1.cell? ⟨w.heap.size, 3, none⟩ = some (.slice fA fn fc) := (hb1.cell (p := ⟨w.heap.size, 3, none⟩) bxl).trans bx; have Q := Lib.hid (And.intro (src_own hc1 hz1 (one_carr _ _)) ((Below.refl wr.heap.size wr).drew.trans hb1)); clear hc1 hb1 hz1))
              | (go_at_call 122; go_must (refine (newLazy w1 S1 N w0.heap.size _ _ c0 ((List.range fn).map fld) (P.out.2.2.1.bst.hp.here Q.out.2) R.out.1 (by rw [carL_of, List.length_map, List.length_range]; exact Q.out.1)).mono ?_; rintro e w2 ⟨u2, S2, rfl, s2, r2⟩; obtain ⟨T2, q2, rfl⟩ := r2.form; have Z := Lib.hid (And.intro s2 r2); clear s2 r2)))
            all_goals go_wp2_with fail
            all_goals go_ret2
            all_goals exact .inl ⟨m1, _, _, S2, by rw [P.out.1]; rfl, rfl, P.out.2.2.1.bst.trans (Bst.of ((Stp.of_below P.out.2.2.1.bst.hp Q.out.2).trans Z.out.1)), Z.out.2, Z.out.1.blk (P.out.2.2.1.bst.hp.here Q.out.2) (P.out.2.2.1.notes.here Q.out.2) (by decide)⟩
          have k2b : (kind == 2) = false := by simpa using k2
          have k3b : (kind == 3) = false := by simpa using k3
          have k4b : (kind == 4) = false := by simpa using k4
          go_wp2_with fail
          go_ret2
          refine .inr ⟨m1, ?_, rfl, P.out.2.1⟩
          rw [P.out.1]
          simp only [restOf]
          rw [if_neg k2, if_neg k3, if_neg k4]
end Go.Proofs.YtieidjlmgalihaaGreatDoor
