/- zSameWritten: the walk. -/
import Derived.Test.YtieidjlmgalihaaGreatDoorCoAj
import Derived.Test.YtieidjlmgalihaaGreatDoorCoAe
import Derived.Test.YtieidjlmgalihaaGreatDoorWk3
set_option linter.all false
namespace Go.Proofs.YtieidjlmgalihaaGreatDoor
open Go.RowKit
set_option maxRecDepth 100000
/-- Entries and fields that are looked at. -/
structure Inp (kf : Nat) (w : World) (A1 : Option Addr) (n1 : Nat) (es : Nat → Ent) (A2 : Option Addr) (n2 : Nat) (fs : Nat → FRow) : Prop where
  le1 : n1 ≤ 20
  le2 : n2 ≤ 20
  ents : RowAt w A1 n1 12 fun i => (es i).arr
  nanos : ∀ i, i < n1 → -9223372036854775808 ≤ (es i).nanos ∧ (es i).nanos ≤ 9223372036854775807
  rows : RowAt w A2 n2 1 fun i => (fs i).arr
  flds : ∀ i, i < n2 → FldsOk kf w (fs i).A (fs i).n (fs i).g ∧ (fs i).n ≤ 300
theorem Inp.below {kf : Nat} {w w' : World} {A1 A2 : Option Addr} {n1 n2 : Nat} {es : Nat → Ent} {fs : Nat → FRow} (h : Inp kf w A1 n1 es A2 n2 fs) (hb : Below w.heap.size w w') : Inp kf w' A1 n1 es A2 n2 fs :=
  ⟨h.le1, h.le2, h.ents.below hb, h.nanos, h.rows.below hb, fun i hi => ⟨(h.flds i hi).1.below hb, (h.flds i hi).2⟩⟩
/-- A core that may be asked for. -/
structure Ask (kf dk : Nat) (w : World) (a : Arg) : Prop where
  at_ : ArgAt kf dk w a
  cnt : a.cnt ≤ 25000
  sz : a.sz ≤ 10000
theorem Ask.below {kf dk : Nat} {w w' : World} {a : Arg} (h : Ask kf dk w a) (hb : Below w.heap.size w w') : Ask kf dk w' a := ⟨h.at_.below hb, h.cnt, h.sz⟩
theorem Ask.form {kf dk : Nat} {w : World} {a : Arg} (h : Ask kf dk w a) : ∃ kind lev kA kn kc fA fn fc kid fld, a = .mk kind lev kA kn kc fA fn fc kid fld := by
  have := h.at_
  cases a with
  | nil => cases dk <;> exact this.elim
  | mk kind lev kA kn kc fA fn fc kid fld => exact ⟨_, _, _, _, _, _, _, _, _, _, rfl⟩
theorem zWrite_any {kf dk : Nat} {w : World} {a : Arg} {A1 A2 : Option Addr} {n1 n2 : Nat} {es : Nat → Ent} {fs : Nat → FRow} (c1 c2 : Nat) (ha : Ask kf dk w a) (hi : Inp kf w A1 n1 es A2 n2 fs) :
    Calls Tryz.prog 37 #[.agg a.arr, .slice A1 n1 c1, .slice A2 n2 c2] w (ZwPost a (lvOf es) (fldOf n2 fs) n1 w) := by
  obtain ⟨kind, lev, kA, kn, kc, fA, fn, fc, kid, fld, rfl⟩ := ha.form
  exact zWrite_mk kf dk w kind lev kA fA kn kc fn fc kid fld A1 A2 n1 c1 n2 c2 es fs ha.at_ ha.cnt ha.sz hi.le1 hi.le2 hi.ents hi.nanos hi.rows hi.flds
/-- What is noted can be read. -/
theorem noted_ok {kf dk : Nat} {w : World} {a : Arg} {A1 A2 : Option Addr} {n1 n2 : Nat} {es : Nat → Ent} {fs : Nat → FRow} {c : Cor} (ha : Ask kf dk w a) (hi : Inp kf w A1 n1 es A2 n2 fs) (hc : (a.build 0).2 = some c) :
    (written c (lvOf es) (fldOf n2 fs) n1).length ≤ 1000000 ∧ ∀ s ∈ written c (lvOf es) (fldOf n2 fs) n1, s.2.2.length ≤ 100000 ∧ ∀ f ∈ s.2.2, FldOk kf w f := by
  obtain ⟨m1, hb⟩ : ∃ m1, a.build 0 = (m1, some c) := ⟨(a.build 0).1, by rw [← hc]⟩
  have hle := build_le a 0 m1 c hb
  have hF : ∀ i, i < n1 → (fldOf n2 fs i).length ≤ 300 ∧ ∀ f ∈ fldOf n2 fs i, FldOk kf w f := fun i _ => by
    simp only [fldOf]
    by_cases hi2 : i < n2
    · rw [if_pos hi2]
      obtain ⟨q1, q2⟩ := hi.flds i hi2
      refine ⟨by simp [FRow.l]; exact q2, fun f hf => ?_⟩
      obtain ⟨j, hj, rfl⟩ := List.mem_map.1 hf
      exact q1.2.2 j (List.mem_range.1 hj)
    · rw [if_neg hi2]
      exact ⟨by simp, fun f hf => by cases hf⟩
  refine ⟨?_, fun s hs => ⟨?_, ?_⟩⟩
  · have h1 := written_len c (lvOf es) (fldOf n2 fs) n1
    have h2 : n1 * c.cnt ≤ 20 * 25000 := Nat.mul_le_mul hi.le1 (Nat.le_trans hle.1 ha.cnt)
    omega
  · have h1 := written_sz c (lvOf es) (fldOf n2 fs) n1 300 (fun i hi => (hF i hi).1) s hs
    have h2 := ha.sz
    omega
  · exact written_allF (build_allF dk a 0 m1 c ha.at_ hb) (lvOf es) (fldOf n2 fs) n1 (fun i hi => (hF i hi).2) s hs
/-- Both cores have written. -/
structure Both (kf : Nat) (w0 : World) (V1 V2 : Value) (L : List Seen) (w : World) : Prop where
  below : Below w0.heap.size w0 w
  one : ∃ B xs, w.ownsRow B 196 3 V1 L.length xs ∧ SeenOf B w xs L
  two : ∃ B xs, w.ownsRow B 196 3 V2 L.length xs ∧ SeenOf B w xs L
theorem SeenOf.below {B : Nat} {W W' : World} {ys : List Value} {L : List Seen} (h : SeenOf B W ys L) (hb : Below W.heap.size W W') : SeenOf B W' ys L := h.keep (Only.none_of_below (S := fun _ => False) hb) (fun _ _ _ _ h => h)
theorem own_below {W W' : World} {B : Nat} {e : TypeId} {size n : Nat} {v : Value} {xs : List Value} (h : W.ownsRow B e size v n xs) (hb : Below W.heap.size W W') : W'.ownsRow B e size v n xs := own_only h (Only.none_of_below (S := fun _ => False) hb) (fun _ _ h => h)
theorem Both.here {kf : Nat} {w0 : World} {V1 V2 : Value} {L : List Seen} {w w' : World} (h : Both kf w0 V1 V2 L w) (hb : Below w.heap.size w w') : Both kf w0 V1 V2 L w' := by
  obtain ⟨B1, x1, q1, q2⟩ := h.one
  obtain ⟨B2, x2, q3, q4⟩ := h.two
  exact ⟨h.below.trans (hb.mono h.below.size), ⟨B1, x1, own_below q1 hb, q2.below hb⟩, ⟨B2, x2, own_below q3 hb, q4.below hb⟩⟩
/-- What ZWrite answers. -/
def ZwAns (q : Bool) (L : List Seen) (w : World) (e : Ending) (w' : World) : Prop :=
  ∃ V xs, e = .returned (.tuple #[V, .bool q]) ∧ w'.ownsRow w.heap.size 196 3 V L.length xs ∧ SeenOf w.heap.size w' xs L ∧ Below w.heap.size w w'
theorem both_ans {kf dk : Nat} {w : World} {a b : Arg} {A1 A2 : Option Addr} {n1 n2 : Nat} {es : Nat → Ent} {fs : Nat → FRow} (c1 c2 : Nat) (ha : Ask kf dk w a) (hb : Ask kf dk w b) (hal : Alike (a.build 0).2 (b.build 0).2) (hi : Inp kf w A1 n1 es A2 n2 fs) :
    ∃ q L, L.length ≤ 1000000 ∧ (∀ s ∈ L, s.2.2.length ≤ 100000 ∧ ∀ f ∈ s.2.2, FldOk kf w f) ∧ (∀ W, Below w.heap.size w W → Calls Tryz.prog 37 #[.agg a.arr, .slice A1 n1 c1, .slice A2 n2 c2] W (ZwAns q L W)) ∧ (∀ W, Below w.heap.size w W → Calls Tryz.prog 37 #[.agg b.arr, .slice A1 n1 c1, .slice A2 n2 c2] W (ZwAns q L W)) := by
  have hz1 := fun (W : World) (hW : Below w.heap.size w W) => zWrite_any c1 c2 (ha.below hW) (hi.below hW)
  have hz2 := fun (W : World) (hW : Below w.heap.size w W) => zWrite_any c1 c2 (hb.below hW) (hi.below hW)
  rcases hal with ⟨ea, eb⟩ | ⟨ca, cb, ea, eb, hh⟩
  · have key : ∀ (x : Arg) (W : World) (e : Ending) (w' : World), (x.build 0).2 = none → ZwPost x (lvOf es) (fldOf n2 fs) n1 W e w' → ZwAns false [] W e w' := fun x W e w' hx h => by
      rcases h with ⟨_, h1, h2⟩ | ⟨c, _, _, h, _⟩
      · exact ⟨_, [], h1, World.ownsRow_nil _ _ _ _, SeenOf.nil, h2⟩
      · rw [hx] at h; cases h
    exact ⟨false, [], by simp, (fun s hs => by cases hs), fun W hW => (hz1 W hW).mono (fun e w' h => key a W e w' ea h), fun W hW => (hz2 W hW).mono (fun e w' h => key b W e w' eb h)⟩
  · have hn := noted_ok ha hi ea
    refine ⟨true, written ca (lvOf es) (fldOf n2 fs) n1, hn.1, hn.2, fun W hW => (hz1 W hW).mono (fun e w' h => ?_), fun W hW => (hz2 W hW).mono (fun e w' h => ?_)⟩
    · rcases h with ⟨h, _⟩ | ⟨c, V, xs, h, h1, h2, h3, h4⟩
      · rw [ea] at h; cases h
      · rw [ea] at h
        injection h with h
        subst h
        exact ⟨V, xs, h1, h2, h3, h4⟩
    · rcases h with ⟨h, _⟩ | ⟨c, V, xs, h, h1, h2, h3, h4⟩
      · rw [eb] at h; cases h
      · rw [eb] at h
        injection h with h
        subst h
        rw [written_congr hh]
        exact ⟨V, xs, h1, h2, h3, h4⟩
set_option maxHeartbeats 8000000 in
theorem same_written (kf dk : Nat) (w : World) (a b : Arg) (A1 A2 : Option Addr) (n1 c1 n2 c2 : Nat) (es : Nat → Ent) (fs : Nat → FRow) (ha : Ask kf dk w a) (hb : Ask kf dk w b) (hal : Alike (a.build 0).2 (b.build 0).2) (hi : Inp kf w A1 n1 es A2 n2 fs) (htab : Tab10 w.heap.size w) :
    Calls Tryz.prog 38 #[.agg a.arr, .agg b.arr, .slice A1 n1 c1, .slice A2 n2 c2] w fun e w' => e = .returned (.bool true) ∧ Below w.heap.size w w' := by
  obtain ⟨q, L, hL1, hL2, hz1, hz2⟩ := both_ans c1 c2 ha hb hal hi
  obtain ⟨k1, l1, kA1, kn1, kc1, fA1, fn1, fc1, kid1, fld1, rfl⟩ := ha.form
  obtain ⟨k2, l2, kA2, kn2, kc2, fA2, fn2, fc2, kid2, fld2, rfl⟩ := hb.form
  have hw2 : Below w.heap.size w ((w.alloc (.cells #[.int .i64 k1, .int .i64 l1, .slice kA1 kn1 kc1, .slice fA1 fn1 fc1] 69)).alloc (.cells #[.int .i64 k2, .int .i64 l2, .slice kA2 kn2 kc2, .slice fA2 fn2 fc2] 69)) := ((Below.refl _ _).alloc (Nat.le_refl _) _).alloc (by simp) _
  have hy1 : Calls Tryz.prog 37 #[.agg #[.int .i64 k1, .int .i64 l1, .slice kA1 kn1 kc1, .slice fA1 fn1 fc1], .slice A1 n1 c1, .slice A2 n2 c2] _ _ := hz1 _ hw2
  have hy2 : ∀ W, Below w.heap.size w W → Calls Tryz.prog 37 #[.agg #[.int .i64 k2, .int .i64 l2, .slice kA2 kn2 kc2, .slice fA2 fn2 fc2], .slice A1 n1 c1, .slice A2 n2 c2] W (ZwAns q L W) := hz2
  have HZ := Lib.hid (And.intro hy1 (And.intro hy2 (And.intro hw2 (And.intro htab hL2))))
  clear ha hb hi hz1 hz2 hy1 hy2 hw2 htab hal hL2
  show Calls Tryz.prog 38 #[.agg #[.int .i64 k1, .int .i64 l1, .slice kA1 kn1 kc1, .slice fA1 fn1 fc1], .agg #[.int .i64 k2, .int .i64 l2, .slice kA2 kn2 kc2, .slice fA2 fn2 fc2], .slice A1 n1 c1, .slice A2 n2 c2] w _
  cases q
  all_goals go_enter Tryz.func38, Tryz.ntmps38
  all_goals go_wp2_with (go_at_call 37; go_must (first
    | ((with_reducible refine HZ.out.1.mono ?_); rintro e w1 ⟨V1, xs1, rfl, o1, s1, b1⟩; obtain ⟨vA1, vC1, rfl⟩ := own_len o1; have box := (Blk.new_at (w.alloc (.cells #[.int .i64 k1, .int .i64 l1, .slice kA1 kn1 kc1, .slice fA1 fn1 fc1] 69)) 69 #[.int .i64 k2, .int .i64 l2, .slice kA2 kn2 kc2, .slice fA2 fn2 fc2] (w.heap.size + 1) (by simp)).here b1; obtain ⟨x1, x2, x3⟩ := box.use; have R1 := Lib.hid (And.intro o1 (And.intro s1 (HZ.out.2.2.1.trans (b1.mono (by simp; omega))))); clear o1 s1 b1 box)
    | ((with_reducible refine (HZ.out.2.1 w1 R1.out.2.2).mono ?_); rintro e w2 ⟨V2, xs2, rfl, o2, s2, b2⟩; obtain ⟨vA2, vC2, rfl⟩ := own_len o2; have R2 := Lib.hid (Both.mk (kf := kf) (R1.out.2.2.trans (b2.mono R1.out.2.2.size)) ⟨_, _, own_below R1.out.1 b2, R1.out.2.1.below b2⟩ ⟨_, _, o2, s2⟩); clear o2 s2 b2 x1 x2 x3)))
  all_goals go_wp2_with fail
  all_goals
    go_loopw [13] (fun i wr => ∃ k : Nat, k ≤ L.length ∧ i = .int .i64 k ∧ Both kf w (.slice vA1 L.length vC1) (.slice vA2 L.length vC2) L wr) (fun i _ => L.length - (intOf i).toNat)
    case atStart => exact ⟨0, Nat.zero_le _, rfl, R2.out⟩
    case round =>
      obtain ⟨k, hk, rfl, hB⟩ := hrel
      clear R1 R2
      by_cases hlt : k < L.length
      · obtain ⟨B1, x1, o1, s1⟩ := hB.one
        obtain ⟨B2, x2, o2, s2⟩ := hB.two
        obtain ⟨ga, capa, Aa, ca, l, hV1, hl, a0, a1, a2, al, F1⟩ := seen_read (kf := kf) o1 s1 (Below.refl _ _) hlt hB.below HZ.out.2.2.2.2
        obtain ⟨gb, capb, Ab, cb, l', hV2, hl', b0, b1, b2, bl, F2⟩ := seen_read (kf := kf) o2 s2 (Below.refl _ _) hlt hB.below HZ.out.2.2.2.2
        rw [hl] at hl'
        injection hl' with hl'
        subst hl'
        injection hV1 with e1 _ e3
        injection hV2 with e4 _ e6
        subst e1 e3 e4 e6
        obtain ⟨num, ent, fl⟩ := l
        simp only at a0 a1 a2 b0 b1 b2 F1 F2
        have i1 : (0 : Int) ≤ (k : Int) := by omega
        have i2 : (k : Int) < (L.length : Int) := by omega
        have P := Lib.hid (And.intro hB (And.intro F1 F2))
        clear hB F1 F2 o1 s1 o2 s2 hl
        go_wp2_with fail
        go_region_held3 (fun w' => w'.cell? ⟨ga, k * 3, none⟩ = some (.int .i64 num) ∧ w'.cell? ⟨ga, k * 3 + 1, none⟩ = some (.int .i64 ent) ∧ w'.cell? ⟨ga, k * 3 + 2, none⟩ = some (.slice Aa fl.length ca) ∧ w'.cell? ⟨gb, k * 3, none⟩ = some (.int .i64 num) ∧ w'.cell? ⟨gb, k * 3 + 1, none⟩ = some (.int .i64 ent) ∧ w'.cell? ⟨gb, k * 3 + 2, none⟩ = some (.slice Ab fl.length cb)) (go_keep) (first
          | (go_at_call 33; go_must (refine (same_any kf _ Aa Ab fl.length ca cb (fun i => fl.getD i default) (P.out.2.1.below (Below.refl _ _).drew) (P.out.2.2.below (Below.refl _ _).drew)).mono ?_; rintro en w3 ⟨rfl, b3⟩; have c0 := (b3.cell (p := ⟨ga, k * 3, none⟩) al).trans a0; have c1 := (b3.cell (p := ⟨ga, k * 3 + 1, none⟩) al).trans a1; have c2 := (b3.cell (p := ⟨ga, k * 3 + 2, none⟩) al).trans a2; have d0 := (b3.cell (p := ⟨gb, k * 3, none⟩) bl).trans b0; have d1 := (b3.cell (p := ⟨gb, k * 3 + 1, none⟩) bl).trans b1; have d2 := (b3.cell (p := ⟨gb, k * 3 + 2, none⟩) bl).trans b2; have Z := Lib.hid (P.out.1.here ((Below.refl _ _).drew.trans b3)); clear b3)))
        go_wp2_with fail
        exact ⟨⟨k + 1, by omega, by go_num, Z.out⟩, by simp [intOf]; omega⟩
      · obtain rfl : k = L.length := by omega
        have P := Lib.hid hB
        clear hB
        go_wp2_with (go_at_call 15; go_must (refine (awake_any _ (tabUp HZ.out.2.2.2.1 P.out.below P.out.below.size)).mono ?_; rintro en w2 ⟨rfl, hb2⟩; have Z := Lib.hid (P.out.here hb2); clear hb2))
        go_ret
        exact ⟨rfl, Z.out.below⟩
end Go.Proofs.YtieidjlmgalihaaGreatDoor
