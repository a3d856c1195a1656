/- ZTold. -/
import Derived.Test.YtieidjlmgalihaaGreatDoorWk14
namespace Go.Proofs.YtieidjlmgalihaaGreatDoor
open Go.RowKit
set_option maxRecDepth 100000
/-- Of the first n entries those that a level enables, by their numbers. -/
def told (a : Int) (es : Nat → Ent) (n : Nat) : List Nat := (List.range n).filter fun k => decide (a ≤ IntKind.i8.wrap (es k).level)
theorem told_yes {a : Int} {es : Nat → Ent} {k : Nat} (h : a ≤ IntKind.i8.wrap (es k).level) : told a es (k + 1) = told a es k ++ [k] := by
  unfold told; rw [List.range_succ, List.filter_append]; simp [h]
theorem told_no {a : Int} {es : Nat → Ent} {k : Nat} (h : ¬ a ≤ IntKind.i8.wrap (es k).level) : told a es (k + 1) = told a es k := by
  unfold told; rw [List.range_succ, List.filter_append]; simp [h]
theorem told_le (a : Int) (es : Nat → Ent) (n : Nat) : (told a es n).length ≤ n := by
  unfold told; exact Nat.le_trans (List.length_filter_le _ _) (by simp)
abbrev nums (l : List Nat) : List Value := l.map fun (k : Nat) => Value.int .i64 (k : Int)
theorem info43 : (Tryz.prog.info? 43).map (fun i => (i.zero, i.size, i.bytes)) = some (some (.slice none 0 0), 1, 24) := by kernel_rfl
theorem own_slice {w : World} {B : Nat} {e : TypeId} {size n : Nat} {v : Value} {xs : List Value} (h : w.ownsRow B e size v n xs) : ∃ a l c, v = .slice a l c := by
  rcases h.2 with ⟨rfl, _⟩ | ⟨g, cap, cur, rfl, _⟩
  · exact ⟨_, _, _, rfl⟩
  · exact ⟨_, _, _, rfl⟩
theorem one_slice {w : World} {B : Nat} {e : TypeId} {size n : Nat} {v : Value} {xs : List Value} (h : w.ownsRow B e size v n xs) : v.oneCell' = true := by
  rcases h.2 with ⟨rfl, _⟩ | ⟨g, cap, cur, rfl, _⟩ <;> rfl
/-- The slices that ZTold has gathered. -/
def Outs (B : Nat) (lv : Nat → Int) (es : Nat → Ent) (n : Nat) (outs : List Value) (w : World) : Prop :=
  ∀ j o, outs[j]? = some o → w.ownsRow B 3 1 o (told (IntKind.i8.wrap (lv j)) es n).length (nums (told (IntKind.i8.wrap (lv j)) es n))
def ToldOf (lv : Nat → Int) (es : Nat → Ent) (n0 n1 : Nat) (w : World) (e : Ending) (w' : World) : Prop :=
  ∃ V outs, e = .returned V ∧ w'.ownsRow w.heap.size 43 1 V n0 outs ∧ Outs w.heap.size lv es n1 outs w' ∧ Below w.heap.size w w'
set_option maxHeartbeats 8000000 in
theorem zTold_any (w : World) (A0 A1 : Option Addr) (n0 c0 n1 c1 : Nat) (lv : Nat → Int) (es : Nat → Ent) (h0 : n0 ≤ 10) (h1 : n1 ≤ 100) (hr0 : RowAt w A0 n0 1 fun i => #[.int .i64 (lv i)]) (hr1 : RowAt w A1 n1 12 fun i => (es i).arr)
    (hns : ∀ i, i < n1 → -9223372036854775808 ≤ (es i).nanos ∧ (es i).nanos ≤ 9223372036854775807) :
    Calls Tryz.prog 25 #[.slice A0 n0 c0, .slice A1 n1 c1] w (ToldOf lv es n0 n1 w) := by
  go_enter Tryz.func25, Tryz.ntmps25
  go_wp2_with fail
  go_loopw [16, 5] (fun i V wr => ∃ (k : Nat) (outs : List Value), k ≤ n0 ∧ i = .int .i64 k ∧ Below w.heap.size w wr ∧ wr.ownsRow w.heap.size 43 1 V k outs ∧ Outs w.heap.size lv es n1 outs wr) (fun i _ _ => n0 - (intOf i).toNat)
  case atStart => exact ⟨0, [], Nat.zero_le _, rfl, Below.refl _ _, World.ownsRow_nil _ _ _ _, fun j o h => by simp at h⟩
  case round =>
    obtain ⟨k, outs, hk, rfl, hb, hown, houts⟩ := hrel
    obtain ⟨v, rfl⟩ : ∃ v, v = wr := ⟨_, rfl⟩
    by_cases hlt : k < n0
    · obtain ⟨b, off, rfl, hs, hc⟩ := (hr0.below hb) k hlt
      have hc0 := hc 0 (by omega)
      simp only [Nat.mul_one, Nat.add_zero, List.getElem?_toArray, List.getElem?_cons_zero] at hc0
      clear hc hs
      go_wp2_with (go_at_call 63; go_must (refine (register_any _ 141 _ _ (.func 64) #[] #[.pointer (some ⟨v.heap.size, 0, none⟩)] (by simp [go_sem])).mono ?_; rintro e w1 ⟨H, F, cap, rfl, hHb, hFb, hH, hF, hb1⟩))
      have hO : Blk w1 v.heap.size 43 #[.slice none 0 0] := ((((Blk.new v 43 _).alloc _).alloc _).alloc _).here hb1
      have hN : Blk w1 (v.heap.size + 1) 145 #[.int .i64 0, .int .i64 0, .slice none 0 0] := (((Blk.new_at _ 145 _ _ (by simp)).alloc _).alloc _).here hb1
      have hL : Blk w1 (v.heap.size + 1 + 1) 150 (leafArr (IntKind.i8.wrap (lv k)) 0 (.slice none 0 0) (v.heap.size + 1)) := ((Blk.new_at _ 150 _ _ (by simp)).alloc _).here hb1
      simp only [World.size_alloc] at hHb hFb
      have hb2 : Below v.heap.size v w1 := Below.trans (by go_grown) (hb1.mono (by simp; omega))
      have hst : St v.heap.size (v.heap.size + 1 + 1) H F (v.heap.size + 1) v.heap.size (IntKind.i8.wrap (lv k)) 0 0 [] w1 :=
        ⟨hb2.size, by omega, hL, ⟨cap, hH⟩, hF, ⟨_, 0, [], Nat.le_refl _, hN, World.ownsRow_nil _ _ _ _⟩, ⟨_, hO, World.ownsRow_nil _ _ _ _⟩⟩
      clear hO hN hL hH hF hb1
      go_loopw [33] (fun i wr => ∃ q : Nat, q ≤ n1 ∧ i = .int .i64 q ∧ St v.heap.size (v.heap.size + 1 + 1) H F (v.heap.size + 1) v.heap.size (IntKind.i8.wrap (lv k)) q (told (IntKind.i8.wrap (lv k)) es q).length (nums (told (IntKind.i8.wrap (lv k)) es q)) wr ∧ Below v.heap.size v wr) (fun i _ => n1 - (intOf i).toNat)
      case atStart => exact ⟨0, Nat.zero_le _, rfl, hst, hb2⟩
      case round =>
        obtain ⟨q, hq, rfl, hsq, hbq⟩ := hrel
        by_cases hlq : q < n1
        · obtain ⟨b', off', rfl, hs', hc'⟩ := (hr1.below (hb.trans (hbq.mono hb.size))) q hlq
          have hce := Ent.cells hc'
          clear hc' hs' hr1 hr0
          by_cases hle : IntKind.i8.wrap (lv k) ≤ IntKind.i8.wrap (es q).level
          · go_wp2_with (first
              | (go_at_call 65; go_must (refine (entry_any _ (es q) (hns q hlq).1 (hns q hlq).2).mono ?_; rintro e w2 ⟨rfl, hb3⟩; have hb4 : Below wr.heap.size wr w2 := Below.trans (by go_grown) (hb3.mono (by simp)); have hs2 := hsq.here hb4; obtain ⟨cap2, hH2⟩ := hs2.hook))
              | (go_at_call 356; go_must (refine (hookCheck_yes _ H _ _ (IntKind.i8.wrap (lv k)) 0 (.slice none 0 0) _ { es q with line := (q : Int) } (hH2.here (by go_grown)) (hs2.leaf.here (by go_grown)) hle).mono ?_; rintro e w3 ⟨ce, g, cap3, rfl, hceB, hce3, hrow3, hb5⟩; have hb6 : Below w2.heap.size w2 w3 := Below.trans (by go_grown) (hb5.mono (by simp)); have hs3 := hs2.here hb6; have hB3 : v.heap.size ≤ w2.heap.size := Nat.le_trans hbq.size hb4.size; simp only [World.size_alloc, World.size_setCell] at hceB hrow3))
              | (go_at_call 66; go_must (refine (ceWrite_any _ v.heap.size _ H F _ _ ce g cap3 _ q _ _ { es q with line := (q : Int) } hs3 (by omega) (Nat.le_trans (told_le _ _ _) (by omega)) (by omega) hce3 (own_mono hrow3 (by omega))).mono ?_; rintro e w4 ⟨rfl, hb7, hs4⟩)))
            go_roundw
            case rel =>
              refine ⟨q + 1, by omega, by go_num, ?_, (((hbq.trans (hb4.mono hbq.size)).trans (hb6.mono hB3)).trans hb7)⟩
              rw [told_yes hle]
              simpa using hs4
            case measure => simp [intOf]; omega
          · go_wp2_with (first
              | (go_at_call 65; go_must (refine (entry_any _ (es q) (hns q hlq).1 (hns q hlq).2).mono ?_; rintro e w2 ⟨rfl, hb3⟩; have hb4 : Below wr.heap.size wr w2 := Below.trans (by go_grown) (hb3.mono (by simp)); have hs2 := hsq.here hb4; obtain ⟨cap2, hH2⟩ := hs2.hook))
              | (go_at_call 356; go_must (refine (hookCheck_no _ H _ _ (IntKind.i8.wrap (lv k)) 0 (.slice none 0 0) _ { es q with line := (q : Int) } (hH2.here (by go_grown)) (hs2.leaf.here (by go_grown)) (by simpa using hle)).mono ?_; rintro e w3 ⟨rfl, hb5⟩; have hb6 : Below w2.heap.size w2 w3 := Below.trans (by go_grown) (hb5.mono (by simp)); have hs3 := hs2.here hb6)))
            go_roundw
            case rel =>
              refine ⟨q + 1, by omega, by go_num, ?_, ((hbq.trans (hb4.mono hbq.size)).trans (hb6.mono (Nat.le_trans hbq.size hb4.size)))⟩
              rw [told_no (Int.not_le.mpr hle)]
              obtain ⟨a1, a2, a3, a4, a5, ⟨sv, kk, ys, a6, a7⟩, a8⟩ := hs3
              exact ⟨a1, a2, a3, a4, a5, ⟨sv, kk, ys, by omega, a7⟩, a8⟩
            case measure => simp [intOf]; omega
        · have hqe : q = n1 := by omega
          subst hqe
          obtain ⟨outV, hO, hout⟩ := hsq.out
          obtain ⟨oa, ol, oc, rfl⟩ := own_slice hout
          obtain ⟨co, fo, lo⟩ := hO.use
          have co0 := co 0
          simp only [List.getElem?_toArray, List.getElem?_cons_zero] at co0
          clear co fo
          have hown2 := own_only hown (Only.none_of_below (S := fun _ => False) hbq) (fun _ _ h => h)
          have hlen : outs.length = k := by have := hown.1; simpa using this
          go_wp2_with (at_builtin; go_must (refine wpList_append1 rfl (.tmp 51) (.tmp 53) 46 rfl w.heap.size 43 (.slice none 0 0) 1 24 info43 Tryz.underlying46 rfl (by decide) u5 k outs _ rfl hown2 #[.slice oa ol oc] _ rfl (by rfl) rfl (fun u hu => by simp at hu; subst hu; exact one_slice hout) (by unfold maxLen; omega) (by omega) (by have := hb.size; have := hbq.size; omega) ?_; intro g cap2 w5 hown5 ho5 hlies hg5))
          go_roundw
          case rel =>
            have hb5 : Below w.heap.size wr w5 := ho5.below (Nat.le_trans hb.size hbq.size) (fun j hj e => by have := (hown.lt j e).1; omega)
            refine ⟨k + 1, _, by omega, by go_num, (hb.trans (hbq.mono hb.size)).trans hb5, hown5, fun j o hj => ?_⟩
            by_cases hjk : j < k
            · rw [List.getElem?_append_left (by omega)] at hj
              have h1 := own_only (houts j o hj) (Only.none_of_below (S := fun _ => False) hbq) (fun _ _ h => h)
              exact own_only h1 ho5 (fun g' hg' e => own_ne_own h1 hown2 (by decide) g' hg' e)
            · have hjk2 : j = k := by
                have := (List.getElem?_eq_some_iff.1 hj).1
                simp at this
                omega
              subst hjk2
              rw [List.getElem?_append_right (by omega)] at hj
              simp [hlen] at hj
              subst hj
              exact own_only (own_mono hout hb.size) ho5 (fun g' hg' e => own_ne_own hout hown2 (by decide) g' hg' e)
          case measure => simp [intOf]; omega
    · have hke : k = n0 := by omega
      subst hke
      go_wp2_with fail
      go_ret
      exact ⟨_, outs, rfl, hown, houts, hb⟩
end Go.Proofs.YtieidjlmgalihaaGreatDoor
