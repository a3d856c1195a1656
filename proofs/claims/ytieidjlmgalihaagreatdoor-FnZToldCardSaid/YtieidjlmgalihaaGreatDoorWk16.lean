/- FnZTold: the walk. -/
import Derived.Test.YtieidjlmgalihaaGreatDoorWk15
import Derived.Test.YtieidjlmgalihaaGreatDoorWk3
namespace Go.Proofs.YtieidjlmgalihaaGreatDoor
open Go.RowKit
set_option maxRecDepth 100000
theorem wrap8_64 (z : Int) : IntKind.i64.wrap (IntKind.i8.wrap z) = IntKind.i8.wrap z := by
  have h : -128 ≤ IntKind.i8.wrap z ∧ IntKind.i8.wrap z ≤ 127 := by
    simp [IntKind.wrap, IntKind.bits, IntKind.signed]
    split <;> omega
  obtain ⟨h0, h1⟩ := h
  generalize IntKind.i8.wrap z = y at *
  simp [IntKind.wrap, IntKind.bits, IntKind.signed]
  split <;> omega
theorem told_at {a : Int} {es : Nat → Ent} {q : Nat} (h : a ≤ IntKind.i8.wrap (es q).level) (n : Nat) (hq : q < n) : (told a es n)[(told a es q).length]? = some q := by
  induction n with
  | zero => omega
  | succ n ih =>
    by_cases hqn : q < n
    · have hi := ih hqn
      have hl := (List.getElem?_eq_some_iff.1 hi).1
      by_cases hn : a ≤ IntKind.i8.wrap (es n).level
      · rw [told_yes hn, List.getElem?_append_left hl, hi]
      · rw [told_no hn, hi]
    · have : q = n := by omega
      subst this
      rw [told_yes h]
      simp
theorem own_row {w : World} {B : Nat} {e : TypeId} {n : Nat} {v : Value} {xs : List Value} (h : w.ownsRow B e 1 v n xs) : ∃ a c, v = .slice a n c ∧ xs.length = n ∧ ∀ i, i < n → ∃ g, a = some ⟨g, 0, none⟩ ∧ g < w.heap.size ∧ w.cell? ⟨g, i, none⟩ = xs[i]? := by
  have hl : xs.length = n := by simpa using h.1
  rcases h.2 with ⟨rfl, hn⟩ | ⟨g, cap, cur, rfl, hb, hg, h1, h2, h3, htk⟩
  · have : n = 0 := by first | exact hn | exact hn.1 | simp_all
    subst this
    exact ⟨_, _, rfl, hl, fun i hi => by omega⟩
  · refine ⟨_, _, rfl, hl, fun i hi => ⟨g, rfl, (Array.getElem?_eq_some_iff.1 hg).1, ?_⟩⟩
    rw [cell_of_row w g i _ _ _ hg]
    have := congrArg (·[i]?) htk
    simp [List.getElem?_take] at this
    simpa [hi] using this
/-- What the law reads of ZTold's answer. -/
theorem told_reads {w : World} {B n0 n1 : Nat} {V : Value} {outs : List Value} {lv : Nat → Int} {es : Nat → Ent} (h : w.ownsRow B 43 1 V n0 outs) (ho : Outs B lv es n1 outs w) :
    ∃ a c, V = .slice a n0 c ∧ ∀ k, k < n0 → ∃ g oa oc, a = some ⟨g, 0, none⟩ ∧ g < w.heap.size ∧ w.cell? ⟨g, k, none⟩ = some (.slice oa (told (IntKind.i8.wrap (lv k)) es n1).length oc) ∧
      ∀ q, q < n1 → IntKind.i8.wrap (lv k) ≤ IntKind.i8.wrap (es q).level → ∃ go, oa = some ⟨go, 0, none⟩ ∧ go < w.heap.size ∧ (told (IntKind.i8.wrap (lv k)) es q).length < (told (IntKind.i8.wrap (lv k)) es n1).length ∧ w.cell? ⟨go, (told (IntKind.i8.wrap (lv k)) es q).length, none⟩ = some (.int .i64 (q : Int)) := by
  obtain ⟨a, c, rfl, hl, hc⟩ := own_row h
  refine ⟨a, c, rfl, fun k hk => ?_⟩
  obtain ⟨g, rfl, hg, hcell⟩ := hc k hk
  have hk2 : k < outs.length := by omega
  rw [List.getElem?_eq_getElem hk2] at hcell
  obtain ⟨oa, oc, hv, hl2, hc2⟩ := own_row (ho k outs[k] (List.getElem?_eq_getElem hk2))
  rw [hv] at hcell
  refine ⟨g, oa, oc, rfl, hg, hcell, fun q hq hle => ?_⟩
  have hat := told_at hle n1 hq
  have hlt := (List.getElem?_eq_some_iff.1 hat).1
  obtain ⟨go, rfl, hgo, hcc⟩ := hc2 _ hlt
  refine ⟨go, rfl, hgo, hlt, ?_⟩
  rw [hcc, List.getElem?_map, hat]
  rfl
set_option maxHeartbeats 4000000 in
theorem told_true (w : World) (A0 A1 : Option Addr) (n0 c0 n1 c1 : Nat) (lv : Nat → Int) (es : Nat → Ent) (h0 : n0 ≤ maxLen) (h1 : n1 ≤ maxLen) (hr0 : RowAt w A0 n0 1 fun i => #[.int .i64 (lv i)]) (hr1 : RowAt w A1 n1 12 fun i => (es i).arr)
    (hns : ∀ i, i < n1 → -9223372036854775808 ≤ (es i).nanos ∧ (es i).nanos ≤ 9223372036854775807) (htab : Tab10 w.heap.size w) :
    Calls Tryz.prog 5 #[.slice A0 n0 c0, .slice A1 n1 c1] w fun e w' => e = .returned (.bool true) ∧ Below w.heap.size w w' := by
  have h0' := h0
  have h1' := h1
  unfold maxLen at h0' h1'
  by_cases hbig : (2147483647 : Int) < (n0 : Int)
  · go_enter Tryz.func5, Tryz.ntmps5
    go_wp2_with fail
    go_ret
    exact ⟨rfl, Below.refl _ _⟩
  go_enter Tryz.func5, Tryz.ntmps5
  go_wp2_with (first
    | (go_at_call 24; go_must (refine (fits8_any _ A1 n1 c1 es h1 hr1).mono ?_; rintro e w1 ⟨ok, rfl, hb1⟩))
    | (go_at_call 15; go_must (refine (awake_any _ (tabUp htab hb1 hb1.size)).mono ?_; rintro e w2 ⟨rfl, hb2⟩; have hb3 := hb1.trans (hb2.mono hb1.size)))
    | (go_at_call 25; go_must (refine (zTold_any w1 A0 A1 n0 c0 n1 c1 lv es (by omega) (by omega) (hr0.below hb1) (hr1.below hb1) hns).mono ?_; rintro e w2 ⟨V, outs, rfl, hown, houts, hb2⟩; have hb3 := hb1.trans (hb2.mono hb1.size); obtain ⟨av, cv, rfl, hread⟩ := told_reads hown houts)))
  · go_ret
    exact ⟨rfl, hb1⟩
  · go_ret
    exact ⟨rfl, hb3⟩
  · go_loopw [6] (fun i wr => ∃ k : Nat, k ≤ n0 ∧ i = .int .i64 k ∧ Below w2.heap.size w2 wr) (fun i _ => n0 - (intOf i).toNat)
    case atStart => exact ⟨0, Nat.zero_le _, rfl, Below.refl _ _⟩
    case round =>
      obtain ⟨k, hk, rfl, hb⟩ := hrel
      obtain ⟨v, rfl⟩ : ∃ v, v = wr := ⟨_, rfl⟩
      by_cases hlt : k < n0
      · obtain ⟨g, oa, oc, rfl, hg, hcg, hq⟩ := hread k hlt
        obtain ⟨b, off, rfl, hs, hc⟩ := hr0 k hlt
        have hc0 := hc 0 (by omega)
        simp only [Nat.mul_one, Nat.add_zero, List.getElem?_toArray, List.getElem?_cons_zero] at hc0
        have hw2 := hb3.cell (p := ⟨b, off + k, none⟩) (World.block_lt_of_cell? w _ hc0)
        rw [hc0] at hw2
        have lb := World.block_lt_of_cell? w2 _ hw2
        clear hc hs hr0 hread hown houts htab
        go_wp2_with fail
        go_loopw [7, 8] (fun j i wr => ∃ q : Nat, q ≤ n1 ∧ i = .int .i64 q ∧ j = .int .i64 ((told (IntKind.i8.wrap (lv k)) es q).length : Nat) ∧ Below w2.heap.size w2 wr) (fun _ i _ => n1 - (intOf i).toNat)
        case atStart => exact ⟨0, Nat.zero_le _, rfl, rfl, hb⟩
        case round =>
          obtain ⟨q, hqn, rfl, rfl, hbq⟩ := hrel
          by_cases hlq : q < n1
          · obtain ⟨b', off', rfl, hs', hc'⟩ := (hr1.below (hb3.trans (hbq.mono hb3.size))) q hlq
            have hce := (Ent.cells hc').1
            clear hc' hs' hr1
            have hv0 := (hbq.cell (p := ⟨b, off + k, none⟩) lb).trans hw2
            by_cases hle : IntKind.i8.wrap (lv k) ≤ IntKind.i8.wrap (es q).level
            · obtain ⟨go, rfl, hgo, hjlt, hco⟩ := hq q hlq hle
              have hv1 := (hbq.cell (p := ⟨g, k, none⟩) hg).trans hcg
              have hv2 := (hbq.cell (p := ⟨go, (told (IntKind.i8.wrap (lv k)) es q).length, none⟩) hgo).trans hco
              go_wp2_with fail
              go_region_held3 (fun w' => w'.cell? ⟨b', off' + q * 12, none⟩ = some (.int .i64 (es q).level) ∧ w'.cell? ⟨b, off + k, none⟩ = some (.int .i64 (lv k)) ∧ w'.cell? ⟨g, k, none⟩ = some (.slice (some ⟨go, 0, none⟩) (told (IntKind.i8.wrap (lv k)) es n1).length oc) ∧ w'.cell? ⟨go, (told (IntKind.i8.wrap (lv k)) es q).length, none⟩ = some (.int .i64 (q : Int))) (go_keep) (fail)
              go_wp2_with fail
              all_goals first | (exfalso; have e1 := wrap8_64 (es q).level; have e2 := wrap8_64 (lv k); omega) | skip
              go_roundw
              case rel =>
                have hl := told_le (IntKind.i8.wrap (lv k)) es q
                refine ⟨q + 1, by omega, by go_num, ?_, hbq.drew⟩
                rw [told_yes hle]
                have hw : wrap64 (((told (IntKind.i8.wrap (lv k)) es q).length : Int) + 1) = ((told (IntKind.i8.wrap (lv k)) es q).length : Int) + 1 := by unfold wrap64; omega
                rw [hw]
                simp
              case measure => simp [intOf]; omega
            · go_wp2_with fail
              go_region_held3 (fun w' => w'.cell? ⟨b', off' + q * 12, none⟩ = some (.int .i64 (es q).level) ∧ w'.cell? ⟨b, off + k, none⟩ = some (.int .i64 (lv k))) (go_keep) (fail)
              go_wp2_with fail
              all_goals first | (exfalso; have e1 := wrap8_64 (es q).level; have e2 := wrap8_64 (lv k); omega) | skip
              go_roundw
              case rel =>
                refine ⟨q + 1, by omega, by go_num, ?_, hbq.drew⟩
                rw [told_no (Int.not_le.mpr hle)]
              case measure => simp [intOf]; omega
          · have hqe : q = n1 := by omega
            subst hqe
            have hv1 := (hbq.cell (p := ⟨g, k, none⟩) hg).trans hcg
            go_wp2_with fail
            go_roundw
            case rel => exact ⟨k + 1, by omega, by go_num, hbq⟩
            case measure => simp [intOf]; omega
      · have hke : k = n0 := by omega
        subst hke
        go_wp2_with (first
          | (go_at_call 15; go_must (refine (awake_any _ (tabUp htab (hb3.trans (hb.mono hb3.size)) (hb3.trans (hb.mono hb3.size)).size)).mono ?_; rintro e w5 ⟨rfl, hb5⟩)))
        go_ret
        have hb4 := hb3.trans (hb.mono hb3.size)
        exact ⟨rfl, hb4.trans (hb5.mono hb4.size)⟩
  · go_ret
    exact ⟨rfl, hb3⟩
end Go.Proofs.YtieidjlmgalihaaGreatDoor
