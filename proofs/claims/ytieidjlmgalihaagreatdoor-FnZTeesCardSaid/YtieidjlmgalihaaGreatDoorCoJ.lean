/- The makers of cores: none, a tee, a lazy one. -/
import Derived.Test.YtieidjlmgalihaaGreatDoorCoS
import Derived.Test.YtieidjlmgalihaaGreatDoorCoQ
set_option linter.all false
namespace Go.Proofs.YtieidjlmgalihaaGreatDoor
open Go.RowKit
set_option maxRecDepth 100000
theorem newNop (w : World) : Calls Tryz.prog 119 #[] w (fun e w' => e = .returned (.iface 303 (.agg #[])) ∧ w' = w) := by
  go_enter Tryz.func119, Tryz.ntmps119
  go_wp2_with fail
  go_ret
  exact ⟨rfl, rfl⟩
theorem newLazy (w : World) (S : Typ) (N B : Nat) (v V : Value) (c : Cor) (F : List Fld) (h : Hp S N B w) (hr : RepC S v c) (hs : SrcF w V F.length (carL F)) :
    Calls Tryz.prog 122 #[v, V] w (fun e w' => ∃ u S', e = .returned u ∧ Stp S N B w S' w' ∧ RepC S' u (.lazy c F)) := by
  obtain ⟨T, q, rfl⟩ := hr.form
  obtain ⟨A, n, rfl⟩ := hs.form
  have H := Lib.hid (And.intro h (And.intro hr hs))
  clear h hr hs
  go_enter Tryz.func122, Tryz.ntmps122
  go_wp2_with fail
  go_ret
  have hb : ∀ o, Below w.heap.size w (w.alloc o) := fun o => (Below.refl _ _).alloc (Nat.le_refl _) o
  exact ⟨_, S.add w.heap.size (.lazy c F), rfl, (Stp.of_below H.out.1 (hb _)).add (H.out.1.off (Nat.le_refl _)) (Nat.le_refl _) H.out.1.base ⟨_, _, H.out.2.2.below (hb _), H.out.2.1, .inl (Blk.new _ _ _)⟩, ⟨_, rfl, Typ.add_at⟩⟩
/-- Values that stand for cores, in a row of the call's own. -/
structure Kids (S : Typ) (B : Nat) (W : World) (V : Value) (l : List Cor) : Prop where
  row : ∃ vs, W.ownsRow B 139 1 V l.length vs ∧ ∀ (i : Nat) (c : Cor), l[i]? = some c → ∃ v, vs[i]? = some v ∧ RepC S v c
  off : ∀ g, V.ownBlock = some g → S g = none
def TeePost (S : Typ) (N B : Nat) (V : Value) (l : List Cor) (w : World) (e : Ending) (w' : World) : Prop :=
  ∃ v S', e = .returned v ∧ w' = w ∧ Upw S S' ∧ (∀ b, S b = none → V.ownBlock ≠ some b → S' b = none) ∧ Hp S' N B w' ∧ RepC S' v (teeOf l)
theorem newTee (w : World) (S : Typ) (N B B' : Nat) (V : Value) (l : List Cor) (h : Hp S N B w) (hk : Kids S B' w V l) (hB : B ≤ B') (hl : l.length ≤ 1000) : Calls Tryz.prog 120 #[V] w (TeePost S N B V l w) := by
  obtain ⟨⟨vs, hown, hrep⟩, hoff⟩ := hk
  match l, hown, hrep, hl with
  | [], hown, hrep, hl =>
    obtain ⟨A, n, rfl⟩ := own_len hown
    have H := Lib.hid h
    clear h hown hrep hoff
    go_enter Tryz.func120, Tryz.ntmps120
    go_wp2_with (go_at_call 119; go_must (refine (newNop _).mono ?_; rintro e w1 ⟨rfl, rfl⟩))
    go_ret
    exact ⟨_, S, rfl, rfl, fun _ _ h => h, fun _ h _ => h, H.out, rfl⟩
  | [c], hown, hrep, hl =>
    obtain ⟨v, hv, hr⟩ := hrep 0 c rfl
    obtain ⟨g, cap, rfl, gl, gc, _⟩ := own_at hown (k := 0) (by simp)
    obtain ⟨T, q, rfl⟩ := hr.form
    rw [hv] at gc
    have H := Lib.hid (And.intro h hr)
    clear h hown hrep hoff hr hv
    go_enter Tryz.func120, Tryz.ntmps120
    go_wp2_with fail
    go_ret
    exact ⟨_, S, rfl, rfl, fun _ _ h => h, fun _ h _ => h, H.out.1, H.out.2⟩
  | c :: d :: t, hown, hrep, hl =>
    obtain ⟨g, cap, rfl, gl, gc, gB⟩ := own_at hown (k := 0) (by simp)
    have hg : S g = none := hoff g rfl
    have hh : HoldC S N w g (teeOf (c :: d :: t)) := by
      refine ⟨hl, ?_⟩
      rcases hown.2 with ⟨hv, _⟩ | ⟨g', cap', cur, hv, hb, hk, _, _, _, htk⟩
      · cases hv
      · injection hv with e1 _ _
        injection e1 with e1
        injection e1 with e1 _ _
        subst e1
        refine ⟨cur, hk, fun i hi => ?_⟩
        have hi' : i < (c :: d :: t).length := hi
        obtain ⟨v, h1, h2⟩ := hrep i (c :: d :: t)[i] (List.getElem?_eq_getElem hi')
        refine ⟨v, ?_, ?_⟩
        · have := congrArg (·[i]?) htk
          simp only [List.getElem?_take, Nat.mul_one] at this
          rw [if_pos hi', h1] at this
          simpa using this
        · have : (c :: d :: t).getD i .nop = (c :: d :: t)[i] := by simp [List.getD, List.getElem?_eq_getElem hi']
          simp only [this]
          exact h2
    have hadd := h.add (b := g) hg (Nat.le_trans hB gB) hh
    have H := Lib.hid (And.intro hg hadd)
    clear h hown hrep hoff hh hadd hg gc gB
    simp only [List.length_cons] at *
    go_enter Tryz.func120, Tryz.ntmps120
    go_wp2_with fail
    go_ret
    refine ⟨_, S.add g (teeOf (c :: d :: t)), rfl, rfl, Typ.add_up H.out.1, fun b hb hne => ?_, H.out.2, ⟨g, cap, rfl, Typ.add_at⟩⟩
    have : b ≠ g := fun e => hne (by rw [e]; rfl)
    unfold Typ.add
    rw [if_neg this]
    exact hb
end Go.Proofs.YtieidjlmgalihaaGreatDoor
namespace Go.Proofs.YtieidjlmgalihaaGreatDoor
open Go.RowKit
set_option maxRecDepth 100000
/-- At the k-th level from above a core may be increased. -/
def lvOk (c : Cor) (l : Int) (k : Nat) : Prop := c.en (5 - (k : Int)) = true ∨ 5 - (k : Int) < l
theorem incOk_iff (c : Cor) (l : Int) : incOk c l = true ↔ ∀ k, k < 7 → lvOk c l k := by
  unfold incOk lvOk
  simp only [List.all_eq_true, List.mem_range, Bool.or_eq_true, decide_eq_true_eq]
  constructor
  · intro h k hk
    have := h (6 - k) (by omega)
    have e : ((6 - k : Nat) : Int) - 1 = 5 - (k : Int) := by omega
    rwa [e] at this
  · intro h i hi
    have := h (6 - i) (by omega)
    have e : 5 - ((6 - i : Nat) : Int) = (i : Int) - 1 := by omega
    rwa [e] at this
def IncPost (S : Typ) (N B : Nat) (c : Cor) (l : Int) (w : World) (e : Ending) (w' : World) : Prop :=
  (incOk c l = true ∧ ∃ u S', e = .returned (.tuple #[u, .nilIface]) ∧ Stp S N B w S' w' ∧ RepC S' u (.inc l c)) ∨ (incOk c l = false ∧ ∃ T q, e = .returned (.tuple #[.nilIface, .iface T q]) ∧ Below w.heap.size w w')
set_option maxHeartbeats 4000000 in
theorem newInc (w : World) (S : Typ) (N B : Nat) (v : Value) (c : Cor) (l : Int) (h : Hp S N B w) (hr : RepC S v c) : Calls Tryz.prog 121 #[v, .iface 142 (.int .i8 l)] w (IncPost S N B c l w) := by
  obtain ⟨T, u, rfl⟩ := hr.form
  have H := Lib.hid (And.intro h hr)
  clear h hr
  go_enter Tryz.func121, Tryz.ntmps121
  go_wp2_with fail
  go_loopw [6] (fun i wr => ∃ k : Nat, k ≤ 7 ∧ i = .int .i8 (5 - (k : Int)) ∧ Below w.heap.size w wr ∧ ∀ j, j < k → lvOk c l j) (fun i _ => (intOf i + 2).toNat)
  case atStart => exact ⟨0, by omega, by simp, Below.refl _ _, fun j hj => by omega⟩
  case round =>
    obtain ⟨k, hk, rfl, hb, hok⟩ := hrel
    by_cases hlt : k < 7
    · obtain ⟨f, r, hm, hcf, hcall⟩ := (en_all c.ht c S N B wr (.iface T u) (5 - (k : Int)) (Nat.le_refl _) (H.out.1.here hb) H.out.2).at_
      have hcall : Calls Tryz.prog f #[r, .int .i8 (5 - (k : Int))] wr (EnPost c (5 - (k : Int)) wr) := hcall
      have hw : IntKind.i8.wrap (5 - (k : Int) - 1) = 5 - (k : Int) - 1 := by
        simp [IntKind.wrap, IntKind.bits, IntKind.signed]
        split <;> omega
      cases hen : c.en (5 - (k : Int))
      · by_cases hl : l ≤ 5 - (k : Int)
        · have P := Lib.hid (And.intro hb (And.intro hok (And.intro hcall hen)))
          clear hb hok hcall hen
          go_wp2_with (first
            | (go_at_call 265; go_must (refine (levelEn _ l (5 - (k : Int))).mono ?_; rintro e w2 ⟨rfl, hb2⟩))
            | (go_at_call 162; go_in)
            | (refine P.out.2.2.1.mono ?_; rintro e w1 ⟨he, hb1⟩; rw [P.out.2.2.2] at he; subst he))
          go_ret2
          refine .inr ⟨?_, _, _, rfl, ?_⟩
          · cases e : incOk c l with
            | false => rfl
            | true =>
              exfalso
              rcases (incOk_iff c l).1 e k hlt with h1 | h1
              · rw [P.out.2.2.2] at h1; cases h1
              · omega
          · exact ((P.out.1.trans (hb1.mono P.out.1.size)).trans (hb2.mono (P.out.1.trans (hb1.mono P.out.1.size)).size)).alloc (Nat.le_trans P.out.1.size (Nat.le_trans hb1.size hb2.size)) _
        · have P := Lib.hid (And.intro hb (And.intro hok (And.intro hcall hen)))
          clear hb hok hcall hen
          go_wp2_with (first
            | (go_at_call 265; go_must (refine (levelEn _ l (5 - (k : Int))).mono ?_; rintro e w2 ⟨rfl, hb2⟩))
            | (refine P.out.2.2.1.mono ?_; rintro e w1 ⟨he, hb1⟩; rw [P.out.2.2.2] at he; subst he))
          refine ⟨⟨k + 1, by omega, by rw [show (5 - (k : Int) - 1) = 5 - ((k + 1 : Nat) : Int) by omega], (P.out.1.trans (hb1.mono P.out.1.size)).trans (hb2.mono (P.out.1.trans (hb1.mono P.out.1.size)).size), fun j hj => ?_⟩, by simp [intOf]; omega⟩
          by_cases hjk : j < k
          · exact P.out.2.1 j hjk
          · obtain rfl : j = k := by omega
            exact .inr (by omega)
      · have P := Lib.hid (And.intro hb (And.intro hok (And.intro hcall hen)))
        clear hb hok hcall hen
        go_wp2_with (refine P.out.2.2.1.mono ?_; rintro e w1 ⟨he, hb1⟩; rw [P.out.2.2.2] at he; subst he)
        refine ⟨⟨k + 1, by omega, by rw [show (5 - (k : Int) - 1) = 5 - ((k + 1 : Nat) : Int) by omega], P.out.1.trans (hb1.mono P.out.1.size), fun j hj => ?_⟩, by simp [intOf]; omega⟩
        by_cases hjk : j < k
        · exact P.out.2.1 j hjk
        · obtain rfl : j = k := by omega
          exact .inl P.out.2.2.2
    · obtain rfl : k = 7 := by omega
      have P := Lib.hid (And.intro hb hok)
      clear hb hok
      go_wp2_with fail
      go_ret2
      have hb : ∀ o, Below w.heap.size w (wr.alloc o) := fun o => P.out.1.alloc P.out.1.size o
      exact .inl ⟨(incOk_iff c l).2 P.out.2, _, S.add wr.heap.size (.inc l c), rfl, (Stp.of_below H.out.1 (hb _)).add (H.out.1.off P.out.1.size) P.out.1.size (Nat.le_trans H.out.1.base P.out.1.size) ⟨_, Blk.new _ _ _, H.out.2⟩, ⟨_, rfl, Typ.add_at⟩⟩
end Go.Proofs.YtieidjlmgalihaaGreatDoor
namespace Go.Proofs.YtieidjlmgalihaaGreatDoor
open Go.RowKit
set_option maxRecDepth 100000
theorem buildAll_m (f : Nat → Nat → Nat × Option Cor) (g : Nat → Nat) (h : ∀ i m m1 r, f i m = (m1, r) → m ≤ m1 ∧ m1 ≤ m + g i) : ∀ n m m1 r, buildAll f n m = (m1, r) → m ≤ m1 ∧ m1 ≤ m + sumN g n
  | 0, m, m1, r, hb => by
    simp [buildAll] at hb
    rw [sumN]
    omega
  | n + 1, m, m1, r, hb => by
    simp only [buildAll] at hb
    rw [sumN]
    split at hb
    · rename_i m2 h2
      have := buildAll_m f g h n m m2 _ h2
      simp at hb
      omega
    · rename_i m2 l2 h2
      have q := buildAll_m f g h n m m2 _ h2
      split at hb
      · rename_i m3 h3
        have := h n m2 m3 _ h3
        simp at hb
        omega
      · rename_i m3 c3 h3
        have := h n m2 m3 _ h3
        simp at hb
        omega
theorem build_m : ∀ (a : Arg) (m m1 : Nat) (r : Option Cor), a.build m = (m1, r) → m ≤ m1 ∧ m1 ≤ m + a.cnt
  | .nil, m, m1, r, h => by simp [Arg.build] at h; simp only [Arg.cnt]; omega
  | .mk kind lev kA kn kc fA fn fc kid fld, m, m1, r, h => by
    simp only [Arg.build] at h
    simp only [Arg.cnt]
    by_cases h0 : kind = 0
    · rw [if_pos h0] at h ⊢
      simp at h
      omega
    · rw [if_neg h0] at h ⊢
      by_cases h5 : kind = 5
      · rw [if_pos h5] at h
        simp at h
        omega
      · rw [if_neg h5] at h
        have key := buildAll_m (fun i => (kid i).build) (fun i => (kid i).cnt) (fun i m m1 r => build_m (kid i) m m1 r) kn m
        split at h
        · rename_i m2 h2
          have := key m2 _ h2
          simp at h
          omega
        · rename_i m2 l2 h2
          have := key m2 _ h2
          have e : m2 = m1 := by
            repeat' split at h
            all_goals (simp at h; exact h.1)
          omega
theorem sumN_le {f g : Nat → Nat} : ∀ {n : Nat}, (∀ i, i < n → f i ≤ g i) → sumN f n ≤ sumN g n
  | 0, _ => Nat.le_refl _
  | n + 1, h => by
    rw [sumN, sumN]
    have h1 := sumN_le (f := f) (g := g) (n := n) (fun i hi => h i (by omega))
    have h2 := h n (by omega)
    omega
/-- What each kid is bounded by bounds a tee of them. -/
theorem teeOf_le (g1 g2 g3 : Nat → Nat) : ∀ (l : List Cor), (∀ (i : Nat) (c : Cor), l[i]? = some c → c.cnt ≤ g1 i ∧ c.ht ≤ g2 i ∧ c.sz ≤ g3 i) → (teeOf l).cnt ≤ sumN g1 l.length ∧ (teeOf l).ht ≤ supN g2 l.length + 1 ∧ (teeOf l).sz ≤ supN g3 l.length
  | [], _ => ⟨Nat.zero_le _, by simp [teeOf, Cor.ht], Nat.zero_le _⟩
  | [c], h => by
    obtain ⟨h1, h2, h3⟩ := h 0 c rfl
    have e1 : sumN g1 1 = 0 + g1 0 := rfl
    have e2 : supN g2 1 = max 0 (g2 0) := rfl
    have e3 : supN g3 1 = max 0 (g3 0) := rfl
    simp only [teeOf, List.length_cons, List.length_nil, Nat.zero_add]
    omega
  | c :: d :: t, h => by
    have hk : ∀ i, i < (c :: d :: t).length → ((c :: d :: t).getD i .nop).cnt ≤ g1 i ∧ ((c :: d :: t).getD i .nop).ht ≤ g2 i ∧ ((c :: d :: t).getD i .nop).sz ≤ g3 i := fun i hi => by
      have e := List.getElem?_eq_getElem hi
      have : (c :: d :: t).getD i .nop = (c :: d :: t)[i] := by simp [List.getD, e]
      rw [this]
      exact h i _ e
    refine ⟨sumN_le (fun i hi => (hk i hi).1), Nat.succ_le_succ (supN_le _ _ (fun i hi => Nat.le_trans (hk i hi).2.1 (le_supN g2 hi))), supN_le _ _ (fun i hi => Nat.le_trans (hk i hi).2.2 (le_supN g3 hi))⟩
theorem build_le : ∀ (a : Arg) (m m1 : Nat) (c : Cor), a.build m = (m1, some c) → c.cnt ≤ a.cnt ∧ c.ht ≤ a.ht ∧ c.sz ≤ a.sz
  | .nil, m, m1, c, h => by simp [Arg.build] at h
  | .mk kind lev kA kn kc fA fn fc kid fld, m, m1, c, h => by
    simp only [Arg.build] at h
    simp only [Arg.cnt, Arg.ht, Arg.sz]
    by_cases h0 : kind = 0
    · rw [if_pos h0] at h ⊢
      simp at h
      rw [← h.2]
      simp [Cor.cnt, Cor.ht, Cor.sz]
    · rw [if_neg h0] at h ⊢
      by_cases h5 : kind = 5
      · rw [if_pos h5] at h
        simp at h
        rw [← h.2]
        simp [Cor.cnt, Cor.ht, Cor.sz]
      · rw [if_neg h5] at h
        have key := buildAll_le (fun i => (kid i).build) (fun c i => c.cnt ≤ (kid i).cnt ∧ c.ht ≤ (kid i).ht ∧ c.sz ≤ (kid i).sz) (fun i m m1 c => build_le (kid i) m m1 c) kn m
        split at h
        · simp at h
        · rename_i m2 l2 h2
          obtain ⟨hl, hc⟩ := key m2 l2 h2
          have ht := teeOf_le (fun i => (kid i).cnt) (fun i => (kid i).ht) (fun i => (kid i).sz) l2 hc
          rw [hl] at ht
          by_cases h1 : kind = 1
          · rw [if_pos h1] at h
            simp at h
            rw [← h.2]
            omega
          · rw [if_neg h1] at h
            cases l2 with
            | nil => simp at h
            | cons c0 t =>
              have hk0 : 0 < kn := by rw [← hl]; simp
              obtain ⟨q1, q2, q3⟩ := hc 0 c0 rfl
              have s1 := sumN_part (fun i => (kid i).cnt) hk0
              have s2 := le_supN (fun i => (kid i).ht) hk0
              have s3 := le_supN (fun i => (kid i).sz) hk0
              simp only [sumN, Nat.zero_add] at s1
              simp only at s2 s3 h
              by_cases hk2 : kind = 2
              · rw [if_pos hk2] at h
                by_cases hi : incOk c0 (IntKind.i8.wrap lev) = true
                · rw [if_pos hi] at h
                  simp at h
                  rw [← h.2]
                  simp only [Cor.cnt, Cor.ht, Cor.sz]
                  omega
                · rw [if_neg hi] at h
                  simp at h
              · rw [if_neg hk2] at h
                by_cases hk3 : kind = 3
                · rw [if_pos hk3] at h
                  simp at h
                  rw [← h.2]
                  have w1 := Cor.cnt_wth c0 ((List.range fn).map fld)
                  have w2 := Cor.ht_wth c0 ((List.range fn).map fld)
                  have w3 := Cor.sz_wth c0 ((List.range fn).map fld)
                  simp only [List.length_map, List.length_range] at w3
                  omega
                · rw [if_neg hk3] at h
                  by_cases hk4 : kind = 4
                  · rw [if_pos hk4] at h
                    simp at h
                    rw [← h.2]
                    simp only [Cor.cnt, Cor.ht, Cor.sz, List.length_map, List.length_range]
                    omega
                  · rw [if_neg hk4] at h
                    simp at h
end Go.Proofs.YtieidjlmgalihaaGreatDoor
