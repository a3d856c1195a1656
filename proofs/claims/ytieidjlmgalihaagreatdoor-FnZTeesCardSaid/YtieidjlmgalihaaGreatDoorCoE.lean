/- Enabled of cores. -/
import Derived.Test.YtieidjlmgalihaaGreatDoorCoY
set_option linter.all false
namespace Go.Proofs.YtieidjlmgalihaaGreatDoor
open Go.RowKit
set_option maxRecDepth 100000
/-- What Enabled leaves. -/
def EnPost (t : Cor) (x : Int) (W : World) (e : Ending) (w' : World) : Prop := e = .returned (.bool (t.en x)) ∧ Below W.heap.size W w'
theorem levelEn (w : World) (l x : Int) : Calls Tryz.prog 265 #[.int .i8 l, .int .i8 x] w (fun e w' => e = .returned (.bool (decide (l ≤ x))) ∧ Below w.heap.size w w') := by
  by_cases h : l ≤ x
  · go_enter Tryz.func265, Tryz.ntmps265
    go_wp2
    go_ret
    exact ⟨by simp [h], by go_grown⟩
  · go_enter Tryz.func265, Tryz.ntmps265
    go_wp2
    go_ret
    exact ⟨by simp [h], by go_grown⟩
theorem leaf_meth (W : World) (b : Nat) : (method 615 141 (.pointer (some ⟨b, 0, none⟩)) "Enabled").run Tryz.prog W = (do
    match ← loadVar 147 ⟨b, 0, none⟩ with
    | .iface t' v' => method 614 t' v' "Enabled"
    | .nilIface => runtimePanic .nilDeref
    | _ => stuck "method row: interface value expected" : Sem (FuncId × Value)).run Tryz.prog W := by kernel_rfl
theorem leaf_meth2 (W : World) (b : Nat) (l : Int) (hc : W.cell? ⟨b, 0, none⟩ = some (.iface 142 (.int .i8 l))) : (method 615 141 (.pointer (some ⟨b, 0, none⟩)) "Enabled").run Tryz.prog W = .ok (265, .int .i8 l) W := by
  rw [leaf_meth]
  have h1 : (loadVar 147 ⟨b, 0, none⟩).run Tryz.prog W = .ok (.iface 142 (.int .i8 l)) W := by
    simp [loadVar, go_sem, hc]
  have h2 : (method 614 142 (.int .i8 l) "Enabled").run Tryz.prog W = .ok (265, .int .i8 l) W := by kernel_rfl
  simp [h1, h2]
theorem nopEn (w : World) (x : Int) : Calls Tryz.prog 393 #[.agg #[], .int .i8 x] w (EnPost .nop x w) := by
  go_enter Tryz.func393, Tryz.ntmps393
  go_wp2
  go_ret
  exact ⟨rfl, by go_grown⟩
theorem incEn (w : World) (b : Nat) (l x : Int) (v : Value) (c : Cor) (k : Blk w b 308 #[v, .iface 142 (.int .i8 l)]) : Calls Tryz.prog 404 #[.pointer (some ⟨b, 0, none⟩), .int .i8 x] w (EnPost (.inc l c) x w) := by
  have d1 := k.cell 1
  simp only [List.getElem?_toArray, List.getElem?_cons_zero, List.getElem?_cons_succ] at d1
  clear k
  go_enter Tryz.func404, Tryz.ntmps404
  go_wp2_with (go_at_call 265; go_must (refine (levelEn _ l x).mono ?_; rintro e w1 ⟨rfl, hb⟩))
  go_ret
  exact ⟨rfl, hb⟩
theorem lazyEn (w : World) (b : Nat) (x : Int) (v o u V : Value) (c : Cor) (F : List Fld) (k : Blk w b 311 #[u, v, o, V]) (hc : CallOk "Enabled" v #[.int .i8 x] w (EnPost c x w)) : Calls Tryz.prog 410 #[.pointer (some ⟨b, 0, none⟩), .int .i8 x] w (EnPost (.lazy c F) x w) := by
  obtain ⟨T, q, f, r, rfl, hm, hcf, hc⟩ := hc
  have hc : Calls Tryz.prog f #[r, .int .i8 x] w (EnPost c x w) := hc
  have d1 := k.cell 1
  simp only [List.getElem?_toArray, List.getElem?_cons_zero, List.getElem?_cons_succ] at d1
  have H := Lib.hid hc
  clear k hc
  go_enter Tryz.func410, Tryz.ntmps410
  go_wp2_with (refine H.out.mono ?_; rintro e w1 ⟨rfl, hb⟩)
  go_ret
  exact ⟨rfl, hb⟩
theorem en_tee_true {n k : Nat} {kid : Nat → Cor} {x : Int} (hk : k < n) (h : (kid k).en x = true) : (Cor.tee n kid).en x = true := by
  simp only [Cor.en, List.any_eq_true]
  exact ⟨k, List.mem_range.2 hk, h⟩
theorem en_tee_false {n : Nat} {kid : Nat → Cor} {x : Int} (h : ∀ j, j < n → (kid j).en x = false) : (Cor.tee n kid).en x = false := by
  simp only [Cor.en, List.any_eq_false]
  intro j hj
  rw [h j (List.mem_range.1 hj)]
  simp
set_option maxHeartbeats 1000000 in
theorem teeEn (w : World) (S : Typ) (N B b n cap : Nat) (x : Int) (kid : Nat → Cor) (h : Hp S N B w) (hb : S b = some (.tee n kid))
    (ih : ∀ i, i < n → ∀ W v, Hp S N B W → RepC S v (kid i) → CallOk "Enabled" v #[.int .i8 x] W (EnPost (kid i) x W)) : Calls Tryz.prog 398 #[.slice (some ⟨b, 0, none⟩) n cap, .int .i8 x] w (EnPost (.tee n kid) x w) := by
  obtain ⟨hn, ks, kb, hk⟩ := (h.holds b _ hb).2
  have H := Lib.hid (And.intro h (And.intro kb (And.intro hk ih)))
  clear h hb kb hk ih
  go_enter Tryz.func398, Tryz.ntmps398
  go_wp2_with fail
  go_loopw [8] (fun i wr => ∃ k : Nat, k ≤ n ∧ i = .int .i64 k ∧ Below w.heap.size w wr ∧ ∀ j, j < k → (kid j).en x = false) (fun i _ => n - (intOf i).toNat)
  case atStart => exact ⟨0, Nat.zero_le _, rfl, Below.refl _ _, fun j hj => by omega⟩
  case round =>
    obtain ⟨k, hkn, rfl, hbw, hno⟩ := hrel
    by_cases hlt : k < n
    · obtain ⟨v, hv, rv⟩ := H.out.2.2.1 k hlt
      obtain ⟨T, q, f, r, rfl, hm, hcf, hc⟩ := H.out.2.2.2 k hlt wr v (H.out.1.here hbw) rv
      have hc : Calls Tryz.prog f #[r, .int .i8 x] wr (EnPost (kid k) x wr) := hc
      have d0 : wr.cell? ⟨b, k, none⟩ = some (.iface T q) := ((H.out.2.1.here hbw).cell k).trans hv
      cases hen : (kid k).en x
      · have P := Lib.hid (And.intro hbw (And.intro hno (And.intro hc hen)))
        clear hbw hno hc hen hv rv
        go_wp2_with (refine P.out.2.2.1.mono ?_; rintro e w1 ⟨he, hb1⟩; rw [P.out.2.2.2] at he; subst he)
        go_roundw
        case rel => exact ⟨k + 1, by omega, by go_num, P.out.1.trans (hb1.mono P.out.1.size), fun j hj => by
          by_cases hjk : j < k
          · exact P.out.2.1 j hjk
          · obtain rfl : j = k := by omega
            exact P.out.2.2.2⟩
        case measure => simp [intOf]; omega
      · have P := Lib.hid (And.intro hbw (And.intro hno (And.intro hc hen)))
        clear hbw hno hc hen hv rv
        go_wp2_with (refine P.out.2.2.1.mono ?_; rintro e w1 ⟨he, hb1⟩; rw [P.out.2.2.2] at he; subst he)
        go_ret
        exact ⟨by rw [en_tee_true hlt P.out.2.2.2]; rfl, P.out.1.trans (hb1.mono P.out.1.size)⟩
    · obtain rfl : k = n := by omega
      have P := Lib.hid (And.intro hbw hno)
      clear hbw hno
      go_wp2_with fail
      go_ret
      exact ⟨by rw [en_tee_false P.out.2]; rfl, P.out.1⟩
theorem en_all : ∀ (k : Nat) (t : Cor) (S : Typ) (N B : Nat) (W : World) (v : Value) (x : Int), t.ht ≤ k → Hp S N B W → RepC S v t → CallOk "Enabled" v #[.int .i8 x] W (EnPost t x W)
  | 0, t, _, _, _, _, _, _, h, _, _ => by cases t <;> simp [Cor.ht] at h
  | k + 1, .leaf m l F, S, N, B, W, v, x, h, hp, ⟨b, hv, hb⟩ => by
    obtain ⟨V, kb, _⟩ := (hp.holds b _ hb).2
    exact ⟨141, _, 265, _, hv, leaf_meth2 W b l (kb.cell 0), fun _ _ => by kernel_rfl, levelEn W l x⟩
  | k + 1, .nop, S, N, B, W, v, x, h, hp, hv => ⟨303, _, 393, _, hv, by kernel_rfl, fun _ _ => by kernel_rfl, nopEn W x⟩
  | k + 1, .tee n kid, S, N, B, W, v, x, h, hp, ⟨b, cap, hv, hb⟩ => ⟨304, _, 398, _, hv, by kernel_rfl, fun _ _ => by kernel_rfl, teeEn W S N B b n cap x kid hp hb (fun i hi W' v' a1 a2 => en_all k (kid i) S N B W' v' x (by
      have h1 : supN (fun i => (kid i).ht) n + 1 ≤ k + 1 := h
      have h2 := le_supN (fun i => (kid i).ht) hi
      exact Nat.le_trans h2 (Nat.le_of_succ_le_succ h1)) a1 a2)⟩
  | k + 1, .inc l c, S, N, B, W, v, x, h, hp, ⟨b, hv, hb⟩ => by
    obtain ⟨v', kb, _⟩ := (hp.holds b _ hb).2
    exact ⟨306, _, 404, _, hv, by kernel_rfl, fun _ _ => by kernel_rfl, incEn W b l x v' c kb⟩
  | k + 1, .lazy c F, S, N, B, W, v, x, h, hp, ⟨b, hv, hb⟩ => by
    obtain ⟨v', V, _, hr, kb⟩ := (hp.holds b _ hb).2
    have hc := en_all k c S N B W v' x (by have h1 : c.ht + 1 ≤ k + 1 := h; omega) hp hr
    rcases kb with kb | ⟨u, kb, _⟩
    · exact ⟨309, _, 410, _, hv, by kernel_rfl, fun _ _ => by kernel_rfl, lazyEn W b x v' _ _ V c F kb hc⟩
    · exact ⟨309, _, 410, _, hv, by kernel_rfl, fun _ _ => by kernel_rfl, lazyEn W b x v' _ _ V c F kb hc⟩
end Go.Proofs.YtieidjlmgalihaaGreatDoor
