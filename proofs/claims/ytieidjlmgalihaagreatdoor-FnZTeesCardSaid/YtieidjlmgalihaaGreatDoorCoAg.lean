/- The guards on cores answer; what a yes says. -/
import Derived.Test.YtieidjlmgalihaaGreatDoorCoAf
import Derived.Test.YtieidjlmgalihaaGreatDoorCoAb
import Derived.Test.YtieidjlmgalihaaGreatDoorGrt
set_option linter.all false
namespace Go.Proofs.YtieidjlmgalihaaGreatDoor
open Go.RowKit
set_option maxRecDepth 100000
theorem fits16_any (w : World) (kind lev : Int) (kA fA : Option Addr) (kn kc fn fc : Nat) : Calls Tryz.prog 34 #[.agg #[.int .i64 kind, .int .i64 lev, .slice kA kn kc, .slice fA fn fc]] w (SomeBool w) := by
  go_enter Tryz.func34, Tryz.ntmps34
  go_wp2
  all_goals (go_ret; exact ⟨_, rfl, (Below.refl _ _).alloc (Nat.le_refl _) _⟩)
theorem all_more {p : Arg → Prop} {kid : Nat → Arg} {q : Nat} {a : Arg} (h : ∀ j, j < q → p (kid j)) (e : kid q = a) (h2 : p a) : ∀ j, j < q + 1 → p (kid j) := fun j hj => by
  by_cases hj2 : j < q
  · exact h j hj2
  · obtain rfl : j = q := by omega
    rw [e]
    exact h2
def FinePost (a : Arg) (d : Nat) (w : World) (e : Ending) (w' : World) : Prop := ∃ bo, e = .returned (.bool bo) ∧ Below w.heap.size w w' ∧ (bo = true → a.Fine d)
theorem fine_zero (w : World) (kind lev : Int) (kA fA : Option Addr) (kn kc fn fc : Nat) (kid : Nat → Arg) (fld : Nat → Fld) : Calls Tryz.prog 79 #[.agg #[.int .i64 kind, .int .i64 lev, .slice kA kn kc, .slice fA fn fc], .int .i64 0] w (FinePost (.mk kind lev kA kn kc fA fn fc kid fld) 0 w) := by
  go_enter Tryz.func79, Tryz.ntmps79
  go_wp2_with fail
  all_goals (go_ret; exact ⟨_, rfl, (Below.refl _ _).alloc (Nat.le_refl _) _, fun h => by cases h⟩)
set_option maxHeartbeats 8000000 in
theorem fine_succ (kf k d : Nat) (hd : d ≤ 100) (w : World) (kind lev : Int) (kA fA : Option Addr) (kn kc fn fc : Nat) (kid : Nat → Arg) (fld : Nat → Fld) (h : CorAt kf (k + 1) w (.mk kind lev kA kn kc fA fn fc kid fld))
    (ih : ∀ (a : Arg) (w : World), CorAt kf k w a → Calls Tryz.prog 79 #[.agg a.arr, .int .i64 (d : Int)] w (FinePost a d w)) :
    Calls Tryz.prog 79 #[.agg #[.int .i64 kind, .int .i64 lev, .slice kA kn kc, .slice fA fn fc], .int .i64 ((d : Int) + 1)] w (FinePost (.mk kind lev kA kn kc fA fn fc kid fld) (d + 1) w) := by
  have hd0 : ((d : Int) + 1 == 0) = false := by simp; omega
  have hd1 : IntKind.i64.wrap ((d : Int) + 1 - 1) = (d : Int) := by rw [IntWalk.i64_in _ (by omega)]; omega
  have hba : ∀ o, Below w.heap.size w (w.alloc o) := fun o => (Below.refl _ _).alloc (Nat.le_refl _) o
  by_cases hin : 0 ≤ kind ∧ kind ≤ 5 ∧ kn ≤ 6
  · obtain ⟨hi1, hi2, hi3⟩ := hin
    obtain ⟨arr, harr⟩ : ∃ arr : Array Value, arr = #[.int .i64 kind, .int .i64 lev, .slice kA kn kc, .slice fA fn fc] := ⟨_, rfl⟩
    have st0 : Blk (w.alloc (.cells #[.int .i64 kind, .int .i64 lev, .slice kA kn kc, .slice fA fn fc] 69)) w.heap.size 69 arr := by rw [harr]; exact Blk.new _ _ _
    have H := Lib.hid (And.intro h (And.intro ih (And.intro hba (And.intro harr st0))))
    clear h ih hba harr st0
    have e6 : decide ((6 : Int) < (kn : Int)) = false := by simp; omega
    obtain ⟨x1, e1⟩ : ∃ x1 : Bool, ((kn : Int) == 1) = x1 := ⟨_, rfl⟩
    cases x1
    all_goals rcases (by omega : kind = 0 ∨ kind = 1 ∨ kind = 2 ∨ kind = 3 ∨ kind = 4 ∨ kind = 5) with rfl | rfl | rfl | rfl | rfl | rfl
    all_goals clear hi1 hi2
    all_goals go_enter Tryz.func79, Tryz.ntmps79
    all_goals go_wp2_with fail
    all_goals first
      | (go_ret; exact ⟨_, rfl, H.out.2.2.1 _, fun h => by cases h⟩)
      | skip
    all_goals
      go_loopw [6] (fun i wr => ∃ q : Nat, q ≤ kn ∧ i = .int .i64 q ∧ Below w.heap.size w wr ∧ Blk wr w.heap.size 69 arr ∧ (∀ j, j < q → (kid j).Fine d)) (fun i _ => kn - (intOf i).toNat)
      case atStart => exact ⟨0, Nat.zero_le _, rfl, H.out.2.2.1 _, H.out.2.2.2.2, fun j hj => by omega⟩
      case round =>
        obtain ⟨q, hq, rfl, hb, box, hf⟩ := hrel
        have bx0 := box.cell 0
        have bx2 := box.cell 2
        rw [H.out.2.2.2.1] at bx0 bx2
        simp only [List.getElem?_toArray, List.getElem?_cons_zero, List.getElem?_cons_succ] at bx0 bx2
        have bxl := box.lt
        by_cases hlt : q < kn
        · obtain ⟨b, off, rfl, _, hc⟩ := (H.out.1.2.1.below hb) q hlt
          have hka := H.out.1.2.2.1 q hlt
          cases hkk : kid q with
          | nil => rw [hkk] at hka; cases k <;> exact hka.elim
          | mk k1 l1 A1 n1 c1 A2 n2 c2 kd fl =>
            have hcs := Arg.cells (kid := kd) (fld := fl) (by simp only [hkk] at hc; exact hc)
            have hcall := H.out.2.1 (kid q) wr (hka.below hb)
            rw [hkk] at hcall
            have hcall : Calls Tryz.prog 79 #[.agg #[.int .i64 k1, .int .i64 l1, .slice A1 n1 c1, .slice A2 n2 c2], .int .i64 (d : Int)] wr (FinePost (.mk k1 l1 A1 n1 c1 A2 n2 c2 kd fl) d wr) := hcall
            have P := Lib.hid (And.intro hcall (And.intro hf (And.intro hb (And.intro box hkk))))
            clear hcall hf hb box hkk hka hc
            go_wp2_with (go_at_call 79; go_must (refine P.out.1.mono ?_; rintro e w1 ⟨bo, rfl, hb1, hbo⟩; have Z := Lib.hid (And.intro hb1 hbo); clear hb1 hbo; cases bo))
            all_goals first
              | (go_ret; exact ⟨_, rfl, P.out.2.2.1.trans (Z.out.1.mono P.out.2.2.1.size), fun h => by cases h⟩)
              | exact ⟨⟨q + 1, by omega, by go_num, P.out.2.2.1.trans (Z.out.1.mono P.out.2.2.1.size), P.out.2.2.2.1.here Z.out.1, all_more P.out.2.1 P.out.2.2.2.2 (Z.out.2 (by trivial))⟩, by simp [intOf]; omega⟩
              | (go_roundw
                 case rel => exact ⟨q + 1, by omega, by go_num, P.out.2.2.1.trans (Z.out.1.mono P.out.2.2.1.size), P.out.2.2.2.1.here Z.out.1, all_more P.out.2.1 P.out.2.2.2.2 (Z.out.2 (by trivial))⟩
                 case measure => simp [intOf]; omega)
        · obtain rfl : q = kn := by omega
          have P := Lib.hid (And.intro hf hb)
          clear hf hb box
          go_wp2_with fail
          all_goals (go_ret; exact ⟨_, rfl, P.out.2, fun _ => ⟨hi3, P.out.1⟩⟩)
  · have hout : kind < 0 ∨ (0 ≤ kind ∧ 5 < kind) ∨ (0 ≤ kind ∧ kind ≤ 5 ∧ 6 < kn) := by omega
    clear hin h ih
    rcases hout with h1 | ⟨h1, h2⟩ | ⟨h1, h2, h3⟩
    all_goals go_enter Tryz.func79, Tryz.ntmps79
    all_goals go_wp2_with fail
    all_goals first
      | (go_ret; exact ⟨_, rfl, hba _, fun h => by cases h⟩)
      | (exfalso; omega)
theorem fine_any (kf : Nat) : ∀ (k d : Nat), d ≤ 100 → ∀ (a : Arg) (w : World), CorAt kf k w a → Calls Tryz.prog 79 #[.agg a.arr, .int .i64 (d : Int)] w (FinePost a d w)
  | 0, _, _, _, _, h => h.elim
  | _ + 1, _, _, .nil, _, h => h.elim
  | _ + 1, 0, _, .mk kind lev kA kn kc fA fn fc kid fld, w, _ => fine_zero w kind lev kA fA kn kc fn fc kid fld
  | k + 1, d + 1, hd, .mk kind lev kA kn kc fA fn fc kid fld, w, h => by
    have := fine_succ kf k d (by omega) w kind lev kA fA kn kc fn fc kid fld h (fun a w ha => fine_any kf k d (by omega) a w ha)
    have e : ((d + 1 : Nat) : Int) = (d : Int) + 1 := by omega
    rw [e]
    exact this
def GrtPost (a : Arg) (w : World) (e : Ending) (w' : World) : Prop := ∃ bo, e = .returned (.bool bo) ∧ Below w.heap.size w w' ∧ (bo = false → a.Small)
set_option maxHeartbeats 4000000 in
theorem grt_succ (kf k : Nat) (w : World) (kind lev : Int) (kA fA : Option Addr) (kn kc fn fc : Nat) (kid : Nat → Arg) (fld : Nat → Fld) (h : CorAt kf (k + 1) w (.mk kind lev kA kn kc fA fn fc kid fld))
    (ih : ∀ (a : Arg) (w : World), CorAt kf k w a → Calls Tryz.prog 80 #[.agg a.arr] w (GrtPost a w)) :
    Calls Tryz.prog 80 #[.agg #[.int .i64 kind, .int .i64 lev, .slice kA kn kc, .slice fA fn fc]] w (GrtPost (.mk kind lev kA kn kc fA fn fc kid fld) w) := by
  have hkn := h.1
  unfold maxLen at hkn
  have hb0 : Below w.heap.size w (w.alloc (.cells #[.int .i64 kind, .int .i64 lev, .slice kA kn kc, .slice fA fn fc] 69)) := (Below.refl _ _).alloc (Nat.le_refl _) _
  have H := Lib.hid (And.intro h (And.intro ih hb0))
  clear h ih hb0
  go_enter Tryz.func80, Tryz.ntmps80
  go_wp2_with fail
  go_loopw [3] (fun i wr => ∃ q : Nat, q ≤ kn ∧ i = .int .i64 q ∧ Below w.heap.size w wr ∧ Blk wr w.heap.size 69 #[.int .i64 kind, .int .i64 lev, .slice kA kn kc, .slice fA fn fc] ∧ (∀ j, j < q → (kid j).Small)) (fun i _ => kn - (intOf i).toNat)
  case atStart => exact ⟨0, Nat.zero_le _, rfl, H.out.2.2, Blk.new _ _ _, fun j hj => by omega⟩
  case round =>
    obtain ⟨q, hq, rfl, hb, box, hf⟩ := hrel
    have bx2 := box.cell 2
    have bx3 := box.cell 3
    simp only [List.getElem?_toArray, List.getElem?_cons_zero, List.getElem?_cons_succ] at bx2 bx3
    have bxl := box.lt
    by_cases hlt : q < kn
    · obtain ⟨b, off, rfl, _, hc⟩ := (H.out.1.2.1.below hb) q hlt
      have hka := H.out.1.2.2.1 q hlt
      cases hkk : kid q with
      | nil => rw [hkk] at hka; cases k <;> exact hka.elim
      | mk k1 l1 A1 n1 c1 A2 n2 c2 kd fl =>
        have hcs := Arg.cells (kid := kd) (fld := fl) (by simp only [hkk] at hc; exact hc)
        have hcall := H.out.2.1 (kid q) wr (hka.below hb)
        rw [hkk] at hcall
        have hcall : Calls Tryz.prog 80 #[.agg #[.int .i64 k1, .int .i64 l1, .slice A1 n1 c1, .slice A2 n2 c2]] wr (GrtPost (.mk k1 l1 A1 n1 c1 A2 n2 c2 kd fl) wr) := hcall
        have P := Lib.hid (And.intro hcall (And.intro hf (And.intro hb (And.intro box hkk))))
        clear hcall hf hb box hkk hka hc
        go_wp2_with (go_at_call 80; go_must (refine P.out.1.mono ?_; rintro e w1 ⟨bo, rfl, hb1, hbo⟩; have Z := Lib.hid (And.intro hb1 hbo); clear hb1 hbo; cases bo))
        all_goals first
          | (go_ret; exact ⟨_, rfl, P.out.2.2.1.trans (Z.out.1.mono P.out.2.2.1.size), fun h => by cases h⟩)
          | exact ⟨⟨q + 1, by omega, by go_num, P.out.2.2.1.trans (Z.out.1.mono P.out.2.2.1.size), P.out.2.2.2.1.here Z.out.1, all_more P.out.2.1 P.out.2.2.2.2 (Z.out.2 (by trivial))⟩, by simp [intOf]; omega⟩
          | (go_roundw
             case rel => exact ⟨q + 1, by omega, by go_num, P.out.2.2.1.trans (Z.out.1.mono P.out.2.2.1.size), P.out.2.2.2.1.here Z.out.1, all_more P.out.2.1 P.out.2.2.2.2 (Z.out.2 (by trivial))⟩
             case measure => simp [intOf]; omega)
    · obtain rfl : q = kn := by omega
      have hg := great_full wr fA fn fc kf fld (H.out.1.2.2.2.below hb)
      have P := Lib.hid (And.intro hf (And.intro hb hg))
      clear hf hb box hg
      go_wp2_with (go_at_call 21; go_must (refine P.out.2.2.mono ?_; rintro e w1 ⟨bo, rfl, hb1, hbo⟩; have Z := Lib.hid (And.intro hb1 hbo); clear hb1 hbo; cases bo))
      all_goals go_ret
      all_goals first
        | exact ⟨_, rfl, P.out.2.1.trans (Z.out.1.mono P.out.2.1.size), fun _ => ⟨Z.out.2 (by trivial), P.out.1⟩⟩
        | exact ⟨_, rfl, P.out.2.1.trans (Z.out.1.mono P.out.2.1.size), fun h => Bool.noConfusion h⟩
theorem grt_any (kf : Nat) : ∀ (k : Nat) (a : Arg) (w : World), CorAt kf k w a → Calls Tryz.prog 80 #[.agg a.arr] w (GrtPost a w)
  | 0, _, _, h => h.elim
  | _ + 1, .nil, _, h => h.elim
  | k + 1, .mk kind lev kA kn kc fA fn fc kid fld, w, h => grt_succ kf k w kind lev kA fA kn kc fn fc kid fld h (fun a w ha => grt_any kf k a w ha)
theorem lt_more {p : Nat → Prop} {q : Nat} (h : ∀ j, j < q → p j) (h2 : p q) : ∀ j, j < q + 1 → p j := fun j hj => by
  by_cases hj2 : j < q
  · exact h j hj2
  · obtain rfl : j = q := by omega
    exact h2
/-- What zCoreLooked says of a core, entries and fields. -/
def Looked (a : Arg) (n1 n2 : Nat) (fs : Nat → FRow) : Prop := a.Fine 6 ∧ a.Small ∧ n1 ≤ 20 ∧ n2 ≤ 20 ∧ ∀ i, i < n2 → (fs i).n ≤ 300
def LookPost (a : Arg) (n1 n2 : Nat) (fs : Nat → FRow) (w : World) (e : Ending) (w' : World) : Prop := ∃ bo, e = .returned (.bool bo) ∧ Below w.heap.size w w' ∧ (bo = true → Looked a n1 n2 fs)
set_option maxHeartbeats 4000000 in
theorem looked_any (kf k : Nat) (w : World) (a : Arg) (A1 A2 : Option Addr) (n1 c1 n2 c2 : Nat) (fs : Nat → FRow) (h : CorAt kf k w a) (hn1 : n1 ≤ maxLen) (hn2 : n2 ≤ maxLen) (hr : RowAt w A2 n2 1 fun i => (fs i).arr) (hF : ∀ i, i < n2 → FldsOk kf w (fs i).A (fs i).n (fs i).g) :
    Calls Tryz.prog 35 #[.agg a.arr, .slice A1 n1 c1, .slice A2 n2 c2] w (LookPost a n1 n2 fs w) := by
  cases a with
  | nil => cases k <;> exact h.elim
  | mk kind lev kA kn kc fA fn fc kid fld =>
    unfold maxLen at hn1 hn2
    have hb0 : Below w.heap.size w (w.alloc (.cells #[.int .i64 kind, .int .i64 lev, .slice kA kn kc, .slice fA fn fc] 69)) := (Below.refl _ _).alloc (Nat.le_refl _) _
    have hfine : Calls Tryz.prog 79 #[.agg #[.int .i64 kind, .int .i64 lev, .slice kA kn kc, .slice fA fn fc], .int .i64 6] (w.alloc (.cells #[.int .i64 kind, .int .i64 lev, .slice kA kn kc, .slice fA fn fc] 69)) (FinePost (.mk kind lev kA kn kc fA fn fc kid fld) 6 (w.alloc (.cells #[.int .i64 kind, .int .i64 lev, .slice kA kn kc, .slice fA fn fc] 69))) := fine_any kf k 6 (by omega) _ _ (h.below hb0)
    have H := Lib.hid (And.intro h (And.intro hb0 (And.intro hr hF)))
    have HC := Lib.hid hfine
    clear h hb0 hfine hr hF
    show Calls Tryz.prog 35 #[.agg #[.int .i64 kind, .int .i64 lev, .slice kA kn kc, .slice fA fn fc], .slice A1 n1 c1, .slice A2 n2 c2] w _
    go_enter Tryz.func35, Tryz.ntmps35
    go_wp2_with (first
      | (go_at_call 79; go_must (refine HC.out.mono ?_; rintro e w1 ⟨bo, rfl, hb1, hbo⟩; have Z := Lib.hid (And.intro (H.out.2.1.trans (hb1.mono (by simp))) hbo); have box := (Blk.new w 69 #[.int .i64 kind, .int .i64 lev, .slice kA kn kc, .slice fA fn fc]).here hb1; obtain ⟨x1, x2, x3⟩ := box.use; clear hb1 hbo box; cases bo))
      | (go_at_call 80; go_must (refine (grt_any kf k (.mk kind lev kA kn kc fA fn fc kid fld) w1 (H.out.1.below Z.out.1)).mono ?_; rintro e w2 ⟨bp, rfl, hb2, hbp⟩; have Y := Lib.hid (And.intro (Z.out.1.trans (hb2.mono Z.out.1.size)) hbp); clear hb2 hbp; cases bp)))
    all_goals first
      | (go_ret; first | exact ⟨_, rfl, Y.out.1, fun h => Bool.noConfusion h⟩ | exact ⟨_, rfl, Z.out.1, fun h => Bool.noConfusion h⟩)
      | skip
    clear x1 x2 x3
    go_loopw [7] (fun i wr => ∃ q : Nat, q ≤ n2 ∧ i = .int .i64 q ∧ Below w.heap.size w wr ∧ ∀ j, j < q → (fs j).n ≤ 300) (fun i _ => n2 - (intOf i).toNat)
    case atStart => exact ⟨0, Nat.zero_le _, rfl, Y.out.1, fun j hj => by omega⟩
    case round =>
      obtain ⟨q, hq, rfl, hb, hf⟩ := hrel
      by_cases hlt : q < n2
      · obtain ⟨b, off, rfl, _, hc⟩ := (H.out.2.2.1.below hb) q hlt
        have hc0 := hc 0 (by omega)
        simp only [List.getElem?_toArray, List.getElem?_cons_zero, Nat.mul_one, Nat.add_zero] at hc0
        have hg := great_full wr (fs q).A (fs q).n (fs q).c kf (fs q).g ((H.out.2.2.2 q hlt).below hb)
        have P := Lib.hid (And.intro hg (And.intro hf hb))
        clear hg hf hb hc
        go_wp2_with (go_at_call 21; go_must (refine P.out.1.mono ?_; rintro e w3 ⟨bo, rfl, hb3, hbo⟩; have X := Lib.hid (And.intro (P.out.2.2.trans (hb3.mono P.out.2.2.size)) hbo); clear hb3 hbo; cases bo))
        all_goals first
          | (go_ret; exact ⟨_, rfl, X.out.1, fun h => Bool.noConfusion h⟩)
          | exact ⟨⟨q + 1, by omega, by go_num, X.out.1, lt_more P.out.2.1 (X.out.2 (by trivial))⟩, by simp [intOf]; omega⟩
          | (go_roundw
             case rel => exact ⟨q + 1, by omega, by go_num, X.out.1, lt_more P.out.2.1 (X.out.2 (by trivial))⟩
             case measure => simp [intOf]; omega)
      · obtain rfl : q = n2 := by omega
        have P := Lib.hid (And.intro hf hb)
        clear hf hb
        go_wp2_with fail
        go_ret
        exact ⟨_, rfl, P.out.2, fun _ => ⟨Z.out.2 (by trivial), Y.out.2 (by trivial), by omega, by omega, P.out.1⟩⟩
end Go.Proofs.YtieidjlmgalihaaGreatDoor
