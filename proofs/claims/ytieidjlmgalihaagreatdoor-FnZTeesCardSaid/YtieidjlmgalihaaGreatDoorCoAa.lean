/- coreOf: a leaf, none. -/
import Derived.Test.YtieidjlmgalihaaGreatDoorCoJ
set_option linter.all false
namespace Go.Proofs.YtieidjlmgalihaaGreatDoor
open Go.RowKit
set_option maxRecDepth 100000
/-- What making cores does: as a call on cores, and the notes' count of leaves. -/
structure Bst (S : Typ) (N B : Nat) (W : World) (S' : Typ) (W' : World) : Prop where
  up : Upw S S'
  new : ∀ b, b < W.heap.size → S b = none → S' b = none
  hp : Hp S' N B W'
  only : Only (fun b => Lzy S b ∨ b = N) W W'
theorem Bst.trans {S S1 S2 : Typ} {N B : Nat} {W W1 W2 : World} (h : Bst S N B W S1 W1) (k : Bst S1 N B W1 S2 W2) : Bst S N B W S2 W2 :=
  ⟨fun b t e => k.up b t (h.up b t e), fun b hb e => k.new b (Nat.lt_of_lt_of_le hb h.only.size) (h.new b hb e), k.hp, h.only.then k.only (fun i hi hx => by
    rcases hx with ⟨c, F, e⟩ | hx
    · cases e2 : S i with
      | none => rw [h.new i hi e2] at e; cases e
      | some t => rw [h.up i t e2] at e; injection e with e; exact .inl ⟨c, F, by rw [e2, e]⟩
    · exact .inr hx)⟩
theorem Bst.of {S S' : Typ} {N B : Nat} {W W' : World} (s : Stp S N B W S' W') : Bst S N B W S' W' := ⟨s.up, s.new, s.hp, s.only.mono (fun _ _ h => .inl h)⟩
theorem Bst.refl {S : Typ} {N B : Nat} {W : World} (h : Hp S N B W) : Bst S N B W S W := Bst.of (Stp.refl h)
section
variable {S S' : Typ} {N B : Nat} {W W' : World}
theorem Bst.below (s : Bst S N B W S' W') (h : Hp S N B W) (hN : B ≤ N) : Below B W W' := s.only.below h.base (fun k hk hx => by
  rcases hx with ⟨c, F, e⟩ | hx
  · have := (h.holds k _ e).1; omega
  · omega)
theorem Bst.own (s : Bst S N B W S' W') (h : Hp S N B W) {cs : Array Value} (hN : Blk W N 145 cs) {B' : Nat} {e : TypeId} {size n : Nat} {v : Value} {xs : List Value} (ho : W.ownsRow B' e size v n xs) (he : e ≠ 311) (he2 : e ≠ 145) : W'.ownsRow B' e size v n xs :=
  own_only ho s.only (fun g hg hl => by
    rcases hl with hl | hl
    · obtain ⟨cs', k⟩ := h.lzy hl; exact own_ne ho k he hg
    · subst hl; exact own_ne ho hN he2 hg)
theorem Bst.blk (s : Bst S N B W S' W') (h : Hp S N B W) {cs' : Array Value} (hN : Blk W N 145 cs') {b : Nat} {T : TypeId} {cs : Array Value} (hb : Blk W b T cs) (hT : T ≠ 311) (hT2 : T ≠ 145) : Blk W' b T cs :=
  hb.only s.only (fun hl => by
    rcases hl with hl | hl
    · obtain ⟨cs', k⟩ := h.lzy hl; exact hb.ne_ k hT rfl
    · subst hl; exact hb.ne_ hN hT2 rfl)
end
/-- What coreOf leaves. -/
def CofPost (a : Arg) (m : Nat) (ent : Int) (seenV : Value) (S : Typ) (N B : Nat) (w : World) (e : Ending) (w' : World) : Prop :=
  (∃ m1 c v S', a.build m = (m1, some c) ∧ e = .returned (.tuple #[v, .bool true]) ∧ Bst S N B w S' w' ∧ RepC S' v c ∧ Blk w' N 145 #[.int .i64 ent, .int .i64 m1, seenV]) ∨
  (∃ m1, a.build m = (m1, none) ∧ e = .returned (.tuple #[.nilIface, .bool false]) ∧ Below B w w')
set_option maxHeartbeats 4000000 in
theorem cof_nop (w : World) (S : Typ) (N B m : Nat) (ent lev : Int) (seenV : Value) (kA fA : Option Addr) (kn kc fn fc : Nat) (kid : Nat → Arg) (fld : Nat → Fld) (h : Hp S N B w) (hN : Blk w N 145 #[.int .i64 ent, .int .i64 m, seenV]) :
    Calls Tryz.prog 81 #[.agg (Arg.mk 5 lev kA kn kc fA fn fc kid fld).arr, .pointer (some ⟨N, 0, none⟩)] w (CofPost (.mk 5 lev kA kn kc fA fn fc kid fld) m ent seenV S N B w) := by
  have H := Lib.hid (And.intro h hN)
  clear h hN
  have harr : (Arg.mk 5 lev kA kn kc fA fn fc kid fld).arr = #[.int .i64 5, .int .i64 lev, .slice kA kn kc, .slice fA fn fc] := rfl
  rw [harr]
  go_enter Tryz.func81, Tryz.ntmps81
  go_wp2_with (go_at_call 119; go_must (refine (newNop _).mono ?_; rintro e w1 ⟨rfl, rfl⟩))
  go_ret2
  have hb : ∀ o, Below w.heap.size w (w.alloc o) := fun o => (Below.refl _ _).alloc (Nat.le_refl _) o
  exact .inl ⟨m, .nop, _, S, by simp [Arg.build], rfl, Bst.of (Stp.of_below H.out.1 (hb _)), rfl, H.out.2.here (hb _)⟩
set_option maxHeartbeats 4000000 in
theorem cof_leaf (w : World) (S : Typ) (N B m : Nat) (ent lev : Int) (seenV : Value) (kA fA : Option Addr) (kn kc fn fc : Nat) (kid : Nat → Arg) (fld : Nat → Fld) (h : Hp S N B w) (hBN : B ≤ N) (hN : Blk w N 145 #[.int .i64 ent, .int .i64 m, seenV]) (hm : m ≤ 1000000) :
    Calls Tryz.prog 81 #[.agg (Arg.mk 0 lev kA kn kc fA fn fc kid fld).arr, .pointer (some ⟨N, 0, none⟩)] w (CofPost (.mk 0 lev kA kn kc fA fn fc kid fld) m ent seenV S N B w) := by
  obtain ⟨c1, f1, l1⟩ := hN.use
  have H := Lib.hid (And.intro h hN)
  clear h hN
  have harr : (Arg.mk 0 lev kA kn kc fA fn fc kid fld).arr = #[.int .i64 0, .int .i64 lev, .slice kA kn kc, .slice fA fn fc] := rfl
  have hw : IntKind.i64.wrap (m : Int) = (m : Int) := IntWalk.i64_in _ (by omega)
  rw [harr]
  go_enter Tryz.func81, Tryz.ntmps81
  go_wp2_with fail
  obtain ⟨W, hW⟩ : ∃ W : World, W = (w.setCell ⟨N, 1, none⟩ (.int .i64 ((m : Int) + 1))).alloc (.cells #[.int .i64 0, .int .i64 lev, .slice kA kn kc, .slice fA fn fc] 69) := ⟨_, rfl⟩
  have hsz : (w.setCell ⟨N, 1, none⟩ (.int .i64 ((m : Int) + 1))).heap.size = w.heap.size := by simp [World.setCell]
  have ho : Only (fun b => b = N) w W := by rw [hW]; exact ((Only.refl (fun b => b = N) w).setCell (p := ⟨N, 1, none⟩) (.inl rfl) _).alloc _
  have qN : Blk W N 145 #[.int .i64 ent, .int .i64 ((m : Int) + 1), seenV] := by rw [hW]; exact Blk.alloc (by simpa using H.out.2.set_ 1 (.int .i64 ((m : Int) + 1))) _
  have qb : Blk W w.heap.size 69 #[.int .i64 0, .int .i64 lev, .slice kA kn kc, .slice fA fn fc] := by rw [hW]; exact Blk.new_at _ _ _ _ hsz
  rw [← hW]
  clear hW c1 f1
  have n1 : W.cell? ⟨N, 1, none⟩ = some (.int .i64 ((m : Int) + 1)) := qN.cell 1
  have b1 : W.cell? ⟨w.heap.size, 1, none⟩ = some (.int .i64 lev) := qb.cell 1
  have hSN : S N = none := H.out.1.apart H.out.2 (by decide) (by decide) (by decide) (by decide)
  have t131 : ∀ i cs fz, w.heap[i]? = some (Obj.cells cs 131 fz) → ¬ i = N := fun i cs fz hi e => by subst e; exact absurd (blk_tag H.out.2 hi) (by decide)
  have hpW : Hp S N B W := H.out.1.only ho (fun i hi => by rw [hi]; exact hSN) t131
  have P := Lib.hid (And.intro ho (And.intro qN hpW))
  clear ho qN qb t131 hpW hsz hSN
  go_region_held3 (fun w' => w'.cell? ⟨N, 1, none⟩ = some (.int .i64 ((m : Int) + 1)) ∧ w'.cell? ⟨w.heap.size, 1, none⟩ = some (.int .i64 lev)) (go_keep) (fail)
  go_wp2_with fail
  go_ret2
  have hs := P.out.1.size
  have hst : Bst S N B w S W := ⟨fun _ _ h => h, fun _ _ h => h, P.out.2.2, P.out.1.mono (fun _ _ h => .inr h)⟩
  have hb : ∀ o, Below W.heap.size W (W.alloc o).drew := fun o => ((Below.refl _ _).alloc (Nat.le_refl _) o).drew
  refine .inl ⟨m + 1, .leaf m (IntKind.i8.wrap lev) [], _, S.add W.heap.size (.leaf m (IntKind.i8.wrap lev) []), by simp [Arg.build], rfl, hst.trans (Bst.of ((Stp.of_below P.out.2.2 (hb _)).add (P.out.2.2.off (Nat.le_refl _)) (Nat.le_refl _) P.out.2.2.base ⟨.slice none 0 0, (Blk.new _ _ _).drew, .inl ⟨rfl, rfl, rfl⟩⟩)), ⟨_, rfl, Typ.add_at⟩, ?_⟩
  exact P.out.2.1.here (hb _)
end Go.Proofs.YtieidjlmgalihaaGreatDoor
namespace Go.Proofs.YtieidjlmgalihaaGreatDoor
open Go.RowKit
set_option maxRecDepth 100000
theorem buildAll_none (f : Nat → Nat → Nat × Option Cor) (m k m1 m2 : Nat) (l : List Cor) (h1 : buildAll f k m = (m1, some l)) (h2 : f k m1 = (m2, none)) : ∀ n, k < n → ∃ m3, buildAll f n m = (m3, none)
  | n + 1, hn => by
    by_cases e : k = n
    · subst e
      exact ⟨m2, by simp only [buildAll, h1, h2]⟩
    · obtain ⟨m3, h3⟩ := buildAll_none f m k m1 m2 l h1 h2 n (by omega)
      exact ⟨m3, by simp only [buildAll, h3]⟩
theorem buildAll_snoc {f : Nat → Nat → Nat × Option Cor} {m k m1 m2 : Nat} {l : List Cor} {c : Cor} (h1 : buildAll f k m = (m1, some l)) (h2 : f k m1 = (m2, some c)) : buildAll f (k + 1) m = (m2, some (l ++ [c])) := by simp only [buildAll, h1, h2]
theorem build_fail {kind lev : Int} {kA fA : Option Addr} {kn kc fn fc m m1 : Nat} {kid : Nat → Arg} {fld : Nat → Fld} (h0 : kind ≠ 0) (h5 : kind ≠ 5) (h : buildAll (fun i => (kid i).build) kn m = (m1, none)) : (Arg.mk kind lev kA kn kc fA fn fc kid fld).build m = (m1, none) := by
  simp only [Arg.build]
  rw [if_neg h0, if_neg h5, h]
/-- A row of the call's own has grown. -/
theorem Bst.row {S S' : Typ} {N B : Nat} {w W' W'' : World} {V : Value} {n : Nat} {vs : List Value} (s : Bst S N B w S' W') (hown : W'.ownsRow w.heap.size 139 1 V n vs) (hoff : ∀ g, V.ownBlock = some g → S' g = none) (ho : Only (fun k => V.ownBlock = some k) W' W'') : Bst S N B w S' W'' :=
  ⟨s.up, s.new, s.hp.only ho (fun b hb => hoff b hb) (fun b cs fz hk => own_tag hown hk (by decide)), s.only.then ho (fun i hi e => by have := (hown.lt i e).1; omega)⟩
theorem Kids.snoc {S : Typ} {B g cap : Nat} {W' : World} {l : List Cor} {vs : List Value} {c : Cor} {v : Value} (hvs : vs.length = l.length) (hrep : ∀ (i : Nat) (c : Cor), l[i]? = some c → ∃ v, vs[i]? = some v ∧ RepC S v c) (hr : RepC S v c) (hown : W'.ownsRow B 139 1 (.slice (some ⟨g, 0, none⟩) (l.length + 1) cap) (l.length + 1) (vs ++ [v])) (hg : S g = none) : Kids S B W' (.slice (some ⟨g, 0, none⟩) (l.length + 1) cap) (l ++ [c]) := by
  refine ⟨⟨vs ++ [v], by simpa using hown, fun i c' hc' => ?_⟩, fun g' hg' => ?_⟩
  · by_cases hi : i < l.length
    · rw [List.getElem?_append_left hi] at hc'
      obtain ⟨u, h1, h2⟩ := hrep i c' hc'
      exact ⟨u, by rw [List.getElem?_append_left (by omega)]; exact h1, h2⟩
    · rw [List.getElem?_append_right (by omega)] at hc'
      cases e : i - l.length with
      | zero =>
        rw [e] at hc'
        simp at hc'
        subst hc'
        exact ⟨v, by rw [List.getElem?_append_right (by omega), hvs, e]; rfl, hr⟩
      | succ q => rw [e] at hc'; simp at hc'
  · have : g = g' := by simpa [Value.ownBlock] using hg'
    rw [← this]
    exact hg
theorem Kids.step {S S' : Typ} {N B B' : Nat} {W W' : World} {V : Value} {l : List Cor} {cs : Array Value} (k : Kids S B' W V l) (h : Hp S N B W) (hN : Blk W N 145 cs) (s : Bst S N B W S' W') : Kids S' B' W' V l := by
  obtain ⟨⟨vs, h1, h2⟩, h3⟩ := k
  exact ⟨⟨vs, s.own h hN h1 (by decide) (by decide), fun i c hc => by obtain ⟨v, q1, q2⟩ := h2 i c hc; exact ⟨v, q1, q2.up s.up⟩⟩, fun g hg => s.new g (h1.lt g hg).2 (h3 g hg)⟩
end Go.Proofs.YtieidjlmgalihaaGreatDoor
