/- Check of cores: what it leaves; a leaf. -/
import Derived.Test.YtieidjlmgalihaaGreatDoorCoE
set_option linter.all false
namespace Go.Proofs.YtieidjlmgalihaaGreatDoor
open Go.RowKit
set_option maxRecDepth 100000
/-- The blocks that Check may turn: lazy cores, checked entries, rows of cores that are no tee's. -/
def TyS (S : Typ) (W : World) (b : Nat) : Prop := ∃ cs T fz, W.heap[b]? = some (Obj.cells cs T fz) ∧ (T = 311 ∨ T = 250 ∨ (T = 139 ∧ S b = none))
/-- A checked entry that has leaves, or none yet. -/
def CeAt (S : Typ) (B : Nat) (x : Ent) (W : World) (p : Value) (ls : List Lf) : Prop :=
  (ls = [] ∧ p = .pointer none) ∨ (∃ ce V cores, p = .pointer (some ⟨ce, 0, none⟩) ∧ B ≤ ce ∧ 0 < ls.length ∧ Blk W ce 250 (x.ce false V) ∧ W.ownsRow B 139 1 V ls.length cores ∧ (∀ g, V.ownBlock = some g → S g = none) ∧ ∀ (i : Nat) (l : Lf), ls[i]? = some l → ∃ v, cores[i]? = some v ∧ RepC S v (.leaf l.num l.lev l.F))
theorem CeAt.form {S : Typ} {B : Nat} {x : Ent} {W : World} {p : Value} {ls : List Lf} (h : CeAt S B x W p ls) : ∃ a, p = .pointer a := by
  rcases h with ⟨_, h⟩ | ⟨ce, _, _, h, _⟩
  · exact ⟨_, h⟩
  · exact ⟨_, h⟩
theorem CeAt.step {S S' : Typ} {N B : Nat} {x : Ent} {W W' : World} {p : Value} {ls : List Lf} (h : CeAt S B x W p ls) (hp : Hp S N B W) (s : Stp S N B W S' W') : CeAt S' B x W' p ls := by
  rcases h with h | ⟨ce, V, cores, h1, h2, h3, h4, h5, h6, h7⟩
  · exact .inl h
  · refine .inr ⟨ce, V, cores, h1, h2, h3, s.blk hp h4 (by decide), s.own hp h5 (by decide), fun g hg => s.new g (h5.lt g hg).2 (h6 g hg), fun i l hl => ?_⟩
    obtain ⟨v, q1, q2⟩ := h7 i l hl
    exact ⟨v, q1, q2.up s.up⟩
theorem CeAt.here {S : Typ} {N B : Nat} {x : Ent} {W W' : World} {p : Value} {ls : List Lf} (h : CeAt S B x W p ls) (hp : Hp S N B W) (hb : Below W.heap.size W W') : CeAt S B x W' p ls := h.step hp (Stp.of_below hp hb)
/-- What Check leaves. -/
def ChkPost (S : Typ) (N B : Nat) (W : World) (x : Ent) (ls : List Lf) (t : Cor) (e : Ending) (w' : World) : Prop :=
  ∃ p S', e = .returned p ∧ Upw S S' ∧ Hp S' N B w' ∧ CeAt S' B x w' p (ls ++ t.hits (IntKind.i8.wrap x.level)) ∧ Only (fun b => B ≤ b ∧ TyS S W b) W w'
theorem tyS_then {S S1 : Typ} {B : Nat} {W W1 W2 : World} (hu : Upw S S1) (h : Only (fun b => B ≤ b ∧ TyS S W b) W W1) (k : Only (fun b => B ≤ b ∧ TyS S1 W1 b) W1 W2) : Only (fun b => B ≤ b ∧ TyS S W b) W W2 :=
  h.then k (fun i hi ⟨hB, cs, T, fz, hk, hT⟩ => by
    refine Classical.byContradiction fun hn => hn ?_
    rw [h.block i hi hn] at hk
    refine ⟨hB, cs, T, fz, hk, ?_⟩
    rcases hT with hT | hT | ⟨hT, hS⟩
    · exact .inl hT
    · exact .inr (.inl hT)
    · refine .inr (.inr ⟨hT, ?_⟩)
      cases e : S i with
      | none => rfl
      | some t => rw [hu i t e] at hS; cases hS)
theorem Stp.tyS {S S' : Typ} {N B : Nat} {W W' : World} (s : Stp S N B W S' W') (h : Hp S N B W) : Only (fun b => B ≤ b ∧ TyS S W b) W W' :=
  s.only.mono (fun i _ hl => by
    obtain ⟨cs, k⟩ := h.lzy hl
    obtain ⟨c, F, e⟩ := hl
    exact ⟨(h.holds i _ e).1, cs, 311, (0, 0), k, .inl rfl⟩)
theorem tyS_blk {S : Typ} {B : Nat} {W W' : World} (h : Only (fun b => B ≤ b ∧ TyS S W b) W W') {b : Nat} {T : TypeId} {cs : Array Value} (hb : Blk W b T cs) (h1 : T ≠ 311) (h2 : T ≠ 250) (h3 : T ≠ 139 ∨ S b ≠ none) : Blk W' b T cs :=
  hb.only h (fun ⟨_, cs', T', fz, hk, hT⟩ => by
    have e := blk_tag hb hk
    subst e
    rcases hT with hT | hT | ⟨hT, hS⟩
    · exact h1 hT
    · exact h2 hT
    · rcases h3 with h3 | h3
      · exact h3 hT
      · exact h3 hS)
theorem tyS_own {S : Typ} {B : Nat} {W W' : World} (h : Only (fun b => B ≤ b ∧ TyS S W b) W W') {B' : Nat} {e : TypeId} {size n : Nat} {v : Value} {xs : List Value} (ho : W.ownsRow B' e size v n xs) (h1 : e ≠ 311) (h2 : e ≠ 250) (h3 : e ≠ 139) : W'.ownsRow B' e size v n xs :=
  own_only ho h (fun g hg ⟨_, cs', T', fz, hk, hT⟩ => by
    rcases hT with hT | hT | ⟨hT, hS⟩
    · exact own_tag ho hk (by rw [hT]; exact h1) hg
    · exact own_tag ho hk (by rw [hT]; exact h2) hg
    · exact own_tag ho hk (by rw [hT]; exact h3) hg)
theorem tyS_src {S : Typ} {B : Nat} {W W' : World} (h : Only (fun b => B ≤ b ∧ TyS S W b) W W') {V : Value} {n : Nat} {xs : List Value} (hs : SrcF W V n xs) : SrcF W' V n xs :=
  hs.only h (fun b cs fz hk ⟨_, cs', T', fz', hk', hT⟩ => by
    rw [hk] at hk'
    injection hk' with hk'
    injection hk' with _ e
    subst e
    rcases hT with hT | hT | ⟨hT, _⟩ <;> exact absurd hT (by decide))
theorem tyS_below {S : Typ} {B : Nat} {W W' : World} (h : Only (fun b => B ≤ b ∧ TyS S W b) W W') (hB : B ≤ W.heap.size) : Below B W W' := h.below hB (fun k hk ⟨hb, _⟩ => by omega)
theorem MoreCE.up {x : Ent} {d : Bool} {B ce n : Nat} {V : Value} {cores : List Value} {core : Value} {w W w' : World} {e : Ending} (h : MoreCE x d B ce n V cores core W e w') (hb : Below w.heap.size w W) : MoreCE x d B ce n V cores core w e w' := by
  obtain ⟨g, cap, h1, h2, h3, h4, h5⟩ := h
  refine ⟨g, cap, h1, h2, h3, (Only.none_of_below hb).trans h4, ?_⟩
  rcases h5 with h5 | h5
  · exact .inl h5
  · exact .inr (Nat.le_trans hb.size h5)
set_option maxHeartbeats 2000000 in
theorem leafCheck_more (w : World) (L N B ce n : Nat) (a num : Int) (flds V : Value) (cores : List Value) (x : Ent) (hL : Blk w L 150 (leafArr a num flds N)) (hlv : a ≤ IntKind.i8.wrap x.level) (hce : Blk w ce 250 (x.ce false V)) (hown : w.ownsRow B 139 1 V n cores) (hB : B ≤ w.heap.size) (hn : n ≤ 100000) :
    Calls Tryz.prog 261 #[.pointer (some ⟨L, 0, none⟩), .agg x.pub, .pointer (some ⟨ce, 0, none⟩)] w (MoreCE x false B ce n V cores (.iface 141 (.pointer (some ⟨L, 0, none⟩))) w) := by
  obtain ⟨c1, f1, l1⟩ := hL.use
  have d1 := c1 0
  simp only [List.getElem?_toArray, List.getElem?_cons_zero] at d1
  have hb : Below w.heap.size w (w.alloc (.cells x.pub 154)).drew := ((Below.refl _ _).alloc (Nat.le_refl _) _).drew
  have hcall := addCore_more (w.alloc (.cells x.pub 154)).drew x x false B ce n V cores 141 (.pointer (some ⟨L, 0, none⟩)) (hce.here hb) (own_drew (hown.alloc _)) (Nat.le_trans hB hb.size) hn
  have H := Lib.hid (And.intro hcall hb)
  clear hL hce hown hb hcall c1 f1
  go_enter Tryz.func261, Tryz.ntmps261
  go_wp2
  go_region_held3 (fun w' => w'.cell? ⟨L, 0, none⟩ = some (.iface 142 (.int .i8 a)) ∧ w'.cell? ⟨w.heap.size, 0, none⟩ = some (.int .i8 (IntKind.i8.wrap x.level))) (go_keep) (first
    | go_in)
  go_wp2_with (go_at_call 116; go_must (refine H.out.1.mono ?_; rintro e w1 hpost; have hp := hpost.up H.out.2; obtain ⟨g, cap, rfl, h2, h3, h4, h5⟩ := hp; clear hpost))
  go_ret
  exact ⟨g, cap, rfl, h2, h3, h4, h5⟩
theorem leafChk (w : World) (S : Typ) (N B b m : Nat) (l : Int) (F : List Fld) (x : Ent) (p : Value) (ls : List Lf) (h : Hp S N B w) (hb : S b = some (.leaf m l F)) (hc : CeAt S B x w p ls) (hn : ls.length ≤ 100000) :
    Calls Tryz.prog 261 #[.pointer (some ⟨b, 0, none⟩), .agg x.pub, p] w (ChkPost S N B w x ls (.leaf m l F)) := by
  obtain ⟨V, k, hF⟩ := (h.holds b _ hb).2
  by_cases hl : l ≤ IntKind.i8.wrap x.level
  · rcases hc with ⟨rfl, rfl⟩ | ⟨ce, Vc, cores, rfl, h2, h3, h4, h5, h6, h7⟩
    · refine (leafCheck_yes w b N l m V x k hl).mono fun e w' ⟨ce, g, cap, h1, h2, h3, h4, h5⟩ => ?_
      refine ⟨_, S, h1, fun _ _ h => h, h.here h5, .inr ⟨ce, _, _, rfl, Nat.le_trans h.base h2, by simp [Cor.hits, hl], h3, by simpa [Cor.hits, hl] using own_mono h4 h.base, fun g' hg' => h.off (h4.lt g' hg').1, fun i l' hl' => ?_⟩, Only.none_of_below h5⟩
      simp only [Cor.hits, hl, if_true, List.nil_append] at hl'
      cases i with
      | zero =>
        simp at hl'
        subst hl'
        exact ⟨_, rfl, b, rfl, hb⟩
      | succ i => simp at hl'
    · refine (leafCheck_more w b N B ce ls.length l m V Vc cores x k hl h4 h5 h.base hn).mono fun e w' ⟨g, cap, q1, q2, q3, q4, q5⟩ => ?_
      have hX : ∀ i, (i = ce ∨ Vc.ownBlock = some i) → S i = none := fun i hi => by
        rcases hi with hi | hi
        · subst hi; exact h.apart h4 (by decide) (by decide) (by decide) (by decide)
        · exact h6 i hi
      have hsz : cores.length = ls.length := by have := h5.1; simpa using this
      refine ⟨_, S, q1, fun _ _ h => h, h.only q4 hX (fun i cs fz hk hi => ?_), .inr ⟨ce, _, _, rfl, h2, by simp [Cor.hits, hl], q2, by simpa [Cor.hits, hl] using q3, fun g' hg' => ?_, fun i l' hl' => ?_⟩, q4.mono (fun i hi hx => ?_)⟩
      · rcases hi with hi | hi
        · subst hi; exact absurd (blk_tag h4 hk) (by decide)
        · exact own_tag h5 hk (by decide) hi
      · have : g = g' := by simpa [Value.ownBlock] using hg'
        subst this
        rcases q5 with q5 | q5
        · exact h6 _ q5
        · exact h.off q5
      · simp only [Cor.hits, hl, if_true] at hl'
        by_cases hil : i < ls.length
        · rw [List.getElem?_append_left hil] at hl'
          obtain ⟨v, r1, r2⟩ := h7 i l' hl'
          exact ⟨v, by rw [List.getElem?_append_left (by omega)]; exact r1, r2⟩
        · rw [List.getElem?_append_right (by omega)] at hl'
          cases e : i - ls.length with
          | zero =>
            rw [e] at hl'
            simp at hl'
            subst hl'
            exact ⟨_, by rw [List.getElem?_append_right (by omega), hsz, e]; rfl, b, rfl, hb⟩
          | succ q => rw [e] at hl'; simp at hl'
      · rcases hx with hx | hx
        · subst hx
          exact ⟨h2, _, 250, (0, 0), h4, .inr (.inl rfl)⟩
        · refine ⟨(h5.lt i hx).1, ?_⟩
          rcases h5.2 with ⟨hv, _⟩ | ⟨g', cap', cur, hv, _, hg, _⟩
          · subst hv; simp [Value.ownBlock] at hx
          · subst hv
            have : g' = i := by simpa [Value.ownBlock] using hx
            subst this
            exact ⟨_, 139, _, hg, .inr (.inr ⟨rfl, h6 _ hx⟩)⟩
  · refine (leafCheck_no w b N l m V x k (by omega) p).mono fun e w' ⟨h1, h2⟩ => ?_
    refine ⟨p, S, h1, fun _ _ h => h, h.here h2, ?_, Only.none_of_below h2⟩
    simp only [Cor.hits, hl, if_false, List.append_nil]
    exact hc.here h h2
end Go.Proofs.YtieidjlmgalihaaGreatDoor
