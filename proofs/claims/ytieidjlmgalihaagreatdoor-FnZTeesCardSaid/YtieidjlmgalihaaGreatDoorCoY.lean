/- With of cores: a tee; all. -/
import Derived.Test.YtieidjlmgalihaaGreatDoorCoI
set_option linter.all false
namespace Go.Proofs.YtieidjlmgalihaaGreatDoor
open Go.RowKit
set_option maxRecDepth 100000
/-- A row that a slice owns whole. -/
theorem own_blk {w : World} {B g n c : Nat} {e : TypeId} {xs : List Value} (h : w.ownsRow B e 1 (.slice (some ⟨g, 0, none⟩) n c) n xs) : ∃ cs, Blk w g e cs ∧ cs.size = c ∧ B ≤ g := by
  rcases h.2 with ⟨hv, _⟩ | ⟨g', cap, cur, hv, hb, hg, _, _, hsz, _⟩
  · cases hv
  · injection hv with e1 _ e3
    injection e1 with e1
    injection e1 with e1 _ _
    subst e1 e3
    exact ⟨cur, hg, by simpa using hsz, hb⟩
set_option maxHeartbeats 4000000 in
theorem teeWith (w : World) (S : Typ) (N B b n cap : Nat) (kid : Nat → Cor) (V : Value) (fs : List Fld) (h : Hp S N B w) (hb : S b = some (.tee n kid)) (hs : SrcF w V fs.length (carL fs))
    (ih : ∀ (i : Nat), i < n → ∀ (S' : Typ) (W : World) (v V : Value), Hp S' N B W → RepC S' v (kid i) → SrcF W V fs.length (carL fs) → CallOk "With" v #[V] W (WithPost S' N B W (kid i) fs)) :
    Calls Tryz.prog 401 #[.slice (some ⟨b, 0, none⟩) n cap, V] w (WithPost S N B w (.tee n kid) fs) := by
  obtain ⟨hn, ks, kb, hk⟩ := (h.holds b _ hb).2
  obtain ⟨A, m, rfl⟩ := hs.form
  obtain ⟨i0, hi, hz0, hz1, hz2⟩ := info_parts info139
  have H := Lib.hid (And.intro h (And.intro hb (And.intro kb (And.intro hk (And.intro hs ih)))))
  have HI := Lib.hid (And.intro hi (And.intro hz0 (And.intro hz1 hz2)))
  clear h hb kb hk hs ih hi hz0 hz1 hz2
  go_enter Tryz.func401, Tryz.ntmps401
  go_wp2_with (at_make; go_must (refine wpList_make_full w rfl (.tmp 8) (.tmp 8) 304 rfl w.heap.size 139 i0 .nilIface 1 Tryz.underlying304 HI.out.1 HI.out.2.1 HI.out.2.2.1 .i64 .i64 n n n rfl rfl rfl rfl (by rw [HI.out.2.2.2]; omega) (by unfold maxLen; omega) (Nat.le_refl _) ?_; intro w1 hown hgrow))
  obtain ⟨cs0, kg0, hsz0, _⟩ := own_blk hown
  have hb1 : Below w.heap.size w w1 := ((Only.refl (fun _ => False) w).grown hgrow (fun k hk => by cases hk)).below (Nat.le_refl _) (fun _ _ h => h)
  have st0 : Stp S N B w S w1 := Stp.of_below H.out.1 hb1
  have hg0 : S w.heap.size = none := H.out.1.off (Nat.le_refl _)
  clear hown hgrow hb1
  go_loopw [12] (fun i wr => ∃ (k : Nat) (S1 : Typ) (cs : Array Value), k ≤ n ∧ i = .int .i64 k ∧ Stp S N B w S1 wr ∧ S1 w.heap.size = none ∧ Blk wr w.heap.size 139 cs ∧ cs.size = n ∧ ∀ j, j < k → ∃ v, cs[j]? = some v ∧ RepC S1 v ((kid j).wth fs)) (fun i _ => n - (intOf i).toNat)
  case atStart => exact ⟨0, S, cs0, Nat.zero_le _, rfl, st0, hg0, kg0, hsz0, fun j hj => by omega⟩
  case round =>
    obtain ⟨k, S1, cs, hkn, rfl, st, hg, kg, hsz, hrep⟩ := hrel
    clear st0 hg0 kg0 hsz0
    by_cases hlt : k < n
    · obtain ⟨v, hv, rv⟩ := H.out.2.2.2.1 k hlt
      obtain ⟨T, u, f, r, rfl, hm, hcf, hc⟩ := H.out.2.2.2.2.2 k hlt S1 wr v (.slice A fs.length m) st.hp (rv.up st.up) (st.src H.out.1 H.out.2.2.2.2.1)
      have hc : Calls Tryz.prog f #[r, .slice A fs.length m] wr (WithPost S1 N B wr (kid k) fs) := hc
      have d0 : wr.cell? ⟨b, k, none⟩ = some (.iface T u) := ((st.blk H.out.1 H.out.2.2.1 (by decide)).cell k).trans hv
      have P := Lib.hid (And.intro st (And.intro hg (And.intro kg (And.intro hsz (And.intro hrep hc)))))
      clear st hg kg hsz hrep hc hv rv
      go_wp2_with (first
        | (refine P.out.2.2.2.2.2.mono ?_; rintro e w2 ⟨v2, S2, rfl, s2, r2⟩; obtain ⟨T2, u2, rfl⟩ := r2.form; have kg2 := s2.blk P.out.1.hp P.out.2.2.1 (by decide); have e0 := (kg2.cell k).trans (Array.getElem?_eq_getElem (by rw [P.out.2.2.2.1]; exact hlt)); have ef := kg2.frozen; have el := kg2.lt; have P2 := Lib.hid (And.intro s2 (And.intro r2 kg2)); clear s2 r2 kg2))
      go_roundw
      case rel =>
        have hg2 := P2.out.1.new w.heap.size P.out.2.2.1.lt P.out.2.1
        refine ⟨k + 1, S2, cs.setIfInBounds k (.iface T2 u2), by omega, by go_num, (P.out.1.trans P2.out.1).set hg2 (Nat.le_refl _) P2.out.2.2 (by decide) _ _, hg2, P2.out.2.2.set_ k _, by rw [Array.size_setIfInBounds]; exact P.out.2.2.2.1, fun j hj => ?_⟩
        by_cases hjk : j = k
        · subst hjk
          exact ⟨_, by rw [Array.getElem?_setIfInBounds_self_of_lt (by rw [P.out.2.2.2.1]; exact hlt)], P2.out.2.1⟩
        · obtain ⟨v', q1, q2⟩ := P.out.2.2.2.2.1 j (by omega)
          exact ⟨v', by rw [Array.getElem?_setIfInBounds_ne (fun e => hjk e.symm)]; exact q1, q2.up P2.out.1.up⟩
      case measure => simp [intOf]; omega
    · obtain rfl : k = n := by omega
      have P := Lib.hid (And.intro st (And.intro hg (And.intro kg (And.intro hsz hrep))))
      clear st hg kg hsz hrep
      go_wp2_with fail
      go_ret
      exact ⟨_, S1.add w.heap.size (.tee k (fun i => (kid i).wth fs)), rfl, P.out.1.add P.out.2.1 (Nat.le_refl _) H.out.1.base ⟨hn, cs, P.out.2.2.1, P.out.2.2.2.2⟩, ⟨w.heap.size, k, rfl, Typ.add_at⟩⟩
/-- With of whatever core. -/
def WithOk (k : Nat) : Prop := ∀ (t : Cor) (S : Typ) (N B : Nat) (W : World) (v V : Value) (fs : List Fld), t.ht ≤ k → t.sz + fs.length ≤ 400000 → Hp S N B W → RepC S v t → SrcF W V fs.length (carL fs) → CallOk "With" v #[V] W (WithPost S N B W t fs)
theorem callF {f : Nat} (h : ∀ (xs : Array Value) (W' : World), (callFunc f xs).run Tryz.prog W' = .ok (.enter f xs) W') : ∀ (xs : Array Value) (W' : World), (callFunc f xs).run Tryz.prog W' = .ok (.enter f xs) W' := h
theorem with_all : ∀ k, WithOk k
  | 0, t, _, _, _, _, _, _, _, h, _, _, _, _ => by cases t <;> simp [Cor.ht] at h
  | k + 1, .leaf m l F, S, N, B, W, v, V, fs, h, hz, hp, ⟨b, hv, hb⟩, hs => ⟨141, _, 263, _, hv, by kernel_rfl, fun _ _ => by kernel_rfl, leafWith W S N B b m l F V fs hp hb hs (by have h1 : F.length + fs.length ≤ 400000 := hz; omega) (by omega)⟩
  | k + 1, .nop, S, N, B, W, v, V, fs, h, hz, hp, hv, hs => ⟨303, _, 395, _, hv, by kernel_rfl, fun _ _ => by kernel_rfl, nopWith W S N B V fs hp⟩
  | k + 1, .tee n kid, S, N, B, W, v, V, fs, h, hz, hp, ⟨b, cap, hv, hb⟩, hs => ⟨304, _, 401, _, hv, by kernel_rfl, fun _ _ => by kernel_rfl, teeWith W S N B b n cap kid V fs hp hb hs (fun i hi S' W' v' V' a1 a2 a3 => with_all k (kid i) S' N B W' v' V' fs (by
      have h1 : supN (fun i => (kid i).ht) n + 1 ≤ k + 1 := h
      have h2 := le_supN (fun i => (kid i).ht) hi
      exact Nat.le_trans h2 (Nat.le_of_succ_le_succ h1)) (by
      have h1 : supN (fun i => (kid i).sz) n + fs.length ≤ 400000 := hz
      have h2 := le_supN (fun i => (kid i).sz) hi
      exact Nat.le_trans (Nat.add_le_add_right h2 _) h1) a1 a2 a3)⟩
  | k + 1, .inc l c, S, N, B, W, v, V, fs, h, hz, hp, ⟨b, hv, hb⟩, hs => ⟨306, _, 407, _, hv, by kernel_rfl, fun _ _ => by kernel_rfl, incWith W S N B b l c V fs hp hb hs (fun v' hr W' hb' => with_all k c S N B W' v' V fs (by have h1 : c.ht + 1 ≤ k + 1 := h; omega) hz (hp.here hb') hr (hs.below hb'))⟩
  | k + 1, .lazy c F, S, N, B, W, v, V, fs, h, hz, hp, ⟨b, hv, hb⟩, hs => ⟨309, _, 412, _, hv, by kernel_rfl, fun _ _ => by kernel_rfl, lazyWith W S N B b c F V fs hp hb hs
      (fun S' W' v' V' a1 a2 a3 => with_all k c S' N B W' v' V' F (by have h1 : c.ht + 1 ≤ k + 1 := h; omega) (by have h1 : c.sz + F.length + fs.length ≤ 400000 := hz; omega) a1 a2 a3)
      (fun S' W' v' V' a1 a2 a3 => with_all k (c.wth F) S' N B W' v' V' fs (by have h1 : c.ht + 1 ≤ k + 1 := h; have := Cor.ht_wth c F; omega) (by have h1 : c.sz + F.length + fs.length ≤ 400000 := hz; have := Cor.sz_wth c F; omega) a1 a2 a3)⟩
end Go.Proofs.YtieidjlmgalihaaGreatDoor
