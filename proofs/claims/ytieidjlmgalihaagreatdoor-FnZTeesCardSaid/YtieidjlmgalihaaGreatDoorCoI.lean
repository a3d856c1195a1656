/- A lazy core that is made: initOnce; its With. -/
import Derived.Test.YtieidjlmgalihaaGreatDoorCoX
set_option linter.all false
namespace Go.Proofs.YtieidjlmgalihaaGreatDoor
open Go.RowKit
set_option maxRecDepth 100000
def supN (f : Nat → Nat) : Nat → Nat
  | 0 => 0
  | n + 1 => max (supN f n) (f n)
theorem le_supN (f : Nat → Nat) : ∀ {n i : Nat}, i < n → f i ≤ supN f n
  | n + 1, i, h => by
    rw [supN]
    by_cases e : i = n
    · subst e; omega
    · have := le_supN f (n := n) (i := i) (by omega); omega
theorem supN_le (f : Nat → Nat) (m : Nat) : ∀ {n : Nat}, (∀ i, i < n → f i ≤ m) → supN f n ≤ m
  | 0, _ => Nat.zero_le _
  | n + 1, h => by
    rw [supN]
    have h1 := supN_le f m (n := n) (fun i hi => h i (by omega))
    have h2 := h n (by omega)
    omega
/-- A core's height. -/
def Cor.ht : Cor → Nat
  | .leaf _ _ _ => 1
  | .nop => 1
  | .tee n k => supN (fun i => (k i).ht) n + 1
  | .inc _ c => c.ht + 1
  | .lazy c _ => c.ht + 1
/-- The most fields that one of its leaves has. -/
def Cor.sz : Cor → Nat
  | .leaf _ _ F => F.length
  | .nop => 0
  | .tee n k => supN (fun i => (k i).sz) n
  | .inc _ c => c.sz
  | .lazy c F => c.sz + F.length
theorem Cor.ht_wth : ∀ (c : Cor) (f : List Fld), (c.wth f).ht ≤ c.ht
  | .leaf _ _ _, _ => Nat.le_refl _
  | .nop, _ => Nat.le_refl _
  | .tee n k, f => by
    simp only [Cor.wth, Cor.ht]
    have := supN_le (fun i => ((k i).wth f).ht) (supN (fun i => (k i).ht) n) (n := n) (fun i hi => Nat.le_trans (Cor.ht_wth (k i) f) (le_supN (fun i => (k i).ht) hi))
    omega
  | .inc _ c, f => by simp only [Cor.wth, Cor.ht]; have := Cor.ht_wth c f; omega
  | .lazy c F, f => by simp only [Cor.wth, Cor.ht]; have := Cor.ht_wth c (F ++ f); omega
theorem Cor.sz_wth : ∀ (c : Cor) (f : List Fld), (c.wth f).sz ≤ c.sz + f.length
  | .leaf _ _ _, _ => by simp [Cor.wth, Cor.sz]
  | .nop, _ => by simp [Cor.wth, Cor.sz]
  | .tee n k, f => by
    simp only [Cor.wth, Cor.sz]
    exact supN_le _ _ (fun i hi => Nat.le_trans (Cor.sz_wth (k i) f) (Nat.add_le_add_right (le_supN (fun i => (k i).sz) hi) _))
  | .inc _ c, f => by simp only [Cor.wth, Cor.sz]; exact Cor.sz_wth c f
  | .lazy c F, f => by
    simp only [Cor.wth, Cor.sz]
    have := Cor.sz_wth c (F ++ f)
    rw [List.length_append] at this
    omega
/-- The cores of at most a height. -/
def Typ.cut (S : Typ) (n : Nat) : Typ := fun b => (S b).bind fun t => if t.ht ≤ n then some t else none
theorem Typ.cut_of {S : Typ} {n b : Nat} {t : Cor} (h : S b = some t) (ht : t.ht ≤ n) : S.cut n b = some t := by simp [Typ.cut, h, ht]
theorem Typ.of_cut {S : Typ} {n b : Nat} {t : Cor} (h : S.cut n b = some t) : S b = some t ∧ t.ht ≤ n := by
  unfold Typ.cut at h
  cases e : S b with
  | none => rw [e] at h; cases h
  | some u =>
    rw [e] at h
    simp only [Option.bind_some] at h
    split at h
    · injection h with h; subst h; exact ⟨rfl, by assumption⟩
    · cases h
theorem cut_self {S : Typ} {b : Nat} {c : Cor} {F : List Fld} (hb : S b = some (.lazy c F)) : S.cut c.ht b = none := by
  have hlt : ¬ (Cor.lazy c F).ht ≤ c.ht := by show ¬ c.ht + 1 ≤ c.ht; omega
  unfold Typ.cut
  rw [hb]
  exact if_neg hlt
theorem RepC.cut {S : Typ} {v : Value} {n : Nat} : ∀ {t : Cor}, RepC S v t → t.ht ≤ n → RepC (S.cut n) v t
  | .leaf _ _ _, ⟨b, h1, h2⟩, h => ⟨b, h1, Typ.cut_of h2 h⟩
  | .nop, h1, _ => h1
  | .tee _ _, ⟨b, c, h1, h2⟩, h => ⟨b, c, h1, Typ.cut_of h2 h⟩
  | .inc _ _, ⟨b, h1, h2⟩, h => ⟨b, h1, Typ.cut_of h2 h⟩
  | .lazy _ _, ⟨b, h1, h2⟩, h => ⟨b, h1, Typ.cut_of h2 h⟩
theorem HoldC.cut {S : Typ} {N n b : Nat} {W : World} : ∀ {t : Cor}, HoldC S N W b t → t.ht ≤ n → HoldC (S.cut n) N W b t
  | .leaf _ _ _, h1, _ => h1
  | .nop, h1, _ => h1
  | .tee m k, ⟨hm, cs, h1, h2⟩, h => ⟨hm, cs, h1, fun i hi => by
    obtain ⟨v, e, r⟩ := h2 i hi
    have h3 : supN (fun i => (k i).ht) m + 1 ≤ n := h
    have h4 := le_supN (fun i => (k i).ht) hi
    exact ⟨v, e, r.cut (Nat.le_trans h4 (by omega))⟩⟩
  | .inc _ c, ⟨v, h1, h2⟩, h => ⟨v, h1, h2.cut (by have h3 : c.ht + 1 ≤ n := h; omega)⟩
  | .lazy c F, ⟨v, V, h1, h2, h3⟩, h => by
    have h4 : c.ht + 1 ≤ n := h
    refine ⟨v, V, h1, h2.cut (by omega), ?_⟩
    rcases h3 with h3 | ⟨u, h3, h5⟩
    · exact .inl h3
    · exact .inr ⟨u, h3, h5.cut (by have := Cor.ht_wth c F; omega)⟩
theorem Hp.cut {S : Typ} {N B : Nat} {W : World} (h : Hp S N B W) (n : Nat) : Hp (S.cut n) N B W :=
  ⟨h.base, fun b t hb => by
    obtain ⟨h1, h2⟩ := Typ.of_cut hb
    exact ⟨(h.holds b t h1).1, (h.holds b t h1).2.cut h2⟩⟩
/-- What initOnce leaves: the core is made. -/
def InitPost (S : Typ) (N B : Nat) (w : World) (b : Nat) (c : Cor) (F : List Fld) (e : Ending) (w' : World) : Prop := ∃ S' u v V, e = .returned (.tuple #[]) ∧ Stp S N B w S' w' ∧ Blk w' b 311 #[u, v, .bool true, V] ∧ RepC S' u (c.wth F)
/-- The core is made: all hold again. -/
theorem init_close {S S1 : Typ} {N B b : Nat} {w W1 : World} {c : Cor} {F : List Fld} {v V u : Value} (h : Hp S N B w) (hb : S b = some (.lazy c F)) (k : Blk w b 311 #[.nilIface, v, .bool false, V]) (hs : SrcF w V F.length (carL F)) (hr : RepC S v c)
    (s : Stp (S.cut c.ht) N B (w.setCell ⟨b, 2, none⟩ (.bool true)) S1 W1) (r : RepC S1 u (c.wth F)) :
    ∃ S2, Stp S N B w S2 (W1.setCell ⟨b, 0, none⟩ u) ∧ Blk (W1.setCell ⟨b, 0, none⟩ u) b 311 #[u, v, .bool true, V] ∧ RepC S2 u (c.wth F) := by
  have hcb : S.cut c.ht b = none := by
    exact cut_self hb
  have hw' : Only (fun i => i = b) w (w.setCell ⟨b, 2, none⟩ (.bool true)) := (Only.refl (fun i => i = b) w).setCell (.inl rfl) _
  have hsz : (w.setCell ⟨b, 2, none⟩ (.bool true)).heap.size = w.heap.size := by simp [World.setCell]
  have k1 : Blk (w.setCell ⟨b, 2, none⟩ (.bool true)) b 311 #[.nilIface, v, .bool true, V] := by simpa using k.set_ 2 (.bool true)
  have t131 : ∀ {W : World} {cs}, Blk W b 311 cs → ∀ i cs' fz, W.heap[i]? = some (Obj.cells cs' 131 fz) → ¬ i = b := fun hk i cs' fz hi e => by subst e; exact absurd (blk_tag hk hi) (by decide)
  have hcut : Hp (S.cut c.ht) N B (w.setCell ⟨b, 2, none⟩ (.bool true)) := (h.cut c.ht).only hw' (fun i hi => by rw [hi]; exact hcb) (t131 k)
  have k2 : Blk W1 b 311 #[.nilIface, v, .bool true, V] := k1.only s.only (fun ⟨c', F', e⟩ => by rw [hcb] at e; cases e)
  have k3 : Blk (W1.setCell ⟨b, 0, none⟩ u) b 311 #[u, v, .bool true, V] := by simpa using k2.set_ 0 u
  have hw2 : Only (fun i => i = b) W1 (W1.setCell ⟨b, 0, none⟩ u) := (Only.refl (fun i => i = b) W1).setCell (.inl rfl) _
  have hold : ∀ i t, S i = some t → S.cut c.ht i = none → S1 i = none := fun i t hi hc => s.new i (by rw [hsz]; exact h.lt hi) hc
  refine ⟨fun i => match S i with | some t => some t | none => S1 i, ?_⟩
  have up1 : Upw S1 (fun i => match S i with | some t => some t | none => S1 i) := fun i t hi => by
    simp only
    cases e : S i with
    | none => exact hi
    | some t0 =>
      simp only
      cases ec : S.cut c.ht i with
      | none => rw [hold i t0 e ec] at hi; cases hi
      | some t1 =>
        have h1 := (Typ.of_cut ec).1
        have h2 := s.up i t1 ec
        rw [hi] at h2
        rw [e] at h1
        rw [h1, h2]
  have up0 : Upw S (fun i => match S i with | some t => some t | none => S1 i) := fun i t hi => by simp only [hi]
  refine ⟨⟨up0, fun i hi e => ?_, ⟨?_, fun i t hi => ?_⟩, ?_⟩, k3, r.up up1⟩
  · simp only [e]
    exact s.new i (by rw [hsz]; exact hi) (by simp [Typ.cut, e])
  · have := s.hp.base
    simpa [World.setCell] using this
  · cases e : S i with
    | none =>
      have hi : S1 i = some t := by simpa only [e] using hi
      obtain ⟨q1, q2⟩ := s.hp.holds i t hi
      exact ⟨q1, (q2.up up1).only hw2 (fun hib => by subst hib; rw [hb] at e; cases e) (t131 k2)⟩
    | some t0 =>
      have hi : some t0 = some t := by simpa only [e] using hi
      injection hi with hi
      subst hi
      refine ⟨(h.holds i t0 e).1, ?_⟩
      by_cases hib : i = b
      · subst hib
        rw [hb] at e
        injection e with e
        subst e
        refine ⟨v, V, ?_, hr.up up0, .inr ⟨u, k3, r.up up1⟩⟩
        exact ((hs.only hw' (t131 k)).only s.only (fun j cs fz hj hl => by obtain ⟨cs', q⟩ := hcut.lzy hl; exact absurd (blk_tag q hj) (by decide))).only hw2 (t131 k2)
      · cases ec : S.cut c.ht i with
        | none =>
          have q1 := (h.holds i t0 e).2.only hw' hib (t131 k)
          have q2 := q1.only s.only (fun ⟨c', F', hl⟩ => by rw [ec] at hl; cases hl) (fun j cs fz hj hl => by obtain ⟨cs', q⟩ := hcut.lzy hl; exact absurd (blk_tag q hj) (by decide))
          exact (q2.only hw2 hib (t131 k2)).up up0
        | some t1 =>
          have h1 := (Typ.of_cut ec).1
          rw [e] at h1
          injection h1 with h1
          subst h1
          have q := (s.hp.holds i t0 (s.up i t0 ec)).2
          exact (q.up up1).only hw2 hib (t131 k2)
  · refine (((hw'.mono (S' := Lzy S) (fun i _ hi => by rw [hi]; exact ⟨c, F, hb⟩)).then s.only (fun i _ ⟨c', F', e⟩ => ⟨c', F', (Typ.of_cut e).1⟩))).then hw2 (fun i _ hi => by rw [hi]; exact ⟨c, F, hb⟩)
theorem Stp.set {S S' : Typ} {N B : Nat} {W W' : World} {g : Nat} {T : TypeId} {cs : Array Value} (s : Stp S N B W S' W') (hg : S' g = none) (hW : W.heap.size ≤ g) (hk : Blk W' g T cs) (hT : T ≠ 131) (k : Nat) (v : Value) : Stp S N B W S' (W'.setCell ⟨g, k, none⟩ v) :=
  ⟨s.up, s.new, s.hp.only ((Only.refl (fun i => i = g) W').setCell (.inl rfl) v) (fun i e => by rw [e]; exact hg) (fun i cs fz hi e => by subst e; exact hT (blk_tag hk hi)), s.only.setCell (.inr hW) v⟩
set_option maxHeartbeats 4000000 in
theorem initOnce (w : World) (S : Typ) (N B b : Nat) (c : Cor) (F : List Fld) (h : Hp S N B w) (hb : S b = some (.lazy c F))
    (ih : ∀ (S' : Typ) (W : World) (v V : Value), Hp S' N B W → RepC S' v c → SrcF W V F.length (carL F) → CallOk "With" v #[V] W (WithPost S' N B W c F)) :
    Calls Tryz.prog 414 #[.pointer (some ⟨b, 0, none⟩)] w (InitPost S N B w b c F) := by
  obtain ⟨v, V, hs, hr, h3⟩ := (h.holds b _ hb).2
  rcases h3 with k | ⟨u, k, ru⟩
  · have hw' : Only (fun i => i = b) w (w.setCell ⟨b, 2, none⟩ (.bool true)) := (Only.refl (fun i => i = b) w).setCell (.inl rfl) _
    have t131 : ∀ i cs' fz, w.heap[i]? = some (Obj.cells cs' 131 fz) → ¬ i = b := fun i cs' fz hi e => by subst e; exact absurd (blk_tag k hi) (by decide)
    have hcb : S.cut c.ht b = none := by
      exact cut_self hb
    have hcut : Hp (S.cut c.ht) N B (w.setCell ⟨b, 2, none⟩ (.bool true)) := (h.cut c.ht).only hw' (fun i hi => by rw [hi]; exact hcb) t131
    have hcall := ih (S.cut c.ht) (w.setCell ⟨b, 2, none⟩ (.bool true)).drew v V (hcut.here (Below.refl _ _).drew) (hr.cut (Nat.le_refl _)) ((hs.only hw' t131).below (Below.refl _ _).drew)
    obtain ⟨A, n, rfl⟩ := hs.form
    obtain ⟨T, u, f, r, rfl, hm, hcf, hc⟩ := hcall
    have hc : Calls Tryz.prog f #[r, .slice A F.length n] (w.setCell ⟨b, 2, none⟩ (.bool true)).drew (WithPost (S.cut c.ht) N B (w.setCell ⟨b, 2, none⟩ (.bool true)).drew c F) := hc
    have k1 : Blk (w.setCell ⟨b, 2, none⟩ (.bool true)) b 311 #[.nilIface, .iface T u, .bool true, .slice A F.length n] := by simpa using k.set_ 2 (.bool true)
    have d1 := k.cell 1
    have d2 := k.cell 2
    have d3 := k.cell 3
    have d0 := k.cell 0
    simp only [List.getElem?_toArray, List.getElem?_cons_zero, List.getElem?_cons_succ] at d0 d1 d2 d3
    have kf := k.frozen
    have kl := k.lt
    have x1 : (w.setCell ⟨b, 2, none⟩ (.bool true)).cell? ⟨b, 1, none⟩ = some (.iface T u) := k1.cell 1
    have x3 : (w.setCell ⟨b, 2, none⟩ (.bool true)).cell? ⟨b, 3, none⟩ = some (.slice A F.length n) := k1.cell 3
    have H := Lib.hid (And.intro h (And.intro hb (And.intro k (And.intro hc (And.intro hs (And.intro hr (And.intro k1 (And.intro hcut hcb))))))))
    clear h hb k hc hs hr k1 hcut hw' t131 ih hcb
    go_enter Tryz.func414, Tryz.ntmps414
    go_wp2_with fail
    go_region_held3 (fun w' => w'.cell? ⟨b, 1, none⟩ = some (.iface T u) ∧ w'.cell? ⟨b, 3, none⟩ = some (.slice A F.length n)) (go_keep) (first
      | (refine H.out.2.2.2.1.mono ?_; rintro e w1 ⟨v1, S1, rfl, s1, r1⟩; obtain ⟨T1, u1, rfl⟩ := r1.form; have kk : Blk w1 b 311 #[.nilIface, .iface T u, .bool true, .slice A F.length n] := (H.out.2.2.2.2.2.2.1.drew).only s1.only (fun ⟨c', F', e⟩ => by rw [H.out.2.2.2.2.2.2.2.2] at e; cases e); have e0 : w1.cell? ⟨b, 0, none⟩ = some .nilIface := kk.cell 0; have e1 : w1.cell? ⟨b, 1, none⟩ = some (.iface T u) := kk.cell 1; have e3 : w1.cell? ⟨b, 3, none⟩ = some (.slice A F.length n) := kk.cell 3; have ef := kk.frozen; have el := kk.lt; have g1 : (w1.setCell ⟨b, 0, none⟩ (.iface T1 u1)).cell? ⟨b, 1, none⟩ = some (.iface T u) := (kk.set_ 0 (.iface T1 u1)).cell 1; have g3 : (w1.setCell ⟨b, 0, none⟩ (.iface T1 u1)).cell? ⟨b, 3, none⟩ = some (.slice A F.length n) := (kk.set_ 0 (.iface T1 u1)).cell 3; have P := Lib.hid (init_close H.out.1 H.out.2.1 H.out.2.2.1 H.out.2.2.2.2.1 H.out.2.2.2.2.2.1 ((Stp.of_below H.out.2.2.2.2.2.2.2.1 (Below.refl _ _).drew).trans s1) r1); clear s1 r1 kk))
    go_wp2_with fail
    go_returns
    obtain ⟨S2, p1, p2, p3⟩ := P.out
    exact ⟨S2, _, _, _, rfl, p1, p2, p3⟩
  · have d2 := k.cell 2
    simp only [List.getElem?_toArray, List.getElem?_cons_zero, List.getElem?_cons_succ] at d2
    have H := Lib.hid (And.intro h (And.intro k ru))
    clear h hb k ru ih hs hr
    go_enter Tryz.func414, Tryz.ntmps414
    go_wp2_with fail
    go_returns
    exact ⟨S, u, v, V, rfl, Stp.refl H.out.1, H.out.2.1, H.out.2.2⟩
set_option maxHeartbeats 4000000 in
theorem lazyWith (w : World) (S : Typ) (N B b : Nat) (c : Cor) (F : List Fld) (V : Value) (fs : List Fld) (h : Hp S N B w) (hb : S b = some (.lazy c F)) (hs : SrcF w V fs.length (carL fs))
    (ih : ∀ (S' : Typ) (W : World) (v V : Value), Hp S' N B W → RepC S' v c → SrcF W V F.length (carL F) → CallOk "With" v #[V] W (WithPost S' N B W c F))
    (ih2 : ∀ (S' : Typ) (W : World) (v V : Value), Hp S' N B W → RepC S' v (c.wth F) → SrcF W V fs.length (carL fs) → CallOk "With" v #[V] W (WithPost S' N B W (c.wth F) fs)) :
    Calls Tryz.prog 412 #[.pointer (some ⟨b, 0, none⟩), V] w (WithPost S N B w (.lazy c F) fs) := by
  have hi := initOnce w S N B b c F h hb ih
  obtain ⟨A, n, rfl⟩ := hs.form
  have H := Lib.hid (And.intro h (And.intro hi (And.intro hs ih2)))
  clear h hb hi hs ih ih2
  go_enter Tryz.func412, Tryz.ntmps412
  go_wp2_with (first
    | (go_at_call 414; go_must (refine H.out.2.1.mono ?_; rintro e w1 ⟨S1, u, v, V1, rfl, s1, k1, r1⟩; obtain ⟨T, u1, f, r, rfl, hm, hcf, hc⟩ := H.out.2.2.2 S1 w1 u (.slice A fs.length n) s1.hp r1 (s1.src H.out.1 H.out.2.2.1); have hc : Calls Tryz.prog f #[r, .slice A fs.length n] w1 (WithPost S1 N B w1 (c.wth F) fs) := hc; have e0 : w1.cell? ⟨b, 0, none⟩ = some (.iface T u1) := k1.cell 0; have P := Lib.hid (And.intro s1 hc); clear s1 k1 r1 hc))
    | (refine P.out.2.mono ?_; rintro e w2 ⟨v2, S2, rfl, s2, r2⟩; obtain ⟨T2, u2, rfl⟩ := r2.form; have P2 := Lib.hid (And.intro s2 r2); clear s2 r2))
  go_ret
  refine ⟨_, S2, rfl, P.out.1.trans P2.out.1, ?_⟩
  have hr := P2.out.2
  rw [Cor.wth_wth] at hr
  exact hr
end Go.Proofs.YtieidjlmgalihaaGreatDoor
