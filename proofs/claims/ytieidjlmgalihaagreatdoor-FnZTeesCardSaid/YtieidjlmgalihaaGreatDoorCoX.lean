/- With of cores: a leaf, none. -/
import Derived.Test.YtieidjlmgalihaaGreatDoorCoH
set_option linter.all false
namespace Go.Proofs.YtieidjlmgalihaaGreatDoor
open Go.RowKit
set_option maxRecDepth 100000
theorem one_carL (l : List Fld) : ∀ v ∈ carL l, v.oneCell' = true := fun v hv => by
  simp only [carL, List.mem_flatMap] at hv
  obtain ⟨f, _, hf⟩ := hv
  exact one_car f v (by simpa using hf)
theorem nopWith (w : World) (S : Typ) (N B : Nat) (V : Value) (fs : List Fld) (h : Hp S N B w) : Calls Tryz.prog 395 #[.agg #[], V] w (WithPost S N B w .nop fs) := by
  have H := Lib.hid h
  clear h
  go_enter Tryz.func395, Tryz.ntmps395
  go_wp2_with fail
  go_ret
  exact ⟨_, S, rfl, Stp.of_below H.out ((Below.refl _ _).alloc (Nat.le_refl _) _), rfl⟩
set_option maxHeartbeats 4000000 in
theorem leafWith (w : World) (S : Typ) (N B b m : Nat) (l : Int) (F : List Fld) (V : Value) (fs : List Fld) (h : Hp S N B w) (hb : S b = some (.leaf m l F)) (hs : SrcF w V fs.length (carL fs)) (h1 : F.length ≤ 400000) (h2 : fs.length ≤ 400000) :
    Calls Tryz.prog 263 #[.pointer (some ⟨b, 0, none⟩), V] w (WithPost S N B w (.leaf m l F) fs) := by
  obtain ⟨A, c, rfl⟩ := hs.form
  obtain ⟨VF, k, hF⟩ := (h.holds b _ hb).2
  obtain ⟨A1, c1, rfl⟩ := hF.form
  have d0 := k.cell 0
  have d1 := k.cell 1
  have d2 := k.cell 2
  have d3 := k.cell 3
  simp only [List.getElem?_toArray, List.getElem?_cons_zero, List.getElem?_cons_succ] at d0 d1 d2 d3
  have kl := k.lt
  have hb0 : ∀ o, Below w.heap.size w (w.alloc o).drew := fun o => ((Below.refl _ _).alloc (Nat.le_refl _) _).drew
  have hcall := concat_two (w.alloc (.cells #[.slice A1 F.length c1, .slice A fs.length c] 148)).drew w.heap.size (.slice A1 F.length c1) (.slice A fs.length c) F.length fs.length (carL F) (carL fs) (hF.below (hb0 _)) (hs.below (hb0 _)) (by simp [go_sem]) (by simp [go_sem]) h1 h2
  have H := Lib.hid (And.intro h (And.intro hb (And.intro (hb0 (.cells #[.slice A1 F.length c1, .slice A fs.length c] 148)) (And.intro k hcall))))
  clear h hb hs k hF hb0 hcall
  go_enter Tryz.func263, Tryz.ntmps263
  go_wp2_with fail
  go_region_held3 (fun w' => w'.cell? ⟨b, 0, none⟩ = some (.iface 142 (.int .i8 l)) ∧ w'.cell? ⟨b, 1, none⟩ = some (.int .i64 m) ∧ w'.cell? ⟨b, 2, none⟩ = some (.slice A1 F.length c1) ∧ w'.cell? ⟨b, 3, none⟩ = some (.pointer (some ⟨N, 0, none⟩))) (go_keep) (first
    | (go_at_call 77; go_must (refine H.out.2.2.2.2.mono ?_; rintro e w1 ⟨V2, rfl, hown, hb1, hz⟩; obtain ⟨A2, c2, rfl⟩ := own_len hown; have kb := H.out.2.2.1.trans (hb1.mono H.out.2.2.1.size); have kk := H.out.2.2.2.1.here kb; have e0 : w1.cell? ⟨b, 0, none⟩ = some (.iface 142 (.int .i8 l)) := kk.cell 0; have e1 : w1.cell? ⟨b, 1, none⟩ = some (.int .i64 m) := kk.cell 1; have e2 : w1.cell? ⟨b, 2, none⟩ = some (.slice A1 F.length c1) := kk.cell 2; have e3 : w1.cell? ⟨b, 3, none⟩ = some (.pointer (some ⟨N, 0, none⟩)) := kk.cell 3; have P := Lib.hid (And.intro hown (And.intro kb hz)); clear hown hb1 hz kk kb)))
  go_wp2_with fail
  go_ret
  refine ⟨_, S.add w1.heap.size (.leaf m l (F ++ fs)), rfl, (Stp.of_below H.out.1 (P.out.2.1.alloc P.out.2.1.size _)).add (H.out.1.off P.out.2.1.size) P.out.2.1.size (Nat.le_trans H.out.1.base P.out.2.1.size) ⟨_, Blk.new _ _ _, ?_⟩, ⟨_, rfl, Typ.add_at⟩⟩
  rw [carL_append, List.length_append]
  exact (src_own P.out.1 P.out.2.2 (fun v hv => by
    rcases List.mem_append.1 hv with h | h
    · exact one_carL _ v h
    · exact one_carL _ v h)).below ((Below.refl _ _).alloc (Nat.le_refl _) _)
end Go.Proofs.YtieidjlmgalihaaGreatDoor
namespace Go.Proofs.YtieidjlmgalihaaGreatDoor
open Go.RowKit
set_option maxRecDepth 100000
/-- A method of a value answers. -/
def CallOk (name : String) (v : Value) (args : Array Value) (W : World) (Q : Ending → World → Prop) : Prop := ∃ T u f r, v = .iface T u ∧ (method 615 T u name).run Tryz.prog W = .ok (f, r) W ∧ (∀ (xs : Array Value) (W' : World), (callFunc f xs).run Tryz.prog W' = .ok (.enter f xs) W') ∧ Calls Tryz.prog f (#[r] ++ args) W Q
theorem CallOk.mono {name : String} {v : Value} {args : Array Value} {W : World} {Q Q' : Ending → World → Prop} (h : CallOk name v args W Q) (hq : ∀ e w, Q e w → Q' e w) : CallOk name v args W Q' := by
  obtain ⟨T, u, f, r, h1, h2, h3, h4⟩ := h
  exact ⟨T, u, f, r, h1, h2, h3, h4.mono hq⟩
theorem RepC.form {S : Typ} {v : Value} : ∀ {t : Cor}, RepC S v t → ∃ T u, v = .iface T u
  | .leaf _ _ _, ⟨_, h, _⟩ => ⟨_, _, h⟩
  | .nop, h => ⟨_, _, h⟩
  | .tee _ _, ⟨_, _, h, _⟩ => ⟨_, _, h⟩
  | .inc _ _, ⟨_, h, _⟩ => ⟨_, _, h⟩
  | .lazy _ _, ⟨_, h, _⟩ => ⟨_, _, h⟩
theorem RepC.one {S : Typ} {v : Value} {t : Cor} (h : RepC S v t) : v.oneCell' = true := by
  obtain ⟨T, u, rfl⟩ := h.form
  rfl
set_option maxHeartbeats 4000000 in
theorem incWith (w : World) (S : Typ) (N B b : Nat) (l : Int) (c : Cor) (V : Value) (fs : List Fld) (h : Hp S N B w) (hb : S b = some (.inc l c)) (hs : SrcF w V fs.length (carL fs))
    (ih : ∀ v, RepC S v c → ∀ W, Below w.heap.size w W → CallOk "With" v #[V] W (WithPost S N B W c fs)) :
    Calls Tryz.prog 407 #[.pointer (some ⟨b, 0, none⟩), V] w (WithPost S N B w (.inc l c) fs) := by
  obtain ⟨A, n, rfl⟩ := hs.form
  obtain ⟨v, k, hr⟩ := (h.holds b _ hb).2
  obtain ⟨T, u, f, r, rfl, hm, hcf, hc⟩ := ih v hr w.drew (Below.refl _ _).drew
  have hc : Calls Tryz.prog f #[r, .slice A fs.length n] w.drew (WithPost S N B w.drew c fs) := hc
  have d0 := k.cell 0
  have d1 := k.cell 1
  simp only [List.getElem?_toArray, List.getElem?_cons_zero, List.getElem?_cons_succ] at d0 d1
  have kl := k.lt
  have H := Lib.hid (And.intro h (And.intro hb (And.intro k hc)))
  clear h hb k hc ih hs hr
  go_enter Tryz.func407, Tryz.ntmps407
  go_wp2_with fail
  go_region_held3 (fun w' => w'.cell? ⟨b, 0, none⟩ = some (.iface T u) ∧ w'.cell? ⟨b, 1, none⟩ = some (.iface 142 (.int .i8 l))) (go_keep) (first
    | (refine H.out.2.2.2.mono ?_; rintro e w1 ⟨v1, S1, rfl, s1, r1⟩; obtain ⟨T1, u1, rfl⟩ := r1.form; have kk := s1.blk (H.out.1.here (Below.refl _ _).drew) H.out.2.2.1.drew (by decide); have e0 : w1.cell? ⟨b, 0, none⟩ = some (.iface T u) := kk.cell 0; have e1 : w1.cell? ⟨b, 1, none⟩ = some (.iface 142 (.int .i8 l)) := kk.cell 1; have P := Lib.hid (And.intro ((Stp.of_below H.out.1 (Below.refl _ _).drew).trans s1) r1); clear s1 r1 kk))
  go_wp2_with fail
  go_ret
  have hn := P.out.1.hp.off (Nat.le_refl w1.heap.size)
  have hsz := P.out.1.only.size
  exact ⟨_, S1.add w1.heap.size (.inc l (c.wth fs)), rfl, (P.out.1.trans (Stp.of_below P.out.1.hp ((Below.refl _ _).alloc (Nat.le_refl _) _))).add hn hsz (Nat.le_trans H.out.1.base hsz) ⟨_, Blk.new _ _ _, P.out.2⟩, ⟨_, rfl, Typ.add_at⟩⟩
end Go.Proofs.YtieidjlmgalihaaGreatDoor
