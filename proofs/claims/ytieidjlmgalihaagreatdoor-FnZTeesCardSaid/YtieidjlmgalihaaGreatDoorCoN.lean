/- Check of cores: none, one that is increased, a lazy one, a tee; all. -/
import Derived.Test.YtieidjlmgalihaaGreatDoorCoK
set_option linter.all false
namespace Go.Proofs.YtieidjlmgalihaaGreatDoor
open Go.RowKit
set_option maxRecDepth 100000
def sumN (f : Nat → Nat) : Nat → Nat
  | 0 => 0
  | n + 1 => sumN f n + f n
theorem sumN_part (f : Nat → Nat) : ∀ {n k : Nat}, k < n → sumN f k + f k ≤ sumN f n
  | n + 1, k, h => by
    rw [sumN]
    by_cases e : k = n
    · subst e; omega
    · have := sumN_part f (n := n) (k := k) (by omega); omega
/-- How many leaves a core has. -/
def Cor.cnt : Cor → Nat
  | .leaf _ _ _ => 1
  | .nop => 0
  | .tee n k => sumN (fun i => (k i).cnt) n
  | .inc _ c => c.cnt
  | .lazy c _ => c.cnt
theorem sumN_congr {f g : Nat → Nat} (h : ∀ i, f i = g i) : ∀ n, sumN f n = sumN g n
  | 0 => rfl
  | n + 1 => by rw [sumN, sumN, sumN_congr h n, h n]
theorem Cor.cnt_wth : ∀ (c : Cor) (f : List Fld), (c.wth f).cnt = c.cnt
  | .leaf _ _ _, _ => rfl
  | .nop, _ => rfl
  | .tee n k, f => sumN_congr (fun i => Cor.cnt_wth (k i) f) n
  | .inc _ c, f => Cor.cnt_wth c f
  | .lazy c F, f => Cor.cnt_wth c (F ++ f)
theorem flat_len {α : Type} (f : Nat → List α) (g : Nat → Nat) (h : ∀ i, (f i).length ≤ g i) : ∀ n, ((List.range n).flatMap f).length ≤ sumN g n
  | 0 => Nat.le_refl _
  | n + 1 => by
    rw [List.range_succ, List.flatMap_append, List.length_append, sumN]
    have h1 := flat_len f g h n
    have h2 := h n
    simp only [List.flatMap_cons, List.flatMap_nil, List.append_nil]
    omega
theorem Cor.hits_len : ∀ (c : Cor) (x : Int), (c.hits x).length ≤ c.cnt
  | .leaf m l F, x => by simp only [Cor.hits, Cor.cnt]; split <;> simp
  | .nop, _ => Nat.le_refl _
  | .tee n k, x => flat_len _ _ (fun i => Cor.hits_len (k i) x) n
  | .inc l c, x => by simp only [Cor.hits, Cor.cnt]; split <;> simp [Cor.hits_len c x]
  | .lazy c F, x => by simp only [Cor.hits, Cor.cnt, List.length_map]; exact Cor.hits_len c x
theorem CallOk.at_ {name : String} {T : TypeId} {u : Value} {args : Array Value} {W : World} {Q : Ending → World → Prop} (h : CallOk name (.iface T u) args W Q) : ∃ f r, (method 615 T u name).run Tryz.prog W = .ok (f, r) W ∧ (∀ (xs : Array Value) (W' : World), (callFunc f xs).run Tryz.prog W' = .ok (.enter f xs) W') ∧ Calls Tryz.prog f (#[r] ++ args) W Q := by
  obtain ⟨T', u', f, r, hv, h2, h3, h4⟩ := h
  injection hv with e1 e2
  subst e1 e2
  exact ⟨f, r, h2, h3, h4⟩
theorem ChkPost.up {S : Typ} {N B : Nat} {w W w' : World} {x : Ent} {ls : List Lf} {t : Cor} {e : Ending} (h : ChkPost S N B W x ls t e w') (hb : Below w.heap.size w W) : ChkPost S N B w x ls t e w' := by
  obtain ⟨p, S', h1, h2, h3, h4, h5⟩ := h
  exact ⟨p, S', h1, h2, h3, h4, tyS_then (fun _ _ h => h) (Only.none_of_below hb) h5⟩
theorem ChkPost.like {S : Typ} {N B : Nat} {w w' : World} {x : Ent} {ls : List Lf} {t t' : Cor} {e : Ending} (h : ChkPost S N B w x ls t e w') (hh : t.hits (IntKind.i8.wrap x.level) = t'.hits (IntKind.i8.wrap x.level)) : ChkPost S N B w x ls t' e w' := by
  obtain ⟨p, S', h1, h2, h3, h4, h5⟩ := h
  exact ⟨p, S', h1, h2, h3, by rw [← hh]; exact h4, h5⟩
theorem chk_same {S : Typ} {N B : Nat} {w w' : World} {x : Ent} {p : Value} {ls : List Lf} {t : Cor} (h : Hp S N B w) (hc : CeAt S B x w p ls) (ht : t.hits (IntKind.i8.wrap x.level) = []) (hb : Below w.heap.size w w') : ChkPost S N B w x ls t (.returned p) w' :=
  ⟨p, S, rfl, fun _ _ h => h, h.here hb, by rw [ht, List.append_nil]; exact hc.here h hb, Only.none_of_below hb⟩
theorem nopChk (w : World) (S : Typ) (N B : Nat) (x : Ent) (p : Value) (ls : List Lf) (h : Hp S N B w) (hc : CeAt S B x w p ls) : Calls Tryz.prog 392 #[.agg #[], .agg x.pub, p] w (ChkPost S N B w x ls .nop) := by
  obtain ⟨a, rfl⟩ := hc.form
  have H := Lib.hid (And.intro h hc)
  clear h hc
  go_enter Tryz.func392, Tryz.ntmps392
  go_wp2_with fail
  go_ret
  exact chk_same H.out.1 H.out.2 rfl (by go_grown)
set_option maxHeartbeats 4000000 in
theorem incChk (w : World) (S : Typ) (N B b : Nat) (l : Int) (c : Cor) (x : Ent) (p : Value) (ls : List Lf) (h : Hp S N B w) (hb : S b = some (.inc l c)) (hc : CeAt S B x w p ls)
    (ih : ∀ v, RepC S v c → ∀ W, Below w.heap.size w W → CallOk "Check" v #[.agg x.pub, p] W (ChkPost S N B W x ls c)) :
    Calls Tryz.prog 403 #[.pointer (some ⟨b, 0, none⟩), .agg x.pub, p] w (ChkPost S N B w x ls (.inc l c)) := by
  obtain ⟨a, rfl⟩ := hc.form
  obtain ⟨v, k, hr⟩ := (h.holds b _ hb).2
  obtain ⟨T, u, rfl⟩ := hr.form
  have hba : Below w.heap.size w (w.alloc (.cells x.pub 154)) := (Below.refl _ _).alloc (Nat.le_refl _) _
  have hen := incEn (w.alloc (.cells x.pub 154)) b l (IntKind.i8.wrap x.level) (.iface T u) c (k.here hba)
  have kl := k.lt
  by_cases hl : l ≤ IntKind.i8.wrap x.level
  · have hlt : (Cor.inc l c).en (IntKind.i8.wrap x.level) = true := by simp [Cor.en, hl]
    have H := Lib.hid (And.intro h (And.intro hb (And.intro hc (And.intro k (And.intro hr (And.intro ih (And.intro hba hen)))))))
    clear h hb hc k hr ih hba hen
    go_enter Tryz.func403, Tryz.ntmps403
    go_wp2_with (go_at_call 404; go_must (refine H.out.2.2.2.2.2.2.2.mono ?_; rintro e w1 ⟨rfl, hb1⟩))
    have hb2 := H.out.2.2.2.2.2.2.1.trans (hb1.mono H.out.2.2.2.2.2.2.1.size)
    obtain ⟨f, r, hm, hcf, hcall⟩ := (H.out.2.2.2.2.2.1 (.iface T u) H.out.2.2.2.2.1 w1.drew hb2.drew).at_
    have hcall : Calls Tryz.prog f #[r, .agg x.pub, .pointer a] w1.drew (ChkPost S N B w1.drew x ls c) := hcall
    have k1 := H.out.2.2.2.1.here hb2
    have x1 : Blk w1 w.heap.size 154 x.pub := (Blk.new w 154 _).here hb1
    have e0 : w1.cell? ⟨b, 0, none⟩ = some (.iface T u) := k1.cell 0
    have bx := boxEnt x1.cell
    have P := Lib.hid (And.intro hb2 (And.intro hcall (And.intro k1 x1)))
    clear hb1 hb2 hcall k1 x1
    go_wp2_with fail
    go_region_held3 (fun w' => w'.cell? ⟨b, 0, none⟩ = some (.iface T u) ∧ w'.cell? ⟨w.heap.size, 0, none⟩ = some (.int .i8 (IntKind.i8.wrap x.level)) ∧ w'.cell? ⟨w.heap.size, 1, none⟩ = some (.int .i64 (momExt x.zero x.nanos)) ∧ w'.cell? ⟨w.heap.size, 2, none⟩ = some (.int .i32 (momNs x.zero x.nanos)) ∧ w'.cell? ⟨w.heap.size, 3, none⟩ = some (.string (momZone x.zero x.zone)) ∧ w'.cell? ⟨w.heap.size, 4, none⟩ = some (.int .i64 (momOff x.zero x.offset)) ∧ w'.cell? ⟨w.heap.size, 5, none⟩ = some (.string x.logger) ∧ w'.cell? ⟨w.heap.size, 6, none⟩ = some (.string x.message) ∧ w'.cell? ⟨w.heap.size, 7, none⟩ = some (.bool x.defined) ∧ w'.cell? ⟨w.heap.size, 8, none⟩ = some (.int .u64 0) ∧ w'.cell? ⟨w.heap.size, 9, none⟩ = some (.string x.file) ∧ w'.cell? ⟨w.heap.size, 10, none⟩ = some (.int .i64 x.line) ∧ w'.cell? ⟨w.heap.size, 11, none⟩ = some (.string x.function) ∧ w'.cell? ⟨w.heap.size, 12, none⟩ = some (.string x.stack)) (go_keep) (first
      | (refine P.out.2.1.mono ?_; rintro e w2 hpost; obtain ⟨p2, S2, rfl, q2, q3, q4, q5⟩ := hpost.up P.out.1.drew; obtain ⟨a2, rfl⟩ := q4.form; have k2 := tyS_blk q5 H.out.2.2.2.1 (by decide) (by decide) (.inl (by decide)); have e2 : w2.cell? ⟨b, 0, none⟩ = some (.iface T u) := k2.cell 0; obtain ⟨_, _, _, _, _, _, q6⟩ := hpost; have x2 := tyS_blk q6 P.out.2.2.2.drew (by decide) (by decide) (.inl (by decide)); have bx2 := boxEnt x2.cell; have R := Lib.hid (And.intro q2 (And.intro q3 (And.intro q4 q5))); clear q2 q3 q4 q5 q6 k2 x2))
    go_wp2_with fail
    go_ret
    exact ChkPost.like (t := c) ⟨_, S2, rfl, R.out.1, R.out.2.1, R.out.2.2.1, R.out.2.2.2⟩ (by simp [Cor.hits, hl])
  · have H := Lib.hid (And.intro h (And.intro hc (And.intro hba hen)))
    clear h hb hc k hr ih hba hen
    go_enter Tryz.func403, Tryz.ntmps403
    go_wp2_with (go_at_call 404; go_must (refine H.out.2.2.2.mono ?_; rintro e w1 ⟨rfl, hb1⟩; have hlt : (Cor.inc l c).en (IntKind.i8.wrap x.level) = false := by simp [Cor.en]; omega))
    go_ret
    exact chk_same H.out.1 H.out.2.1 (by simp only [Cor.hits]; rw [if_neg (by omega)]) (H.out.2.2.1.trans (hb1.mono H.out.2.2.1.size))
end Go.Proofs.YtieidjlmgalihaaGreatDoor
namespace Go.Proofs.YtieidjlmgalihaaGreatDoor
open Go.RowKit
set_option maxRecDepth 100000
set_option maxHeartbeats 4000000 in
theorem lazyChk (w : World) (S : Typ) (N B b : Nat) (c : Cor) (F : List Fld) (x : Ent) (p : Value) (ls : List Lf) (h : Hp S N B w) (hb : S b = some (.lazy c F)) (hc : CeAt S B x w p ls)
    (ihE : ∀ W v, Hp S N B W → RepC S v c → CallOk "Enabled" v #[.int .i8 (IntKind.i8.wrap x.level)] W (EnPost c (IntKind.i8.wrap x.level) W))
    (ihW : ∀ (S' : Typ) (W : World) (v V : Value), Hp S' N B W → RepC S' v c → SrcF W V F.length (carL F) → CallOk "With" v #[V] W (WithPost S' N B W c F))
    (ih : ∀ (S' : Typ) (W : World) (v p : Value), Hp S' N B W → RepC S' v (c.wth F) → CeAt S' B x W p ls → CallOk "Check" v #[.agg x.pub, p] W (ChkPost S' N B W x ls (c.wth F))) :
    Calls Tryz.prog 409 #[.pointer (some ⟨b, 0, none⟩), .agg x.pub, p] w (ChkPost S N B w x ls (.lazy c F)) := by
  obtain ⟨a, rfl⟩ := hc.form
  have hba : Below w.heap.size w (w.alloc (.cells x.pub 154)).drew := ((Below.refl _ _).alloc (Nat.le_refl _) _).drew
  obtain ⟨v, hr, k1⟩ : ∃ v, RepC S v c ∧ ∃ cs, Blk w b 311 cs ∧ cs[1]? = some v := by
    obtain ⟨v, V, _, hr, kb⟩ := (h.holds b _ hb).2
    rcases kb with kb | ⟨u, kb, _⟩
    · exact ⟨v, hr, _, kb, rfl⟩
    · exact ⟨v, hr, _, kb, rfl⟩
  obtain ⟨cs, k, hcs⟩ := k1
  obtain ⟨T, u, rfl⟩ := hr.form
  obtain ⟨f, r, hm, hcf, hcall⟩ := (ihE _ (.iface T u) (h.here hba) hr).at_
  have hcall : Calls Tryz.prog f #[r, .int .i8 (IntKind.i8.wrap x.level)] (w.alloc (.cells x.pub 154)).drew (EnPost c (IntKind.i8.wrap x.level) (w.alloc (.cells x.pub 154)).drew) := hcall
  have kl := k.lt
  have d1 : w.cell? ⟨b, 1, none⟩ = some (.iface T u) := (k.cell 1).trans hcs
  cases hen : c.en (IntKind.i8.wrap x.level)
  · have H := Lib.hid (And.intro h (And.intro hc (And.intro hba (And.intro hcall (And.intro hen k)))))
    clear h hb hc k hr ih ihE ihW hba hcall hen hcs
    go_enter Tryz.func409, Tryz.ntmps409
    go_wp2_with fail
    go_region_held3 (fun w' => w'.cell? ⟨b, 1, none⟩ = some (.iface T u) ∧ w'.cell? ⟨w.heap.size, 0, none⟩ = some (.int .i8 (IntKind.i8.wrap x.level))) (go_keep) (first
      | (refine H.out.2.2.2.1.mono ?_; rintro e w1 ⟨he, hb1⟩; rw [H.out.2.2.2.2.1] at he; subst he; have hbb := H.out.2.2.1.trans (hb1.mono H.out.2.2.1.size); have e1 : w1.cell? ⟨b, 1, none⟩ = some (.iface T u) := (hbb.cell (p := ⟨b, 1, none⟩) kl).trans d1; have eb : w1.cell? ⟨w.heap.size, 0, none⟩ = some (.int .i8 (IntKind.i8.wrap x.level)) := ((Blk.new w 154 x.pub).drew.here hb1).cell 0; have P := Lib.hid hbb; clear hbb hb1))
    go_wp2_with fail
    go_ret
    exact chk_same H.out.1 H.out.2.1 (by simp only [Cor.hits]; rw [Cor.hits_none c _ H.out.2.2.2.2.1]; rfl) P.out
  · have H := Lib.hid (And.intro h (And.intro hc (And.intro hba (And.intro hcall (And.intro hen (And.intro hb (And.intro ihW (And.intro ih k))))))))
    clear h hb hc k hr ih ihE ihW hba hcall hen hcs
    go_enter Tryz.func409, Tryz.ntmps409
    go_wp2_with fail
    go_region_held3 (fun w' => w'.cell? ⟨b, 1, none⟩ = some (.iface T u) ∧ w'.cell? ⟨w.heap.size, 0, none⟩ = some (.int .i8 (IntKind.i8.wrap x.level))) (go_keep) (first
      | (refine H.out.2.2.2.1.mono ?_; rintro e w1 ⟨he, hb1⟩; rw [H.out.2.2.2.2.1] at he; subst he; have hbb := H.out.2.2.1.trans (hb1.mono H.out.2.2.1.size); have e1 : w1.cell? ⟨b, 1, none⟩ = some (.iface T u) := (hbb.cell (p := ⟨b, 1, none⟩) kl).trans d1; have xb := (Blk.new w 154 x.pub).drew.here hb1; have eb : w1.cell? ⟨w.heap.size, 0, none⟩ = some (.int .i8 (IntKind.i8.wrap x.level)) := xb.cell 0; have P := Lib.hid (And.intro hbb xb); clear hbb hb1 xb))
    go_wp2_with (go_at_call 414; go_must (refine (initOnce w1 S N B b c F (H.out.1.here P.out.1) H.out.2.2.2.2.2.1 H.out.2.2.2.2.2.2.1).mono ?_; rintro e w2 ⟨S2, v2, v2o, V2, rfl, s2, k2, r2⟩))
    obtain ⟨T2, u2, rfl⟩ := r2.form
    have hc2 := (H.out.2.1.here H.out.1 P.out.1).step (H.out.1.here P.out.1) s2
    obtain ⟨f2, q2, hm2, hcf2, hcall2⟩ := (H.out.2.2.2.2.2.2.2.1 S2 w2.drew (.iface T2 u2) (.pointer a) (s2.hp.here (Below.refl _ _).drew) r2 (hc2.here s2.hp (Below.refl _ _).drew)).at_
    have hcall2 : Calls Tryz.prog f2 #[q2, .agg x.pub, .pointer a] w2.drew (ChkPost S2 N B w2.drew x ls (c.wth F)) := hcall2
    have e0 : w2.cell? ⟨b, 0, none⟩ = some (.iface T2 u2) := k2.cell 0
    have x2 := s2.blk (H.out.1.here P.out.1) P.out.2 (by decide)
    have bx := boxEnt x2.cell
    have hT := tyS_then (fun _ _ h => h) (Only.none_of_below P.out.1) (s2.tyS (H.out.1.here P.out.1))
    have R := Lib.hid (And.intro s2.up (And.intro s2.hp (And.intro hT (And.intro hcall2 (And.intro k2 x2)))))
    clear s2 k2 r2 hc2 hcall2 x2 hT e1 eb d1
    go_wp2_with fail
    go_region_with (first
      | (refine R.out.2.2.2.1.mono ?_; rintro e w3 hpost; obtain ⟨p3, S3, rfl, q3, q4, q5, q6⟩ := hpost.up (w := w2) (Below.refl _ _).drew; obtain ⟨a3, rfl⟩ := q5.form; have Z := Lib.hid (And.intro q3 (And.intro q4 (And.intro q5 q6))); clear hpost q3 q4 q5 q6))
    all_goals go_wp2_with fail
    all_goals go_ret
    all_goals exact ChkPost.like (t := c.wth F) ⟨_, S3, rfl, fun b t e => Z.out.1 b t (R.out.1 b t e), Z.out.2.1, Z.out.2.2.1, tyS_then R.out.1 R.out.2.2.1 Z.out.2.2.2⟩ (by rw [Cor.hits_wth]; rfl)
end Go.Proofs.YtieidjlmgalihaaGreatDoor
namespace Go.Proofs.YtieidjlmgalihaaGreatDoor
open Go.RowKit
set_option maxRecDepth 100000
theorem flat_succ {α : Type} (f : Nat → List α) (k : Nat) : (List.range (k + 1)).flatMap f = (List.range k).flatMap f ++ f k := by
  rw [List.range_succ, List.flatMap_append]
  simp
set_option maxHeartbeats 4000000 in
theorem teeChk (w : World) (S : Typ) (N B b n cap : Nat) (kid : Nat → Cor) (x : Ent) (p : Value) (ls : List Lf) (h : Hp S N B w) (hb : S b = some (.tee n kid)) (hc : CeAt S B x w p ls) (hlen : ls.length + sumN (fun i => (kid i).cnt) n ≤ 100000)
    (ih : ∀ i, i < n → ∀ (S' : Typ) (W : World) (v p : Value) (ls' : List Lf), Hp S' N B W → RepC S' v (kid i) → CeAt S' B x W p ls' → ls'.length + (kid i).cnt ≤ 100000 → CallOk "Check" v #[.agg x.pub, p] W (ChkPost S' N B W x ls' (kid i))) :
    Calls Tryz.prog 397 #[.slice (some ⟨b, 0, none⟩) n cap, .agg x.pub, p] w (ChkPost S N B w x ls (.tee n kid)) := by
  obtain ⟨a, rfl⟩ := hc.form
  obtain ⟨hn, ks, kb, hk⟩ := (h.holds b _ hb).2
  have hba : Below w.heap.size w (w.alloc (.cells x.pub 154)) := (Below.refl _ _).alloc (Nat.le_refl _) _
  have H := Lib.hid (And.intro h (And.intro hb (And.intro hc (And.intro hlen (And.intro kb (And.intro hk (And.intro ih hba)))))))
  clear h hb hc hlen kb hk ih hba
  go_enter Tryz.func397, Tryz.ntmps397
  go_wp2_with fail
  go_loopw [10, 2] (fun i p wr => ∃ (k : Nat) (S1 : Typ), k ≤ n ∧ i = .int .i64 k ∧ Upw S S1 ∧ Hp S1 N B wr ∧ CeAt S1 B x wr p (ls ++ (List.range k).flatMap fun i => (kid i).hits (IntKind.i8.wrap x.level)) ∧ Only (fun b => B ≤ b ∧ TyS S w b) w wr ∧ Blk wr w.heap.size 154 x.pub) (fun i _ _ => n - (intOf i).toNat)
  case atStart => exact ⟨0, S, Nat.zero_le _, rfl, fun _ _ h => h, H.out.1.here H.out.2.2.2.2.2.2.2, by simpa using H.out.2.2.1.here H.out.1 H.out.2.2.2.2.2.2.2, Only.none_of_below H.out.2.2.2.2.2.2.2, Blk.new _ _ _⟩
  case round =>
    obtain ⟨k, S1, hkn, rfl, hu, hp, hce, hT, xb⟩ := hrel
    obtain ⟨a1, rfl⟩ := hce.form
    by_cases hlt : k < n
    · obtain ⟨v, hv, rv⟩ := H.out.2.2.2.2.2.1 k hlt
      obtain ⟨T, u, rfl⟩ := rv.form
      have hcount : (ls ++ (List.range k).flatMap fun i => (kid i).hits (IntKind.i8.wrap x.level)).length + (kid k).cnt ≤ 100000 := by
        rw [List.length_append]
        have h1 := flat_len (fun i => (kid i).hits (IntKind.i8.wrap x.level)) (fun i => (kid i).cnt) (fun i => Cor.hits_len (kid i) _) k
        have h2 : sumN (fun i => (kid i).cnt) k + (kid k).cnt ≤ sumN (fun i => (kid i).cnt) n := sumN_part (fun i => (kid i).cnt) hlt
        have h3 := H.out.2.2.2.1
        omega
      obtain ⟨f, r, hm, hcf, hcall⟩ := (H.out.2.2.2.2.2.2.1 k hlt S1 wr.drew (.iface T u) (.pointer a1) _ (hp.here (Below.refl _ _).drew) (rv.up hu) (hce.here hp (Below.refl _ _).drew) hcount).at_
      have hcall : Calls Tryz.prog f #[r, .agg x.pub, .pointer a1] wr.drew (ChkPost S1 N B wr.drew x (ls ++ (List.range k).flatMap fun i => (kid i).hits (IntKind.i8.wrap x.level)) (kid k)) := hcall
      have kb1 := tyS_blk hT H.out.2.2.2.2.1 (by decide) (by decide) (.inr (by rw [H.out.2.1]; simp))
      have d0 : wr.cell? ⟨b, k, none⟩ = some (.iface T u) := (kb1.cell k).trans hv
      have bx := boxEnt xb.cell
      have P := Lib.hid (And.intro hu (And.intro hp (And.intro hT (And.intro xb hcall))))
      clear hu hp hT xb hcall hv rv kb1 hce hcount
      go_wp2_with fail
      go_region_with (first
        | (refine P.out.2.2.2.2.mono ?_; rintro e w3 hpost; obtain ⟨p3, S3, rfl, q3, q4, q5, q6⟩ := hpost.up (w := wr) (Below.refl _ _).drew; obtain ⟨a3, rfl⟩ := q5.form; have Z := Lib.hid (And.intro q3 (And.intro q4 (And.intro q5 q6))); clear hpost q3 q4 q5 q6))
      all_goals go_wp2_with fail
      all_goals go_roundw
      all_goals first
        | exact ⟨k + 1, S3, by omega, by go_num, fun b t e => Z.out.1 b t (P.out.1 b t e), Z.out.2.1, by rw [flat_succ, ← List.append_assoc]; exact Z.out.2.2.1, tyS_then P.out.1 P.out.2.2.1 Z.out.2.2.2, tyS_blk Z.out.2.2.2 P.out.2.2.2.1 (by decide) (by decide) (.inl (by decide))⟩
        | (simp [intOf]; omega)
    · obtain rfl : k = n := by omega
      have P := Lib.hid (And.intro hu (And.intro hp (And.intro hce hT)))
      clear hu hp hT xb hce
      go_wp2_with fail
      go_ret
      exact ⟨_, S1, rfl, P.out.1, P.out.2.1, P.out.2.2.1, P.out.2.2.2⟩
theorem chk_all : ∀ (k : Nat) (t : Cor) (S : Typ) (N B : Nat) (W : World) (v p : Value) (x : Ent) (ls : List Lf), t.ht ≤ k → t.sz ≤ 400000 → ls.length + t.cnt ≤ 100000 → Hp S N B W → RepC S v t → CeAt S B x W p ls → CallOk "Check" v #[.agg x.pub, p] W (ChkPost S N B W x ls t)
  | 0, t, _, _, _, _, _, _, _, _, h, _, _, _, _, _ => by cases t <;> simp [Cor.ht] at h
  | k + 1, .leaf m l F, S, N, B, W, v, p, x, ls, h, hz, hn, hp, ⟨b, hv, hb⟩, hc => ⟨141, _, 261, _, hv, by kernel_rfl, fun _ _ => by kernel_rfl, leafChk W S N B b m l F x p ls hp hb hc (by omega)⟩
  | k + 1, .nop, S, N, B, W, v, p, x, ls, h, hz, hn, hp, hv, hc => ⟨303, _, 392, _, hv, by kernel_rfl, fun _ _ => by kernel_rfl, nopChk W S N B x p ls hp hc⟩
  | k + 1, .tee n kid, S, N, B, W, v, p, x, ls, h, hz, hn, hp, ⟨b, cap, hv, hb⟩, hc => ⟨304, _, 397, _, hv, by kernel_rfl, fun _ _ => by kernel_rfl, teeChk W S N B b n cap kid x p ls hp hb hc hn (fun i hi S' W' v' p' ls' a1 a2 a3 a4 => chk_all k (kid i) S' N B W' v' p' x ls' (by
      have h1 : supN (fun i => (kid i).ht) n + 1 ≤ k + 1 := h
      have h2 := le_supN (fun i => (kid i).ht) hi
      exact Nat.le_trans h2 (Nat.le_of_succ_le_succ h1)) (by
      have h1 : supN (fun i => (kid i).sz) n ≤ 400000 := hz
      have h2 := le_supN (fun i => (kid i).sz) hi
      exact Nat.le_trans h2 h1) a4 a1 a2 a3)⟩
  | k + 1, .inc l c, S, N, B, W, v, p, x, ls, h, hz, hn, hp, ⟨b, hv, hb⟩, hc => ⟨306, _, 403, _, hv, by kernel_rfl, fun _ _ => by kernel_rfl, incChk W S N B b l c x p ls hp hb hc (fun v' hr W' hb' => chk_all k c S N B W' v' p x ls (by have h1 : c.ht + 1 ≤ k + 1 := h; omega) hz hn (hp.here hb') hr (hc.here hp hb'))⟩
  | k + 1, .lazy c F, S, N, B, W, v, p, x, ls, h, hz, hn, hp, ⟨b, hv, hb⟩, hc => ⟨309, _, 409, _, hv, by kernel_rfl, fun _ _ => by kernel_rfl, lazyChk W S N B b c F x p ls hp hb hc
      (fun W' v' a1 a2 => en_all k c S N B W' v' _ (by have h1 : c.ht + 1 ≤ k + 1 := h; omega) a1 a2)
      (fun S' W' v' V' a1 a2 a3 => with_all k c S' N B W' v' V' F (by have h1 : c.ht + 1 ≤ k + 1 := h; omega) hz a1 a2 a3)
      (fun S' W' v' p' a1 a2 a3 => chk_all k (c.wth F) S' N B W' v' p' x ls (by have h1 : c.ht + 1 ≤ k + 1 := h; have := Cor.ht_wth c F; omega) (by have h1 : c.sz + F.length ≤ 400000 := hz; have := Cor.sz_wth c F; omega) (by rw [Cor.cnt_wth]; exact hn) a1 a2 a3)⟩
end Go.Proofs.YtieidjlmgalihaaGreatDoor
