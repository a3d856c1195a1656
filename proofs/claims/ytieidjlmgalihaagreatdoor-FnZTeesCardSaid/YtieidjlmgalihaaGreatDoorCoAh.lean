/- coreOf: whatever is asked for, to any depth. -/
import Derived.Test.YtieidjlmgalihaaGreatDoorCoAb
import Derived.Test.YtieidjlmgalihaaGreatDoorKit3
import Derived.Test.YtieidjlmgalihaaGreatDoorCoAf
set_option linter.all false
namespace Go.Proofs.YtieidjlmgalihaaGreatDoor
open Go.RowKit
set_option maxRecDepth 100000
theorem core_of : ∀ (dk : Nat) (a : Arg) (w0 w : World) (S : Typ) (N m kf : Nat) (ent : Int) (seenV : Value), ArgAt kf dk w0 a → Below w0.heap.size w0 w → Hp S N w0.heap.size w → w0.heap.size ≤ N → Blk w N 145 #[.int .i64 ent, .int .i64 m, seenV] → m + a.cnt ≤ 1000000 → a.sz ≤ 300000 →
    Calls Tryz.prog 81 #[.agg a.arr, .pointer (some ⟨N, 0, none⟩)] w (CofPost a m ent seenV S N w0.heap.size w)
  | 0, _, _, _, _, _, _, _, _, _, h, _, _, _, _, _, _ => h.elim
  | _ + 1, .nil, _, _, _, _, _, _, _, _, h, _, _, _, _, _, _ => h.elim
  | dk + 1, .mk kind lev kA kn kc fA fn fc kid fld, w0, w, S, N, m, kf, ent, seenV, ha, hb, h, hBN, hN, hm, hz => by
    by_cases h0 : kind = 0
    · subst h0
      exact cof_leaf w S N w0.heap.size m ent lev seenV kA fA kn kc fn fc kid fld h hBN hN (by simp only [Arg.cnt, if_true] at hm; omega)
    · by_cases h5 : kind = 5
      · subst h5
        exact cof_nop w S N w0.heap.size m ent lev seenV kA fA kn kc fn fc kid fld h hN
      · refine cof_kids w0 w S N m kf dk ent kind lev seenV kA fA kn kc fn fc kid fld h0 h5 ha hb h hBN hN hm hz ?_
        intro i hi S1 W m1 hbW hp1 hN1 hm1
        refine core_of dk (kid i) w0 W S1 N m1 kf ent seenV (ha.2.2.1 i hi) hbW hp1 hBN hN1 hm1 ?_
        have h1 : supN (fun i => (kid i).sz) kn + fn ≤ 300000 := hz
        have h2 := le_supN (fun i => (kid i).sz) hi
        have h3 : (kid i).sz ≤ supN (fun i => (kid i).sz) kn := h2
        omega
end Go.Proofs.YtieidjlmgalihaaGreatDoor
namespace Go.Proofs.YtieidjlmgalihaaGreatDoor
open Go.RowKit
theorem ahead_none (a : Addr) (W : World) : (nilAhead 615 257 (.pointer (some a)) "Enabled").run Tryz.prog W = .ok none W := by kernel_rfl
theorem ahead_catch (a b : Value) (W : World) : (nilAhead 615 187 (.agg #[a, b]) "Check").run Tryz.prog W = .ok (some false) W := by kernel_rfl
theorem ahead_leaf (a : Addr) (W : World) : (nilAhead 615 141 (.pointer (some a)) "Check").run Tryz.prog W = .ok (some false) W := by kernel_rfl
theorem ahead_nop (W : World) : (nilAhead 615 303 (.agg #[]) "Check").run Tryz.prog W = .ok (some false) W := by kernel_rfl
theorem ahead_multi (a : Option Addr) (n c : Nat) (W : World) : (nilAhead 615 304 (.slice a n c) "Check").run Tryz.prog W = .ok (some false) W := by kernel_rfl
theorem ahead_filter (a : Addr) (W : World) : (nilAhead 615 306 (.pointer (some a)) "Check").run Tryz.prog W = .ok (some false) W := by kernel_rfl
theorem ahead_lazy (a : Addr) (W : World) : (nilAhead 615 309 (.pointer (some a)) "Check").run Tryz.prog W = .ok (some false) W := by kernel_rfl
end Go.Proofs.YtieidjlmgalihaaGreatDoor
namespace Go.Proofs.YtieidjlmgalihaaGreatDoor
open Go.RowKit
set_option maxRecDepth 100000
abbrev lvOf (es : Nat → Ent) : Nat → Int := fun i => IntKind.i8.wrap (es i).level
abbrev fldOf (n : Nat) (fs : Nat → FRow) : Nat → List Fld := fun i => if i < n then (fs i).l else []
/-- What ZWrite leaves. -/
def ZwPost (a : Arg) (lv : Nat → Int) (F : Nat → List Fld) (n : Nat) (w : World) (e : Ending) (w' : World) : Prop :=
  ((a.build 0).2 = none ∧ e = .returned (.tuple #[.slice none 0 0, .bool false]) ∧ Below w.heap.size w w') ∨
  (∃ c seenV xs, (a.build 0).2 = some c ∧ e = .returned (.tuple #[seenV, .bool true]) ∧ w'.ownsRow w.heap.size 196 3 seenV (written c lv F n).length xs ∧ SeenOf w.heap.size w' xs (written c lv F n) ∧ Below w.heap.size w w')
/-- ZWrite in the midst of its entries. -/
structure ZwSt (w : World) (N : Nat) (c : Cor) (v : Value) (lv : Nat → Int) (F : Nat → List Fld) (k : Nat) (W : World) (S : Typ) : Prop where
  hp : Hp S N w.heap.size W
  rep : RepC S v c
  notes : ∃ ent m1, NotesAt w.heap.size N ent m1 W (written c lv F k)
  below : Below w.heap.size w W
theorem ahead_rep {S : Typ} {T : TypeId} {u : Value} : ∀ {c : Cor}, RepC S (.iface T u) c → ∀ W, (nilAhead 615 T u "Check").run Tryz.prog W = .ok (some false) W
  | .leaf _ _ _, ⟨b, h, _⟩ => by injection h with h1 h2; subst h1 h2; exact ahead_leaf _
  | .nop, h => by
    have h : Value.iface T u = .iface 303 (.agg #[]) := h
    injection h with h1 h2
    subst h1 h2
    exact ahead_nop
  | .tee _ _, ⟨b, cap, h, _⟩ => by injection h with h1 h2; subst h1 h2; exact ahead_multi _ _ _
  | .inc _ _, ⟨b, h, _⟩ => by injection h with h1 h2; subst h1 h2; exact ahead_filter _
  | .lazy _ _, ⟨b, h, _⟩ => by injection h with h1 h2; subst h1 h2; exact ahead_lazy _
/-- The notes under another entry. -/
theorem NotesAt.turn {B N : Nat} {ent lv k : Int} {W W1 : World} {L : List Seen} (h : NotesAt B N ent lv W L) (ho : Only (fun b => b = N) W W1) (hN : ∀ seenV, Blk W N 145 #[.int .i64 ent, .int .i64 lv, seenV] → Blk W1 N 145 #[.int .i64 k, .int .i64 lv, seenV]) : NotesAt B N k lv W1 L := by
  obtain ⟨seenV, xs, q1, q2, q3, q4⟩ := h
  refine ⟨seenV, xs, q1, hN _ q2, own_only q3 ho (fun g hg e => own_ne q3 q2 (by decide) (by rw [hg, e])), q4.keep ho (fun b cs fz hk e => by subst e; exact absurd (blk_tag q2 hk) (by decide))⟩
theorem NotesAt.below {B N : Nat} {ent lv : Int} {W W1 : World} {L : List Seen} (h : NotesAt B N ent lv W L) (hb : Below W.heap.size W W1) : NotesAt B N ent lv W1 L := by
  obtain ⟨seenV, xs, q1, q2, q3, q4⟩ := h
  exact ⟨seenV, xs, q1, q2.here hb, own_only q3 (Only.none_of_below (S := fun _ => False) hb) (fun _ _ h => h), q4.keep (Only.none_of_below (S := fun _ => False) hb) (fun _ _ _ _ h => h)⟩
theorem NotesAt.tyS {S : Typ} {B B' N : Nat} {ent lv : Int} {W W1 : World} {L : List Seen} (h : NotesAt B N ent lv W L) (ho : Only (fun b => B' ≤ b ∧ TyS S W b) W W1) : NotesAt B N ent lv W1 L := by
  obtain ⟨seenV, xs, q1, q2, q3, q4⟩ := h
  refine ⟨seenV, xs, q1, tyS_blk ho q2 (by decide) (by decide) (.inl (by decide)), tyS_own ho q3 (by decide) (by decide) (by decide), q4.keep ho (fun b cs fz hk ⟨_, cs', T', fz', hk', hT⟩ => ?_)⟩
  rw [hk] at hk'
  injection hk' with hk'
  injection hk' with _ e
  subst e
  rcases hT with hT | hT | ⟨hT, _⟩ <;> exact absurd hT (by decide)
/-- An entry's number is noted, its fields are carried. -/
structure ZwMid (w : World) (N : Nat) (c : Cor) (v : Value) (L : List Seen) (k : Nat) (fs : List Fld) (V : Value) (W : World) (S : Typ) : Prop where
  hp : Hp S N w.heap.size W
  rep : RepC S v c
  notes : ∃ m1, NotesAt w.heap.size N k m1 W L
  src : SrcF W V fs.length (carL fs)
  below : Below w.heap.size w W
theorem ZwMid.here {w : World} {N : Nat} {c : Cor} {v : Value} {L : List Seen} {k : Nat} {fs : List Fld} {V : Value} {W W' : World} {S : Typ} (h : ZwMid w N c v L k fs V W S) (hb : Below W.heap.size W W') : ZwMid w N c v L k fs V W' S :=
  ⟨h.hp.here hb, h.rep, by obtain ⟨m1, q⟩ := h.notes; exact ⟨m1, q.below hb⟩, h.src.below hb, h.below.trans (hb.mono h.below.size)⟩
/-- Check has been asked. -/
theorem zw_chk {w : World} {N : Nat} {c : Cor} {v : Value} {L : List Seen} {k : Nat} {fs : List Fld} {V : Value} {W w1 : World} {S : Typ} {x : Ent} {e : Ending} (h : ZwMid w N c v L k fs V W S) (hx : ChkPost S N w.heap.size W x [] c e w1) :
    ∃ p S1, e = .returned p ∧ ZwMid w N c v L k fs V w1 S1 ∧ CeAt S1 w.heap.size x w1 p (c.hits (IntKind.i8.wrap x.level)) := by
  obtain ⟨p, S1, h1, h2, h3, h4, h5⟩ := hx
  refine ⟨p, S1, h1, ⟨h3, h.rep.up h2, ?_, tyS_src h5 h.src, h.below.trans (tyS_below h5 h.hp.base)⟩, by simpa using h4⟩
  obtain ⟨m1, q⟩ := h.notes
  exact ⟨m1, q.tyS h5⟩
theorem tyW_below {B : Nat} {W W' : World} (h : Only (fun b => B ≤ b ∧ TyW W b) W W') (hB : B ≤ W.heap.size) : Below B W W' := h.below hB (fun k hk ⟨hb, _⟩ => by omega)
/-- No leaf takes the entry. -/
theorem zw_none {w : World} {N : Nat} {c : Cor} {v : Value} {lv : Nat → Int} {F : Nat → List Fld} {k : Nat} {V : Value} {W : World} {S : Typ} (h : ZwMid w N c v (written c lv F k) k (F k) V W S) (hk : c.hits (lv k) = []) : ZwSt w N c v lv F (k + 1) W S := by
  refine ⟨h.hp, h.rep, ?_, h.below⟩
  obtain ⟨m1, q⟩ := h.notes
  refine ⟨k, m1, ?_⟩
  rw [written_succ, hk]
  simpa [noted] using q
/-- From an entry's begin to its number noted. -/
theorem zw_turn {w wr : World} {N : Nat} {c : Cor} {v : Value} {lv : Nat → Int} {F : Nat → List Fld} {k : Nat} {S : Typ} (st : ZwSt w N c v lv F k wr S) (hN : w.heap.size ≤ N) (o : Obj) :
    ZwMid w N c v (written c lv F k) k [] (.slice none 0 0) ((wr.setCell ⟨N, 0, none⟩ (.int .i64 k)).alloc o) S := by
  obtain ⟨ent, m1, q⟩ := st.notes
  have hq := q
  obtain ⟨seenV, xs, _, qN, _, _⟩ := hq
  have ho : Only (fun b => b = N) wr ((wr.setCell ⟨N, 0, none⟩ (.int .i64 k)).alloc o) := ((Only.refl (fun b => b = N) wr).setCell (p := ⟨N, 0, none⟩) (.inl rfl) _).alloc _
  have hSN : S N = none := st.hp.apart qN (by decide) (by decide) (by decide) (by decide)
  refine ⟨st.hp.only ho (fun i hi => by rw [hi]; exact hSN) (fun i cs fz hi e => by subst e; exact absurd (blk_tag qN hi) (by decide)), st.rep, ⟨m1, q.turn ho (fun sv hb => Blk.alloc (by simpa using hb.set_ 0 (.int .i64 k)) _)⟩, .inl ⟨rfl, rfl, rfl⟩, st.below.trans (ho.below st.below.size (fun i hi e => by omega))⟩
theorem ZwMid.src_ {w : World} {N : Nat} {c : Cor} {v : Value} {L : List Seen} {k : Nat} {fs fs' : List Fld} {V V' : Value} {W : World} {S : Typ} (h : ZwMid w N c v L k fs V W S) (hs : SrcF W V' fs'.length (carL fs')) : ZwMid w N c v L k fs' V' W S := ⟨h.hp, h.rep, h.notes, hs, h.below⟩
theorem ceat_nil {S : Typ} {B : Nat} {x : Ent} {W : World} {p : Value} (h : CeAt S B x W p []) : p = .pointer none := by
  rcases h with ⟨_, h⟩ | ⟨_, _, _, _, _, h, _⟩
  · exact h
  · simp at h
theorem ceat_cons {S : Typ} {B : Nat} {x : Ent} {W : World} {p : Value} {l : Lf} {ls : List Lf} (h : CeAt S B x W p (l :: ls)) : ∃ ce V cores, p = .pointer (some ⟨ce, 0, none⟩) ∧ B ≤ ce ∧ Blk W ce 250 (x.ce false V) ∧ W.ownsRow B 139 1 V (l :: ls).length cores ∧ ∀ (i : Nat) (k : Lf), (l :: ls)[i]? = some k → ∃ v, cores[i]? = some v ∧ RepC S v (.leaf k.num k.lev k.F) := by
  rcases h with ⟨h, _⟩ | ⟨ce, V, cores, h1, h2, _, h4, h5, _, h7⟩
  · simp at h
  · exact ⟨ce, V, cores, h1, h2, h4, h5, h7⟩
/-- The leaves have written. -/
theorem zw_write {w : World} {N : Nat} {c : Cor} {v : Value} {lv : Nat → Int} {F : Nat → List Fld} {k ce : Nat} {V Vc : Value} {W : World} {S : Typ} {x : Ent} {cores : List Value} {ls : List Lf} (h : ZwMid w N c v (written c lv F k) k (F k) V W S) (hk : c.hits (lv k) = ls)
    (hceB : w.heap.size ≤ ce) (hce : Blk W ce 250 (x.ce false Vc)) (hown : W.ownsRow w.heap.size 139 1 Vc ls.length cores) (hrep : ∀ (i : Nat) (l : Lf), ls[i]? = some l → ∃ v, cores[i]? = some v ∧ RepC S v (.leaf l.num l.lev l.F))
    (hc : c.cnt ≤ 25000) (hz : c.sz ≤ 10000) (hk2 : k ≤ 20) (hF : (F k).length ≤ 300) :
    Calls Tryz.prog 66 #[.pointer (some ⟨ce, 0, none⟩), V] W (fun e w' => e = .returned (.tuple #[]) ∧ ZwSt w N c v lv F (k + 1) w' S) := by
  obtain ⟨m1, q⟩ := h.notes
  have h1 := c.hits_len (lv k)
  have h2 := written_len c lv F k
  have h3 : k * c.cnt ≤ 20 * 25000 := Nat.mul_le_mul hk2 hc
  rw [hk] at h1
  refine (ceWriteL W S N w.heap.size ce k x Vc V cores ls m1 (written c lv F k) (F k) h.hp hce hceB hown hrep q h.src (by omega) (by omega) (by omega) (fun i l hl => ?_)).mono ?_
  · have := hits_sz c (lv k) l (by rw [hk]; exact List.mem_iff_getElem?.2 ⟨i, hl⟩)
    omega
  · rintro e w' ⟨rfl, q1, q2, q3⟩
    refine ⟨rfl, q1, h.rep, ⟨k, m1, ?_⟩, h.below.trans (tyW_below q3 h.hp.base)⟩
    rw [written_succ, hk]
    exact q2
theorem Ent.cells12 {W : World} {b : Nat} {e : Ent} (h : Blk W b 50 e.arr) : W.cell? ⟨b, 0, none⟩ = some (.int .i64 e.level) ∧ W.cell? ⟨b, 1, none⟩ = some (.bool e.zero) ∧ W.cell? ⟨b, 2, none⟩ = some (.int .i64 e.nanos) ∧ W.cell? ⟨b, 3, none⟩ = some (.int .i64 e.offset) ∧ W.cell? ⟨b, 4, none⟩ = some (.string e.zone) ∧ W.cell? ⟨b, 5, none⟩ = some (.string e.logger) ∧ W.cell? ⟨b, 6, none⟩ = some (.string e.message) ∧ W.cell? ⟨b, 7, none⟩ = some (.bool e.defined) ∧ W.cell? ⟨b, 8, none⟩ = some (.string e.file) ∧ W.cell? ⟨b, 9, none⟩ = some (.int .i64 e.line) ∧ W.cell? ⟨b, 10, none⟩ = some (.string e.function) ∧ W.cell? ⟨b, 11, none⟩ = some (.string e.stack) :=
  ⟨h.cell 0, h.cell 1, h.cell 2, h.cell 3, h.cell 4, h.cell 5, h.cell 6, h.cell 7, h.cell 8, h.cell 9, h.cell 10, h.cell 11⟩
theorem fldOf_le (n : Nat) (fs : Nat → FRow) (h : ∀ i, i < n → (fs i).n ≤ 300) (k : Nat) : (fldOf n fs k).length ≤ 300 := by
  simp only [fldOf]
  by_cases hk : k < n
  · rw [if_pos hk]
    simpa [FRow.l] using h k hk
  · rw [if_neg hk]
    simp
end Go.Proofs.YtieidjlmgalihaaGreatDoor
