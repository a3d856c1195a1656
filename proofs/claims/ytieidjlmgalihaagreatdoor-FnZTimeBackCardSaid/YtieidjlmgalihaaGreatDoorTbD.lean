/- Bytes that grow; numbers by two and four digits. -/
import Derived.Test.YtieidjlmgalihaaGreatDoorFld
import Derived.Test.YtieidjlmgalihaaGreatDoorTbB
set_option linter.all false
namespace Go.Proofs.YtieidjlmgalihaaGreatDoor
open Go.RowKit
set_option maxRecDepth 100000
theorem info5b : (Tryz.prog.info? 5).map (fun i => (i.zero, i.size, i.bytes)) = some (some (.int .u8 0), 1, 1) := by kernel_rfl
/-- A slice of its own that holds these bytes. -/
abbrev Bs (w : World) (B : Nat) (V : Value) (l : List UInt8) : Prop := w.ownsRow B 5 1 V l.length (bvals l)
/-- What a call that appends bytes leaves. -/
def AppB (B : Nat) (V : Value) (l m : List UInt8) (w : World) (e : Ending) (w' : World) : Prop :=
  ∃ A c, e = .returned (.slice A (l ++ m).length c) ∧ Bs w' B (.slice A (l ++ m).length c) (l ++ m) ∧ Only (fun k => V.ownBlock = some k) w w' ∧ (A.map (·.block) = V.ownBlock ∨ ∃ a, A = some a ∧ w.heap.size ≤ a.block)
theorem bs_slice {w : World} {B : Nat} {V : Value} {l : List UInt8} (h : Bs w B V l) : ∃ A c, V = .slice A l.length c := by
  rcases h.2 with ⟨h1, h2⟩ | ⟨g, cap, cur, h1, _⟩
  · exact ⟨none, 0, by rw [h1, h2]⟩
  · exact ⟨_, _, h1⟩
theorem one_bv (l : List UInt8) : ∀ v ∈ bvals l, v.oneCell' = true := by
  intro v hv
  obtain ⟨c, _, rfl⟩ := List.mem_map.1 hv
  rfl
/-- append(b, x, ..): bytes that were just laid. -/
theorem wpList_appendb {P : Program} {ops : Array Oper} {rest : List Oper} {o : Oper} {a : Act} {Q : Exit → Act → World → Prop} (hinfo : (P.info? 5).map (fun i => (i.zero, i.size, i.bytes)) = some (some (.int .u8 0), 1, 1)) (ht : P.underlying 36 = some (.slice 5)) (hgd : o.guard = none) (s x : Operand)
    (ho : o.op = .call { callee := .builtin .append, args := #[s, x], argTypes := #[36, 36] })
    (B : Nat) (V : Value) (l m : List UInt8) (w0 : World) (hs : a.eval s = V) (hown : Bs w0 B V l)
    (news : Array Value) (hn : news.toList = bvals m) (H : Nat) (hx : a.eval x = .slice (some ⟨H, 0, none⟩) m.length m.length) (hH : w0.heap.size = H) (hm : m ≠ []) (hlen : l.length + m.length ≤ 1000000) (hbase : B ≤ w0.heap.size)
    (h : ∀ g cap w', Bs w' B (.slice (some ⟨g, 0, none⟩) (l ++ m).length cap) (l ++ m) → Only (fun k => V.ownBlock = some k) w0 w' → (V.ownBlock = some g ∨ w0.heap.size ≤ g) → g < w'.heap.size →
      wpList P ops Q rest (a.put o.dst (.slice (some ⟨g, 0, none⟩) (l ++ m).length cap)) w') : wpList P ops Q (o :: rest) a (w0.alloc (.cells news 5)) := by
  subst hH
  obtain ⟨i, hi, hz0, hz1, hz2⟩ := info_parts hinfo
  have hm0 : 0 < m.length := List.length_pos_iff.2 hm
  refine wpList_append_lies (w0.alloc (.cells news 5)) hgd s x 36 ho B 5 i (.int .u8 0) 1 1 ht hi hz0 hz1 hz2 rfl (by decide) V l.length (bvals l) hs (hown.alloc _) ⟨w0.heap.size, 0, none⟩ m.length m.length (bvals m) hx (by simp) ?_ (one_bv m) hm0 (by unfold maxLen; omega) (by omega) (by simp; omega) (w0.heap.size + 1) (by simp) ?_
  · intro j u hj
    have hadd : (⟨w0.heap.size, 0, none⟩ : Addr).add j = ⟨w0.heap.size, j, none⟩ := by unfold Addr.add; split <;> simp_all
    rw [hadd, World.cell?_alloc_new, ← hj, ← hn]
    simp
  · intro g cap w' ho' hg' hlies hlt
    rw [List.length_append] at h
    refine h g cap w' ?_ (((Only.refl _ w0).alloc _).grown hg' (fun k hk => .inl hk)) ?_ hlt
    · unfold Bs
      rw [List.length_append]
      simpa using ho'
    · rcases hlies with h' | h'
      · exact .inl h'
      · exact .inr (by omega)
/-- Bytes were appended: what is there behind that. -/
def AppV (B : Nat) (V : Value) (l m : List UInt8) (w : World) (V' : Value) (w' : World) : Prop :=
  ∃ A c, V' = .slice A (l ++ m).length c ∧ Bs w' B V' (l ++ m) ∧ Only (fun k => V.ownBlock = some k) w w' ∧ (V'.ownBlock = V.ownBlock ∨ ∃ g, V'.ownBlock = some g ∧ w.heap.size ≤ g)
theorem AppV.refl {B : Nat} {V : Value} {l : List UInt8} {w : World} (h : Bs w B V l) : AppV B V l [] w V w := by
  obtain ⟨A, c, rfl⟩ := bs_slice h
  refine ⟨A, c, by rw [List.append_nil], ?_, Only.refl _ _, .inl rfl⟩
  rw [List.append_nil]
  exact h
theorem AppV.then {B : Nat} {V V' V'' : Value} {l m m2 : List UInt8} {w w' w'' : World} (h : AppV B V l m w V' w') (k : AppV B V' (l ++ m) m2 w' V'' w'') : AppV B V l (m ++ m2) w V'' w'' := by
  obtain ⟨A, c, e1, b1, o1, r1⟩ := h
  obtain ⟨A', c', e2, b2, o2, r2⟩ := k
  have hS : ∀ i, i < w.heap.size → V'.ownBlock = some i → V.ownBlock = some i := by
    intro i hi he
    rcases r1 with r1 | ⟨g, r1, hg⟩
    · rw [← r1]; exact he
    · exfalso
      rw [r1] at he
      injection he with he
      omega
  refine ⟨A', c', by rw [← List.append_assoc]; exact e2, by rw [← List.append_assoc]; exact b2, o1.then o2 hS, ?_⟩
  rcases r2 with r2 | ⟨g, r2, hg⟩
  · rw [r2]
    exact r1
  · exact .inr ⟨g, r2, Nat.le_trans o1.size hg⟩
theorem AppV.one {B : Nat} {V : Value} {l m : List UInt8} {w w' : World} {g cap : Nat} (h1 : Bs w' B (.slice (some ⟨g, 0, none⟩) (l ++ m).length cap) (l ++ m)) (h2 : Only (fun k => V.ownBlock = some k) w w') (h3 : V.ownBlock = some g ∨ w.heap.size ≤ g) : AppV B V l m w (.slice (some ⟨g, 0, none⟩) (l ++ m).length cap) w' :=
  ⟨_, _, rfl, h1, h2, by
    rcases h3 with h | h
    · exact .inl (by rw [h]; rfl)
    · exact .inr ⟨_, rfl, h⟩⟩
theorem AppB.out {B : Nat} {V : Value} {l m : List UInt8} {w w' : World} {e : Ending} (h : AppB B V l m w e w') : ∃ A c, e = .returned (.slice A (l ++ m).length c) ∧ AppV B V l m w (.slice A (l ++ m).length c) w' := by
  obtain ⟨A, c, e1, b1, o1, r1⟩ := h
  refine ⟨A, c, e1, A, c, rfl, b1, o1, ?_⟩
  rcases r1 with r1 | ⟨a, rfl, ha⟩
  · refine .inl ?_
    rw [← r1]
    cases A <;> rfl
  · exact .inr ⟨_, rfl, ha⟩
theorem AppV.ret {B : Nat} {V V' : Value} {l m : List UInt8} {w w' : World} (h : AppV B V l m w V' w') : AppB B V l m w (.returned V') w' := by
  obtain ⟨A, c, rfl, b1, o1, r1⟩ := h
  refine ⟨A, c, rfl, b1, o1, ?_⟩
  rcases r1 with r1 | ⟨g, hg, ha⟩
  · refine .inl ?_
    rw [← r1]
    cases A <;> rfl
  · refine .inr ?_
    cases A with
    | none => cases hg
    | some a =>
      injection hg with hg
      exact ⟨a, rfl, by omega⟩
theorem AppV.bs {B : Nat} {V V' : Value} {l m : List UInt8} {w w' : World} (h : AppV B V l m w V' w') : Bs w' B V' (l ++ m) := by
  obtain ⟨A, c, _, b1, _⟩ := h
  exact b1
theorem AppV.size {B : Nat} {V V' : Value} {l m : List UInt8} {w w' : World} (h : AppV B V l m w V' w') : w.heap.size ≤ w'.heap.size := by
  obtain ⟨A, c, _, _, o, _⟩ := h
  exact o.size
theorem dig_two (n : Nat) : dig 2 n = [UInt8.ofNat (48 + n / 10 % 10), UInt8.ofNat (48 + n % 10)] := rfl
theorem dig_four (n : Nat) : dig 4 n = [UInt8.ofNat (48 + n / 10 / 10 / 10 % 10), UInt8.ofNat (48 + n / 10 / 10 % 10), UInt8.ofNat (48 + n / 10 % 10), UInt8.ofNat (48 + n % 10)] := rfl
theorem bv_dig (n : Nat) (h : n < 10) : ((UInt8.ofNat (48 + n)).toNat : Int) = 48 + n := by
  have : (UInt8.ofNat (48 + n)).toNat = 48 + n := by
    rw [UInt8.toNat_ofNat']
    omega
  rw [this]
  omega
theorem bv_digI (y : Int) (h0 : 0 ≤ y) (h : y < 10) : ((UInt8.ofNat (48 + y.toNat)).toNat : Int) = 48 + y := by
  rw [bv_dig _ (by omega)]
  omega
theorem utod (w : World) (y : Int) (h0 : 0 ≤ y) (h1 : y < 10) : Calls Tryz.prog 234 #[.int .u64 y] w fun e w' => e = .returned (.int .u8 (48 + y)) ∧ w = w' := by
  have e : IntKind.u8.wrap y = y := by simp [IntKind.wrap, IntKind.signed, IntKind.bits]; omega
  have e2 : IntKind.u8.wrap (48 + y) = 48 + y := by simp [IntKind.wrap, IntKind.signed, IntKind.bits]; omega
  go_enter Tryz.func234, Tryz.ntmps234
  go_wp2
  go_ret
  exact ⟨rfl, rfl⟩
/-- How a walk ends that has appended. -/
theorem app_ret {w w0 w' : World} {B : Nat} {V : Value} {l m : List UInt8} {g cap : Nat} (h1 : Bs w' B (.slice (some ⟨g, 0, none⟩) (l ++ m).length cap) (l ++ m)) (h2 : Only (fun k => V.ownBlock = some k) w0 w') (h3 : V.ownBlock = some g ∨ w0.heap.size ≤ g) (h0 : Only (fun k => V.ownBlock = some k) w w0) : AppB B V l m w (.returned (.slice (some ⟨g, 0, none⟩) (l ++ m).length cap)) w' :=
  ⟨_, _, rfl, h1, h0.trans h2, by
    rcases h3 with h | h
    · exact .inl (by rw [h]; rfl)
    · exact .inr ⟨_, rfl, Nat.le_trans h0.size h⟩⟩
set_option maxHeartbeats 2000000 in
theorem appendInt2 (w : World) (B : Nat) (V : Value) (l : List UInt8) (x : Nat) (hown : Bs w B V l) (hB : B ≤ w.heap.size) (hl : l.length ≤ 100000) (h1 : x < 100) : Calls Tryz.prog 213 #[V, .int .i64 (x : Int), .int .i64 2] w (AppB B V l (dig 2 x) w) := by
  obtain ⟨A, c, rfl⟩ := bs_slice hown
  have HO := Lib.hid hown
  clear hown
  have hn : [Value.int .u8 (48 + (x : Int) / 10), .int .u8 (48 + (x : Int) % 10)] = bvals (dig 2 x) := by
    have e1 := bv_dig (x / 10 % 10) (by omega)
    have e2 := bv_dig (x % 10) (by omega)
    simp only [dig_two, bvals, List.map_cons, List.map_nil, e1, e2]
    have e3 : ((x / 10 % 10 : Nat) : Int) = (x : Int) / 10 := by omega
    have e4 : ((x % 10 : Nat) : Int) = (x : Int) % 10 := by omega
    rw [e3, e4]
  have hd : (dig 2 x).length = 2 := dig_length 2 x
  go_enter Tryz.func213, Tryz.ntmps213
  go_wp2_with (first
    | (go_at_call 234; go_must (refine (utod _ _ (by omega) (by omega)).mono ?_; rintro e w1 ⟨rfl, rfl⟩))
    | (at_builtin; go_must (refine wpList_appendb info5b Tryz.underlying36 rfl (.tmp 31) (.tmp 40) rfl B (.slice A l.length c) l (dig 2 x) _ rfl HO.out _ (by first | rfl | exact hn) _ (by rw [hd]; rfl) rfl (by rw [dig_two]; simp) (by omega) hB ?_; intro g cap w1 q1 q2 q3 q4)))
  go_ret
  have R := app_ret (w := w) q1 q2 q3 (Only.refl _ _)
  rw [show (l ++ dig 2 x).length = l.length + 2 by rw [List.length_append, hd]] at R
  exact R
set_option maxHeartbeats 2000000 in
theorem appendInt4 (w : World) (B : Nat) (V : Value) (l : List UInt8) (x : Nat) (hown : Bs w B V l) (hB : B ≤ w.heap.size) (hl : l.length ≤ 100000) (h1 : x < 10000) : Calls Tryz.prog 213 #[V, .int .i64 (x : Int), .int .i64 4] w (AppB B V l (dig 4 x) w) := by
  obtain ⟨A, c, rfl⟩ := bs_slice hown
  have HO := Lib.hid hown
  clear hown
  have hn : [Value.int .u8 (48 + (x : Int) / 1000), .int .u8 (48 + (x : Int) / 100 % 10), .int .u8 (48 + (x : Int) / 10 % 10), .int .u8 (48 + (x : Int) % 10)] = bvals (dig 4 x) := by
    have e1 := bv_dig (x / 10 / 10 / 10 % 10) (by omega)
    have e2 := bv_dig (x / 10 / 10 % 10) (by omega)
    have e3 := bv_dig (x / 10 % 10) (by omega)
    have e4 := bv_dig (x % 10) (by omega)
    simp only [dig_four, bvals, List.map_cons, List.map_nil, e1, e2, e3, e4]
    have f1 : ((x / 10 / 10 / 10 % 10 : Nat) : Int) = (x : Int) / 1000 := by omega
    have f2 : ((x / 10 / 10 % 10 : Nat) : Int) = (x : Int) / 100 % 10 := by omega
    have f3 : ((x / 10 % 10 : Nat) : Int) = (x : Int) / 10 % 10 := by omega
    have f4 : ((x % 10 : Nat) : Int) = (x : Int) % 10 := by omega
    rw [f1, f2, f3, f4]
  have hd : (dig 4 x).length = 4 := dig_length 4 x
  go_enter Tryz.func213, Tryz.ntmps213
  go_wp2_with (first
    | (go_at_call 234; go_must (refine (utod _ _ (by omega) (by omega)).mono ?_; rintro e w1 ⟨rfl, rfl⟩))
    | (at_builtin; go_must (refine wpList_appendb info5b Tryz.underlying36 rfl (.tmp 49) (.tmp 68) rfl B (.slice A l.length c) l (dig 4 x) _ rfl HO.out _ (by first | rfl | exact hn) _ (by rw [hd]; rfl) rfl (by rw [dig_four]; simp) (by omega) hB ?_; intro g cap w1 q1 q2 q3 q4)))
  go_ret
  have R := app_ret (w := w) q1 q2 q3 (Only.refl _ _)
  rw [show (l ++ dig 4 x).length = l.length + 4 by rw [List.length_append, hd]] at R
  exact R
end Go.Proofs.YtieidjlmgalihaaGreatDoor
