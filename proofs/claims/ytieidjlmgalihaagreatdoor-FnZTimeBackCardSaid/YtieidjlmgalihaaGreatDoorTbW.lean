/- The reader of JSON: a value that is a text of plain bytes. -/
import Derived.Test.YtieidjlmgalihaaGreatDoorTbV
import Derived.Defers
set_option linter.all false
namespace Go.Proofs.YtieidjlmgalihaaGreatDoor
open Go.RowKit Go.PlainAid
set_option maxRecDepth 100000
theorem ext_one {s : ByteArray} {p : Nat} (h : p < s.size) : ∃ c : UInt8, (s.extract p (p + 1)).toList = [c] ∧ (c.toNat : Int) = bt s p := by
  obtain ⟨c, h1, h2⟩ := sub_one h
  exact ⟨c, by rw [sub_ext, h1, Lib.toList_data], h2⟩
/-- The deferred closure. -/
theorem deep_back (w : World) (u : FrameMode) (m b : Nat) (s : ByteArray) (a d : Int) (hm : Blk w m 93 #[.pointer (some ⟨b, 0, none⟩)]) (hJ : Blk w b 95 (jArr s a d)) (d0 : 0 ≤ d) (d1 : d ≤ 10000) :
    CallsD Tryz.prog 91 #[.pointer (some ⟨m, 0, none⟩)] u w fun e u' w' => u' = u ∧ (e = .returned (.tuple #[]) ∧ w' = w.setCell ⟨b, 2, none⟩ (.int .i64 (d - 1))) := by
  have k0 := hm.cell 0
  have k2 := hJ.cell 2
  have f2 := hJ.frozen 2
  simp only [List.getElem?_toArray, List.getElem?_cons_zero, List.getElem?_cons_succ] at k0 k2
  go_enter_d Tryz.func91, Tryz.ntmps91
  go_wp2
  all_goals first | done | go_end0
  all_goals first | done | exact ⟨rfl, rfl⟩
set_option maxHeartbeats 8000000 in
theorem value_is (w : World) (b : Nat) (s : ByteArray) (p n : Nat) (hs : s.size ≤ 1000) (hp : p + 1 + n < s.size) (hJ : Blk w b 95 (jArr s (p : Int) 0)) (h34 : bt s p = 34) (hL : ∀ i, i < n → 32 ≤ bt s (p + 1 + i) ∧ bt s (p + 1 + i) < 128 ∧ bt s (p + 1 + i) ≠ 34 ∧ bt s (p + 1 + i) ≠ 92) (hq : bt s (p + 1 + n) = 34) :
    Calls Tryz.prog 47 #[.pointer (some ⟨b, 0, none⟩)] w fun e w' => e = .returned (.tuple #[.agg #[.int .i64 4, .string (s.extract (p + 1) (p + 1 + n)), .slice none 0 0, .slice none 0 0], .bool true]) ∧ Only (fun k => k = b) w w' ∧ Blk w' b 95 (jArr s ((p + 1 + n + 1 : Nat) : Int) 0) := by
  obtain ⟨c, hx, hc⟩ := ext_one (s := s) (p := p) (by omega)
  have hc34 : c = 34 := by
    rw [h34] at hc
    exact UInt8.toNat_inj.1 (by have : (34 : UInt8).toNat = 34 := rfl; omega)
  subst hc34
  have hbl := hJ.lt
  have HL := Lib.hid hL
  have HX := Lib.hid hx
  have HBN := Lib.hid (fun W (d : Int) hW => blanks_no W b s p d hs (by omega) hW (by omega) (by omega) (by omega) (by omega))
  clear hL hx
  have hmf : ∀ (fn : Fn) (first cap : Array Value) (w : World), (Instr.makeFunc fn first cap).run Tryz.prog w = .ok (.func fn first cap) w := fun _ _ _ _ => rfl
  go_enter_defers Tryz.func47, Tryz.ntmps47
  go_wp2_with fail
  obtain ⟨W1, hW1⟩ : ∃ W1, W1 = ((w.alloc (.cells #[.pointer (some ⟨b, 0, none⟩)] 93)).alloc (.cells #[.int .i64 0, .string ⟨#[]⟩, .slice none 0 0, .slice none 0 0] 29)) := ⟨_, rfl⟩
  have J1 : Blk W1 b 95 (jArr s (p : Int) 0) := by rw [hW1]; exact (hJ.alloc _).alloc _
  have M1 : Blk W1 w.heap.size 93 #[.pointer (some ⟨b, 0, none⟩)] := by rw [hW1]; exact (Blk.new w 93 _).alloc _
  have R1 : Blk W1 (w.heap.size + 1) 29 #[.int .i64 0, .string ⟨#[]⟩, .slice none 0 0, .slice none 0 0] := by rw [hW1]; exact Blk.new_at _ 29 _ _ (by simp)
  have O1 : Only (fun k => k = b) w W1 := by rw [hW1]; exact ((Only.refl _ w).alloc _).alloc _
  rw [← hW1]
  clear hW1 hJ
  refine (HBN.out _ _ J1).mono ?_
  rintro e w2 ⟨rfl, b2⟩
  have J2 := J1.here b2
  have M2 := M1.here b2
  have R2 := R1.here b2
  have O2 := O1.trans (Only.none_of_below (S := fun k => k = b) b2)
  clear J1 M1 R1 O1 b2
  have k0 := M2.cell 0
  have k1 := J2.cell 2
  have k2 := J2.frozen 2
  simp only [List.getElem?_toArray, List.getElem?_cons_zero, List.getElem?_cons_succ] at k0 k1
  have lb := J2.lt
  have hne : ¬ (w.heap.size = b) := by omega
  have HH := Lib.hid (And.intro J2 (And.intro M2 (And.intro R2 O2)))
  clear J2 M2 R2 O2
  go_wp2_with fail
  obtain ⟨J2, M2, R2, O2⟩ := HH.out
  have hset : Only (fun k => k = b) w2 (w2.setCell ⟨b, 2, none⟩ (.int .i64 1)) := (Only.refl (fun k => k = b) w2).setCell (p := ⟨b, 2, none⟩) (.inl rfl) _
  have J3 : Blk (w2.setCell ⟨b, 2, none⟩ (.int .i64 1)) b 95 (jArr s (p : Int) 1) := J2.set_ 2 (.int .i64 1)
  have M3 := M2.only hset hne
  have R3 := R2.only hset (by omega)
  have O3 := O2.trans hset
  clear J2 M2 R2 O2 k0 k1 k2 HH hset
  generalize (w2.setCell ⟨b, 2, none⟩ (.int .i64 1)) = w3 at *
  have hn1 : ((s.extract p (p + 1)).toList == (⟨#[123]⟩ : ByteArray).toList) = false := by rw [HX.out, Lib.toList_data]; decide
  have hn2 : ((s.extract p (p + 1)).toList == (⟨#[91]⟩ : ByteArray).toList) = false := by rw [HX.out, Lib.toList_data]; decide
  have hn3 : ((s.extract p (p + 1)).toList == (⟨#[34]⟩ : ByteArray).toList) = true := by rw [HX.out, Lib.toList_data]; decide
  refine (has_no w3 b s ⟨#[123]⟩ p 1 hs (by omega) rfl J3 hn1).mono ?_
  rintro e w4 ⟨rfl, b4⟩
  have J4 := J3.here b4
  have M4 := M3.here b4
  have R4 := R3.here b4
  have O4 := O3.trans (Only.none_of_below (S := fun k => k = b) b4)
  clear J3 M3 R3 O3 b4 hn1
  have k0 := M4.cell 0
  simp only [List.getElem?_toArray, List.getElem?_cons_zero, List.getElem?_cons_succ] at k0
  have lb4 := J4.lt
  have HH := Lib.hid (And.intro J4 (And.intro M4 (And.intro R4 O4)))
  clear J4 M4 R4 O4
  have HN := Lib.hid (And.intro hn2 hn3)
  clear hn2 hn3
  go_wp2_with fail
  obtain ⟨J4, M4, R4, O4⟩ := HH.out
  clear HH k0
  refine (has_no w4 b s ⟨#[91]⟩ p 1 hs (by omega) rfl J4 HN.out.1).mono ?_
  rintro e w5 ⟨rfl, b5⟩
  have J5 := J4.here b5
  have M5 := M4.here b5
  have R5 := R4.here b5
  have O5 := O4.trans (Only.none_of_below (S := fun k => k = b) b5)
  clear J4 M4 R4 O4 b5
  have k0 := M5.cell 0
  simp only [List.getElem?_toArray, List.getElem?_cons_zero, List.getElem?_cons_succ] at k0
  have lb5 := J5.lt
  have HH := Lib.hid (And.intro J5 (And.intro M5 (And.intro R5 O5)))
  clear J5 M5 R5 O5
  go_wp2_with fail
  obtain ⟨J5, M5, R5, O5⟩ := HH.out
  clear HH k0
  refine (has_yes w5 b s ⟨#[34]⟩ p 1 hs (by omega) rfl J5 HN.out.2).mono ?_
  rintro e w6 ⟨rfl, o6, J6⟩
  have M6 := M5.only o6 hne
  have R6 := R5.only o6 (by omega)
  have O6 := O5.trans o6
  clear J5 M5 R5 O5 o6
  have k0 := M6.cell 0
  simp only [List.getElem?_toArray, List.getElem?_cons_zero, List.getElem?_cons_succ] at k0
  have lb6 := J6.lt
  have HH := Lib.hid (And.intro J6 (And.intro M6 (And.intro R6 O6)))
  clear J6 M6 R6 O6
  go_wp2_with fail
  obtain ⟨J6, M6, R6, O6⟩ := HH.out
  clear HH k0
  refine (text_is w6 b s (p + 1) n 1 hs (by omega) J6 HL.out hq).mono ?_
  rintro e w7 ⟨rfl, o7, J7⟩
  have M7 := M6.only o7 hne
  have R7 := R6.only o7 (by omega)
  have O7 := O6.trans o7
  clear J6 M6 R6 O6 o7
  have k0 := M7.cell 0
  have r0 := R7.cell 0
  have r1 := R7.cell 1
  have r2 := R7.cell 2
  have r3 := R7.cell 3
  have fr := R7.frozen
  simp only [List.getElem?_toArray, List.getElem?_cons_zero, List.getElem?_cons_succ] at k0 r0 r1 r2 r3
  have lb7 := J7.lt
  have HH := Lib.hid (And.intro J7 (And.intro M7 (And.intro R7 O7)))
  clear J7 M7 R7 O7
  go_wp2_with fail
  obtain ⟨J7, M7, R7, O7⟩ := HH.out
  clear HH k0 r0 r1 r2 r3 fr
  obtain ⟨W8, hW8⟩ : ∃ W8, W8 = ((((w7.setCell { block := w.heap.size + 1, off := 0 } (Value.int IntKind.i64 4)).setCell { block := w.heap.size + 1, off := 1 } (Value.string (s.extract (p + 1) (p + 1 + n)))).setCell { block := w.heap.size + 1, off := 2 } (Value.slice none 0 0)).setCell { block := w.heap.size + 1, off := 3 } (Value.slice none 0 0)) := ⟨_, rfl⟩
  have hset : Only (fun k => k = w.heap.size + 1) w7 W8 := by
    rw [hW8]
    exact ((((Only.refl (fun k => k = w.heap.size + 1) w7).setCell (p := ⟨w.heap.size + 1, 0, none⟩) (.inl rfl) _).setCell (p := ⟨w.heap.size + 1, 1, none⟩) (.inl rfl) _).setCell (p := ⟨w.heap.size + 1, 2, none⟩) (.inl rfl) _).setCell (p := ⟨w.heap.size + 1, 3, none⟩) (.inl rfl) _
  have R8 : Blk W8 (w.heap.size + 1) 29 #[.int .i64 4, .string (s.extract (p + 1) (p + 1 + n)), .slice none 0 0, .slice none 0 0] := by
    rw [hW8]
    have := (((R7.set_ 0 (.int .i64 4)).set_ 1 (.string (s.extract (p + 1) (p + 1 + n)))).set_ 2 (.slice none 0 0)).set_ 3 (.slice none 0 0)
    simpa only [List.setIfInBounds_toArray, List.set_cons_zero, List.set_cons_succ] using this
  have J8 := J7.only hset (by omega)
  have M8 := M7.only hset (by omega)
  have O8 : Only (fun k => k = b) w W8 := O7.then hset (fun i hi h => by omega)
  rw [← hW8]
  clear hW8 hset J7 M7 R7 O7
  refine leaves_cons (f := 91) (args := #[.pointer (some ⟨w.heap.size, 0, none⟩)]) (by simp) (by simp [go_sem]) ?_
  refine (deep_back W8 .returning w.heap.size b s _ 1 M8 J8 (by omega) (by omega)).mono ?_
  rintro e u' w'' ⟨rfl, rfl, rfl⟩
  have o9 : Only (fun k => k = b) W8 (W8.setCell ⟨b, 2, none⟩ (.int .i64 (1 - 1))) := (Only.refl (fun k => k = b) W8).setCell (p := ⟨b, 2, none⟩) (.inl rfl) _
  have R9 := R8.only o9 (by omega)
  have J9 := J8.set_ 2 (.int .i64 (1 - 1))
  generalize W8.setCell ⟨b, 2, none⟩ (.int .i64 (1 - 1)) = W9 at *
  have r0 := R9.cell 0
  have r1 := R9.cell 1
  have r2 := R9.cell 2
  have r3 := R9.cell 3
  simp only [List.getElem?_toArray, List.getElem?_cons_zero, List.getElem?_cons_succ] at r0 r1 r2 r3
  refine ⟨.tuple #[.agg #[.int .i64 4, .string (s.extract (p + 1) (p + 1 + n)), .slice none 0 0, .slice none 0 0], .bool true], by simp [results, Tryz.results47, go_sem, r0, r1, r2, r3], rfl, O8.trans o9, ?_⟩
  exact J9
end Go.Proofs.YtieidjlmgalihaaGreatDoor
