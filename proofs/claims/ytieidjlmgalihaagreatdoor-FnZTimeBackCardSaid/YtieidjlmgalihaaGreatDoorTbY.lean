/- FnZTimeBack is true. -/
import Derived.Test.YtieidjlmgalihaaGreatDoorTbX
import Derived.Test.YtieidjlmgalihaaGreatDoorTbR
import Derived.Test.YtieidjlmgalihaaGreatDoorTbK
import Derived.Test.YtieidjlmgalihaaGreatDoorWk3
set_option linter.all false
namespace Go.Proofs.YtieidjlmgalihaaGreatDoor
open Go.RowKit Go.PlainAid
set_option maxRecDepth 100000
theorem years_any (w : World) (z : Bool) (n o : Int) (zn : ByteArray) : Calls Tryz.prog 14 #[.agg #[.bool z, .int .i64 n, .int .i64 o, .string zn]] w fun e w' => ∃ bo, e = .returned (.bool bo) ∧ Below w.heap.size w w' ∧ (bo = true → z = false ∧ -86400 < o ∧ o < 86400 ∧ o % 60 = 0) := by
  cases z
  case true =>
    go_enter Tryz.func14, Tryz.ntmps14
    go_wp2_with fail
    all_goals go_ret
    all_goals exact ⟨_, rfl, by go_grown, by intro h; simp at h⟩
  by_cases h1 : -86400 < o
  case neg =>
    have e1 : decide (-86400 < o) = false := by simpa using h1
    clear h1
    go_enter Tryz.func14, Tryz.ntmps14
    go_wp2_with fail
    all_goals go_ret
    all_goals exact ⟨_, rfl, by go_grown, by intro h; simp at h⟩
  by_cases h2 : o < 86400
  case neg =>
    have e1 : decide (-86400 < o) = true := by simpa using h1
    have e2 : decide (o < 86400) = false := by simpa using h2
    clear h2
    go_enter Tryz.func14, Tryz.ntmps14
    go_wp2_with fail
    all_goals go_ret
    all_goals exact ⟨_, rfl, by go_grown, by intro h; simp at h⟩
  have e1 : decide (-86400 < o) = true := by simpa using h1
  have e2 : decide (o < 86400) = true := by simpa using h2
  have e3 : Int.tmod o 60 = 0 ↔ o % 60 = 0 := by rw [← Int.dvd_iff_tmod_eq_zero, Int.dvd_iff_emod_eq_zero]
  go_enter Tryz.func14, Tryz.ntmps14
  go_wp2_with fail
  all_goals go_ret
  all_goals refine ⟨_, rfl, by go_grown, ?_⟩
  all_goals (intro h; refine ⟨by first | rfl | trivial, by first | exact h1 | trivial, by first | exact h2 | trivial, e3.1 ?_⟩)
  all_goals simpa using h
/-- The bytes of a moment's text. -/
def okC (c : UInt8) : Prop := 32 ≤ c.toNat ∧ c.toNat < 128 ∧ c.toNat ≠ 34 ∧ c.toNat ≠ 92
theorem ok_dig (k x : Nat) : ∀ c ∈ dig k x, okC c := fun c h => by
  have := dig_digit k x c h
  unfold okC
  omega
theorem ok_text {n o : Int} {f : List UInt8} (hF : Frac (n % 1000000000).toNat f) : ∀ c ∈ headL n o ++ f ++ zoneL o, okC c := by
  intro c h
  have e45 : okC 45 := by unfold okC; decide
  have e84 : okC 84 := by unfold okC; decide
  have e58 : okC 58 := by unfold okC; decide
  have e46 : okC 46 := by unfold okC; decide
  have e90 : okC 90 := by unfold okC; decide
  have e43 : okC 43 := by unfold okC; decide
  rcases List.mem_append.1 h with h | h
  · rcases List.mem_append.1 h with h | h
    · simp only [headL, List.mem_append, List.mem_singleton] at h
      rcases h with ((((((((((h | h) | h) | h) | h) | h) | h) | h) | h) | h) | h) <;> first | exact ok_dig _ _ c h | (subst h; assumption)
    · rcases hF with ⟨_, rfl⟩ | ⟨k, _, _, _, _, _, rfl⟩
      · cases h
      · rcases List.mem_cons.1 h with h | h
        · subst h; exact e46
        · exact ok_dig _ _ c h
  · unfold zoneL at h
    split at h
    · rw [List.mem_singleton] at h
      subst h; exact e90
    · simp only [List.mem_append, List.mem_singleton] at h
      rcases h with ((h | h) | h) | h
      · split at h
        · rw [List.mem_singleton] at h
          subst h; exact e45
        · rw [List.mem_singleton] at h
          subst h; exact e43
      · exact ok_dig _ _ c h
      · subst h; exact e58
      · exact ok_dig _ _ c h
/-- A text between quotes is read. -/
theorem jread_list (w : World) (l : List UInt8) (hl : l.length ≤ 900) (hok : ∀ c ∈ l, okC c) :
    Calls Tryz.prog 16 #[.string ⟨([34] ++ l ++ [34]).toArray⟩] w fun e w' => e = .returned (.tuple #[.agg #[.int .i64 4, .string ⟨l.toArray⟩, .slice none 0 0, .slice none 0 0], .bool true]) ∧ Below w.heap.size w w' := by
  have hz : (⟨([34] ++ l ++ [34]).toArray⟩ : ByteArray).size = 1 + l.length + 1 := by rw [size_list]; simp; omega
  have hx : (⟨([34] ++ l ++ [34]).toArray⟩ : ByteArray).extract 1 (1 + l.length) = ⟨l.toArray⟩ := by
    rw [sub_ext]
    congr 2
    simp [sub]
  have h := jread_is w ⟨([34] ++ l ++ [34]).toArray⟩ l.length (by omega) hz.symm (at_one [] (l ++ [34]) 0 34 (by simp) rfl) (fun i hi => ?_) (at_one ([34] ++ l) [] (1 + l.length) 34 (by simp) (by simp; omega))
  · rw [hx] at h
    exact h
  · have hb := at_one (l := [34] ++ l ++ [34]) ([34] ++ l.take i) (l.drop (i + 1) ++ [34]) (1 + i) (l[i]'hi) (by
      rw [← List.cons_append, ← List.drop_eq_getElem_cons hi, List.append_assoc, List.append_assoc, ← List.append_assoc (l.take i), List.take_append_drop]) (by simp; omega)
    rw [hb]
    have := hok (l[i]'hi) (List.getElem_mem hi)
    unfold okC at this
    omega
set_option maxHeartbeats 8000000 in
theorem tb_true (w : World) (z : Bool) (n o : Int) (zn : ByteArray) (h0 : -9223372036854775808 ≤ n) (h1 : n ≤ 9223372036854775807) (htab : Tab10 w.heap.size w) :
    Calls Tryz.prog 3 #[.agg #[.bool z, .int .i64 n, .int .i64 o, .string zn]] w (fun e w' => e = .returned (.bool true) ∧ Below w.heap.size w w') := by
  have HAW := Lib.hid (fun W (h : Below w.heap.size w W) => awake_any W (tabUp htab h h.size))
  have HN := Lib.hid (And.intro h0 h1)
  clear htab h0 h1
  go_enter Tryz.func3, Tryz.ntmps3
  go_wp2_with fail
  refine (fits10_any _ z n o zn).mono ?_
  rintro e w1 ⟨bo, rfl, hb1⟩
  have M1 := (Blk.new w 23 #[.bool z, .int .i64 n, .int .i64 o, .string zn]).here hb1
  have B1 : Below w.heap.size w w1 := Below.trans (by go_grown) (hb1.mono (by simp))
  have c0 := M1.cell 0
  have c1 := M1.cell 1
  have c2 := M1.cell 2
  have c3 := M1.cell 3
  simp only [List.getElem?_toArray, List.getElem?_cons_zero, List.getElem?_cons_succ] at c0 c1 c2 c3
  have lt1 := M1.lt
  have HM := Lib.hid (And.intro M1 B1)
  clear M1 B1 hb1
  cases bo
  case false =>
    go_wp2_with fail
    go_ret
    exact ⟨rfl, HM.out.2⟩
  go_wp2_with fail
  refine (years_any _ z n o zn).mono ?_
  rintro e w2 ⟨yo, rfl, hb2, hy⟩
  have M2 := HM.out.1.here hb2
  have B2 := HM.out.2.trans (hb2.mono HM.out.2.size)
  clear c0 c1 c2 c3 lt1 HM hb2
  have c0 := M2.cell 0
  have c1 := M2.cell 1
  have c2 := M2.cell 2
  have c3 := M2.cell 3
  simp only [List.getElem?_toArray, List.getElem?_cons_zero, List.getElem?_cons_succ] at c0 c1 c2 c3
  have lt2 := M2.lt
  have HM := Lib.hid (And.intro M2 B2)
  clear M2 B2
  cases yo
  case false =>
    clear hy
    go_wp2_with (go_at_call 15; go_must (refine (HAW.out _ HM.out.2).mono ?_; rintro e w3 ⟨rfl, hb3⟩))
    go_ret
    exact ⟨rfl, HM.out.2.trans (hb3.mono HM.out.2.size)⟩
  obtain ⟨rfl, o0, o1, o2⟩ := hy rfl
  clear hy
  go_wp2_with fail
  refine (timeText w2 n o zn HN.out.1 HN.out.2 o0 o1 o2).mono ?_
  rintro e w3 ⟨f, rfl, hF, hb3⟩
  have M3 := HM.out.1.here hb3
  have B3 := HM.out.2.trans (hb3.mono HM.out.2.size)
  have hfl := frac_len hF
  have hzl := zoneL_len o
  have HF := Lib.hid hF
  have hll : (headL n o ++ f ++ zoneL o).length ≤ 900 := by
    have : (headL n o).length = 19 := by simp [headL, dig_length]
    simp only [List.length_append]
    omega
  have HJ := Lib.hid (fun W => jread_list W (headL n o ++ f ++ zoneL o) hll (ok_text hF))
  clear c0 c1 c2 c3 lt2 HM hb3 hF hll
  have HI := Lib.hid (fun W => inst_of W n o f HN.out.1 HN.out.2 o0 o1 o2 HF.out)
  generalize headL n o ++ f ++ zoneL o = l at *
  have HM := Lib.hid (And.intro M3 B3)
  clear M3 B3
  go_wp2_with fail
  have hj := HJ.out w3
  simp only [List.cons_append, List.nil_append] at hj
  refine hj.mono ?_
  rintro e w4 ⟨rfl, hb4⟩
  clear hj HJ
  obtain ⟨M3, B3⟩ := HM.out
  have M4 := M3.here hb4
  have B4 := B3.trans (hb4.mono B3.size)
  clear HM M3 B3 hb4
  go_wp2_with fail
  obtain ⟨W5, hW5⟩ : ∃ W5, W5 = (w4.alloc (.cells #[.int .i64 4, .string ⟨l.toArray⟩, .slice none 0 0, .slice none 0 0] 29)) := ⟨_, rfl⟩
  have M5 : Blk W5 w.heap.size 23 #[.bool false, .int .i64 n, .int .i64 o, .string zn] := by rw [hW5]; exact M4.alloc _
  have B5 : Below w.heap.size w W5 := by rw [hW5]; exact B4.alloc B4.size _
  rw [← hW5]
  clear hW5 M4 B4
  refine (HI.out W5).mono ?_
  rintro e w6 ⟨rfl, hb6⟩
  have M6 := M5.here hb6
  have B6 := B5.trans (hb6.mono B5.size)
  clear M5 B5 hb6
  have c1 := M6.cell 1
  have c2 := M6.cell 2
  simp only [List.getElem?_toArray, List.getElem?_cons_zero, List.getElem?_cons_succ] at c1 c2
  clear M6
  go_wp2_with fail
  go_ret
  exact ⟨rfl, B6⟩
end Go.Proofs.YtieidjlmgalihaaGreatDoor
