/- The reader of JSON: a text of plain bytes. -/
import Derived.Test.YtieidjlmgalihaaGreatDoorTbU
set_option linter.all false
namespace Go.Proofs.YtieidjlmgalihaaGreatDoor
open Go.RowKit Go.PlainAid
set_option maxRecDepth 100000
theorem bs_rd {w : World} {B : Nat} {A : Option Addr} {c : Nat} {l : List UInt8} (h : Bs w B (.slice A l.length c) l) : ReadsB w A l := by
  intro j hj
  rcases h.2 with ⟨h1, h2⟩ | ⟨g, cap, cur, h1, h2⟩
  · omega
  · injection h1 with h1 h3 h4
    subst h1
    refine ⟨g, 0, rfl, ?_⟩
    have hc := h.cells (g := g) rfl j (.int .u8 (l[j].toNat : Int)) (by simp [List.getElem?_map, List.getElem?_eq_getElem hj])
    have hadd : (⟨g, 0, none⟩ : Addr).add j = ⟨g, 0 + j, none⟩ := by unfold Addr.add; split <;> simp_all
    rw [hadd] at hc
    exact hc
theorem bt_tail {s : ByteArray} {z : Nat} (h : z < s.size) : bt (s.extract z s.size) 0 = bt s z := by
  obtain ⟨c, hc, he⟩ := sub_one h
  obtain ⟨m, hm⟩ : ∃ m, s.size = z + (1 + m) := ⟨s.size - z - 1, by omega⟩
  have e := sub_ext s z (1 + m)
  rw [← hm, sub_add, hc] at e
  rw [e, ← he]
  exact bt_list _ 0 c rfl
set_option maxHeartbeats 8000000 in
theorem text_is (w : World) (b : Nat) (s : ByteArray) (p n : Nat) (d : Int) (hs : s.size ≤ 1000) (hp : p + n < s.size) (hJ : Blk w b 95 (jArr s (p : Int) d)) (hL : ∀ i, i < n → 32 ≤ bt s (p + i) ∧ bt s (p + i) < 128 ∧ bt s (p + i) ≠ 34 ∧ bt s (p + i) ≠ 92) (hq : bt s (p + n) = 34) :
    Calls Tryz.prog 94 #[.pointer (some ⟨b, 0, none⟩)] w fun e w' => e = .returned (.tuple #[.string (s.extract p (p + n)), .bool true]) ∧ Only (fun k => k = b) w w' ∧ Blk w' b 95 (jArr s ((p + n + 1 : Nat) : Int) d) := by
  have hlt := hJ.lt
  have hb' := get_bt s
  have HL := Lib.hid hL
  clear hL
  go_enter Tryz.func94, Tryz.ntmps94
  go_wp2_with fail
  go_loopw [4] (fun V wr => ∃ i : Nat, i ≤ n ∧ Bs wr w.heap.size V (sub s p i) ∧ Only (fun k => k = b) w wr ∧ Blk wr b 95 (jArr s ((p + i : Nat) : Int) d)) (fun V _ => n - slen V)
  case atStart => exact ⟨0, by omega, ⟨by simp [sub], .inl ⟨rfl, rfl⟩⟩, Only.refl _ _, hJ⟩
  case round =>
    obtain ⟨i, hi, hV, hO, hK⟩ := hrel
    clear hJ
    obtain ⟨A, c, rfl⟩ := bs_slice hV
    have hsl := sub_len (s := s) (p := p) (n := i) (by omega)
    have k0 := hK.cell 0
    have k1 := hK.cell 1
    have f1 := hK.frozen 1
    simp only [List.getElem?_toArray, List.getElem?_cons_zero, List.getElem?_cons_succ] at k0 k1
    have HK := Lib.hid hK
    have HV := Lib.hid hV
    have HO := Lib.hid hO
    have hbl := hK.lt
    clear hK hV hO
    generalize hz : p + i = z at *
    have hzlt : z < s.size := by omega
    have g0 : decide ((z : Int) < (s.size : Int)) = true := by simp; exact hzlt
    have l0 : (z : Int) < (s.size : Int) := by omega
    go_wp2_with fail
    go_quiet (fail)
    go_wp2_with fail
    go_quiet (fail)
    by_cases hin : i = n
    · have e34 : bt s z = 34 := by rw [← hz, hin]; exact hq
      subst hin
      have hO2 : ∀ q : Nat, Only (fun k => k = b) wr ((wr.drewN q).setCell ⟨b, 1, none⟩ (.int .i64 ((z : Int) + 1))) := fun q => (Only.none_of_below (S := fun k => k = b) (below_drewN (Below.refl wr.heap.size wr) q)).setCell (p := ⟨b, 1, none⟩) (.inl rfl) _
      have hcv : ∀ q : Nat, (convert 36 9 (.slice A (sub s p i).length c)).run Tryz.prog ((wr.drewN q).setCell ⟨b, 1, none⟩ (.int .i64 ((z : Int) + 1))) = .ok (.string ⟨(sub s p i).toArray⟩) ((wr.drewN q).setCell ⟨b, 1, none⟩ (.int .i64 ((z : Int) + 1))) := fun q => conv_read (bs_rd (own_only HV.out (hO2 q) (fun g hg e => own_ne HV.out HK.out (by decide) (by rw [hg, e])))) c
      rw [hsl] at hcv
      have HO2 := Lib.hid hO2
      clear hO2
      go_wp2_with fail
      refine bodyPost_ret (v := .tuple #[.string ⟨(sub s p i).toArray⟩, .bool true]) (by simp [results, Tryz.results94, go_sem]) rfl ⟨?_, HO.out.trans (HO2.out _), ?_⟩
      · rw [sub_ext]
      · rw [show ((p + i + 1 : Nat) : Int) = (z : Int) + 1 by omega]
        exact (HK.out.drewN _).set_ 1 (.int .i64 ((z : Int) + 1))
    · obtain ⟨b0, b1, b2, b3⟩ := HL.out i (by omega)
      rw [hz] at b0 b1 b2 b3
      have hdec : ∀ W : World, Calls Tryz.prog 138 #[.string (s.extract z s.size)] W (fun e w' => e = .returned (.tuple #[.int .i32 (bt s z), .int .i64 1]) ∧ w' = W) := by
        intro W
        have := dec_ascii W (s.extract z s.size) (by rw [ByteArray.size_extract]; omega) (by rw [bt_tail hzlt]; exact b1)
        rw [bt_tail hzlt] at this
        exact this.mono (fun e w' h => ⟨h.1, h.2.symm⟩)
      have HD := Lib.hid hdec
      clear hdec
      have e5 : (bt s z == 65533) = false := by simp; omega
      have l1 : (z : Int) + 1 ≤ (s.size : Int) := by omega
      have l2 : (z : Int) ≤ (s.size : Int) := by omega
      have l3 : z ≤ s.size := by omega
      go_wp2_with fail
      go_quiet ((go_at_call 138; exact (HD.out _).mono (fun e w'' h => ⟨h.1, _, h.2⟩)))
      go_wp2_with fail
      go_wp2_with fail
      have s1 : IntKind.i64.wrap ((z : Int) + 1) = (z : Int) + 1 := by rw [IntKind.wrap_i64]; omega
      have s2 : (0 : Int) ≤ (z : Int) + 1 := by omega
      have s3 : (z : Int) ≤ (z : Int) + 1 := by omega
      go_region_held_law (fun w' => w'.cell? ⟨b, 0, none⟩ = some (.string s) ∧ w'.cell? ⟨b, 1, none⟩ = some (.int .i64 (z : Int))) (first | go_keep | exact ⟨d0, d1⟩) ((refine step_append_str _ rfl (.tmp 48) (.tmp 63) rfl w.heap.size (.slice A i c) (sub s p i) rfl (by have := HV.out; rw [hsl] at this; exact this) _ rfl (by rw [hsl, ByteArray.size_extract]; omega) (by have := HO.out.size; simp; omega) ?_; intro V' w1 hV1 hg1; have hK1 : Blk w1 b 95 (jArr s (z : Int) d) := Blk.grown (by exact HK.out) hg1 (fun e => own_ne HV.out HK.out (by decide) (by rw [hsl]; exact e.symm)); have d0 := hK1.cell 0; have d1 := hK1.cell 1; have d2 := hK1.frozen 1; simp only [List.getElem?_toArray, List.getElem?_cons_zero, List.getElem?_cons_succ] at d0 d1))
      have ho1 : Only (fun k => k = b) w w1 := (Only.grown (S := fun k => k = b) (a := w) (by exact ⟨HO.out.os, HO.out.tape, HO.out.output, HO.out.size, HO.out.block⟩) hg1 (fun k hk => by
        rcases HV.out.2 with ⟨h1, h2⟩ | ⟨g, cap, cur, h1, h2, _⟩
        · rw [hsl] at h1; rw [h1] at hk; cases hk
        · rw [hsl] at h1; rw [h1] at hk; cases hk; exact .inr h2))
      have hE : sub s p i ++ (s.extract z (z + 1)).data.toList = sub s p (i + 1) := by
        rw [sub_ext, sub_add, hz]
      have hV2 : Bs w1 w.heap.size V' (sub s p (i + 1)) := by rw [← hE]; exact hV1
      have hO2 : Only (fun k => k = b) w1 (w1.setCell ⟨b, 1, none⟩ (.int .i64 ((z : Int) + 1))) := (Only.refl (fun k => k = b) w1).setCell (p := ⟨b, 1, none⟩) (.inl rfl) _
      have hV3 := own_only hV2 hO2 (fun g hg e => own_ne hV2 hK1 (by decide) (by rw [hg, e]))
      have hn1 : n - slen V' < n - slen (Value.slice A (sub s p i).length c) := by
        obtain ⟨A', c', rfl⟩ := bs_slice hV2
        have := sub_len (s := s) (p := p) (n := i + 1) (by omega)
        simp only [slen]
        omega
      have H3 := Lib.hid (And.intro hV3 (And.intro (ho1.trans hO2) (And.intro (hK1.set_ 1 (.int .i64 ((z : Int) + 1))) hn1)))
      clear hV2 hV3 hO2 ho1 hn1 hE
      go_wp2_with fail
      go_wp2_with fail
      all_goals go_roundw
      case rel =>
        refine ⟨i + 1, by omega, H3.out.1, H3.out.2.1, ?_⟩
        rw [show ((p + (i + 1) : Nat) : Int) = (z : Int) + 1 by omega]
        exact H3.out.2.2.1
      case measure => exact H3.out.2.2.2
end Go.Proofs.YtieidjlmgalihaaGreatDoor
