/- A moment's text, as the encoder has it. -/
import Derived.Test.YtieidjlmgalihaaGreatDoorTbH
set_option linter.all false
namespace Go.Proofs.YtieidjlmgalihaaGreatDoor
open Go.RowKit
set_option maxRecDepth 100000
/-- AppendFormat by RFC 3339, with parts of a second. -/
theorem format_is (w : World) (B : Nat) (V : Value) (l : List UInt8) (n o : Int) (z : ByteArray) (hown : Bs w B V l) (hB : B ≤ w.heap.size) (hl : l.length ≤ 100) (h0 : -9223372036854775808 ≤ n) (h1 : n ≤ 9223372036854775807) (h2 : -86400 < o) (h3 : o < 86400) (h4 : o % 60 = 0) :
    Calls Tryz.prog 196 #[momV n o z, V, .string ⟨#[50, 48, 48, 54, 45, 48, 49, 45, 48, 50, 84, 49, 53, 58, 48, 52, 58, 48, 53, 46, 57, 57, 57, 57, 57, 57, 57, 57, 57, 90, 48, 55, 58, 48, 48]⟩] w (fun e w' => ∃ V1 f, e = .returned V1 ∧ Frac (n % 1000000000).toNat f ∧ AppV B V l (headL n o ++ f ++ zoneL o) w V1 w') := by
  have HR := Lib.hid (fun W (hW : Bs W B V l) (hWB : B ≤ W.heap.size) => rfc_is W B V l n o z hW hWB hl h0 h1 h2 h3 h4)
  have HO := Lib.hid hown
  clear hown
  go_enter Tryz.func196, Tryz.ntmps196
  go_wp2_with (go_at_call 203; go_must (refine (HR.out _ (HO.out.alloc _) (by simp; omega)).mono ?_; rintro e w1 ⟨V1, f, rfl, hF, hV⟩; have HV := Lib.hid hV; have HF := Lib.hid hF; clear hV hF))
  go_ret
  exact ⟨V1, f, rfl, HF.out, HV.out.base⟩
/-- A buffer that was empty at w0 holds these bytes. -/
def BufSt (w0 : World) (B b : Nat) (l : List UInt8) (w : World) : Prop := ∃ V, Blk w b 288 #[V] ∧ Bs w B V l ∧ Only (fun k => k = b) w0 w ∧ ∀ k, V.ownBlock = some k → w0.heap.size ≤ k
/-- Behind a step that turned the buffer and its row alone. -/
theorem BufSt.step {w0 w w2 w3 : World} {B b : Nat} {l x : List UInt8} {V V1 : Value} (h1 : Only (fun k => k = b) w0 w) (h2 : ∀ k, V.ownBlock = some k → w0.heap.size ≤ k) (hb : b < w.heap.size) (hA : AppV B V l x w V1 w2) (hne : V1.ownBlock ≠ some b) (hO : Only (fun k => k = b) w2 w3) (hb3 : Blk w3 b 288 #[V1]) : BufSt w0 B b (l ++ x) w3 := by
  obtain ⟨A, c, e1, b1, o1, r1⟩ := hA
  refine ⟨V1, hb3, own_only b1 hO (fun g hg h => hne (by rw [hg, h])), ?_, ?_⟩
  · refine (h1.then o1 ?_).then hO (fun _ _ h => h)
    intro i hi he
    have := h2 i he
    omega
  · intro k hk
    rcases r1 with r1 | ⟨g, hg, h⟩
    · exact h2 k (by rw [← r1]; exact hk)
    · rw [hg] at hk
      injection hk with hk
      subst hk
      exact Nat.le_trans h1.size h
set_option maxHeartbeats 2000000 in
/-- AppendByte. -/
theorem byte_is (w0 w : World) (B b : Nat) (l : List UInt8) (c : UInt8) (v : Int) (hv : v = (c.toNat : Int)) (h : BufSt w0 B b l w) (hB : B ≤ w0.heap.size) (hl : l.length ≤ 100000) : Calls Tryz.prog 190 #[.pointer (some ⟨b, 0, none⟩), .int .u8 v] w (fun e w' => e = .returned (.tuple #[]) ∧ BufSt w0 B b (l ++ [c]) w') := by
  subst hv
  obtain ⟨V, hb, hs, ho, hr⟩ := h
  obtain ⟨c1, f1, l1⟩ := hb.use
  have hne : V.ownBlock ≠ some b := own_ne hs hb (by decide)
  have hc := c1 0
  have hf := f1 0
  simp only [List.getElem?_toArray, List.getElem?_cons_zero] at hc
  have hsz := ho.size
  have HB := Lib.hid hb
  have HS := Lib.hid hs
  have HO := Lib.hid ho
  have HR := Lib.hid hr
  clear hb hs ho hr c1 f1
  go_enter Tryz.func190, Tryz.ntmps190
  go_wp2_with (at_builtin; go_must (refine wpList_appendV (AppV.refl HS.out) [c] info5b Tryz.underlying36 rfl _ _ rfl rfl _ rfl _ rfl rfl (by simp) (by simp; omega) (by omega) ?_; intro V1 w1 hV; have hV0 := hV; obtain ⟨A1, cc1, rfl, _, _, _⟩ := hV0; rw [show (l ++ (([] : List UInt8) ++ [c])).length = l.length + 1 by simp] at hV ⊢; have hbx := hV.box HB.out hne; obtain ⟨c2, f2, l2⟩ := hbx.use; have hc2 := c2 0; have hf2 := f2 0; simp only [List.getElem?_toArray, List.getElem?_cons_zero] at hc2; have HX := Lib.hid hbx; have HV := Lib.hid hV; clear hV hbx c2 f2))
  go_returns
  refine ⟨rfl, ?_⟩
  have hV := HV.out
  rw [List.nil_append] at hV
  exact BufSt.step HO.out HR.out l1 hV (own_ne hV.bs HX.out (by decide)) (Only.setCell (S := fun k => k = b) (Only.refl _ _) (p := ⟨b, 0, none⟩) (.inl rfl) _) (HX.out.set_ 0 _)
set_option maxHeartbeats 4000000 in
/-- AppendTime of a buffer. -/
theorem bufTime_is (w0 w : World) (B b : Nat) (l : List UInt8) (n o : Int) (z : ByteArray) (h : BufSt w0 B b l w) (hB : B ≤ w0.heap.size) (hl : l.length ≤ 50) (h0 : -9223372036854775808 ≤ n) (h1 : n ≤ 9223372036854775807) (h2 : -86400 < o) (h3 : o < 86400) (h4 : o % 60 = 0) :
    Calls Tryz.prog 303 #[.pointer (some ⟨b, 0, none⟩), momV n o z, .string ⟨#[50, 48, 48, 54, 45, 48, 49, 45, 48, 50, 84, 49, 53, 58, 48, 52, 58, 48, 53, 46, 57, 57, 57, 57, 57, 57, 57, 57, 57, 90, 48, 55, 58, 48, 48]⟩] w (fun e w' => ∃ f, e = .returned (.tuple #[]) ∧ Frac (n % 1000000000).toNat f ∧ BufSt w0 B b (l ++ (headL n o ++ f ++ zoneL o)) w') := by
  obtain ⟨V, hb, hs, ho, hr⟩ := h
  have hne : V.ownBlock ≠ some b := own_ne hs hb (by decide)
  obtain ⟨A, c, rfl⟩ := bs_slice hs
  have hsz := ho.size
  have hlt := hb.lt
  have HB := Lib.hid hb
  have HS := Lib.hid hs
  have HO := Lib.hid ho
  have HR := Lib.hid hr
  have HF := Lib.hid (fun W (hW : Bs W B (.slice A l.length c) l) (hWB : B ≤ W.heap.size) => format_is W B _ l n o z hW hWB (by omega) h0 h1 h2 h3 h4)
  have hc := hb.cell 0
  simp only [List.getElem?_toArray, List.getElem?_cons_zero] at hc
  have hf := hb.frozen 0
  clear hb hs ho hr h0 h1 h2 h3 h4
  go_enter Tryz.func303, Tryz.ntmps303
  go_wp2_with fail
  refine wp_region_noPanic ?_
  refine wp_region_held_drew (S := fun W => Blk W w.heap.size 117 #[.int .i64 (n / 1000000000 + 62135596800), .int .i32 (n % 1000000000), .string z, .int .i64 o]) (by kernel_rfl) (Blk.new w 117 _).drew (fun hHeld => ?_)
  refine wpAnyH_take (i := 0) (oi := ⟨some 6, .move (.tmp 0), _, _, _, _⟩) (v := ?vt1) rfl (by kernel_rfl) (by kernel_rfl) (by kernel_rfl) (fun _ _ _ h => h) (Or.inl ⟨by rfl, ?yt1⟩) (by assumption) ?rt1
  case yt1 => (intro W hSw; have p0 := hSw.cell 0; have p1 := hSw.cell 1; have p2 := hSw.cell 2; have p3 := hSw.cell 3; simp only [List.getElem?_toArray, List.getElem?_cons_zero, List.getElem?_cons_succ] at p0 p1 p2 p3; clear hSw; go_simp; first | done | with_reducible rfl)
  try simp only [Act.put, List.setIfInBounds_toArray, List.set_cons_zero, List.set_cons_succ]
  refine wpAnyH_take (i := 1) (oi := ⟨some 7, .load 117 (.tmp 4), _, _, _, _⟩) (v := ?vt2) rfl (by kernel_rfl) (by kernel_rfl) (by kernel_rfl) (fun _ _ _ h => h) (Or.inl ⟨by rfl, ?yt2⟩) (by assumption) ?rt2
  case yt2 => (intro W hSw; have p0 := hSw.cell 0; have p1 := hSw.cell 1; have p2 := hSw.cell 2; have p3 := hSw.cell 3; simp only [List.getElem?_toArray, List.getElem?_cons_zero, List.getElem?_cons_succ] at p0 p1 p2 p3; clear hSw; go_simp; first | done | with_reducible rfl)
  try simp only [Act.put, List.setIfInBounds_toArray, List.set_cons_zero, List.set_cons_succ]
  refine wpAnyH_take (i := 2) (oi := ⟨some 8, .move (.tmp 0), _, _, _, _⟩) (v := ?vt3) rfl (by kernel_rfl) (by kernel_rfl) (by kernel_rfl) (fun _ _ _ h => h) (Or.inl ⟨by rfl, ?yt3⟩) (by assumption) ?rt3
  case yt3 => (intro W hSw; have p0 := hSw.cell 0; have p1 := hSw.cell 1; have p2 := hSw.cell 2; have p3 := hSw.cell 3; simp only [List.getElem?_toArray, List.getElem?_cons_zero, List.getElem?_cons_succ] at p0 p1 p2 p3; clear hSw; go_simp; first | done | with_reducible rfl)
  try simp only [Act.put, List.setIfInBounds_toArray, List.set_cons_zero, List.set_cons_succ]
  refine wpAnyH_take (i := 3) (oi := ⟨some 9, .nilCheck (.tmp 8), _, _, _, _⟩) (v := ?vt4) rfl (by kernel_rfl) (by kernel_rfl) (by kernel_rfl) (fun _ _ _ h => h) (Or.inl ⟨by rfl, ?yt4⟩) (by assumption) ?rt4
  case yt4 => (intro W hSw; have p0 := hSw.cell 0; have p1 := hSw.cell 1; have p2 := hSw.cell 2; have p3 := hSw.cell 3; simp only [List.getElem?_toArray, List.getElem?_cons_zero, List.getElem?_cons_succ] at p0 p1 p2 p3; clear hSw; go_simp; first | done | with_reducible rfl)
  try simp only [Act.put, List.setIfInBounds_toArray, List.set_cons_zero, List.set_cons_succ]
  refine wpAnyH_take (i := 4) (oi := ⟨some 10, .fieldAddr 288 (.tmp 9) 0, _, _, _, _⟩) (v := ?vt5) rfl (by kernel_rfl) (by kernel_rfl) (by kernel_rfl) (fun _ _ _ h => h) (Or.inl ⟨by rfl, ?yt5⟩) (by assumption) ?rt5
  case yt5 => (intro W hSw; have p0 := hSw.cell 0; have p1 := hSw.cell 1; have p2 := hSw.cell 2; have p3 := hSw.cell 3; simp only [List.getElem?_toArray, List.getElem?_cons_zero, List.getElem?_cons_succ] at p0 p1 p2 p3; clear hSw; go_simp; first | done | with_reducible rfl)
  try simp only [Act.put, List.setIfInBounds_toArray, List.set_cons_zero, List.set_cons_succ]
  refine wpAnyH_take (i := 6) (oi := ⟨some 12, .move (.tmp 2), _, _, _, _⟩) (v := ?vt6) rfl (by kernel_rfl) (by kernel_rfl) (by kernel_rfl) (fun _ _ _ h => h) (Or.inl ⟨by rfl, ?yt6⟩) (by assumption) ?rt6
  case yt6 => (intro W hSw; have p0 := hSw.cell 0; have p1 := hSw.cell 1; have p2 := hSw.cell 2; have p3 := hSw.cell 3; simp only [List.getElem?_toArray, List.getElem?_cons_zero, List.getElem?_cons_succ] at p0 p1 p2 p3; clear hSw; go_simp; first | done | with_reducible rfl)
  try simp only [Act.put, List.setIfInBounds_toArray, List.set_cons_zero, List.set_cons_succ]
  refine wpAnyH_ready (rs := [5]) (by kernel_rfl) (by simp) ?_
  refine AllReadyH.cons (o := ⟨some 11, .load 36 (.tmp 10), _, _, _, _⟩) rfl (fun Kx hKx => ?_) AllReadyH.nil
  go_simp
  refine hKx.out _ _ (by (try dsimp only); (first | exact hHeld | exact hKeep | exact hHeld.far (by simp; omega) _)) (fun hNew => ?_)
  clear hKx Kx hHeld
  have hHeld := hNew
  clear hNew
  try simp only [Act.put, List.setIfInBounds_toArray, List.set_cons_zero, List.set_cons_succ]
  refine wpAnyH_ready (rs := [7]) (by kernel_rfl) (by simp) ?_
  refine AllReadyH.cons (o := ⟨some 13, .call { callee := .value (.func 196), args := #[.tmp 7, .tmp 11, .tmp 12], argTypes := #[117, 36, 9] }, _, _, _, _⟩) rfl (fun Kx hKx => ?_) AllReadyH.nil
  (go_simp; go_at_call 196; refine (HF.out ((w.alloc (.cells #[.int .i64 (n / 1000000000 + 62135596800), .int .i32 (n % 1000000000), .string z, .int .i64 o] 117)).drew) (HS.out.alloc _) (by simp; omega)).mono ?_; rintro e w1 ⟨V1, f, rfl, hF, hV⟩; have hKeep := hV.box hHeld (fun hh => by have := (HS.out.lt _ hh).2; omega); have hbx := hV.box ((HB.out.alloc _).drew) hne; obtain ⟨A1, cc1, hv1, _, _, _⟩ := id hV; obtain ⟨c2, f2, l2⟩ := hbx.use; have hc2 := c2 0; have hf2 := f2 0; simp only [List.getElem?_toArray, List.getElem?_cons_zero] at hc2; generalize (l ++ (headL n o ++ f ++ zoneL o)).length = N at hv1; subst hv1; have HX := Lib.hid hbx; have HV := Lib.hid hV; have HFF := Lib.hid hF; clear hV hbx c2 f2 hF)
  refine hKx.out _ _ (by (try dsimp only); (first | exact hHeld | exact hKeep | exact hHeld.far (by simp; omega) _)) (fun hNew => ?_)
  clear hKx Kx hHeld
  have hHeld := hNew
  clear hNew
  try simp only [Act.put, List.setIfInBounds_toArray, List.set_cons_zero, List.set_cons_succ]
  refine wpAnyH_take (i := 8) (oi := ⟨some 14, .nilCheck (.tmp 6), _, _, _, _⟩) (v := ?vt7) rfl (by kernel_rfl) (by kernel_rfl) (by kernel_rfl) (fun _ _ _ h => h) (Or.inl ⟨by rfl, ?yt7⟩) (by assumption) ?rt7
  case yt7 => (intro W hSw; have p0 := hSw.cell 0; have p1 := hSw.cell 1; have p2 := hSw.cell 2; have p3 := hSw.cell 3; simp only [List.getElem?_toArray, List.getElem?_cons_zero, List.getElem?_cons_succ] at p0 p1 p2 p3; clear hSw; go_simp; first | done | with_reducible rfl)
  try simp only [Act.put, List.setIfInBounds_toArray, List.set_cons_zero, List.set_cons_succ]
  refine wpAnyH_take (i := 9) (oi := ⟨some 15, .fieldAddr 288 (.tmp 14) 0, _, _, _, _⟩) (v := ?vt8) rfl (by kernel_rfl) (by kernel_rfl) (by kernel_rfl) (fun _ _ _ h => h) (Or.inl ⟨by rfl, ?yt8⟩) (by assumption) ?rt8
  case yt8 => (intro W hSw; have p0 := hSw.cell 0; have p1 := hSw.cell 1; have p2 := hSw.cell 2; have p3 := hSw.cell 3; simp only [List.getElem?_toArray, List.getElem?_cons_zero, List.getElem?_cons_succ] at p0 p1 p2 p3; clear hSw; go_simp; first | done | with_reducible rfl)
  try simp only [Act.put, List.setIfInBounds_toArray, List.set_cons_zero, List.set_cons_succ]
  refine wpAnyH_ready (rs := [10]) (by kernel_rfl) (by simp) ?_
  refine AllReadyH.cons (o := ⟨none, .store 36 (.tmp 15) (.tmp 13), _, _, _, _⟩) rfl (fun Kx hKx => ?_) AllReadyH.nil
  go_simp
  refine hKx.out _ _ (by (try dsimp only); (first | exact hHeld | exact hKeep | exact hHeld.far (by simp; omega) _)) (fun hNew => ?_)
  clear hKx Kx hHeld
  have hHeld := hNew
  clear hNew
  try simp only [Act.put, List.setIfInBounds_toArray, List.set_cons_zero, List.set_cons_succ]
  refine wpAnyH_done (by kernel_rfl) ?_ _
  refine NoPanic.normal ?_
  (go_wp2_with fail; go_returns; exact ⟨f, rfl, HFF.out, BufSt.step ((HO.out.alloc _).drew) HR.out (by simp; omega) HV.out (own_ne HV.out.bs HX.out (by decide)) (Only.setCell (S := fun k => k = b) (Only.refl _ _) (p := ⟨b, 0, none⟩) (.inl rfl) _) (HX.out.set_ 0 _)⟩)
end Go.Proofs.YtieidjlmgalihaaGreatDoor
