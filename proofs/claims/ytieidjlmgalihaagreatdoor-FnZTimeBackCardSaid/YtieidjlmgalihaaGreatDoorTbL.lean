/- AppendTime of the JSON encoder. -/
import Derived.Test.YtieidjlmgalihaaGreatDoorTbJ
set_option linter.all false
namespace Go.Proofs.YtieidjlmgalihaaGreatDoor
open Go.RowKit
set_option maxRecDepth 100000
theorem BufSt.only {w0 w : World} {B b : Nat} {l : List UInt8} (h : BufSt w0 B b l w) : Only (fun k => k = b) w0 w := by
  obtain ⟨V, _, _, ho, _⟩ := h
  exact ho
theorem BufSt.below {w0 w w' : World} {B b : Nat} {l : List UInt8} (h : BufSt w0 B b l w) (hb : Below w.heap.size w w') : BufSt w0 B b l w' := by
  obtain ⟨V, h1, h2, h3, h4⟩ := h
  exact ⟨V, h1.here hb, own_only h2 (Only.none_of_below (S := fun _ => False) hb) (fun _ _ h => h), h3.then (Only.none_of_below (S := fun _ => False) hb) (fun _ _ h => h.elim), h4⟩
theorem len_is (w0 w : World) (B b : Nat) (l : List UInt8) (h : BufSt w0 B b l w) : Calls Tryz.prog 300 #[.pointer (some ⟨b, 0, none⟩)] w (fun e w' => e = .returned (.int .i64 (l.length : Int)) ∧ w = w') := by
  obtain ⟨V, hb, hs, ho, hr⟩ := h
  obtain ⟨A, c, rfl⟩ := bs_slice hs
  have hc := hb.cell 0
  simp only [List.getElem?_toArray, List.getElem?_cons_zero] at hc
  clear hb hs ho hr
  go_enter Tryz.func300, Tryz.ntmps300
  go_wp2
  go_ret
  exact ⟨rfl, rfl⟩
theorem Frac.len {x : Nat} {f : List UInt8} (h : Frac x f) : f.length ≤ 10 := by
  rcases h with ⟨_, rfl⟩ | ⟨k, _, hk, _, _, _, rfl⟩
  · simp
  · simp [dig_length]
    omega
theorem zoneL_le (o : Int) : (zoneL o).length ≤ 10 := by
  unfold zoneL
  split
  · simp
  · split <;> simp [dig_length]
theorem headL_len (n o : Int) : (headL n o).length = 19 := by simp [headL, dig_length]
/-- An encoder: where its configuration and its buffer are. -/
abbrev encArr (c b : Nat) : Array Value := #[.pointer (some ⟨c, 0, none⟩), .pointer (some ⟨b, 0, none⟩), .bool false, .int .i64 0]
theorem sep_empty (w0 w : World) (B b c e : Nat) (he : Blk w e 213 (encArr c b)) (h : BufSt w0 B b [] w) : Calls Tryz.prog 299 #[.pointer (some ⟨e, 0, none⟩)] w (fun e w' => e = .returned (.tuple #[]) ∧ w = w') := by
  have hc := he.cell 1
  simp only [List.getElem?_toArray, List.getElem?_cons_zero, List.getElem?_cons_succ] at hc
  have HL := Lib.hid (len_is w0 w B b [] h)
  clear he h
  go_enter Tryz.func299, Tryz.ntmps299
  go_wp2_with (go_at_call 300; go_must (refine HL.out.mono ?_; rintro e w1 ⟨rfl, rfl⟩))
  go_returns
  exact ⟨rfl, rfl⟩
theorem BufSt.fresh {w : World} {B b : Nat} (h : Blk w b 288 #[.slice none 0 0]) : BufSt w B b [] w := ⟨_, h, World.ownsRow_nil _ _ _ _, Only.refl _ _, fun k hk => by cases hk⟩
theorem BufSt.base {w w' : World} {B b : Nat} {l : List UInt8} {o : Obj} (h : BufSt (w.alloc o) B b l w') : BufSt w B b l w' := by
  obtain ⟨V, h1, h2, h3, h4⟩ := h
  exact ⟨V, h1, h2, ((Only.refl _ w).alloc o).trans h3, fun k hk => by have := h4 k hk; simp at this; omega⟩
set_option maxHeartbeats 4000000 in
/-- AppendTimeLayout. -/
theorem layout_is (w : World) (B b c e : Nat) (n o : Int) (z : ByteArray) (he : Blk w e 213 (encArr c b)) (hne : ¬ (e = b)) (hb : Blk w b 288 #[.slice none 0 0]) (hB : B ≤ w.heap.size) (h0 : -9223372036854775808 ≤ n) (h1 : n ≤ 9223372036854775807) (h2 : -86400 < o) (h3 : o < 86400) (h4 : o % 60 = 0) :
    Calls Tryz.prog 292 #[.pointer (some ⟨e, 0, none⟩), momV n o z, .string ⟨#[50, 48, 48, 54, 45, 48, 49, 45, 48, 50, 84, 49, 53, 58, 48, 52, 58, 48, 53, 46, 57, 57, 57, 57, 57, 57, 57, 57, 57, 90, 48, 55, 58, 48, 48]⟩] w (fun e w' => ∃ f, e = .returned (.tuple #[]) ∧ Frac (n % 1000000000).toNat f ∧ BufSt w B b ([34] ++ (headL n o ++ f ++ zoneL o) ++ [34]) w') := by
  have hbw : ¬ (w.heap.size = b) := by have := hb.lt; omega
  obtain ⟨wb, hwb⟩ : ∃ wb, wb = w.alloc (.cells #[.int .i64 (n / 1000000000 + 62135596800), .int .i32 (n % 1000000000), .string z, .int .i64 o] 117) := ⟨_, rfl⟩
  have hS0 : BufSt wb B b [] wb := BufSt.fresh (by rw [hwb]; exact hb.alloc _)
  have heb : Blk wb e 213 (encArr c b) := by rw [hwb]; exact he.alloc _
  have hbx : Blk wb w.heap.size 117 #[.int .i64 (n / 1000000000 + 62135596800), .int .i32 (n % 1000000000), .string z, .int .i64 o] := by rw [hwb]; exact Blk.new _ _ _
  have hBb : B ≤ wb.heap.size := by rw [hwb]; simp; omega
  have c1 := heb.cell 1
  simp only [List.getElem?_toArray, List.getElem?_cons_zero, List.getElem?_cons_succ] at c1
  have hfin : ∀ l w', BufSt wb B b l w' → BufSt w B b l w' := fun l w' h => by rw [hwb] at h; exact h.base
  have HFIN := Lib.hid hfin
  have HS0 := Lib.hid hS0
  have HEB := Lib.hid heb
  have HBX := Lib.hid hbx
  have BT := Lib.hid (fun W (hW : BufSt wb B b [34] W) => bufTime_is wb W B b [34] n o z hW hBb (by simp) h0 h1 h2 h3 h4)
  clear hfin hS0 he hb hbx
  go_enter Tryz.func292, Tryz.ntmps292
  go_wp2_with fail
  rw [← hwb]
  clear hwb
  go_wp2_with (first
    | (go_at_call 299; go_must (refine (sep_empty wb _ B b c e HEB.out HS0.out).mono ?_; rintro e1 w1 ⟨rfl, rfl⟩))
    | (go_at_call 190; go_must (refine (byte_is wb _ B b [] 34 34 rfl HS0.out hBb (by simp)).mono ?_; rintro e1 w1 ⟨rfl, hS⟩; have hE1 := HEB.out.only hS.only hne; have c2 := hE1.cell 1; simp only [List.getElem?_toArray, List.getElem?_cons_zero, List.getElem?_cons_succ] at c2; have hX1 := HBX.out.only hS.only hbw; have HX1 := Lib.hid hX1; have HS := Lib.hid hS; clear hS hE1 hX1)))
  refine wp_region_noPanic ?_
  refine wp_region_held_drew (S := fun W => W.cell? ⟨e, 1, none⟩ = some (.pointer (some ⟨b, 0, none⟩)) ∧ Blk W w.heap.size 117 #[.int .i64 (n / 1000000000 + 62135596800), .int .i32 (n % 1000000000), .string z, .int .i64 o]) (by kernel_rfl) ⟨c2, HX1.out⟩ (fun hHeld => ?_)
  refine wpAnyH_take (i := 0) (oi := ⟨some 13, .move (.tmp 0), _, _, _, _⟩) (v := ?vl1) rfl (by kernel_rfl) (by kernel_rfl) (by kernel_rfl) (fun _ _ _ h => h) (Or.inl ⟨by rfl, ?yl1⟩) (by assumption) ?rl1
  case yl1 => (intro W hSw; have g1 := hSw.1; have p0 := hSw.2.cell 0; have p1 := hSw.2.cell 1; have p2 := hSw.2.cell 2; have p3 := hSw.2.cell 3; simp only [List.getElem?_toArray, List.getElem?_cons_zero, List.getElem?_cons_succ] at p0 p1 p2 p3; clear hSw; go_simp; first | done | with_reducible rfl)
  try simp only [Act.put, List.setIfInBounds_toArray, List.set_cons_zero, List.set_cons_succ]
  refine wpAnyH_take (i := 1) (oi := ⟨some 14, .nilCheck (.tmp 13), _, _, _, _⟩) (v := ?vl2) rfl (by kernel_rfl) (by kernel_rfl) (by kernel_rfl) (fun _ _ _ h => h) (Or.inl ⟨by rfl, ?yl2⟩) (by assumption) ?rl2
  case yl2 => (intro W hSw; have g1 := hSw.1; have p0 := hSw.2.cell 0; have p1 := hSw.2.cell 1; have p2 := hSw.2.cell 2; have p3 := hSw.2.cell 3; simp only [List.getElem?_toArray, List.getElem?_cons_zero, List.getElem?_cons_succ] at p0 p1 p2 p3; clear hSw; go_simp; first | done | with_reducible rfl)
  try simp only [Act.put, List.setIfInBounds_toArray, List.set_cons_zero, List.set_cons_succ]
  refine wpAnyH_take (i := 2) (oi := ⟨some 15, .fieldAddr 213 (.tmp 14) 1, _, _, _, _⟩) (v := ?vl3) rfl (by kernel_rfl) (by kernel_rfl) (by kernel_rfl) (fun _ _ _ h => h) (Or.inl ⟨by rfl, ?yl3⟩) (by assumption) ?rl3
  case yl3 => (intro W hSw; have g1 := hSw.1; have p0 := hSw.2.cell 0; have p1 := hSw.2.cell 1; have p2 := hSw.2.cell 2; have p3 := hSw.2.cell 3; simp only [List.getElem?_toArray, List.getElem?_cons_zero, List.getElem?_cons_succ] at p0 p1 p2 p3; clear hSw; go_simp; first | done | with_reducible rfl)
  try simp only [Act.put, List.setIfInBounds_toArray, List.set_cons_zero, List.set_cons_succ]
  refine wpAnyH_take (i := 3) (oi := ⟨some 16, .load 211 (.tmp 15), _, _, _, _⟩) (v := ?vl4) rfl (by kernel_rfl) (by kernel_rfl) (by kernel_rfl) (fun _ _ _ h => h) (Or.inl ⟨by rfl, ?yl4⟩) (by assumption) ?rl4
  case yl4 => (intro W hSw; have g1 := hSw.1; have p0 := hSw.2.cell 0; have p1 := hSw.2.cell 1; have p2 := hSw.2.cell 2; have p3 := hSw.2.cell 3; simp only [List.getElem?_toArray, List.getElem?_cons_zero, List.getElem?_cons_succ] at p0 p1 p2 p3; clear hSw; go_simp; first | done | with_reducible rfl)
  try simp only [Act.put, List.setIfInBounds_toArray, List.set_cons_zero, List.set_cons_succ]
  refine wpAnyH_take (i := 4) (oi := ⟨some 17, .load 117 (.tmp 4), _, _, _, _⟩) (v := ?vl5) rfl (by kernel_rfl) (by kernel_rfl) (by kernel_rfl) (fun _ _ _ h => h) (Or.inl ⟨by rfl, ?yl5⟩) (by assumption) ?rl5
  case yl5 => (intro W hSw; have g1 := hSw.1; have p0 := hSw.2.cell 0; have p1 := hSw.2.cell 1; have p2 := hSw.2.cell 2; have p3 := hSw.2.cell 3; simp only [List.getElem?_toArray, List.getElem?_cons_zero, List.getElem?_cons_succ] at p0 p1 p2 p3; clear hSw; go_simp; first | done | with_reducible rfl)
  try simp only [Act.put, List.setIfInBounds_toArray, List.set_cons_zero, List.set_cons_succ]
  refine wpAnyH_take (i := 5) (oi := ⟨some 18, .move (.tmp 2), _, _, _, _⟩) (v := ?vl6) rfl (by kernel_rfl) (by kernel_rfl) (by kernel_rfl) (fun _ _ _ h => h) (Or.inl ⟨by rfl, ?yl6⟩) (by assumption) ?rl6
  case yl6 => (intro W hSw; have g1 := hSw.1; have p0 := hSw.2.cell 0; have p1 := hSw.2.cell 1; have p2 := hSw.2.cell 2; have p3 := hSw.2.cell 3; simp only [List.getElem?_toArray, List.getElem?_cons_zero, List.getElem?_cons_succ] at p0 p1 p2 p3; clear hSw; go_simp; first | done | with_reducible rfl)
  try simp only [Act.put, List.setIfInBounds_toArray, List.set_cons_zero, List.set_cons_succ]
  refine wpAnyH_ready (rs := [6]) (by kernel_rfl) (by simp) ?_
  refine AllReadyH.cons (o := ⟨some 19, .call { callee := .value (.func 303), args := #[.tmp 16, .tmp 17, .tmp 18], argTypes := #[211, 117, 9] }, _, _, _, _⟩) rfl (fun Kx hKx => ?_) AllReadyH.nil
  (go_simp; go_at_call 303; refine (BT.out w1.drew (HS.out.below (w' := w1.drew) ⟨rfl, rfl, rfl, Nat.le_refl _, fun _ _ => rfl⟩)).mono ?_; rintro e2 w3 ⟨f, rfl, hF, hS3⟩; have hE3 := HEB.out.only hS3.only hne; have c3 := hE3.cell 1; simp only [List.getElem?_toArray, List.getElem?_cons_zero, List.getElem?_cons_succ] at c3; have hX3 := HBX.out.only hS3.only hbw; have HF := Lib.hid hF; have HS3 := Lib.hid hS3; clear hF hS3 hE3)
  refine hKx.out _ _ (by (try dsimp only); (exact ⟨c3, hX3⟩)) (fun hNew => ?_)
  clear hKx Kx hHeld
  have hHeld := hNew
  clear hNew
  try simp only [Act.put, List.setIfInBounds_toArray, List.set_cons_zero, List.set_cons_succ]
  refine wpAnyH_done (by kernel_rfl) ?_ _
  refine NoPanic.normal ?_
  (clear hX3; go_wp2_with (go_at_call 190; go_must (refine (byte_is wb _ B b _ 34 34 rfl HS3.out hBb (by have h1 := HF.out.len; have h2 := zoneL_le o; have h3 := headL_len n o; simp only [List.length_append, List.length_cons, List.length_nil]; omega)).mono ?_; rintro e1 w4 ⟨rfl, hS4⟩; have HS4 := Lib.hid hS4; clear hS4)); go_returns; exact ⟨f, rfl, HF.out, HFIN.out _ _ HS4.out⟩)
end Go.Proofs.YtieidjlmgalihaaGreatDoor
