/- Fields as the package has them: fieldOf. -/
import Derived.Test.YtieidjlmgalihaaGreatDoorEqB
set_option linter.all false
namespace Go.Proofs.YtieidjlmgalihaaGreatDoor
open Go.RowKit
set_option maxRecDepth 100000
theorem sized_is (n r : Int) (h : sizedN n = r) (w : World) : Calls Tryz.prog 106 #[.int .i64 n] w fun e w' => e = .returned (.int .i64 r) ∧ w = w' := by rw [← h]; exact sized_any w n
set_option maxHeartbeats 4000000 in
theorem of_bool0 (w : World) (f : Fld) (hk : f.kind = 1) (hi : f.int = 0) : Calls Tryz.prog 60 #[.agg f.arr] w (FieldIs w f.key 4 0 ⟨#[]⟩ (.nilIface)) := by
  obtain ⟨kind, key, width, int, uint, re, im, text, bA, bn, bc, zero, nanos, offset, zone, iA, ilen, ic, fail⟩ := f
  simp only at hk hi
  subst hk
  subst hi
  go_enter Tryz.func60, Tryz.ntmps60
  go_wp2_with fail
  all_goals exact bodyPost_ret (v := .agg (pubArr key 4 0 ⟨#[]⟩ (.nilIface))) (by simp [results, Tryz.results60, go_sem, pubArr]) rfl ⟨rfl, by go_grown⟩
set_option maxHeartbeats 4000000 in
theorem of_bool1 (w : World) (f : Fld) (hk : f.kind = 1) (hi : (f.int == 0) = false) : Calls Tryz.prog 60 #[.agg f.arr] w (FieldIs w f.key 4 1 ⟨#[]⟩ (.nilIface)) := by
  obtain ⟨kind, key, width, int, uint, re, im, text, bA, bn, bc, zero, nanos, offset, zone, iA, ilen, ic, fail⟩ := f
  simp only at hk hi
  subst hk
  go_enter Tryz.func60, Tryz.ntmps60
  go_wp2_with fail
  all_goals exact bodyPost_ret (v := .agg (pubArr key 4 1 ⟨#[]⟩ (.nilIface))) (by simp [results, Tryz.results60, go_sem, pubArr]) rfl ⟨rfl, by go_grown⟩
set_option maxHeartbeats 4000000 in
theorem of_int8 (w : World) (f : Fld) (hk : f.kind = 2) (hw : f.width = 8) : Calls Tryz.prog 60 #[.agg f.arr] w (FieldIs w f.key 14 f.int ⟨#[]⟩ (.nilIface)) := by
  obtain ⟨kind, key, width, int, uint, re, im, text, bA, bn, bc, zero, nanos, offset, zone, iA, ilen, ic, fail⟩ := f
  simp only at hk hw
  subst hk
  subst hw
  go_enter Tryz.func60, Tryz.ntmps60
  go_wp2_with fail
  refine wp_region_noPanic ?_
  refine wp_region_held_drew (S := fun w' => w'.cell? ⟨w.heap.size, 2, none⟩ = some (.int .i64 8) ∧ w'.cell? ⟨w.heap.size, 3, none⟩ = some (.int .i64 int)) (by kernel_rfl) (by (try dsimp only); go_keep) (fun hHeld => ?_)
  refine wpAnyH_take (i := 1) (oi := ⟨some 22, .fieldAddr 39 (.tmp 1) 2, _, _, _, none⟩) (v := ?vk1) rfl (by kernel_rfl) (by kernel_rfl) (by kernel_rfl) (fun _ _ _ h => h) (Or.inl ⟨by rfl, ?yk1⟩) (by assumption) ?rk1
  case yk1 => (intro w hSw; (try dsimp only at hSw); go_simp; first | done | with_reducible rfl)
  try simp only [Act.put, List.setIfInBounds_toArray, List.set_cons_zero, List.set_cons_succ]
  refine wpAnyH_take (i := 2) (oi := ⟨some 23, .load 3 (.tmp 22), _, _, _, none⟩) (v := ?vk2) rfl (by kernel_rfl) (by kernel_rfl) (by kernel_rfl) (fun _ _ _ h => h) (Or.inl ⟨by rfl, ?yk2⟩) (by assumption) ?rk2
  case yk2 => (intro w hSw; (try dsimp only at hSw); go_simp; first | done | with_reducible rfl)
  try simp only [Act.put, List.setIfInBounds_toArray, List.set_cons_zero, List.set_cons_succ]
  refine wpAnyH_take (i := 6) (oi := ⟨some 27, .fieldAddr 39 (.tmp 1) 3, _, _, _, none⟩) (v := ?vk3) rfl (by kernel_rfl) (by kernel_rfl) (by kernel_rfl) (fun _ _ _ h => h) (Or.inl ⟨by rfl, ?yk3⟩) (by assumption) ?rk3
  case yk3 => (intro w hSw; (try dsimp only at hSw); go_simp; first | done | with_reducible rfl)
  try simp only [Act.put, List.setIfInBounds_toArray, List.set_cons_zero, List.set_cons_succ]
  refine wpAnyH_take (i := 7) (oi := ⟨some 28, .load 2 (.tmp 27), _, _, _, none⟩) (v := ?vk4) rfl (by kernel_rfl) (by kernel_rfl) (by kernel_rfl) (fun _ _ _ h => h) (Or.inl ⟨by rfl, ?yk4⟩) (by assumption) ?rk4
  case yk4 => (intro w hSw; (try dsimp only at hSw); go_simp; first | done | with_reducible rfl)
  try simp only [Act.put, List.setIfInBounds_toArray, List.set_cons_zero, List.set_cons_succ]
  refine wpAnyH_ready (rs := [0, 3]) (by kernel_rfl) (by simp) ?_
  refine AllReadyH.cons (o := ⟨some 21, .buildSlice 230 4 #[(0, .const (.int .u8 14)), (1, .const (.int .u8 13)), (2, .const (.int .u8 12)), (3, .const (.int .u8 11))], _, _, _, none⟩) rfl (fun K hK => ?_) (AllReadyH.cons (o := ⟨some 24, .call { callee := .value (.func 106), args := #[.tmp 23], argTypes := #[3] }, _, _, _, none⟩) rfl (fun K hK => ?_) AllReadyH.nil)
  · go_simp
    refine hK.out _ _ (by (try dsimp only); go_keep) (fun hHeld => ?_)
    clear hK K
    try simp only [Act.put, List.setIfInBounds_toArray, List.set_cons_zero, List.set_cons_succ]
    refine wpAnyH_ready (rs := [3]) (by kernel_rfl) (by simp) ?_
    refine AllReadyH.cons (o := ⟨some 24, .call { callee := .value (.func 106), args := #[.tmp 23], argTypes := #[3] }, _, _, _, none⟩) rfl (fun K hK => ?_) AllReadyH.nil
    (go_simp; go_at_call 106; go_must (refine (sized_is 8 0 rfl _).mono ?_; rintro e w1 ⟨rfl, rfl⟩))
    refine hK.out _ _ (by (try dsimp only); go_keep) (fun hHeld => ?_)
    clear hK K
    try simp only [Act.put, List.setIfInBounds_toArray, List.set_cons_zero, List.set_cons_succ]
    refine wpAnyH_take (i := 4) (oi := ⟨some 25, .indexAddr 230 (.tmp 21) (.tmp 24), _, _, _, none⟩) (v := ?vk5) rfl (by kernel_rfl) (by kernel_rfl) (by kernel_rfl) (fun _ _ _ h => h) (Or.inl ⟨by rfl, ?yk5⟩) (by assumption) ?rk5
    case yk5 => (intro w hSw; (try dsimp only at hSw); go_simp; first | done | with_reducible rfl)
    try simp only [Act.put, List.setIfInBounds_toArray, List.set_cons_zero, List.set_cons_succ]
    refine wpAnyH_ready (rs := [5]) (by kernel_rfl) (by simp) ?_
    refine AllReadyH.cons (o := ⟨some 26, .load 129 (.tmp 25), _, _, _, none⟩) rfl (fun K hK => ?_) AllReadyH.nil
    go_simp
    refine hK.out _ _ (by (try dsimp only); go_keep) (fun hHeld => ?_)
    clear hK K
    try simp only [Act.put, List.setIfInBounds_toArray, List.set_cons_zero, List.set_cons_succ]
    refine wpAnyH_take (i := 8) (oi := ⟨some 29, .fieldAddr 131 (.tmp 3) 1, _, _, _, none⟩) (v := ?vk6) rfl (by kernel_rfl) (by kernel_rfl) (by kernel_rfl) (fun _ _ _ h => h) (Or.inl ⟨by rfl, ?yk6⟩) (by assumption) ?rk6
    case yk6 => (intro w hSw; (try dsimp only at hSw); go_simp; first | done | with_reducible rfl)
    try simp only [Act.put, List.setIfInBounds_toArray, List.set_cons_zero, List.set_cons_succ]
    refine wpAnyH_ready (rs := [9]) (by kernel_rfl) (by simp) ?_
    refine AllReadyH.cons (o := ⟨none, .store 129 (.tmp 29) (.tmp 26), _, _, _, none⟩) rfl (fun K hK => ?_) AllReadyH.nil
    go_simp
    refine hK.out _ _ (by (try dsimp only); go_keep) (fun hHeld => ?_)
    clear hK K
    try simp only [Act.put, List.setIfInBounds_toArray, List.set_cons_zero, List.set_cons_succ]
    refine wpAnyH_take (i := 10) (oi := ⟨some 30, .fieldAddr 131 (.tmp 3) 2, _, _, _, none⟩) (v := ?vk7) rfl (by kernel_rfl) (by kernel_rfl) (by kernel_rfl) (fun _ _ _ h => h) (Or.inl ⟨by rfl, ?yk7⟩) (by assumption) ?rk7
    case yk7 => (intro w hSw; (try dsimp only at hSw); go_simp; first | done | with_reducible rfl)
    try simp only [Act.put, List.setIfInBounds_toArray, List.set_cons_zero, List.set_cons_succ]
    refine wpAnyH_ready (rs := [11]) (by kernel_rfl) (by simp) ?_
    refine AllReadyH.cons (o := ⟨none, .store 2 (.tmp 30) (.tmp 28), _, _, _, none⟩) rfl (fun K hK => ?_) AllReadyH.nil
    go_simp
    refine hK.out _ _ (by (try dsimp only); go_keep) (fun hHeld => ?_)
    clear hK K
    try simp only [Act.put, List.setIfInBounds_toArray, List.set_cons_zero, List.set_cons_succ]
    refine wpAnyH_done (by kernel_rfl) ?_ _
    refine NoPanic.normal ?_
    (go_wp2_with fail; exact bodyPost_ret (v := .agg (pubArr key 14 int ⟨#[]⟩ .nilIface)) (by simp [results, Tryz.results60, go_sem, pubArr]) rfl ⟨rfl, by go_grown⟩)
  · (go_simp; go_at_call 106; go_must (refine (sized_is 8 0 rfl _).mono ?_; rintro e w1 ⟨rfl, rfl⟩))
    refine hK.out _ _ (by (try dsimp only); go_keep) (fun hHeld => ?_)
    clear hK K
    try simp only [Act.put, List.setIfInBounds_toArray, List.set_cons_zero, List.set_cons_succ]
    refine wpAnyH_ready (rs := [0]) (by kernel_rfl) (by simp) ?_
    refine AllReadyH.cons (o := ⟨some 21, .buildSlice 230 4 #[(0, .const (.int .u8 14)), (1, .const (.int .u8 13)), (2, .const (.int .u8 12)), (3, .const (.int .u8 11))], _, _, _, none⟩) rfl (fun K hK => ?_) AllReadyH.nil
    go_simp
    refine hK.out _ _ (by (try dsimp only); go_keep) (fun hHeld => ?_)
    clear hK K
    try simp only [Act.put, List.setIfInBounds_toArray, List.set_cons_zero, List.set_cons_succ]
    refine wpAnyH_take (i := 4) (oi := ⟨some 25, .indexAddr 230 (.tmp 21) (.tmp 24), _, _, _, none⟩) (v := ?vk8) rfl (by kernel_rfl) (by kernel_rfl) (by kernel_rfl) (fun _ _ _ h => h) (Or.inl ⟨by rfl, ?yk8⟩) (by assumption) ?rk8
    case yk8 => (intro w hSw; (try dsimp only at hSw); go_simp; first | done | with_reducible rfl)
    try simp only [Act.put, List.setIfInBounds_toArray, List.set_cons_zero, List.set_cons_succ]
    refine wpAnyH_ready (rs := [5]) (by kernel_rfl) (by simp) ?_
    refine AllReadyH.cons (o := ⟨some 26, .load 129 (.tmp 25), _, _, _, none⟩) rfl (fun K hK => ?_) AllReadyH.nil
    go_simp
    refine hK.out _ _ (by (try dsimp only); go_keep) (fun hHeld => ?_)
    clear hK K
    try simp only [Act.put, List.setIfInBounds_toArray, List.set_cons_zero, List.set_cons_succ]
    refine wpAnyH_take (i := 8) (oi := ⟨some 29, .fieldAddr 131 (.tmp 3) 1, _, _, _, none⟩) (v := ?vk9) rfl (by kernel_rfl) (by kernel_rfl) (by kernel_rfl) (fun _ _ _ h => h) (Or.inl ⟨by rfl, ?yk9⟩) (by assumption) ?rk9
    case yk9 => (intro w hSw; (try dsimp only at hSw); go_simp; first | done | with_reducible rfl)
    try simp only [Act.put, List.setIfInBounds_toArray, List.set_cons_zero, List.set_cons_succ]
    refine wpAnyH_ready (rs := [9]) (by kernel_rfl) (by simp) ?_
    refine AllReadyH.cons (o := ⟨none, .store 129 (.tmp 29) (.tmp 26), _, _, _, none⟩) rfl (fun K hK => ?_) AllReadyH.nil
    go_simp
    refine hK.out _ _ (by (try dsimp only); go_keep) (fun hHeld => ?_)
    clear hK K
    try simp only [Act.put, List.setIfInBounds_toArray, List.set_cons_zero, List.set_cons_succ]
    refine wpAnyH_take (i := 10) (oi := ⟨some 30, .fieldAddr 131 (.tmp 3) 2, _, _, _, none⟩) (v := ?vk10) rfl (by kernel_rfl) (by kernel_rfl) (by kernel_rfl) (fun _ _ _ h => h) (Or.inl ⟨by rfl, ?yk10⟩) (by assumption) ?rk10
    case yk10 => (intro w hSw; (try dsimp only at hSw); go_simp; first | done | with_reducible rfl)
    try simp only [Act.put, List.setIfInBounds_toArray, List.set_cons_zero, List.set_cons_succ]
    refine wpAnyH_ready (rs := [11]) (by kernel_rfl) (by simp) ?_
    refine AllReadyH.cons (o := ⟨none, .store 2 (.tmp 30) (.tmp 28), _, _, _, none⟩) rfl (fun K hK => ?_) AllReadyH.nil
    go_simp
    refine hK.out _ _ (by (try dsimp only); go_keep) (fun hHeld => ?_)
    clear hK K
    try simp only [Act.put, List.setIfInBounds_toArray, List.set_cons_zero, List.set_cons_succ]
    refine wpAnyH_done (by kernel_rfl) ?_ _
    refine NoPanic.normal ?_
    (go_wp2_with fail; exact bodyPost_ret (v := .agg (pubArr key 14 int ⟨#[]⟩ .nilIface)) (by simp [results, Tryz.results60, go_sem, pubArr]) rfl ⟨rfl, by go_grown⟩)
set_option maxHeartbeats 4000000 in
theorem of_uint8 (w : World) (f : Fld) (hk : f.kind = 3) (hw : f.width = 8) : Calls Tryz.prog 60 #[.agg f.arr] w (FieldIs w f.key 21 (wrap64 f.uint) ⟨#[]⟩ (.nilIface)) := by
  obtain ⟨kind, key, width, int, uint, re, im, text, bA, bn, bc, zero, nanos, offset, zone, iA, ilen, ic, fail⟩ := f
  simp only at hk hw
  subst hk
  subst hw
  go_enter Tryz.func60, Tryz.ntmps60
  go_wp2_with fail
  refine wp_region_noPanic ?_
  refine wp_region_held_drew (S := fun w' => w'.cell? ⟨w.heap.size, 2, none⟩ = some (.int .i64 8) ∧ w'.cell? ⟨w.heap.size, 4, none⟩ = some (.int .u64 uint)) (by kernel_rfl) (by (try dsimp only); go_keep) (fun hHeld => ?_)
  refine wpAnyH_take (i := 1) (oi := ⟨some 34, .fieldAddr 39 (.tmp 1) 2, _, _, _, none⟩) (v := ?vk1) rfl (by kernel_rfl) (by kernel_rfl) (by kernel_rfl) (fun _ _ _ h => h) (Or.inl ⟨by rfl, ?yk1⟩) (by assumption) ?rk1
  case yk1 => (intro w hSw; (try dsimp only at hSw); go_simp; first | done | with_reducible rfl)
  try simp only [Act.put, List.setIfInBounds_toArray, List.set_cons_zero, List.set_cons_succ]
  refine wpAnyH_take (i := 2) (oi := ⟨some 35, .load 3 (.tmp 34), _, _, _, none⟩) (v := ?vk2) rfl (by kernel_rfl) (by kernel_rfl) (by kernel_rfl) (fun _ _ _ h => h) (Or.inl ⟨by rfl, ?yk2⟩) (by assumption) ?rk2
  case yk2 => (intro w hSw; (try dsimp only at hSw); go_simp; first | done | with_reducible rfl)
  try simp only [Act.put, List.setIfInBounds_toArray, List.set_cons_zero, List.set_cons_succ]
  refine wpAnyH_take (i := 6) (oi := ⟨some 39, .fieldAddr 39 (.tmp 1) 4, _, _, _, none⟩) (v := ?vk3) rfl (by kernel_rfl) (by kernel_rfl) (by kernel_rfl) (fun _ _ _ h => h) (Or.inl ⟨by rfl, ?yk3⟩) (by assumption) ?rk3
  case yk3 => (intro w hSw; (try dsimp only at hSw); go_simp; first | done | with_reducible rfl)
  try simp only [Act.put, List.setIfInBounds_toArray, List.set_cons_zero, List.set_cons_succ]
  refine wpAnyH_take (i := 7) (oi := ⟨some 40, .load 35 (.tmp 39), _, _, _, none⟩) (v := ?vk4) rfl (by kernel_rfl) (by kernel_rfl) (by kernel_rfl) (fun _ _ _ h => h) (Or.inl ⟨by rfl, ?yk4⟩) (by assumption) ?rk4
  case yk4 => (intro w hSw; (try dsimp only at hSw); go_simp; first | done | with_reducible rfl)
  try simp only [Act.put, List.setIfInBounds_toArray, List.set_cons_zero, List.set_cons_succ]
  refine wpAnyH_take (i := 8) (oi := ⟨some 41, .convert 35 2 (.tmp 40), _, _, _, none⟩) (v := ?vk5) rfl (by kernel_rfl) (by kernel_rfl) (by kernel_rfl) (fun _ _ _ h => h) (Or.inl ⟨by rfl, ?yk5⟩) (by assumption) ?rk5
  case yk5 => (intro w hSw; (try dsimp only at hSw); go_simp; first | done | with_reducible rfl)
  try simp only [Act.put, List.setIfInBounds_toArray, List.set_cons_zero, List.set_cons_succ]
  refine wpAnyH_ready (rs := [0, 3]) (by kernel_rfl) (by simp) ?_
  refine AllReadyH.cons (o := ⟨some 33, .buildSlice 230 4 #[(0, .const (.int .u8 21)), (1, .const (.int .u8 20)), (2, .const (.int .u8 19)), (3, .const (.int .u8 18))], _, _, _, none⟩) rfl (fun K hK => ?_) (AllReadyH.cons (o := ⟨some 36, .call { callee := .value (.func 106), args := #[.tmp 35], argTypes := #[3] }, _, _, _, none⟩) rfl (fun K hK => ?_) AllReadyH.nil)
  · go_simp
    refine hK.out _ _ (by (try dsimp only); go_keep) (fun hHeld => ?_)
    clear hK K
    try simp only [Act.put, List.setIfInBounds_toArray, List.set_cons_zero, List.set_cons_succ]
    refine wpAnyH_ready (rs := [3]) (by kernel_rfl) (by simp) ?_
    refine AllReadyH.cons (o := ⟨some 36, .call { callee := .value (.func 106), args := #[.tmp 35], argTypes := #[3] }, _, _, _, none⟩) rfl (fun K hK => ?_) AllReadyH.nil
    (go_simp; go_at_call 106; go_must (refine (sized_is 8 0 rfl _).mono ?_; rintro e w1 ⟨rfl, rfl⟩))
    refine hK.out _ _ (by (try dsimp only); go_keep) (fun hHeld => ?_)
    clear hK K
    try simp only [Act.put, List.setIfInBounds_toArray, List.set_cons_zero, List.set_cons_succ]
    refine wpAnyH_take (i := 4) (oi := ⟨some 37, .indexAddr 230 (.tmp 33) (.tmp 36), _, _, _, none⟩) (v := ?vk6) rfl (by kernel_rfl) (by kernel_rfl) (by kernel_rfl) (fun _ _ _ h => h) (Or.inl ⟨by rfl, ?yk6⟩) (by assumption) ?rk6
    case yk6 => (intro w hSw; (try dsimp only at hSw); go_simp; first | done | with_reducible rfl)
    try simp only [Act.put, List.setIfInBounds_toArray, List.set_cons_zero, List.set_cons_succ]
    refine wpAnyH_ready (rs := [5]) (by kernel_rfl) (by simp) ?_
    refine AllReadyH.cons (o := ⟨some 38, .load 129 (.tmp 37), _, _, _, none⟩) rfl (fun K hK => ?_) AllReadyH.nil
    go_simp
    refine hK.out _ _ (by (try dsimp only); go_keep) (fun hHeld => ?_)
    clear hK K
    try simp only [Act.put, List.setIfInBounds_toArray, List.set_cons_zero, List.set_cons_succ]
    refine wpAnyH_take (i := 9) (oi := ⟨some 42, .fieldAddr 131 (.tmp 3) 1, _, _, _, none⟩) (v := ?vk7) rfl (by kernel_rfl) (by kernel_rfl) (by kernel_rfl) (fun _ _ _ h => h) (Or.inl ⟨by rfl, ?yk7⟩) (by assumption) ?rk7
    case yk7 => (intro w hSw; (try dsimp only at hSw); go_simp; first | done | with_reducible rfl)
    try simp only [Act.put, List.setIfInBounds_toArray, List.set_cons_zero, List.set_cons_succ]
    refine wpAnyH_ready (rs := [10]) (by kernel_rfl) (by simp) ?_
    refine AllReadyH.cons (o := ⟨none, .store 129 (.tmp 42) (.tmp 38), _, _, _, none⟩) rfl (fun K hK => ?_) AllReadyH.nil
    go_simp
    refine hK.out _ _ (by (try dsimp only); go_keep) (fun hHeld => ?_)
    clear hK K
    try simp only [Act.put, List.setIfInBounds_toArray, List.set_cons_zero, List.set_cons_succ]
    refine wpAnyH_take (i := 11) (oi := ⟨some 43, .fieldAddr 131 (.tmp 3) 2, _, _, _, none⟩) (v := ?vk8) rfl (by kernel_rfl) (by kernel_rfl) (by kernel_rfl) (fun _ _ _ h => h) (Or.inl ⟨by rfl, ?yk8⟩) (by assumption) ?rk8
    case yk8 => (intro w hSw; (try dsimp only at hSw); go_simp; first | done | with_reducible rfl)
    try simp only [Act.put, List.setIfInBounds_toArray, List.set_cons_zero, List.set_cons_succ]
    refine wpAnyH_ready (rs := [12]) (by kernel_rfl) (by simp) ?_
    refine AllReadyH.cons (o := ⟨none, .store 2 (.tmp 43) (.tmp 41), _, _, _, none⟩) rfl (fun K hK => ?_) AllReadyH.nil
    go_simp
    refine hK.out _ _ (by (try dsimp only); go_keep) (fun hHeld => ?_)
    clear hK K
    try simp only [Act.put, List.setIfInBounds_toArray, List.set_cons_zero, List.set_cons_succ]
    refine wpAnyH_done (by kernel_rfl) ?_ _
    refine NoPanic.normal ?_
    (go_wp2_with fail; exact bodyPost_ret (v := .agg (pubArr key 21 (wrap64 uint) ⟨#[]⟩ .nilIface)) (by simp [results, Tryz.results60, go_sem, pubArr]) rfl ⟨rfl, by go_grown⟩)
  · (go_simp; go_at_call 106; go_must (refine (sized_is 8 0 rfl _).mono ?_; rintro e w1 ⟨rfl, rfl⟩))
    refine hK.out _ _ (by (try dsimp only); go_keep) (fun hHeld => ?_)
    clear hK K
    try simp only [Act.put, List.setIfInBounds_toArray, List.set_cons_zero, List.set_cons_succ]
    refine wpAnyH_ready (rs := [0]) (by kernel_rfl) (by simp) ?_
    refine AllReadyH.cons (o := ⟨some 33, .buildSlice 230 4 #[(0, .const (.int .u8 21)), (1, .const (.int .u8 20)), (2, .const (.int .u8 19)), (3, .const (.int .u8 18))], _, _, _, none⟩) rfl (fun K hK => ?_) AllReadyH.nil
    go_simp
    refine hK.out _ _ (by (try dsimp only); go_keep) (fun hHeld => ?_)
    clear hK K
    try simp only [Act.put, List.setIfInBounds_toArray, List.set_cons_zero, List.set_cons_succ]
    refine wpAnyH_take (i := 4) (oi := ⟨some 37, .indexAddr 230 (.tmp 33) (.tmp 36), _, _, _, none⟩) (v := ?vk9) rfl (by kernel_rfl) (by kernel_rfl) (by kernel_rfl) (fun _ _ _ h => h) (Or.inl ⟨by rfl, ?yk9⟩) (by assumption) ?rk9
    case yk9 => (intro w hSw; (try dsimp only at hSw); go_simp; first | done | with_reducible rfl)
    try simp only [Act.put, List.setIfInBounds_toArray, List.set_cons_zero, List.set_cons_succ]
    refine wpAnyH_ready (rs := [5]) (by kernel_rfl) (by simp) ?_
    refine AllReadyH.cons (o := ⟨some 38, .load 129 (.tmp 37), _, _, _, none⟩) rfl (fun K hK => ?_) AllReadyH.nil
    go_simp
    refine hK.out _ _ (by (try dsimp only); go_keep) (fun hHeld => ?_)
    clear hK K
    try simp only [Act.put, List.setIfInBounds_toArray, List.set_cons_zero, List.set_cons_succ]
    refine wpAnyH_take (i := 9) (oi := ⟨some 42, .fieldAddr 131 (.tmp 3) 1, _, _, _, none⟩) (v := ?vk10) rfl (by kernel_rfl) (by kernel_rfl) (by kernel_rfl) (fun _ _ _ h => h) (Or.inl ⟨by rfl, ?yk10⟩) (by assumption) ?rk10
    case yk10 => (intro w hSw; (try dsimp only at hSw); go_simp; first | done | with_reducible rfl)
    try simp only [Act.put, List.setIfInBounds_toArray, List.set_cons_zero, List.set_cons_succ]
    refine wpAnyH_ready (rs := [10]) (by kernel_rfl) (by simp) ?_
    refine AllReadyH.cons (o := ⟨none, .store 129 (.tmp 42) (.tmp 38), _, _, _, none⟩) rfl (fun K hK => ?_) AllReadyH.nil
    go_simp
    refine hK.out _ _ (by (try dsimp only); go_keep) (fun hHeld => ?_)
    clear hK K
    try simp only [Act.put, List.setIfInBounds_toArray, List.set_cons_zero, List.set_cons_succ]
    refine wpAnyH_take (i := 11) (oi := ⟨some 43, .fieldAddr 131 (.tmp 3) 2, _, _, _, none⟩) (v := ?vk11) rfl (by kernel_rfl) (by kernel_rfl) (by kernel_rfl) (fun _ _ _ h => h) (Or.inl ⟨by rfl, ?yk11⟩) (by assumption) ?rk11
    case yk11 => (intro w hSw; (try dsimp only at hSw); go_simp; first | done | with_reducible rfl)
    try simp only [Act.put, List.setIfInBounds_toArray, List.set_cons_zero, List.set_cons_succ]
    refine wpAnyH_ready (rs := [12]) (by kernel_rfl) (by simp) ?_
    refine AllReadyH.cons (o := ⟨none, .store 2 (.tmp 43) (.tmp 41), _, _, _, none⟩) rfl (fun K hK => ?_) AllReadyH.nil
    go_simp
    refine hK.out _ _ (by (try dsimp only); go_keep) (fun hHeld => ?_)
    clear hK K
    try simp only [Act.put, List.setIfInBounds_toArray, List.set_cons_zero, List.set_cons_succ]
    refine wpAnyH_done (by kernel_rfl) ?_ _
    refine NoPanic.normal ?_
    (go_wp2_with fail; exact bodyPost_ret (v := .agg (pubArr key 21 (wrap64 uint) ⟨#[]⟩ .nilIface)) (by simp [results, Tryz.results60, go_sem, pubArr]) rfl ⟨rfl, by go_grown⟩)
set_option maxHeartbeats 4000000 in
theorem of_int16 (w : World) (f : Fld) (hk : f.kind = 2) (hw : f.width = 16) : Calls Tryz.prog 60 #[.agg f.arr] w (FieldIs w f.key 13 f.int ⟨#[]⟩ (.nilIface)) := by
  obtain ⟨kind, key, width, int, uint, re, im, text, bA, bn, bc, zero, nanos, offset, zone, iA, ilen, ic, fail⟩ := f
  simp only at hk hw
  subst hk
  subst hw
  go_enter Tryz.func60, Tryz.ntmps60
  go_wp2_with fail
  refine wp_region_noPanic ?_
  refine wp_region_held_drew (S := fun w' => w'.cell? ⟨w.heap.size, 2, none⟩ = some (.int .i64 16) ∧ w'.cell? ⟨w.heap.size, 3, none⟩ = some (.int .i64 int)) (by kernel_rfl) (by (try dsimp only); go_keep) (fun hHeld => ?_)
  refine wpAnyH_take (i := 1) (oi := ⟨some 22, .fieldAddr 39 (.tmp 1) 2, _, _, _, none⟩) (v := ?vk1) rfl (by kernel_rfl) (by kernel_rfl) (by kernel_rfl) (fun _ _ _ h => h) (Or.inl ⟨by rfl, ?yk1⟩) (by assumption) ?rk1
  case yk1 => (intro w hSw; (try dsimp only at hSw); go_simp; first | done | with_reducible rfl)
  try simp only [Act.put, List.setIfInBounds_toArray, List.set_cons_zero, List.set_cons_succ]
  refine wpAnyH_take (i := 2) (oi := ⟨some 23, .load 3 (.tmp 22), _, _, _, none⟩) (v := ?vk2) rfl (by kernel_rfl) (by kernel_rfl) (by kernel_rfl) (fun _ _ _ h => h) (Or.inl ⟨by rfl, ?yk2⟩) (by assumption) ?rk2
  case yk2 => (intro w hSw; (try dsimp only at hSw); go_simp; first | done | with_reducible rfl)
  try simp only [Act.put, List.setIfInBounds_toArray, List.set_cons_zero, List.set_cons_succ]
  refine wpAnyH_take (i := 6) (oi := ⟨some 27, .fieldAddr 39 (.tmp 1) 3, _, _, _, none⟩) (v := ?vk3) rfl (by kernel_rfl) (by kernel_rfl) (by kernel_rfl) (fun _ _ _ h => h) (Or.inl ⟨by rfl, ?yk3⟩) (by assumption) ?rk3
  case yk3 => (intro w hSw; (try dsimp only at hSw); go_simp; first | done | with_reducible rfl)
  try simp only [Act.put, List.setIfInBounds_toArray, List.set_cons_zero, List.set_cons_succ]
  refine wpAnyH_take (i := 7) (oi := ⟨some 28, .load 2 (.tmp 27), _, _, _, none⟩) (v := ?vk4) rfl (by kernel_rfl) (by kernel_rfl) (by kernel_rfl) (fun _ _ _ h => h) (Or.inl ⟨by rfl, ?yk4⟩) (by assumption) ?rk4
  case yk4 => (intro w hSw; (try dsimp only at hSw); go_simp; first | done | with_reducible rfl)
  try simp only [Act.put, List.setIfInBounds_toArray, List.set_cons_zero, List.set_cons_succ]
  refine wpAnyH_ready (rs := [0, 3]) (by kernel_rfl) (by simp) ?_
  refine AllReadyH.cons (o := ⟨some 21, .buildSlice 230 4 #[(0, .const (.int .u8 14)), (1, .const (.int .u8 13)), (2, .const (.int .u8 12)), (3, .const (.int .u8 11))], _, _, _, none⟩) rfl (fun K hK => ?_) (AllReadyH.cons (o := ⟨some 24, .call { callee := .value (.func 106), args := #[.tmp 23], argTypes := #[3] }, _, _, _, none⟩) rfl (fun K hK => ?_) AllReadyH.nil)
  · go_simp
    refine hK.out _ _ (by (try dsimp only); go_keep) (fun hHeld => ?_)
    clear hK K
    try simp only [Act.put, List.setIfInBounds_toArray, List.set_cons_zero, List.set_cons_succ]
    refine wpAnyH_ready (rs := [3]) (by kernel_rfl) (by simp) ?_
    refine AllReadyH.cons (o := ⟨some 24, .call { callee := .value (.func 106), args := #[.tmp 23], argTypes := #[3] }, _, _, _, none⟩) rfl (fun K hK => ?_) AllReadyH.nil
    (go_simp; go_at_call 106; go_must (refine (sized_is 16 1 rfl _).mono ?_; rintro e w1 ⟨rfl, rfl⟩))
    refine hK.out _ _ (by (try dsimp only); go_keep) (fun hHeld => ?_)
    clear hK K
    try simp only [Act.put, List.setIfInBounds_toArray, List.set_cons_zero, List.set_cons_succ]
    refine wpAnyH_take (i := 4) (oi := ⟨some 25, .indexAddr 230 (.tmp 21) (.tmp 24), _, _, _, none⟩) (v := ?vk5) rfl (by kernel_rfl) (by kernel_rfl) (by kernel_rfl) (fun _ _ _ h => h) (Or.inl ⟨by rfl, ?yk5⟩) (by assumption) ?rk5
    case yk5 => (intro w hSw; (try dsimp only at hSw); go_simp; first | done | with_reducible rfl)
    try simp only [Act.put, List.setIfInBounds_toArray, List.set_cons_zero, List.set_cons_succ]
    refine wpAnyH_ready (rs := [5]) (by kernel_rfl) (by simp) ?_
    refine AllReadyH.cons (o := ⟨some 26, .load 129 (.tmp 25), _, _, _, none⟩) rfl (fun K hK => ?_) AllReadyH.nil
    go_simp
    refine hK.out _ _ (by (try dsimp only); go_keep) (fun hHeld => ?_)
    clear hK K
    try simp only [Act.put, List.setIfInBounds_toArray, List.set_cons_zero, List.set_cons_succ]
    refine wpAnyH_take (i := 8) (oi := ⟨some 29, .fieldAddr 131 (.tmp 3) 1, _, _, _, none⟩) (v := ?vk6) rfl (by kernel_rfl) (by kernel_rfl) (by kernel_rfl) (fun _ _ _ h => h) (Or.inl ⟨by rfl, ?yk6⟩) (by assumption) ?rk6
    case yk6 => (intro w hSw; (try dsimp only at hSw); go_simp; first | done | with_reducible rfl)
    try simp only [Act.put, List.setIfInBounds_toArray, List.set_cons_zero, List.set_cons_succ]
    refine wpAnyH_ready (rs := [9]) (by kernel_rfl) (by simp) ?_
    refine AllReadyH.cons (o := ⟨none, .store 129 (.tmp 29) (.tmp 26), _, _, _, none⟩) rfl (fun K hK => ?_) AllReadyH.nil
    go_simp
    refine hK.out _ _ (by (try dsimp only); go_keep) (fun hHeld => ?_)
    clear hK K
    try simp only [Act.put, List.setIfInBounds_toArray, List.set_cons_zero, List.set_cons_succ]
    refine wpAnyH_take (i := 10) (oi := ⟨some 30, .fieldAddr 131 (.tmp 3) 2, _, _, _, none⟩) (v := ?vk7) rfl (by kernel_rfl) (by kernel_rfl) (by kernel_rfl) (fun _ _ _ h => h) (Or.inl ⟨by rfl, ?yk7⟩) (by assumption) ?rk7
    case yk7 => (intro w hSw; (try dsimp only at hSw); go_simp; first | done | with_reducible rfl)
    try simp only [Act.put, List.setIfInBounds_toArray, List.set_cons_zero, List.set_cons_succ]
    refine wpAnyH_ready (rs := [11]) (by kernel_rfl) (by simp) ?_
    refine AllReadyH.cons (o := ⟨none, .store 2 (.tmp 30) (.tmp 28), _, _, _, none⟩) rfl (fun K hK => ?_) AllReadyH.nil
    go_simp
    refine hK.out _ _ (by (try dsimp only); go_keep) (fun hHeld => ?_)
    clear hK K
    try simp only [Act.put, List.setIfInBounds_toArray, List.set_cons_zero, List.set_cons_succ]
    refine wpAnyH_done (by kernel_rfl) ?_ _
    refine NoPanic.normal ?_
    (go_wp2_with fail; exact bodyPost_ret (v := .agg (pubArr key 13 int ⟨#[]⟩ .nilIface)) (by simp [results, Tryz.results60, go_sem, pubArr]) rfl ⟨rfl, by go_grown⟩)
  · (go_simp; go_at_call 106; go_must (refine (sized_is 16 1 rfl _).mono ?_; rintro e w1 ⟨rfl, rfl⟩))
    refine hK.out _ _ (by (try dsimp only); go_keep) (fun hHeld => ?_)
    clear hK K
    try simp only [Act.put, List.setIfInBounds_toArray, List.set_cons_zero, List.set_cons_succ]
    refine wpAnyH_ready (rs := [0]) (by kernel_rfl) (by simp) ?_
    refine AllReadyH.cons (o := ⟨some 21, .buildSlice 230 4 #[(0, .const (.int .u8 14)), (1, .const (.int .u8 13)), (2, .const (.int .u8 12)), (3, .const (.int .u8 11))], _, _, _, none⟩) rfl (fun K hK => ?_) AllReadyH.nil
    go_simp
    refine hK.out _ _ (by (try dsimp only); go_keep) (fun hHeld => ?_)
    clear hK K
    try simp only [Act.put, List.setIfInBounds_toArray, List.set_cons_zero, List.set_cons_succ]
    refine wpAnyH_take (i := 4) (oi := ⟨some 25, .indexAddr 230 (.tmp 21) (.tmp 24), _, _, _, none⟩) (v := ?vk8) rfl (by kernel_rfl) (by kernel_rfl) (by kernel_rfl) (fun _ _ _ h => h) (Or.inl ⟨by rfl, ?yk8⟩) (by assumption) ?rk8
    case yk8 => (intro w hSw; (try dsimp only at hSw); go_simp; first | done | with_reducible rfl)
    try simp only [Act.put, List.setIfInBounds_toArray, List.set_cons_zero, List.set_cons_succ]
    refine wpAnyH_ready (rs := [5]) (by kernel_rfl) (by simp) ?_
    refine AllReadyH.cons (o := ⟨some 26, .load 129 (.tmp 25), _, _, _, none⟩) rfl (fun K hK => ?_) AllReadyH.nil
    go_simp
    refine hK.out _ _ (by (try dsimp only); go_keep) (fun hHeld => ?_)
    clear hK K
    try simp only [Act.put, List.setIfInBounds_toArray, List.set_cons_zero, List.set_cons_succ]
    refine wpAnyH_take (i := 8) (oi := ⟨some 29, .fieldAddr 131 (.tmp 3) 1, _, _, _, none⟩) (v := ?vk9) rfl (by kernel_rfl) (by kernel_rfl) (by kernel_rfl) (fun _ _ _ h => h) (Or.inl ⟨by rfl, ?yk9⟩) (by assumption) ?rk9
    case yk9 => (intro w hSw; (try dsimp only at hSw); go_simp; first | done | with_reducible rfl)
    try simp only [Act.put, List.setIfInBounds_toArray, List.set_cons_zero, List.set_cons_succ]
    refine wpAnyH_ready (rs := [9]) (by kernel_rfl) (by simp) ?_
    refine AllReadyH.cons (o := ⟨none, .store 129 (.tmp 29) (.tmp 26), _, _, _, none⟩) rfl (fun K hK => ?_) AllReadyH.nil
    go_simp
    refine hK.out _ _ (by (try dsimp only); go_keep) (fun hHeld => ?_)
    clear hK K
    try simp only [Act.put, List.setIfInBounds_toArray, List.set_cons_zero, List.set_cons_succ]
    refine wpAnyH_take (i := 10) (oi := ⟨some 30, .fieldAddr 131 (.tmp 3) 2, _, _, _, none⟩) (v := ?vk10) rfl (by kernel_rfl) (by kernel_rfl) (by kernel_rfl) (fun _ _ _ h => h) (Or.inl ⟨by rfl, ?yk10⟩) (by assumption) ?rk10
    case yk10 => (intro w hSw; (try dsimp only at hSw); go_simp; first | done | with_reducible rfl)
    try simp only [Act.put, List.setIfInBounds_toArray, List.set_cons_zero, List.set_cons_succ]
    refine wpAnyH_ready (rs := [11]) (by kernel_rfl) (by simp) ?_
    refine AllReadyH.cons (o := ⟨none, .store 2 (.tmp 30) (.tmp 28), _, _, _, none⟩) rfl (fun K hK => ?_) AllReadyH.nil
    go_simp
    refine hK.out _ _ (by (try dsimp only); go_keep) (fun hHeld => ?_)
    clear hK K
    try simp only [Act.put, List.setIfInBounds_toArray, List.set_cons_zero, List.set_cons_succ]
    refine wpAnyH_done (by kernel_rfl) ?_ _
    refine NoPanic.normal ?_
    (go_wp2_with fail; exact bodyPost_ret (v := .agg (pubArr key 13 int ⟨#[]⟩ .nilIface)) (by simp [results, Tryz.results60, go_sem, pubArr]) rfl ⟨rfl, by go_grown⟩)
set_option maxHeartbeats 4000000 in
theorem of_uint16 (w : World) (f : Fld) (hk : f.kind = 3) (hw : f.width = 16) : Calls Tryz.prog 60 #[.agg f.arr] w (FieldIs w f.key 20 (wrap64 f.uint) ⟨#[]⟩ (.nilIface)) := by
  obtain ⟨kind, key, width, int, uint, re, im, text, bA, bn, bc, zero, nanos, offset, zone, iA, ilen, ic, fail⟩ := f
  simp only at hk hw
  subst hk
  subst hw
  go_enter Tryz.func60, Tryz.ntmps60
  go_wp2_with fail
  refine wp_region_noPanic ?_
  refine wp_region_held_drew (S := fun w' => w'.cell? ⟨w.heap.size, 2, none⟩ = some (.int .i64 16) ∧ w'.cell? ⟨w.heap.size, 4, none⟩ = some (.int .u64 uint)) (by kernel_rfl) (by (try dsimp only); go_keep) (fun hHeld => ?_)
  refine wpAnyH_take (i := 1) (oi := ⟨some 34, .fieldAddr 39 (.tmp 1) 2, _, _, _, none⟩) (v := ?vk1) rfl (by kernel_rfl) (by kernel_rfl) (by kernel_rfl) (fun _ _ _ h => h) (Or.inl ⟨by rfl, ?yk1⟩) (by assumption) ?rk1
  case yk1 => (intro w hSw; (try dsimp only at hSw); go_simp; first | done | with_reducible rfl)
  try simp only [Act.put, List.setIfInBounds_toArray, List.set_cons_zero, List.set_cons_succ]
  refine wpAnyH_take (i := 2) (oi := ⟨some 35, .load 3 (.tmp 34), _, _, _, none⟩) (v := ?vk2) rfl (by kernel_rfl) (by kernel_rfl) (by kernel_rfl) (fun _ _ _ h => h) (Or.inl ⟨by rfl, ?yk2⟩) (by assumption) ?rk2
  case yk2 => (intro w hSw; (try dsimp only at hSw); go_simp; first | done | with_reducible rfl)
  try simp only [Act.put, List.setIfInBounds_toArray, List.set_cons_zero, List.set_cons_succ]
  refine wpAnyH_take (i := 6) (oi := ⟨some 39, .fieldAddr 39 (.tmp 1) 4, _, _, _, none⟩) (v := ?vk3) rfl (by kernel_rfl) (by kernel_rfl) (by kernel_rfl) (fun _ _ _ h => h) (Or.inl ⟨by rfl, ?yk3⟩) (by assumption) ?rk3
  case yk3 => (intro w hSw; (try dsimp only at hSw); go_simp; first | done | with_reducible rfl)
  try simp only [Act.put, List.setIfInBounds_toArray, List.set_cons_zero, List.set_cons_succ]
  refine wpAnyH_take (i := 7) (oi := ⟨some 40, .load 35 (.tmp 39), _, _, _, none⟩) (v := ?vk4) rfl (by kernel_rfl) (by kernel_rfl) (by kernel_rfl) (fun _ _ _ h => h) (Or.inl ⟨by rfl, ?yk4⟩) (by assumption) ?rk4
  case yk4 => (intro w hSw; (try dsimp only at hSw); go_simp; first | done | with_reducible rfl)
  try simp only [Act.put, List.setIfInBounds_toArray, List.set_cons_zero, List.set_cons_succ]
  refine wpAnyH_take (i := 8) (oi := ⟨some 41, .convert 35 2 (.tmp 40), _, _, _, none⟩) (v := ?vk5) rfl (by kernel_rfl) (by kernel_rfl) (by kernel_rfl) (fun _ _ _ h => h) (Or.inl ⟨by rfl, ?yk5⟩) (by assumption) ?rk5
  case yk5 => (intro w hSw; (try dsimp only at hSw); go_simp; first | done | with_reducible rfl)
  try simp only [Act.put, List.setIfInBounds_toArray, List.set_cons_zero, List.set_cons_succ]
  refine wpAnyH_ready (rs := [0, 3]) (by kernel_rfl) (by simp) ?_
  refine AllReadyH.cons (o := ⟨some 33, .buildSlice 230 4 #[(0, .const (.int .u8 21)), (1, .const (.int .u8 20)), (2, .const (.int .u8 19)), (3, .const (.int .u8 18))], _, _, _, none⟩) rfl (fun K hK => ?_) (AllReadyH.cons (o := ⟨some 36, .call { callee := .value (.func 106), args := #[.tmp 35], argTypes := #[3] }, _, _, _, none⟩) rfl (fun K hK => ?_) AllReadyH.nil)
  · go_simp
    refine hK.out _ _ (by (try dsimp only); go_keep) (fun hHeld => ?_)
    clear hK K
    try simp only [Act.put, List.setIfInBounds_toArray, List.set_cons_zero, List.set_cons_succ]
    refine wpAnyH_ready (rs := [3]) (by kernel_rfl) (by simp) ?_
    refine AllReadyH.cons (o := ⟨some 36, .call { callee := .value (.func 106), args := #[.tmp 35], argTypes := #[3] }, _, _, _, none⟩) rfl (fun K hK => ?_) AllReadyH.nil
    (go_simp; go_at_call 106; go_must (refine (sized_is 16 1 rfl _).mono ?_; rintro e w1 ⟨rfl, rfl⟩))
    refine hK.out _ _ (by (try dsimp only); go_keep) (fun hHeld => ?_)
    clear hK K
    try simp only [Act.put, List.setIfInBounds_toArray, List.set_cons_zero, List.set_cons_succ]
    refine wpAnyH_take (i := 4) (oi := ⟨some 37, .indexAddr 230 (.tmp 33) (.tmp 36), _, _, _, none⟩) (v := ?vk6) rfl (by kernel_rfl) (by kernel_rfl) (by kernel_rfl) (fun _ _ _ h => h) (Or.inl ⟨by rfl, ?yk6⟩) (by assumption) ?rk6
    case yk6 => (intro w hSw; (try dsimp only at hSw); go_simp; first | done | with_reducible rfl)
    try simp only [Act.put, List.setIfInBounds_toArray, List.set_cons_zero, List.set_cons_succ]
    refine wpAnyH_ready (rs := [5]) (by kernel_rfl) (by simp) ?_
    refine AllReadyH.cons (o := ⟨some 38, .load 129 (.tmp 37), _, _, _, none⟩) rfl (fun K hK => ?_) AllReadyH.nil
    go_simp
    refine hK.out _ _ (by (try dsimp only); go_keep) (fun hHeld => ?_)
    clear hK K
    try simp only [Act.put, List.setIfInBounds_toArray, List.set_cons_zero, List.set_cons_succ]
    refine wpAnyH_take (i := 9) (oi := ⟨some 42, .fieldAddr 131 (.tmp 3) 1, _, _, _, none⟩) (v := ?vk7) rfl (by kernel_rfl) (by kernel_rfl) (by kernel_rfl) (fun _ _ _ h => h) (Or.inl ⟨by rfl, ?yk7⟩) (by assumption) ?rk7
    case yk7 => (intro w hSw; (try dsimp only at hSw); go_simp; first | done | with_reducible rfl)
    try simp only [Act.put, List.setIfInBounds_toArray, List.set_cons_zero, List.set_cons_succ]
    refine wpAnyH_ready (rs := [10]) (by kernel_rfl) (by simp) ?_
    refine AllReadyH.cons (o := ⟨none, .store 129 (.tmp 42) (.tmp 38), _, _, _, none⟩) rfl (fun K hK => ?_) AllReadyH.nil
    go_simp
    refine hK.out _ _ (by (try dsimp only); go_keep) (fun hHeld => ?_)
    clear hK K
    try simp only [Act.put, List.setIfInBounds_toArray, List.set_cons_zero, List.set_cons_succ]
    refine wpAnyH_take (i := 11) (oi := ⟨some 43, .fieldAddr 131 (.tmp 3) 2, _, _, _, none⟩) (v := ?vk8) rfl (by kernel_rfl) (by kernel_rfl) (by kernel_rfl) (fun _ _ _ h => h) (Or.inl ⟨by rfl, ?yk8⟩) (by assumption) ?rk8
    case yk8 => (intro w hSw; (try dsimp only at hSw); go_simp; first | done | with_reducible rfl)
    try simp only [Act.put, List.setIfInBounds_toArray, List.set_cons_zero, List.set_cons_succ]
    refine wpAnyH_ready (rs := [12]) (by kernel_rfl) (by simp) ?_
    refine AllReadyH.cons (o := ⟨none, .store 2 (.tmp 43) (.tmp 41), _, _, _, none⟩) rfl (fun K hK => ?_) AllReadyH.nil
    go_simp
    refine hK.out _ _ (by (try dsimp only); go_keep) (fun hHeld => ?_)
    clear hK K
    try simp only [Act.put, List.setIfInBounds_toArray, List.set_cons_zero, List.set_cons_succ]
    refine wpAnyH_done (by kernel_rfl) ?_ _
    refine NoPanic.normal ?_
    (go_wp2_with fail; exact bodyPost_ret (v := .agg (pubArr key 20 (wrap64 uint) ⟨#[]⟩ .nilIface)) (by simp [results, Tryz.results60, go_sem, pubArr]) rfl ⟨rfl, by go_grown⟩)
  · (go_simp; go_at_call 106; go_must (refine (sized_is 16 1 rfl _).mono ?_; rintro e w1 ⟨rfl, rfl⟩))
    refine hK.out _ _ (by (try dsimp only); go_keep) (fun hHeld => ?_)
    clear hK K
    try simp only [Act.put, List.setIfInBounds_toArray, List.set_cons_zero, List.set_cons_succ]
    refine wpAnyH_ready (rs := [0]) (by kernel_rfl) (by simp) ?_
    refine AllReadyH.cons (o := ⟨some 33, .buildSlice 230 4 #[(0, .const (.int .u8 21)), (1, .const (.int .u8 20)), (2, .const (.int .u8 19)), (3, .const (.int .u8 18))], _, _, _, none⟩) rfl (fun K hK => ?_) AllReadyH.nil
    go_simp
    refine hK.out _ _ (by (try dsimp only); go_keep) (fun hHeld => ?_)
    clear hK K
    try simp only [Act.put, List.setIfInBounds_toArray, List.set_cons_zero, List.set_cons_succ]
    refine wpAnyH_take (i := 4) (oi := ⟨some 37, .indexAddr 230 (.tmp 33) (.tmp 36), _, _, _, none⟩) (v := ?vk9) rfl (by kernel_rfl) (by kernel_rfl) (by kernel_rfl) (fun _ _ _ h => h) (Or.inl ⟨by rfl, ?yk9⟩) (by assumption) ?rk9
    case yk9 => (intro w hSw; (try dsimp only at hSw); go_simp; first | done | with_reducible rfl)
    try simp only [Act.put, List.setIfInBounds_toArray, List.set_cons_zero, List.set_cons_succ]
    refine wpAnyH_ready (rs := [5]) (by kernel_rfl) (by simp) ?_
    refine AllReadyH.cons (o := ⟨some 38, .load 129 (.tmp 37), _, _, _, none⟩) rfl (fun K hK => ?_) AllReadyH.nil
    go_simp
    refine hK.out _ _ (by (try dsimp only); go_keep) (fun hHeld => ?_)
    clear hK K
    try simp only [Act.put, List.setIfInBounds_toArray, List.set_cons_zero, List.set_cons_succ]
    refine wpAnyH_take (i := 9) (oi := ⟨some 42, .fieldAddr 131 (.tmp 3) 1, _, _, _, none⟩) (v := ?vk10) rfl (by kernel_rfl) (by kernel_rfl) (by kernel_rfl) (fun _ _ _ h => h) (Or.inl ⟨by rfl, ?yk10⟩) (by assumption) ?rk10
    case yk10 => (intro w hSw; (try dsimp only at hSw); go_simp; first | done | with_reducible rfl)
    try simp only [Act.put, List.setIfInBounds_toArray, List.set_cons_zero, List.set_cons_succ]
    refine wpAnyH_ready (rs := [10]) (by kernel_rfl) (by simp) ?_
    refine AllReadyH.cons (o := ⟨none, .store 129 (.tmp 42) (.tmp 38), _, _, _, none⟩) rfl (fun K hK => ?_) AllReadyH.nil
    go_simp
    refine hK.out _ _ (by (try dsimp only); go_keep) (fun hHeld => ?_)
    clear hK K
    try simp only [Act.put, List.setIfInBounds_toArray, List.set_cons_zero, List.set_cons_succ]
    refine wpAnyH_take (i := 11) (oi := ⟨some 43, .fieldAddr 131 (.tmp 3) 2, _, _, _, none⟩) (v := ?vk11) rfl (by kernel_rfl) (by kernel_rfl) (by kernel_rfl) (fun _ _ _ h => h) (Or.inl ⟨by rfl, ?yk11⟩) (by assumption) ?rk11
    case yk11 => (intro w hSw; (try dsimp only at hSw); go_simp; first | done | with_reducible rfl)
    try simp only [Act.put, List.setIfInBounds_toArray, List.set_cons_zero, List.set_cons_succ]
    refine wpAnyH_ready (rs := [12]) (by kernel_rfl) (by simp) ?_
    refine AllReadyH.cons (o := ⟨none, .store 2 (.tmp 43) (.tmp 41), _, _, _, none⟩) rfl (fun K hK => ?_) AllReadyH.nil
    go_simp
    refine hK.out _ _ (by (try dsimp only); go_keep) (fun hHeld => ?_)
    clear hK K
    try simp only [Act.put, List.setIfInBounds_toArray, List.set_cons_zero, List.set_cons_succ]
    refine wpAnyH_done (by kernel_rfl) ?_ _
    refine NoPanic.normal ?_
    (go_wp2_with fail; exact bodyPost_ret (v := .agg (pubArr key 20 (wrap64 uint) ⟨#[]⟩ .nilIface)) (by simp [results, Tryz.results60, go_sem, pubArr]) rfl ⟨rfl, by go_grown⟩)
set_option maxHeartbeats 4000000 in
theorem of_int32 (w : World) (f : Fld) (hk : f.kind = 2) (hw : f.width = 32) : Calls Tryz.prog 60 #[.agg f.arr] w (FieldIs w f.key 12 f.int ⟨#[]⟩ (.nilIface)) := by
  obtain ⟨kind, key, width, int, uint, re, im, text, bA, bn, bc, zero, nanos, offset, zone, iA, ilen, ic, fail⟩ := f
  simp only at hk hw
  subst hk
  subst hw
  go_enter Tryz.func60, Tryz.ntmps60
  go_wp2_with fail
  refine wp_region_noPanic ?_
  refine wp_region_held_drew (S := fun w' => w'.cell? ⟨w.heap.size, 2, none⟩ = some (.int .i64 32) ∧ w'.cell? ⟨w.heap.size, 3, none⟩ = some (.int .i64 int)) (by kernel_rfl) (by (try dsimp only); go_keep) (fun hHeld => ?_)
  refine wpAnyH_take (i := 1) (oi := ⟨some 22, .fieldAddr 39 (.tmp 1) 2, _, _, _, none⟩) (v := ?vk1) rfl (by kernel_rfl) (by kernel_rfl) (by kernel_rfl) (fun _ _ _ h => h) (Or.inl ⟨by rfl, ?yk1⟩) (by assumption) ?rk1
  case yk1 => (intro w hSw; (try dsimp only at hSw); go_simp; first | done | with_reducible rfl)
  try simp only [Act.put, List.setIfInBounds_toArray, List.set_cons_zero, List.set_cons_succ]
  refine wpAnyH_take (i := 2) (oi := ⟨some 23, .load 3 (.tmp 22), _, _, _, none⟩) (v := ?vk2) rfl (by kernel_rfl) (by kernel_rfl) (by kernel_rfl) (fun _ _ _ h => h) (Or.inl ⟨by rfl, ?yk2⟩) (by assumption) ?rk2
  case yk2 => (intro w hSw; (try dsimp only at hSw); go_simp; first | done | with_reducible rfl)
  try simp only [Act.put, List.setIfInBounds_toArray, List.set_cons_zero, List.set_cons_succ]
  refine wpAnyH_take (i := 6) (oi := ⟨some 27, .fieldAddr 39 (.tmp 1) 3, _, _, _, none⟩) (v := ?vk3) rfl (by kernel_rfl) (by kernel_rfl) (by kernel_rfl) (fun _ _ _ h => h) (Or.inl ⟨by rfl, ?yk3⟩) (by assumption) ?rk3
  case yk3 => (intro w hSw; (try dsimp only at hSw); go_simp; first | done | with_reducible rfl)
  try simp only [Act.put, List.setIfInBounds_toArray, List.set_cons_zero, List.set_cons_succ]
  refine wpAnyH_take (i := 7) (oi := ⟨some 28, .load 2 (.tmp 27), _, _, _, none⟩) (v := ?vk4) rfl (by kernel_rfl) (by kernel_rfl) (by kernel_rfl) (fun _ _ _ h => h) (Or.inl ⟨by rfl, ?yk4⟩) (by assumption) ?rk4
  case yk4 => (intro w hSw; (try dsimp only at hSw); go_simp; first | done | with_reducible rfl)
  try simp only [Act.put, List.setIfInBounds_toArray, List.set_cons_zero, List.set_cons_succ]
  refine wpAnyH_ready (rs := [0, 3]) (by kernel_rfl) (by simp) ?_
  refine AllReadyH.cons (o := ⟨some 21, .buildSlice 230 4 #[(0, .const (.int .u8 14)), (1, .const (.int .u8 13)), (2, .const (.int .u8 12)), (3, .const (.int .u8 11))], _, _, _, none⟩) rfl (fun K hK => ?_) (AllReadyH.cons (o := ⟨some 24, .call { callee := .value (.func 106), args := #[.tmp 23], argTypes := #[3] }, _, _, _, none⟩) rfl (fun K hK => ?_) AllReadyH.nil)
  · go_simp
    refine hK.out _ _ (by (try dsimp only); go_keep) (fun hHeld => ?_)
    clear hK K
    try simp only [Act.put, List.setIfInBounds_toArray, List.set_cons_zero, List.set_cons_succ]
    refine wpAnyH_ready (rs := [3]) (by kernel_rfl) (by simp) ?_
    refine AllReadyH.cons (o := ⟨some 24, .call { callee := .value (.func 106), args := #[.tmp 23], argTypes := #[3] }, _, _, _, none⟩) rfl (fun K hK => ?_) AllReadyH.nil
    (go_simp; go_at_call 106; go_must (refine (sized_is 32 2 rfl _).mono ?_; rintro e w1 ⟨rfl, rfl⟩))
    refine hK.out _ _ (by (try dsimp only); go_keep) (fun hHeld => ?_)
    clear hK K
    try simp only [Act.put, List.setIfInBounds_toArray, List.set_cons_zero, List.set_cons_succ]
    refine wpAnyH_take (i := 4) (oi := ⟨some 25, .indexAddr 230 (.tmp 21) (.tmp 24), _, _, _, none⟩) (v := ?vk5) rfl (by kernel_rfl) (by kernel_rfl) (by kernel_rfl) (fun _ _ _ h => h) (Or.inl ⟨by rfl, ?yk5⟩) (by assumption) ?rk5
    case yk5 => (intro w hSw; (try dsimp only at hSw); go_simp; first | done | with_reducible rfl)
    try simp only [Act.put, List.setIfInBounds_toArray, List.set_cons_zero, List.set_cons_succ]
    refine wpAnyH_ready (rs := [5]) (by kernel_rfl) (by simp) ?_
    refine AllReadyH.cons (o := ⟨some 26, .load 129 (.tmp 25), _, _, _, none⟩) rfl (fun K hK => ?_) AllReadyH.nil
    go_simp
    refine hK.out _ _ (by (try dsimp only); go_keep) (fun hHeld => ?_)
    clear hK K
    try simp only [Act.put, List.setIfInBounds_toArray, List.set_cons_zero, List.set_cons_succ]
    refine wpAnyH_take (i := 8) (oi := ⟨some 29, .fieldAddr 131 (.tmp 3) 1, _, _, _, none⟩) (v := ?vk6) rfl (by kernel_rfl) (by kernel_rfl) (by kernel_rfl) (fun _ _ _ h => h) (Or.inl ⟨by rfl, ?yk6⟩) (by assumption) ?rk6
    case yk6 => (intro w hSw; (try dsimp only at hSw); go_simp; first | done | with_reducible rfl)
    try simp only [Act.put, List.setIfInBounds_toArray, List.set_cons_zero, List.set_cons_succ]
    refine wpAnyH_ready (rs := [9]) (by kernel_rfl) (by simp) ?_
    refine AllReadyH.cons (o := ⟨none, .store 129 (.tmp 29) (.tmp 26), _, _, _, none⟩) rfl (fun K hK => ?_) AllReadyH.nil
    go_simp
    refine hK.out _ _ (by (try dsimp only); go_keep) (fun hHeld => ?_)
    clear hK K
    try simp only [Act.put, List.setIfInBounds_toArray, List.set_cons_zero, List.set_cons_succ]
    refine wpAnyH_take (i := 10) (oi := ⟨some 30, .fieldAddr 131 (.tmp 3) 2, _, _, _, none⟩) (v := ?vk7) rfl (by kernel_rfl) (by kernel_rfl) (by kernel_rfl) (fun _ _ _ h => h) (Or.inl ⟨by rfl, ?yk7⟩) (by assumption) ?rk7
    case yk7 => (intro w hSw; (try dsimp only at hSw); go_simp; first | done | with_reducible rfl)
    try simp only [Act.put, List.setIfInBounds_toArray, List.set_cons_zero, List.set_cons_succ]
    refine wpAnyH_ready (rs := [11]) (by kernel_rfl) (by simp) ?_
    refine AllReadyH.cons (o := ⟨none, .store 2 (.tmp 30) (.tmp 28), _, _, _, none⟩) rfl (fun K hK => ?_) AllReadyH.nil
    go_simp
    refine hK.out _ _ (by (try dsimp only); go_keep) (fun hHeld => ?_)
    clear hK K
    try simp only [Act.put, List.setIfInBounds_toArray, List.set_cons_zero, List.set_cons_succ]
    refine wpAnyH_done (by kernel_rfl) ?_ _
    refine NoPanic.normal ?_
    (go_wp2_with fail; exact bodyPost_ret (v := .agg (pubArr key 12 int ⟨#[]⟩ .nilIface)) (by simp [results, Tryz.results60, go_sem, pubArr]) rfl ⟨rfl, by go_grown⟩)
  · (go_simp; go_at_call 106; go_must (refine (sized_is 32 2 rfl _).mono ?_; rintro e w1 ⟨rfl, rfl⟩))
    refine hK.out _ _ (by (try dsimp only); go_keep) (fun hHeld => ?_)
    clear hK K
    try simp only [Act.put, List.setIfInBounds_toArray, List.set_cons_zero, List.set_cons_succ]
    refine wpAnyH_ready (rs := [0]) (by kernel_rfl) (by simp) ?_
    refine AllReadyH.cons (o := ⟨some 21, .buildSlice 230 4 #[(0, .const (.int .u8 14)), (1, .const (.int .u8 13)), (2, .const (.int .u8 12)), (3, .const (.int .u8 11))], _, _, _, none⟩) rfl (fun K hK => ?_) AllReadyH.nil
    go_simp
    refine hK.out _ _ (by (try dsimp only); go_keep) (fun hHeld => ?_)
    clear hK K
    try simp only [Act.put, List.setIfInBounds_toArray, List.set_cons_zero, List.set_cons_succ]
    refine wpAnyH_take (i := 4) (oi := ⟨some 25, .indexAddr 230 (.tmp 21) (.tmp 24), _, _, _, none⟩) (v := ?vk8) rfl (by kernel_rfl) (by kernel_rfl) (by kernel_rfl) (fun _ _ _ h => h) (Or.inl ⟨by rfl, ?yk8⟩) (by assumption) ?rk8
    case yk8 => (intro w hSw; (try dsimp only at hSw); go_simp; first | done | with_reducible rfl)
    try simp only [Act.put, List.setIfInBounds_toArray, List.set_cons_zero, List.set_cons_succ]
    refine wpAnyH_ready (rs := [5]) (by kernel_rfl) (by simp) ?_
    refine AllReadyH.cons (o := ⟨some 26, .load 129 (.tmp 25), _, _, _, none⟩) rfl (fun K hK => ?_) AllReadyH.nil
    go_simp
    refine hK.out _ _ (by (try dsimp only); go_keep) (fun hHeld => ?_)
    clear hK K
    try simp only [Act.put, List.setIfInBounds_toArray, List.set_cons_zero, List.set_cons_succ]
    refine wpAnyH_take (i := 8) (oi := ⟨some 29, .fieldAddr 131 (.tmp 3) 1, _, _, _, none⟩) (v := ?vk9) rfl (by kernel_rfl) (by kernel_rfl) (by kernel_rfl) (fun _ _ _ h => h) (Or.inl ⟨by rfl, ?yk9⟩) (by assumption) ?rk9
    case yk9 => (intro w hSw; (try dsimp only at hSw); go_simp; first | done | with_reducible rfl)
    try simp only [Act.put, List.setIfInBounds_toArray, List.set_cons_zero, List.set_cons_succ]
    refine wpAnyH_ready (rs := [9]) (by kernel_rfl) (by simp) ?_
    refine AllReadyH.cons (o := ⟨none, .store 129 (.tmp 29) (.tmp 26), _, _, _, none⟩) rfl (fun K hK => ?_) AllReadyH.nil
    go_simp
    refine hK.out _ _ (by (try dsimp only); go_keep) (fun hHeld => ?_)
    clear hK K
    try simp only [Act.put, List.setIfInBounds_toArray, List.set_cons_zero, List.set_cons_succ]
    refine wpAnyH_take (i := 10) (oi := ⟨some 30, .fieldAddr 131 (.tmp 3) 2, _, _, _, none⟩) (v := ?vk10) rfl (by kernel_rfl) (by kernel_rfl) (by kernel_rfl) (fun _ _ _ h => h) (Or.inl ⟨by rfl, ?yk10⟩) (by assumption) ?rk10
    case yk10 => (intro w hSw; (try dsimp only at hSw); go_simp; first | done | with_reducible rfl)
    try simp only [Act.put, List.setIfInBounds_toArray, List.set_cons_zero, List.set_cons_succ]
    refine wpAnyH_ready (rs := [11]) (by kernel_rfl) (by simp) ?_
    refine AllReadyH.cons (o := ⟨none, .store 2 (.tmp 30) (.tmp 28), _, _, _, none⟩) rfl (fun K hK => ?_) AllReadyH.nil
    go_simp
    refine hK.out _ _ (by (try dsimp only); go_keep) (fun hHeld => ?_)
    clear hK K
    try simp only [Act.put, List.setIfInBounds_toArray, List.set_cons_zero, List.set_cons_succ]
    refine wpAnyH_done (by kernel_rfl) ?_ _
    refine NoPanic.normal ?_
    (go_wp2_with fail; exact bodyPost_ret (v := .agg (pubArr key 12 int ⟨#[]⟩ .nilIface)) (by simp [results, Tryz.results60, go_sem, pubArr]) rfl ⟨rfl, by go_grown⟩)
set_option maxHeartbeats 4000000 in
theorem of_uint32 (w : World) (f : Fld) (hk : f.kind = 3) (hw : f.width = 32) : Calls Tryz.prog 60 #[.agg f.arr] w (FieldIs w f.key 19 (wrap64 f.uint) ⟨#[]⟩ (.nilIface)) := by
  obtain ⟨kind, key, width, int, uint, re, im, text, bA, bn, bc, zero, nanos, offset, zone, iA, ilen, ic, fail⟩ := f
  simp only at hk hw
  subst hk
  subst hw
  go_enter Tryz.func60, Tryz.ntmps60
  go_wp2_with fail
  refine wp_region_noPanic ?_
  refine wp_region_held_drew (S := fun w' => w'.cell? ⟨w.heap.size, 2, none⟩ = some (.int .i64 32) ∧ w'.cell? ⟨w.heap.size, 4, none⟩ = some (.int .u64 uint)) (by kernel_rfl) (by (try dsimp only); go_keep) (fun hHeld => ?_)
  refine wpAnyH_take (i := 1) (oi := ⟨some 34, .fieldAddr 39 (.tmp 1) 2, _, _, _, none⟩) (v := ?vk1) rfl (by kernel_rfl) (by kernel_rfl) (by kernel_rfl) (fun _ _ _ h => h) (Or.inl ⟨by rfl, ?yk1⟩) (by assumption) ?rk1
  case yk1 => (intro w hSw; (try dsimp only at hSw); go_simp; first | done | with_reducible rfl)
  try simp only [Act.put, List.setIfInBounds_toArray, List.set_cons_zero, List.set_cons_succ]
  refine wpAnyH_take (i := 2) (oi := ⟨some 35, .load 3 (.tmp 34), _, _, _, none⟩) (v := ?vk2) rfl (by kernel_rfl) (by kernel_rfl) (by kernel_rfl) (fun _ _ _ h => h) (Or.inl ⟨by rfl, ?yk2⟩) (by assumption) ?rk2
  case yk2 => (intro w hSw; (try dsimp only at hSw); go_simp; first | done | with_reducible rfl)
  try simp only [Act.put, List.setIfInBounds_toArray, List.set_cons_zero, List.set_cons_succ]
  refine wpAnyH_take (i := 6) (oi := ⟨some 39, .fieldAddr 39 (.tmp 1) 4, _, _, _, none⟩) (v := ?vk3) rfl (by kernel_rfl) (by kernel_rfl) (by kernel_rfl) (fun _ _ _ h => h) (Or.inl ⟨by rfl, ?yk3⟩) (by assumption) ?rk3
  case yk3 => (intro w hSw; (try dsimp only at hSw); go_simp; first | done | with_reducible rfl)
  try simp only [Act.put, List.setIfInBounds_toArray, List.set_cons_zero, List.set_cons_succ]
  refine wpAnyH_take (i := 7) (oi := ⟨some 40, .load 35 (.tmp 39), _, _, _, none⟩) (v := ?vk4) rfl (by kernel_rfl) (by kernel_rfl) (by kernel_rfl) (fun _ _ _ h => h) (Or.inl ⟨by rfl, ?yk4⟩) (by assumption) ?rk4
  case yk4 => (intro w hSw; (try dsimp only at hSw); go_simp; first | done | with_reducible rfl)
  try simp only [Act.put, List.setIfInBounds_toArray, List.set_cons_zero, List.set_cons_succ]
  refine wpAnyH_take (i := 8) (oi := ⟨some 41, .convert 35 2 (.tmp 40), _, _, _, none⟩) (v := ?vk5) rfl (by kernel_rfl) (by kernel_rfl) (by kernel_rfl) (fun _ _ _ h => h) (Or.inl ⟨by rfl, ?yk5⟩) (by assumption) ?rk5
  case yk5 => (intro w hSw; (try dsimp only at hSw); go_simp; first | done | with_reducible rfl)
  try simp only [Act.put, List.setIfInBounds_toArray, List.set_cons_zero, List.set_cons_succ]
  refine wpAnyH_ready (rs := [0, 3]) (by kernel_rfl) (by simp) ?_
  refine AllReadyH.cons (o := ⟨some 33, .buildSlice 230 4 #[(0, .const (.int .u8 21)), (1, .const (.int .u8 20)), (2, .const (.int .u8 19)), (3, .const (.int .u8 18))], _, _, _, none⟩) rfl (fun K hK => ?_) (AllReadyH.cons (o := ⟨some 36, .call { callee := .value (.func 106), args := #[.tmp 35], argTypes := #[3] }, _, _, _, none⟩) rfl (fun K hK => ?_) AllReadyH.nil)
  · go_simp
    refine hK.out _ _ (by (try dsimp only); go_keep) (fun hHeld => ?_)
    clear hK K
    try simp only [Act.put, List.setIfInBounds_toArray, List.set_cons_zero, List.set_cons_succ]
    refine wpAnyH_ready (rs := [3]) (by kernel_rfl) (by simp) ?_
    refine AllReadyH.cons (o := ⟨some 36, .call { callee := .value (.func 106), args := #[.tmp 35], argTypes := #[3] }, _, _, _, none⟩) rfl (fun K hK => ?_) AllReadyH.nil
    (go_simp; go_at_call 106; go_must (refine (sized_is 32 2 rfl _).mono ?_; rintro e w1 ⟨rfl, rfl⟩))
    refine hK.out _ _ (by (try dsimp only); go_keep) (fun hHeld => ?_)
    clear hK K
    try simp only [Act.put, List.setIfInBounds_toArray, List.set_cons_zero, List.set_cons_succ]
    refine wpAnyH_take (i := 4) (oi := ⟨some 37, .indexAddr 230 (.tmp 33) (.tmp 36), _, _, _, none⟩) (v := ?vk6) rfl (by kernel_rfl) (by kernel_rfl) (by kernel_rfl) (fun _ _ _ h => h) (Or.inl ⟨by rfl, ?yk6⟩) (by assumption) ?rk6
    case yk6 => (intro w hSw; (try dsimp only at hSw); go_simp; first | done | with_reducible rfl)
    try simp only [Act.put, List.setIfInBounds_toArray, List.set_cons_zero, List.set_cons_succ]
    refine wpAnyH_ready (rs := [5]) (by kernel_rfl) (by simp) ?_
    refine AllReadyH.cons (o := ⟨some 38, .load 129 (.tmp 37), _, _, _, none⟩) rfl (fun K hK => ?_) AllReadyH.nil
    go_simp
    refine hK.out _ _ (by (try dsimp only); go_keep) (fun hHeld => ?_)
    clear hK K
    try simp only [Act.put, List.setIfInBounds_toArray, List.set_cons_zero, List.set_cons_succ]
    refine wpAnyH_take (i := 9) (oi := ⟨some 42, .fieldAddr 131 (.tmp 3) 1, _, _, _, none⟩) (v := ?vk7) rfl (by kernel_rfl) (by kernel_rfl) (by kernel_rfl) (fun _ _ _ h => h) (Or.inl ⟨by rfl, ?yk7⟩) (by assumption) ?rk7
    case yk7 => (intro w hSw; (try dsimp only at hSw); go_simp; first | done | with_reducible rfl)
    try simp only [Act.put, List.setIfInBounds_toArray, List.set_cons_zero, List.set_cons_succ]
    refine wpAnyH_ready (rs := [10]) (by kernel_rfl) (by simp) ?_
    refine AllReadyH.cons (o := ⟨none, .store 129 (.tmp 42) (.tmp 38), _, _, _, none⟩) rfl (fun K hK => ?_) AllReadyH.nil
    go_simp
    refine hK.out _ _ (by (try dsimp only); go_keep) (fun hHeld => ?_)
    clear hK K
    try simp only [Act.put, List.setIfInBounds_toArray, List.set_cons_zero, List.set_cons_succ]
    refine wpAnyH_take (i := 11) (oi := ⟨some 43, .fieldAddr 131 (.tmp 3) 2, _, _, _, none⟩) (v := ?vk8) rfl (by kernel_rfl) (by kernel_rfl) (by kernel_rfl) (fun _ _ _ h => h) (Or.inl ⟨by rfl, ?yk8⟩) (by assumption) ?rk8
    case yk8 => (intro w hSw; (try dsimp only at hSw); go_simp; first | done | with_reducible rfl)
    try simp only [Act.put, List.setIfInBounds_toArray, List.set_cons_zero, List.set_cons_succ]
    refine wpAnyH_ready (rs := [12]) (by kernel_rfl) (by simp) ?_
    refine AllReadyH.cons (o := ⟨none, .store 2 (.tmp 43) (.tmp 41), _, _, _, none⟩) rfl (fun K hK => ?_) AllReadyH.nil
    go_simp
    refine hK.out _ _ (by (try dsimp only); go_keep) (fun hHeld => ?_)
    clear hK K
    try simp only [Act.put, List.setIfInBounds_toArray, List.set_cons_zero, List.set_cons_succ]
    refine wpAnyH_done (by kernel_rfl) ?_ _
    refine NoPanic.normal ?_
    (go_wp2_with fail; exact bodyPost_ret (v := .agg (pubArr key 19 (wrap64 uint) ⟨#[]⟩ .nilIface)) (by simp [results, Tryz.results60, go_sem, pubArr]) rfl ⟨rfl, by go_grown⟩)
  · (go_simp; go_at_call 106; go_must (refine (sized_is 32 2 rfl _).mono ?_; rintro e w1 ⟨rfl, rfl⟩))
    refine hK.out _ _ (by (try dsimp only); go_keep) (fun hHeld => ?_)
    clear hK K
    try simp only [Act.put, List.setIfInBounds_toArray, List.set_cons_zero, List.set_cons_succ]
    refine wpAnyH_ready (rs := [0]) (by kernel_rfl) (by simp) ?_
    refine AllReadyH.cons (o := ⟨some 33, .buildSlice 230 4 #[(0, .const (.int .u8 21)), (1, .const (.int .u8 20)), (2, .const (.int .u8 19)), (3, .const (.int .u8 18))], _, _, _, none⟩) rfl (fun K hK => ?_) AllReadyH.nil
    go_simp
    refine hK.out _ _ (by (try dsimp only); go_keep) (fun hHeld => ?_)
    clear hK K
    try simp only [Act.put, List.setIfInBounds_toArray, List.set_cons_zero, List.set_cons_succ]
    refine wpAnyH_take (i := 4) (oi := ⟨some 37, .indexAddr 230 (.tmp 33) (.tmp 36), _, _, _, none⟩) (v := ?vk9) rfl (by kernel_rfl) (by kernel_rfl) (by kernel_rfl) (fun _ _ _ h => h) (Or.inl ⟨by rfl, ?yk9⟩) (by assumption) ?rk9
    case yk9 => (intro w hSw; (try dsimp only at hSw); go_simp; first | done | with_reducible rfl)
    try simp only [Act.put, List.setIfInBounds_toArray, List.set_cons_zero, List.set_cons_succ]
    refine wpAnyH_ready (rs := [5]) (by kernel_rfl) (by simp) ?_
    refine AllReadyH.cons (o := ⟨some 38, .load 129 (.tmp 37), _, _, _, none⟩) rfl (fun K hK => ?_) AllReadyH.nil
    go_simp
    refine hK.out _ _ (by (try dsimp only); go_keep) (fun hHeld => ?_)
    clear hK K
    try simp only [Act.put, List.setIfInBounds_toArray, List.set_cons_zero, List.set_cons_succ]
    refine wpAnyH_take (i := 9) (oi := ⟨some 42, .fieldAddr 131 (.tmp 3) 1, _, _, _, none⟩) (v := ?vk10) rfl (by kernel_rfl) (by kernel_rfl) (by kernel_rfl) (fun _ _ _ h => h) (Or.inl ⟨by rfl, ?yk10⟩) (by assumption) ?rk10
    case yk10 => (intro w hSw; (try dsimp only at hSw); go_simp; first | done | with_reducible rfl)
    try simp only [Act.put, List.setIfInBounds_toArray, List.set_cons_zero, List.set_cons_succ]
    refine wpAnyH_ready (rs := [10]) (by kernel_rfl) (by simp) ?_
    refine AllReadyH.cons (o := ⟨none, .store 129 (.tmp 42) (.tmp 38), _, _, _, none⟩) rfl (fun K hK => ?_) AllReadyH.nil
    go_simp
    refine hK.out _ _ (by (try dsimp only); go_keep) (fun hHeld => ?_)
    clear hK K
    try simp only [Act.put, List.setIfInBounds_toArray, List.set_cons_zero, List.set_cons_succ]
    refine wpAnyH_take (i := 11) (oi := ⟨some 43, .fieldAddr 131 (.tmp 3) 2, _, _, _, none⟩) (v := ?vk11) rfl (by kernel_rfl) (by kernel_rfl) (by kernel_rfl) (fun _ _ _ h => h) (Or.inl ⟨by rfl, ?yk11⟩) (by assumption) ?rk11
    case yk11 => (intro w hSw; (try dsimp only at hSw); go_simp; first | done | with_reducible rfl)
    try simp only [Act.put, List.setIfInBounds_toArray, List.set_cons_zero, List.set_cons_succ]
    refine wpAnyH_ready (rs := [12]) (by kernel_rfl) (by simp) ?_
    refine AllReadyH.cons (o := ⟨none, .store 2 (.tmp 43) (.tmp 41), _, _, _, none⟩) rfl (fun K hK => ?_) AllReadyH.nil
    go_simp
    refine hK.out _ _ (by (try dsimp only); go_keep) (fun hHeld => ?_)
    clear hK K
    try simp only [Act.put, List.setIfInBounds_toArray, List.set_cons_zero, List.set_cons_succ]
    refine wpAnyH_done (by kernel_rfl) ?_ _
    refine NoPanic.normal ?_
    (go_wp2_with fail; exact bodyPost_ret (v := .agg (pubArr key 19 (wrap64 uint) ⟨#[]⟩ .nilIface)) (by simp [results, Tryz.results60, go_sem, pubArr]) rfl ⟨rfl, by go_grown⟩)
set_option maxHeartbeats 4000000 in
theorem of_int64 (w : World) (f : Fld) (hk : f.kind = 2) (hw : f.width = 64) : Calls Tryz.prog 60 #[.agg f.arr] w (FieldIs w f.key 11 f.int ⟨#[]⟩ (.nilIface)) := by
  obtain ⟨kind, key, width, int, uint, re, im, text, bA, bn, bc, zero, nanos, offset, zone, iA, ilen, ic, fail⟩ := f
  simp only at hk hw
  subst hk
  subst hw
  go_enter Tryz.func60, Tryz.ntmps60
  go_wp2_with fail
  refine wp_region_noPanic ?_
  refine wp_region_held_drew (S := fun w' => w'.cell? ⟨w.heap.size, 2, none⟩ = some (.int .i64 64) ∧ w'.cell? ⟨w.heap.size, 3, none⟩ = some (.int .i64 int)) (by kernel_rfl) (by (try dsimp only); go_keep) (fun hHeld => ?_)
  refine wpAnyH_take (i := 1) (oi := ⟨some 22, .fieldAddr 39 (.tmp 1) 2, _, _, _, none⟩) (v := ?vk1) rfl (by kernel_rfl) (by kernel_rfl) (by kernel_rfl) (fun _ _ _ h => h) (Or.inl ⟨by rfl, ?yk1⟩) (by assumption) ?rk1
  case yk1 => (intro w hSw; (try dsimp only at hSw); go_simp; first | done | with_reducible rfl)
  try simp only [Act.put, List.setIfInBounds_toArray, List.set_cons_zero, List.set_cons_succ]
  refine wpAnyH_take (i := 2) (oi := ⟨some 23, .load 3 (.tmp 22), _, _, _, none⟩) (v := ?vk2) rfl (by kernel_rfl) (by kernel_rfl) (by kernel_rfl) (fun _ _ _ h => h) (Or.inl ⟨by rfl, ?yk2⟩) (by assumption) ?rk2
  case yk2 => (intro w hSw; (try dsimp only at hSw); go_simp; first | done | with_reducible rfl)
  try simp only [Act.put, List.setIfInBounds_toArray, List.set_cons_zero, List.set_cons_succ]
  refine wpAnyH_take (i := 6) (oi := ⟨some 27, .fieldAddr 39 (.tmp 1) 3, _, _, _, none⟩) (v := ?vk3) rfl (by kernel_rfl) (by kernel_rfl) (by kernel_rfl) (fun _ _ _ h => h) (Or.inl ⟨by rfl, ?yk3⟩) (by assumption) ?rk3
  case yk3 => (intro w hSw; (try dsimp only at hSw); go_simp; first | done | with_reducible rfl)
  try simp only [Act.put, List.setIfInBounds_toArray, List.set_cons_zero, List.set_cons_succ]
  refine wpAnyH_take (i := 7) (oi := ⟨some 28, .load 2 (.tmp 27), _, _, _, none⟩) (v := ?vk4) rfl (by kernel_rfl) (by kernel_rfl) (by kernel_rfl) (fun _ _ _ h => h) (Or.inl ⟨by rfl, ?yk4⟩) (by assumption) ?rk4
  case yk4 => (intro w hSw; (try dsimp only at hSw); go_simp; first | done | with_reducible rfl)
  try simp only [Act.put, List.setIfInBounds_toArray, List.set_cons_zero, List.set_cons_succ]
  refine wpAnyH_ready (rs := [0, 3]) (by kernel_rfl) (by simp) ?_
  refine AllReadyH.cons (o := ⟨some 21, .buildSlice 230 4 #[(0, .const (.int .u8 14)), (1, .const (.int .u8 13)), (2, .const (.int .u8 12)), (3, .const (.int .u8 11))], _, _, _, none⟩) rfl (fun K hK => ?_) (AllReadyH.cons (o := ⟨some 24, .call { callee := .value (.func 106), args := #[.tmp 23], argTypes := #[3] }, _, _, _, none⟩) rfl (fun K hK => ?_) AllReadyH.nil)
  · go_simp
    refine hK.out _ _ (by (try dsimp only); go_keep) (fun hHeld => ?_)
    clear hK K
    try simp only [Act.put, List.setIfInBounds_toArray, List.set_cons_zero, List.set_cons_succ]
    refine wpAnyH_ready (rs := [3]) (by kernel_rfl) (by simp) ?_
    refine AllReadyH.cons (o := ⟨some 24, .call { callee := .value (.func 106), args := #[.tmp 23], argTypes := #[3] }, _, _, _, none⟩) rfl (fun K hK => ?_) AllReadyH.nil
    (go_simp; go_at_call 106; go_must (refine (sized_is 64 3 rfl _).mono ?_; rintro e w1 ⟨rfl, rfl⟩))
    refine hK.out _ _ (by (try dsimp only); go_keep) (fun hHeld => ?_)
    clear hK K
    try simp only [Act.put, List.setIfInBounds_toArray, List.set_cons_zero, List.set_cons_succ]
    refine wpAnyH_take (i := 4) (oi := ⟨some 25, .indexAddr 230 (.tmp 21) (.tmp 24), _, _, _, none⟩) (v := ?vk5) rfl (by kernel_rfl) (by kernel_rfl) (by kernel_rfl) (fun _ _ _ h => h) (Or.inl ⟨by rfl, ?yk5⟩) (by assumption) ?rk5
    case yk5 => (intro w hSw; (try dsimp only at hSw); go_simp; first | done | with_reducible rfl)
    try simp only [Act.put, List.setIfInBounds_toArray, List.set_cons_zero, List.set_cons_succ]
    refine wpAnyH_ready (rs := [5]) (by kernel_rfl) (by simp) ?_
    refine AllReadyH.cons (o := ⟨some 26, .load 129 (.tmp 25), _, _, _, none⟩) rfl (fun K hK => ?_) AllReadyH.nil
    go_simp
    refine hK.out _ _ (by (try dsimp only); go_keep) (fun hHeld => ?_)
    clear hK K
    try simp only [Act.put, List.setIfInBounds_toArray, List.set_cons_zero, List.set_cons_succ]
    refine wpAnyH_take (i := 8) (oi := ⟨some 29, .fieldAddr 131 (.tmp 3) 1, _, _, _, none⟩) (v := ?vk6) rfl (by kernel_rfl) (by kernel_rfl) (by kernel_rfl) (fun _ _ _ h => h) (Or.inl ⟨by rfl, ?yk6⟩) (by assumption) ?rk6
    case yk6 => (intro w hSw; (try dsimp only at hSw); go_simp; first | done | with_reducible rfl)
    try simp only [Act.put, List.setIfInBounds_toArray, List.set_cons_zero, List.set_cons_succ]
    refine wpAnyH_ready (rs := [9]) (by kernel_rfl) (by simp) ?_
    refine AllReadyH.cons (o := ⟨none, .store 129 (.tmp 29) (.tmp 26), _, _, _, none⟩) rfl (fun K hK => ?_) AllReadyH.nil
    go_simp
    refine hK.out _ _ (by (try dsimp only); go_keep) (fun hHeld => ?_)
    clear hK K
    try simp only [Act.put, List.setIfInBounds_toArray, List.set_cons_zero, List.set_cons_succ]
    refine wpAnyH_take (i := 10) (oi := ⟨some 30, .fieldAddr 131 (.tmp 3) 2, _, _, _, none⟩) (v := ?vk7) rfl (by kernel_rfl) (by kernel_rfl) (by kernel_rfl) (fun _ _ _ h => h) (Or.inl ⟨by rfl, ?yk7⟩) (by assumption) ?rk7
    case yk7 => (intro w hSw; (try dsimp only at hSw); go_simp; first | done | with_reducible rfl)
    try simp only [Act.put, List.setIfInBounds_toArray, List.set_cons_zero, List.set_cons_succ]
    refine wpAnyH_ready (rs := [11]) (by kernel_rfl) (by simp) ?_
    refine AllReadyH.cons (o := ⟨none, .store 2 (.tmp 30) (.tmp 28), _, _, _, none⟩) rfl (fun K hK => ?_) AllReadyH.nil
    go_simp
    refine hK.out _ _ (by (try dsimp only); go_keep) (fun hHeld => ?_)
    clear hK K
    try simp only [Act.put, List.setIfInBounds_toArray, List.set_cons_zero, List.set_cons_succ]
    refine wpAnyH_done (by kernel_rfl) ?_ _
    refine NoPanic.normal ?_
    (go_wp2_with fail; exact bodyPost_ret (v := .agg (pubArr key 11 int ⟨#[]⟩ .nilIface)) (by simp [results, Tryz.results60, go_sem, pubArr]) rfl ⟨rfl, by go_grown⟩)
  · (go_simp; go_at_call 106; go_must (refine (sized_is 64 3 rfl _).mono ?_; rintro e w1 ⟨rfl, rfl⟩))
    refine hK.out _ _ (by (try dsimp only); go_keep) (fun hHeld => ?_)
    clear hK K
    try simp only [Act.put, List.setIfInBounds_toArray, List.set_cons_zero, List.set_cons_succ]
    refine wpAnyH_ready (rs := [0]) (by kernel_rfl) (by simp) ?_
    refine AllReadyH.cons (o := ⟨some 21, .buildSlice 230 4 #[(0, .const (.int .u8 14)), (1, .const (.int .u8 13)), (2, .const (.int .u8 12)), (3, .const (.int .u8 11))], _, _, _, none⟩) rfl (fun K hK => ?_) AllReadyH.nil
    go_simp
    refine hK.out _ _ (by (try dsimp only); go_keep) (fun hHeld => ?_)
    clear hK K
    try simp only [Act.put, List.setIfInBounds_toArray, List.set_cons_zero, List.set_cons_succ]
    refine wpAnyH_take (i := 4) (oi := ⟨some 25, .indexAddr 230 (.tmp 21) (.tmp 24), _, _, _, none⟩) (v := ?vk8) rfl (by kernel_rfl) (by kernel_rfl) (by kernel_rfl) (fun _ _ _ h => h) (Or.inl ⟨by rfl, ?yk8⟩) (by assumption) ?rk8
    case yk8 => (intro w hSw; (try dsimp only at hSw); go_simp; first | done | with_reducible rfl)
    try simp only [Act.put, List.setIfInBounds_toArray, List.set_cons_zero, List.set_cons_succ]
    refine wpAnyH_ready (rs := [5]) (by kernel_rfl) (by simp) ?_
    refine AllReadyH.cons (o := ⟨some 26, .load 129 (.tmp 25), _, _, _, none⟩) rfl (fun K hK => ?_) AllReadyH.nil
    go_simp
    refine hK.out _ _ (by (try dsimp only); go_keep) (fun hHeld => ?_)
    clear hK K
    try simp only [Act.put, List.setIfInBounds_toArray, List.set_cons_zero, List.set_cons_succ]
    refine wpAnyH_take (i := 8) (oi := ⟨some 29, .fieldAddr 131 (.tmp 3) 1, _, _, _, none⟩) (v := ?vk9) rfl (by kernel_rfl) (by kernel_rfl) (by kernel_rfl) (fun _ _ _ h => h) (Or.inl ⟨by rfl, ?yk9⟩) (by assumption) ?rk9
    case yk9 => (intro w hSw; (try dsimp only at hSw); go_simp; first | done | with_reducible rfl)
    try simp only [Act.put, List.setIfInBounds_toArray, List.set_cons_zero, List.set_cons_succ]
    refine wpAnyH_ready (rs := [9]) (by kernel_rfl) (by simp) ?_
    refine AllReadyH.cons (o := ⟨none, .store 129 (.tmp 29) (.tmp 26), _, _, _, none⟩) rfl (fun K hK => ?_) AllReadyH.nil
    go_simp
    refine hK.out _ _ (by (try dsimp only); go_keep) (fun hHeld => ?_)
    clear hK K
    try simp only [Act.put, List.setIfInBounds_toArray, List.set_cons_zero, List.set_cons_succ]
    refine wpAnyH_take (i := 10) (oi := ⟨some 30, .fieldAddr 131 (.tmp 3) 2, _, _, _, none⟩) (v := ?vk10) rfl (by kernel_rfl) (by kernel_rfl) (by kernel_rfl) (fun _ _ _ h => h) (Or.inl ⟨by rfl, ?yk10⟩) (by assumption) ?rk10
    case yk10 => (intro w hSw; (try dsimp only at hSw); go_simp; first | done | with_reducible rfl)
    try simp only [Act.put, List.setIfInBounds_toArray, List.set_cons_zero, List.set_cons_succ]
    refine wpAnyH_ready (rs := [11]) (by kernel_rfl) (by simp) ?_
    refine AllReadyH.cons (o := ⟨none, .store 2 (.tmp 30) (.tmp 28), _, _, _, none⟩) rfl (fun K hK => ?_) AllReadyH.nil
    go_simp
    refine hK.out _ _ (by (try dsimp only); go_keep) (fun hHeld => ?_)
    clear hK K
    try simp only [Act.put, List.setIfInBounds_toArray, List.set_cons_zero, List.set_cons_succ]
    refine wpAnyH_done (by kernel_rfl) ?_ _
    refine NoPanic.normal ?_
    (go_wp2_with fail; exact bodyPost_ret (v := .agg (pubArr key 11 int ⟨#[]⟩ .nilIface)) (by simp [results, Tryz.results60, go_sem, pubArr]) rfl ⟨rfl, by go_grown⟩)
set_option maxHeartbeats 4000000 in
theorem of_uint64 (w : World) (f : Fld) (hk : f.kind = 3) (hw : f.width = 64) : Calls Tryz.prog 60 #[.agg f.arr] w (FieldIs w f.key 18 (wrap64 f.uint) ⟨#[]⟩ (.nilIface)) := by
  obtain ⟨kind, key, width, int, uint, re, im, text, bA, bn, bc, zero, nanos, offset, zone, iA, ilen, ic, fail⟩ := f
  simp only at hk hw
  subst hk
  subst hw
  go_enter Tryz.func60, Tryz.ntmps60
  go_wp2_with fail
  refine wp_region_noPanic ?_
  refine wp_region_held_drew (S := fun w' => w'.cell? ⟨w.heap.size, 2, none⟩ = some (.int .i64 64) ∧ w'.cell? ⟨w.heap.size, 4, none⟩ = some (.int .u64 uint)) (by kernel_rfl) (by (try dsimp only); go_keep) (fun hHeld => ?_)
  refine wpAnyH_take (i := 1) (oi := ⟨some 34, .fieldAddr 39 (.tmp 1) 2, _, _, _, none⟩) (v := ?vk1) rfl (by kernel_rfl) (by kernel_rfl) (by kernel_rfl) (fun _ _ _ h => h) (Or.inl ⟨by rfl, ?yk1⟩) (by assumption) ?rk1
  case yk1 => (intro w hSw; (try dsimp only at hSw); go_simp; first | done | with_reducible rfl)
  try simp only [Act.put, List.setIfInBounds_toArray, List.set_cons_zero, List.set_cons_succ]
  refine wpAnyH_take (i := 2) (oi := ⟨some 35, .load 3 (.tmp 34), _, _, _, none⟩) (v := ?vk2) rfl (by kernel_rfl) (by kernel_rfl) (by kernel_rfl) (fun _ _ _ h => h) (Or.inl ⟨by rfl, ?yk2⟩) (by assumption) ?rk2
  case yk2 => (intro w hSw; (try dsimp only at hSw); go_simp; first | done | with_reducible rfl)
  try simp only [Act.put, List.setIfInBounds_toArray, List.set_cons_zero, List.set_cons_succ]
  refine wpAnyH_take (i := 6) (oi := ⟨some 39, .fieldAddr 39 (.tmp 1) 4, _, _, _, none⟩) (v := ?vk3) rfl (by kernel_rfl) (by kernel_rfl) (by kernel_rfl) (fun _ _ _ h => h) (Or.inl ⟨by rfl, ?yk3⟩) (by assumption) ?rk3
  case yk3 => (intro w hSw; (try dsimp only at hSw); go_simp; first | done | with_reducible rfl)
  try simp only [Act.put, List.setIfInBounds_toArray, List.set_cons_zero, List.set_cons_succ]
  refine wpAnyH_take (i := 7) (oi := ⟨some 40, .load 35 (.tmp 39), _, _, _, none⟩) (v := ?vk4) rfl (by kernel_rfl) (by kernel_rfl) (by kernel_rfl) (fun _ _ _ h => h) (Or.inl ⟨by rfl, ?yk4⟩) (by assumption) ?rk4
  case yk4 => (intro w hSw; (try dsimp only at hSw); go_simp; first | done | with_reducible rfl)
  try simp only [Act.put, List.setIfInBounds_toArray, List.set_cons_zero, List.set_cons_succ]
  refine wpAnyH_take (i := 8) (oi := ⟨some 41, .convert 35 2 (.tmp 40), _, _, _, none⟩) (v := ?vk5) rfl (by kernel_rfl) (by kernel_rfl) (by kernel_rfl) (fun _ _ _ h => h) (Or.inl ⟨by rfl, ?yk5⟩) (by assumption) ?rk5
  case yk5 => (intro w hSw; (try dsimp only at hSw); go_simp; first | done | with_reducible rfl)
  try simp only [Act.put, List.setIfInBounds_toArray, List.set_cons_zero, List.set_cons_succ]
  refine wpAnyH_ready (rs := [0, 3]) (by kernel_rfl) (by simp) ?_
  refine AllReadyH.cons (o := ⟨some 33, .buildSlice 230 4 #[(0, .const (.int .u8 21)), (1, .const (.int .u8 20)), (2, .const (.int .u8 19)), (3, .const (.int .u8 18))], _, _, _, none⟩) rfl (fun K hK => ?_) (AllReadyH.cons (o := ⟨some 36, .call { callee := .value (.func 106), args := #[.tmp 35], argTypes := #[3] }, _, _, _, none⟩) rfl (fun K hK => ?_) AllReadyH.nil)
  · go_simp
    refine hK.out _ _ (by (try dsimp only); go_keep) (fun hHeld => ?_)
    clear hK K
    try simp only [Act.put, List.setIfInBounds_toArray, List.set_cons_zero, List.set_cons_succ]
    refine wpAnyH_ready (rs := [3]) (by kernel_rfl) (by simp) ?_
    refine AllReadyH.cons (o := ⟨some 36, .call { callee := .value (.func 106), args := #[.tmp 35], argTypes := #[3] }, _, _, _, none⟩) rfl (fun K hK => ?_) AllReadyH.nil
    (go_simp; go_at_call 106; go_must (refine (sized_is 64 3 rfl _).mono ?_; rintro e w1 ⟨rfl, rfl⟩))
    refine hK.out _ _ (by (try dsimp only); go_keep) (fun hHeld => ?_)
    clear hK K
    try simp only [Act.put, List.setIfInBounds_toArray, List.set_cons_zero, List.set_cons_succ]
    refine wpAnyH_take (i := 4) (oi := ⟨some 37, .indexAddr 230 (.tmp 33) (.tmp 36), _, _, _, none⟩) (v := ?vk6) rfl (by kernel_rfl) (by kernel_rfl) (by kernel_rfl) (fun _ _ _ h => h) (Or.inl ⟨by rfl, ?yk6⟩) (by assumption) ?rk6
    case yk6 => (intro w hSw; (try dsimp only at hSw); go_simp; first | done | with_reducible rfl)
    try simp only [Act.put, List.setIfInBounds_toArray, List.set_cons_zero, List.set_cons_succ]
    refine wpAnyH_ready (rs := [5]) (by kernel_rfl) (by simp) ?_
    refine AllReadyH.cons (o := ⟨some 38, .load 129 (.tmp 37), _, _, _, none⟩) rfl (fun K hK => ?_) AllReadyH.nil
    go_simp
    refine hK.out _ _ (by (try dsimp only); go_keep) (fun hHeld => ?_)
    clear hK K
    try simp only [Act.put, List.setIfInBounds_toArray, List.set_cons_zero, List.set_cons_succ]
    refine wpAnyH_take (i := 9) (oi := ⟨some 42, .fieldAddr 131 (.tmp 3) 1, _, _, _, none⟩) (v := ?vk7) rfl (by kernel_rfl) (by kernel_rfl) (by kernel_rfl) (fun _ _ _ h => h) (Or.inl ⟨by rfl, ?yk7⟩) (by assumption) ?rk7
    case yk7 => (intro w hSw; (try dsimp only at hSw); go_simp; first | done | with_reducible rfl)
    try simp only [Act.put, List.setIfInBounds_toArray, List.set_cons_zero, List.set_cons_succ]
    refine wpAnyH_ready (rs := [10]) (by kernel_rfl) (by simp) ?_
    refine AllReadyH.cons (o := ⟨none, .store 129 (.tmp 42) (.tmp 38), _, _, _, none⟩) rfl (fun K hK => ?_) AllReadyH.nil
    go_simp
    refine hK.out _ _ (by (try dsimp only); go_keep) (fun hHeld => ?_)
    clear hK K
    try simp only [Act.put, List.setIfInBounds_toArray, List.set_cons_zero, List.set_cons_succ]
    refine wpAnyH_take (i := 11) (oi := ⟨some 43, .fieldAddr 131 (.tmp 3) 2, _, _, _, none⟩) (v := ?vk8) rfl (by kernel_rfl) (by kernel_rfl) (by kernel_rfl) (fun _ _ _ h => h) (Or.inl ⟨by rfl, ?yk8⟩) (by assumption) ?rk8
    case yk8 => (intro w hSw; (try dsimp only at hSw); go_simp; first | done | with_reducible rfl)
    try simp only [Act.put, List.setIfInBounds_toArray, List.set_cons_zero, List.set_cons_succ]
    refine wpAnyH_ready (rs := [12]) (by kernel_rfl) (by simp) ?_
    refine AllReadyH.cons (o := ⟨none, .store 2 (.tmp 43) (.tmp 41), _, _, _, none⟩) rfl (fun K hK => ?_) AllReadyH.nil
    go_simp
    refine hK.out _ _ (by (try dsimp only); go_keep) (fun hHeld => ?_)
    clear hK K
    try simp only [Act.put, List.setIfInBounds_toArray, List.set_cons_zero, List.set_cons_succ]
    refine wpAnyH_done (by kernel_rfl) ?_ _
    refine NoPanic.normal ?_
    (go_wp2_with fail; exact bodyPost_ret (v := .agg (pubArr key 18 (wrap64 uint) ⟨#[]⟩ .nilIface)) (by simp [results, Tryz.results60, go_sem, pubArr]) rfl ⟨rfl, by go_grown⟩)
  · (go_simp; go_at_call 106; go_must (refine (sized_is 64 3 rfl _).mono ?_; rintro e w1 ⟨rfl, rfl⟩))
    refine hK.out _ _ (by (try dsimp only); go_keep) (fun hHeld => ?_)
    clear hK K
    try simp only [Act.put, List.setIfInBounds_toArray, List.set_cons_zero, List.set_cons_succ]
    refine wpAnyH_ready (rs := [0]) (by kernel_rfl) (by simp) ?_
    refine AllReadyH.cons (o := ⟨some 33, .buildSlice 230 4 #[(0, .const (.int .u8 21)), (1, .const (.int .u8 20)), (2, .const (.int .u8 19)), (3, .const (.int .u8 18))], _, _, _, none⟩) rfl (fun K hK => ?_) AllReadyH.nil
    go_simp
    refine hK.out _ _ (by (try dsimp only); go_keep) (fun hHeld => ?_)
    clear hK K
    try simp only [Act.put, List.setIfInBounds_toArray, List.set_cons_zero, List.set_cons_succ]
    refine wpAnyH_take (i := 4) (oi := ⟨some 37, .indexAddr 230 (.tmp 33) (.tmp 36), _, _, _, none⟩) (v := ?vk9) rfl (by kernel_rfl) (by kernel_rfl) (by kernel_rfl) (fun _ _ _ h => h) (Or.inl ⟨by rfl, ?yk9⟩) (by assumption) ?rk9
    case yk9 => (intro w hSw; (try dsimp only at hSw); go_simp; first | done | with_reducible rfl)
    try simp only [Act.put, List.setIfInBounds_toArray, List.set_cons_zero, List.set_cons_succ]
    refine wpAnyH_ready (rs := [5]) (by kernel_rfl) (by simp) ?_
    refine AllReadyH.cons (o := ⟨some 38, .load 129 (.tmp 37), _, _, _, none⟩) rfl (fun K hK => ?_) AllReadyH.nil
    go_simp
    refine hK.out _ _ (by (try dsimp only); go_keep) (fun hHeld => ?_)
    clear hK K
    try simp only [Act.put, List.setIfInBounds_toArray, List.set_cons_zero, List.set_cons_succ]
    refine wpAnyH_take (i := 9) (oi := ⟨some 42, .fieldAddr 131 (.tmp 3) 1, _, _, _, none⟩) (v := ?vk10) rfl (by kernel_rfl) (by kernel_rfl) (by kernel_rfl) (fun _ _ _ h => h) (Or.inl ⟨by rfl, ?yk10⟩) (by assumption) ?rk10
    case yk10 => (intro w hSw; (try dsimp only at hSw); go_simp; first | done | with_reducible rfl)
    try simp only [Act.put, List.setIfInBounds_toArray, List.set_cons_zero, List.set_cons_succ]
    refine wpAnyH_ready (rs := [10]) (by kernel_rfl) (by simp) ?_
    refine AllReadyH.cons (o := ⟨none, .store 129 (.tmp 42) (.tmp 38), _, _, _, none⟩) rfl (fun K hK => ?_) AllReadyH.nil
    go_simp
    refine hK.out _ _ (by (try dsimp only); go_keep) (fun hHeld => ?_)
    clear hK K
    try simp only [Act.put, List.setIfInBounds_toArray, List.set_cons_zero, List.set_cons_succ]
    refine wpAnyH_take (i := 11) (oi := ⟨some 43, .fieldAddr 131 (.tmp 3) 2, _, _, _, none⟩) (v := ?vk11) rfl (by kernel_rfl) (by kernel_rfl) (by kernel_rfl) (fun _ _ _ h => h) (Or.inl ⟨by rfl, ?yk11⟩) (by assumption) ?rk11
    case yk11 => (intro w hSw; (try dsimp only at hSw); go_simp; first | done | with_reducible rfl)
    try simp only [Act.put, List.setIfInBounds_toArray, List.set_cons_zero, List.set_cons_succ]
    refine wpAnyH_ready (rs := [12]) (by kernel_rfl) (by simp) ?_
    refine AllReadyH.cons (o := ⟨none, .store 2 (.tmp 43) (.tmp 41), _, _, _, none⟩) rfl (fun K hK => ?_) AllReadyH.nil
    go_simp
    refine hK.out _ _ (by (try dsimp only); go_keep) (fun hHeld => ?_)
    clear hK K
    try simp only [Act.put, List.setIfInBounds_toArray, List.set_cons_zero, List.set_cons_succ]
    refine wpAnyH_done (by kernel_rfl) ?_ _
    refine NoPanic.normal ?_
    (go_wp2_with fail; exact bodyPost_ret (v := .agg (pubArr key 18 (wrap64 uint) ⟨#[]⟩ .nilIface)) (by simp [results, Tryz.results60, go_sem, pubArr]) rfl ⟨rfl, by go_grown⟩)
set_option maxHeartbeats 4000000 in
theorem of_uptr (w : World) (f : Fld) (hk : f.kind = 4) : Calls Tryz.prog 60 #[.agg f.arr] w (FieldIs w f.key 22 (wrap64 f.uint) ⟨#[]⟩ (.nilIface)) := by
  obtain ⟨kind, key, width, int, uint, re, im, text, bA, bn, bc, zero, nanos, offset, zone, iA, ilen, ic, fail⟩ := f
  simp only at hk 
  subst hk
  go_enter Tryz.func60, Tryz.ntmps60
  go_wp2_with fail
  go_region_held3 (fun w' => w'.cell? ⟨w.heap.size, 2, none⟩ = some (.int .i64 width) ∧ w'.cell? ⟨w.heap.size, 3, none⟩ = some (.int .i64 int) ∧ w'.cell? ⟨w.heap.size, 4, none⟩ = some (.int .u64 uint) ∧ w'.cell? ⟨w.heap.size, 5, none⟩ = some (.int .u64 re) ∧ w'.cell? ⟨w.heap.size, 7, none⟩ = some (.string text)) (go_keep) (fail)
  all_goals go_wp2_with fail
  all_goals exact bodyPost_ret (v := .agg (pubArr key 22 (wrap64 uint) ⟨#[]⟩ (.nilIface))) (by simp [results, Tryz.results60, go_sem, pubArr]) rfl ⟨rfl, by go_grown⟩
set_option maxHeartbeats 4000000 in
theorem of_str (w : World) (f : Fld) (hk : f.kind = 7) : Calls Tryz.prog 60 #[.agg f.arr] w (FieldIs w f.key 15 0 f.text (.nilIface)) := by
  obtain ⟨kind, key, width, int, uint, re, im, text, bA, bn, bc, zero, nanos, offset, zone, iA, ilen, ic, fail⟩ := f
  simp only at hk 
  subst hk
  go_enter Tryz.func60, Tryz.ntmps60
  go_wp2_with fail
  go_region_held3 (fun w' => w'.cell? ⟨w.heap.size, 2, none⟩ = some (.int .i64 width) ∧ w'.cell? ⟨w.heap.size, 3, none⟩ = some (.int .i64 int) ∧ w'.cell? ⟨w.heap.size, 4, none⟩ = some (.int .u64 uint) ∧ w'.cell? ⟨w.heap.size, 5, none⟩ = some (.int .u64 re) ∧ w'.cell? ⟨w.heap.size, 7, none⟩ = some (.string text)) (go_keep) (fail)
  all_goals go_wp2_with fail
  all_goals exact bodyPost_ret (v := .agg (pubArr key 15 0 text (.nilIface))) (by simp [results, Tryz.results60, go_sem, pubArr]) rfl ⟨rfl, by go_grown⟩
set_option maxHeartbeats 4000000 in
theorem of_dur (w : World) (f : Fld) (hk : f.kind = 10) : Calls Tryz.prog 60 #[.agg f.arr] w (FieldIs w f.key 8 f.int ⟨#[]⟩ (.nilIface)) := by
  obtain ⟨kind, key, width, int, uint, re, im, text, bA, bn, bc, zero, nanos, offset, zone, iA, ilen, ic, fail⟩ := f
  simp only at hk 
  subst hk
  go_enter Tryz.func60, Tryz.ntmps60
  go_wp2_with fail
  go_region_held3 (fun w' => w'.cell? ⟨w.heap.size, 2, none⟩ = some (.int .i64 width) ∧ w'.cell? ⟨w.heap.size, 3, none⟩ = some (.int .i64 int) ∧ w'.cell? ⟨w.heap.size, 4, none⟩ = some (.int .u64 uint) ∧ w'.cell? ⟨w.heap.size, 5, none⟩ = some (.int .u64 re) ∧ w'.cell? ⟨w.heap.size, 7, none⟩ = some (.string text)) (go_keep) (fail)
  all_goals go_wp2_with fail
  all_goals exact bodyPost_ret (v := .agg (pubArr key 8 int ⟨#[]⟩ (.nilIface))) (by simp [results, Tryz.results60, go_sem, pubArr]) rfl ⟨rfl, by go_grown⟩
end Go.Proofs.YtieidjlmgalihaaGreatDoor
