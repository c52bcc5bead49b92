/- Walks: the coordinates of a cell and of a range, at names of capital letters and digits with any dollar signs in between. -/
import Derived.Test.YtmcppajgfhmpaaaGreatDoorCellB
namespace Go.Proofs.YtmcppajgfhmpaaaGreatDoor.CellC
open Go.RowKit Go.Proofs.YtmcppajgfhmpaaaGreatDoorW.PrintWords Go.Proofs.YtmcppajgfhmpaaaGreatDoorW.PrintLast Go.Proofs.YtmcppajgfhmpaaaGreatDoorW.PrintMore
open Go.Proofs.YtmcppajgfhmpaaaGreatDoor.Str Go.Proofs.YtmcppajgfhmpaaaGreatDoor.CellA Go.Proofs.YtmcppajgfhmpaaaGreatDoor.CellB Go.Proofs.YtmcppajgfhmpaaaGreatDoor.Tac Go.Proofs.YtmcppajgfhmpaaaGreatDoor.PrangeRefToCoordinates

theorem info_int : (Tryz.prog.info? 3).map (fun i => (i.zero, i.size, i.bytes)) = some (some (.int .i64 0), 1, 8) := by kernel_rfl

set_option maxHeartbeats 2000000 in
set_option maxRecDepth 100000 in
theorem cellName (s : ByteArray) (ls ds : List Int) (h : IsCell s ls ds) (w : World) :
    Calls Tryz.prog 34 #[.string s] w fun e w' => e = .returned (.tuple #[.int .i64 (colVal ls), .int .i64 (rowVal ds), .nilIface]) ∧ Below w.heap.size w w' := by
  have H := Aside0.mk h
  have q1 : rowVal ds ≤ 1048576 := h.rmax
  clear h
  have HB := Aside0.mk (Below.refl w.heap.size w)
  go_enter Tryz.func34, Tryz.ntmps34
  go_wp2_with (first
    | (go_at_call 52; refine (splitName s ls ds H.out _).mono ?_; rintro e w1 ⟨⟨t, ht, rfl⟩, hb⟩; have HT := Aside0.mk ht; clear ht; (have n0_ := Aside0.mk (below_step (by repeat (first | (with_reducible first | exact HB.out | apply below_alloc | apply pw_below_drewN | apply below_drew1) | exact HB.out)) hb); clear HB; have HB := n0_; clear n0_ hb))
    | (go_at_call 54; refine (column t ls HT.out H.out.l1 H.out.l3 H.out.up H.out.cmax _).mono ?_; rintro e w2 ⟨rfl, ⟨nd, rfl⟩⟩))
  go_ret3
  exact ⟨by rfl, by repeat (first | (with_reducible first | exact HB.out | apply below_alloc | apply pw_below_drewN | apply below_drew1) | exact HB.out)⟩

set_option maxHeartbeats 2000000 in
set_option maxRecDepth 100000 in
theorem cellRefs (s s2 : ByteArray) (ls ds ls2 ds2 : List Int) (h : IsCell s ls ds) (h2 : IsCell s2 ls2 ds2) (w : World) :
    Calls Tryz.prog 50 #[.string s, .string s2] w fun e w' => ∃ v, e = .returned (.tuple #[v, .nilIface]) ∧ Kd.R (Kd.int .i64) 3 w' w.heap.size (fun _ => True) v [colVal ls, rowVal ds, colVal ls2, rowVal ds2] ∧ Below w.heap.size w w' := by
  have H := Aside0.mk h
  have H2 := Aside0.mk h2
  clear h h2
  have HB := Aside0.mk (Below.refl w.heap.size w)
  go_enter Tryz.func50, Tryz.ntmps50
  go_upto_region 3 with (first
    | ((with_reducible refine gate_dst (N := 8) rfl ?_); refine Kd.R_make (Kd.int .i64) _ 3 rfl (N := 8) rfl 36 _ _ rfl 4 rfl rfl Tryz.underlying36 (.int .i64 0) 8 info_int rfl (by decide) (by omega) 0 (ok := fun _ => True) (okp := fun _ => True) rfl (fun _ hk => hk) trivial (by decide) (by decide) (Below.refl _ _) (Nat.le_refl _) ?_; intro v1 w1 ho hb hg_ hnew_; clear hg_ hnew_; have HO := Aside0.mk ho; clear ho; (have n0_ := Aside0.mk (below_step (by repeat (first | (with_reducible first | exact HB.out | apply below_alloc | apply pw_below_drewN | apply below_drew1) | exact HB.out)) hb); clear HB; have HB := n0_; clear n0_ hb)))
  have ho : Kd.R (Kd.int .i64) 3 w1 w.heap.size (fun _ => True) v1 [0, 0, 0, 0] := HO.out
  clear HO
  have HO := Aside0.mk ho
  clear ho
  obtain ⟨g, c, ev, gb, gl, cl, HG⟩ := Kd.R_form HO.out (by simp)
  have ev' : v1 = .slice (some ⟨g, 0, none⟩) 4 c := ev
  clear ev
  subst ev'
  have GB := Aside0.mk gb
  clear gb gl HG cl
  go_upto_region 4 with (first
    | (go_at_call 34; refine (cellName s ls ds H.out _).mono ?_; rintro e w2 ⟨rfl, hb⟩; have HO2 := Aside0.mk (Kd.R_below HO.out hb); clear HO; have HO := HO2; clear HO2; (have n0_ := Aside0.mk (below_step (by repeat (first | (with_reducible first | exact HB.out | apply below_alloc | apply pw_below_drewN | apply below_drew1) | exact HB.out)) hb); clear HB; have HB := n0_; clear n0_ hb))
    | ((with_reducible refine gate_store (t := 3) (p := 17) rfl ?_); go_loud (refine store_event (t := 3) (p := 17) (v := ?vo_w3) (w1 := (w2.setCell ⟨g, (0 : Int).toNat, none⟩ (.int .i64 (colVal ls)))) ?hg ?ho ?hn ?hr ?_; (case ho => rfl); (case hg => rfl); (case hn => rfl); (case hr => have hc1 : w2.cell? ⟨g, 0, none⟩ = some _ := (Kd.R_celln 0 HO.out 0 (by decide) (by decide)).1; have hc2 : w2.frozen? ⟨g, 0, none⟩ = false := (Kd.R_celln 0 HO.out 0 (by decide) (by decide)).2; first | (go_simp; done) | (go_simp; rfl)); intro w3 hw; have hp_ : Kd.R (Kd.int .i64) 3 w3 w.heap.size (fun _ => True) (.slice (some ⟨g, 0, none⟩) 4 c) [colVal ls, 0, 0, 0] := (by rw [hw]; exact Kd.R_putn HO.out 0 (colVal ls)); have n0_ := Aside0.mk hp_; have n1_ := Aside0.mk ((by rw [hw]; exact below_set (by repeat (first | (with_reducible first | exact HB.out | apply below_alloc | apply pw_below_drewN | apply below_drew1) | exact HB.out)) GB.out : Below w.heap.size w w3)); clear HO HB hw hp_; have HO := n0_; have HB := n1_; clear n0_ n1_))
    | ((with_reducible refine gate_store (t := 3) (p := 18) rfl ?_); go_loud (refine store_event (t := 3) (p := 18) (v := ?vo_w4) (w1 := (w3.setCell ⟨g, (1 : Int).toNat, none⟩ (.int .i64 (rowVal ds)))) ?hg ?ho ?hn ?hr ?_; (case ho => rfl); (case hg => rfl); (case hn => rfl); (case hr => have hc1 : w3.cell? ⟨g, 1, none⟩ = some _ := (Kd.R_celln 0 HO.out 1 (by decide) (by decide)).1; have hc2 : w3.frozen? ⟨g, 1, none⟩ = false := (Kd.R_celln 0 HO.out 1 (by decide) (by decide)).2; first | (go_simp; done) | (go_simp; rfl)); intro w4 hw; have hp_ : Kd.R (Kd.int .i64) 3 w4 w.heap.size (fun _ => True) (.slice (some ⟨g, 0, none⟩) 4 c) [colVal ls, rowVal ds, 0, 0] := (by rw [hw]; exact Kd.R_putn HO.out 1 (rowVal ds)); have n0_ := Aside0.mk hp_; have n1_ := Aside0.mk ((by rw [hw]; exact below_set (by repeat (first | (with_reducible first | exact HB.out | apply below_alloc | apply pw_below_drewN | apply below_drew1) | exact HB.out)) GB.out : Below w.heap.size w w4)); clear HO HB hw hp_; have HO := n0_; have HB := n1_; clear n0_ n1_)))
  go_wp2_with (first
    | (go_at_call 34; refine (cellName s2 ls2 ds2 H2.out _).mono ?_; rintro e w5 ⟨rfl, hb⟩; have HO2 := Aside0.mk (Kd.R_below HO.out hb); clear HO; have HO := HO2; clear HO2; (have n0_ := Aside0.mk (below_step (by repeat (first | (with_reducible first | exact HB.out | apply below_alloc | apply pw_below_drewN | apply below_drew1) | exact HB.out)) hb); clear HB; have HB := n0_; clear n0_ hb))
    | ((with_reducible refine gate_store (t := 3) (p := 31) rfl ?_); go_loud (refine store_event (t := 3) (p := 31) (v := ?vo_w6) (w1 := (w5.setCell ⟨g, (2 : Int).toNat, none⟩ (.int .i64 (colVal ls2)))) ?hg ?ho ?hn ?hr ?_; (case ho => rfl); (case hg => rfl); (case hn => rfl); (case hr => have hc1 : w5.cell? ⟨g, 2, none⟩ = some _ := (Kd.R_celln 0 HO.out 2 (by decide) (by decide)).1; have hc2 : w5.frozen? ⟨g, 2, none⟩ = false := (Kd.R_celln 0 HO.out 2 (by decide) (by decide)).2; first | (go_simp; done) | (go_simp; rfl)); intro w6 hw; have hp_ : Kd.R (Kd.int .i64) 3 w6 w.heap.size (fun _ => True) (.slice (some ⟨g, 0, none⟩) 4 c) [colVal ls, rowVal ds, colVal ls2, 0] := (by rw [hw]; exact Kd.R_putn HO.out 2 (colVal ls2)); have n0_ := Aside0.mk hp_; have n1_ := Aside0.mk ((by rw [hw]; exact below_set (by repeat (first | (with_reducible first | exact HB.out | apply below_alloc | apply pw_below_drewN | apply below_drew1) | exact HB.out)) GB.out : Below w.heap.size w w6)); clear HO HB hw hp_; have HO := n0_; have HB := n1_; clear n0_ n1_))
    | ((with_reducible refine gate_store (t := 3) (p := 32) rfl ?_); go_loud (refine store_event (t := 3) (p := 32) (v := ?vo_w7) (w1 := (w6.setCell ⟨g, (3 : Int).toNat, none⟩ (.int .i64 (rowVal ds2)))) ?hg ?ho ?hn ?hr ?_; (case ho => rfl); (case hg => rfl); (case hn => rfl); (case hr => have hc1 : w6.cell? ⟨g, 3, none⟩ = some _ := (Kd.R_celln 0 HO.out 3 (by decide) (by decide)).1; have hc2 : w6.frozen? ⟨g, 3, none⟩ = false := (Kd.R_celln 0 HO.out 3 (by decide) (by decide)).2; first | (go_simp; done) | (go_simp; rfl)); intro w7 hw; have hp_ : Kd.R (Kd.int .i64) 3 w7 w.heap.size (fun _ => True) (.slice (some ⟨g, 0, none⟩) 4 c) [colVal ls, rowVal ds, colVal ls2, rowVal ds2] := (by rw [hw]; exact Kd.R_putn HO.out 3 (rowVal ds2)); have n0_ := Aside0.mk hp_; have n1_ := Aside0.mk ((by rw [hw]; exact below_set (by repeat (first | (with_reducible first | exact HB.out | apply below_alloc | apply pw_below_drewN | apply below_drew1) | exact HB.out)) GB.out : Below w.heap.size w w7)); clear HO HB hw hp_; have HO := n0_; have HB := n1_; clear n0_ n1_)))
  go_ret2
  exact ⟨_, by rfl, HO.out, by repeat (first | (with_reducible first | exact HB.out | apply below_alloc | apply pw_below_drewN | apply below_drew1) | exact HB.out)⟩

set_option maxHeartbeats 2000000 in
set_option maxRecDepth 100000 in
theorem rangeRef (r s s2 : ByteArray) (ls ds ls2 ds2 : List Int) (h : IsCell s ls ds) (h2 : IsCell s2 ls2 ds2) (hsz : r.size ≤ 1000) (hs : (bytesOf r).filter (fun x => x != 36) = bytesOf s ++ 58 :: bytesOf s2) (w : World) :
    Calls Tryz.prog 32 #[.string r] w fun e w' => ∃ v, e = .returned (.tuple #[v, .nilIface]) ∧ Kd.R (Kd.int .i64) 3 w' w.heap.size (fun _ => True) v [colVal ls, rowVal ds, colVal ls2, rowVal ds2] ∧ Below w.heap.size w w' := by
  have hrep : excelize_zzReplaceAll.f 2000002 r ⟨#[36]⟩ ⟨#[]⟩ = some (s ++ ⟨#[58]⟩ ++ s2) := by
    rw [strike r ⟨#[36]⟩ ⟨#[]⟩ 36 rfl rfl (by omega) 2000002 (Nat.le_refl _)]
    have e : (bytesOf r).filter (fun x => decide (x ≠ 36)) = bytesOf (s ++ ⟨#[58]⟩ ++ s2) := by
      rw [bytes_append, bytes_append, show bytesOf (⟨#[58]⟩ : ByteArray) = [58] from rfl, List.append_assoc, List.singleton_append, ← hs]
      congr 1
      funext x
      by_cases hx : x = 36 <;> simp [hx]
    rw [e, bytes_str]
  have hn : ∀ (t : ByteArray) (ls ds : List Int), IsCell t ls ds → (58 : Int) ∉ bytesOf t ∧ t.size ≤ 13 := by
    intro t ls ds ht
    refine ⟨fun hm => ?_, ?_⟩
    · rw [ht.all, List.mem_append] at hm
      rcases hm with hm | hm
      · have := ht.up _ hm; omega
      · have := ht.dig _ hm; omega
    · have := congrArg List.length ht.all
      rw [bytesOf_length, List.length_append] at this
      have := ht.l3
      have := ht.d10
      omega
  obtain ⟨k, hk⟩ : ∃ k, k = 1000001 := ⟨_, rfl⟩
  have hz : (s ++ (⟨#[58]⟩ : ByteArray) ++ s2).size ≤ 1000000 := by
    rw [ByteArray.size_append, ByteArray.size_append]
    have := (hn s ls ds h).2
    have := (hn s2 ls2 ds2 h2).2
    have : (⟨#[58]⟩ : ByteArray).size = 1 := rfl
    omega
  have hsp := split_two s s2 ⟨#[58]⟩ 58 rfl (hn s ls ds h).1 (hn s2 ls2 ds2 h2).1 hz k (by omega)
  have A1 := Aside0.mk hrep
  have A2 := Aside0.mk hsp
  have H := Aside0.mk h
  have H2 := Aside0.mk h2
  clear hrep hn hz hsp h h2 hs hsz
  have HB := Aside0.mk (Below.refl w.heap.size w)
  go_enter Tryz.func32, Tryz.ntmps32
  go_upto_region 2 with (first
    | (go_at_call 49; refine (PrangeRefToCoordinates.excelize_zzReplaceAll.calls 2000002 _ _ _ _ _ A1.out).mono ?_; rintro e w1 ⟨rfl, hb⟩; (have n0_ := Aside0.mk (below_step (by repeat (first | (with_reducible first | exact HB.out | apply below_alloc | apply pw_below_drewN | apply below_drew1) | exact HB.out)) hb); clear HB; have HB := n0_; clear n0_ hb))
    | (go_at_call 33; refine (PrangeRefToCoordinates.excelize_zzSplit.calls (k + 2) _ _ _ _ A2.out).mono ?_; rintro e w2 ⟨v2, rfl, ho, hb⟩; have HO := Aside0.mk ho; clear ho; (have n0_ := Aside0.mk (below_step (by repeat (first | (with_reducible first | exact HB.out | apply below_alloc | apply pw_below_drewN | apply below_drew1) | exact HB.out)) hb); clear HB; have HB := n0_; clear n0_ hb)))
  obtain ⟨g, c, ev, gb, gl, cl, HG⟩ := Kd.R_form HO.out (by simp)
  have ev' : v2 = .slice (some ⟨g, 0, none⟩) 2 c := ev
  clear ev
  subst ev'
  have hc1 : w2.cell? ⟨g, 0, none⟩ = some (.string s) := (Kd.R_celln ByteArray.empty HO.out 0 (by decide) (by simp)).1
  have hc2 : w2.cell? ⟨g, 1, none⟩ = some (.string s2) := (Kd.R_celln ByteArray.empty HO.out 1 (by decide) (by simp)).1
  clear gb gl cl HG
  go_upto_region 4 with fail
  go_region_held3 (fun W => W.cell? ⟨g, 0, none⟩ = some (.string s) ∧ W.cell? ⟨g, 1, none⟩ = some (.string s2)) (first | exact ⟨hd1, hd2⟩ | exact ⟨hc1, hc2⟩) ((go_at_call 50; refine (cellRefs s s2 ls ds ls2 ds2 H.out H2.out _).mono ?_; rintro e w3 ⟨v3, rfl, ho3, hb⟩; have HO3 := Aside0.mk (Kd.R_lower ho3 (below_size (by repeat (first | (with_reducible first | exact HB.out | apply below_alloc | apply pw_below_drewN | apply below_drew1) | exact HB.out)))); clear ho3; have hd1 : w3.cell? ⟨g, 0, none⟩ = some (.string s) := (Kd.R_celln ByteArray.empty (Kd.R_below (by (with_reducible repeat (first | apply Kd.R_drewN | apply Kd.R_drew)); exact HO.out) hb) 0 (by decide) (by simp)).1; have hd2 : w3.cell? ⟨g, 1, none⟩ = some (.string s2) := (Kd.R_celln ByteArray.empty (Kd.R_below (by (with_reducible repeat (first | apply Kd.R_drewN | apply Kd.R_drew)); exact HO.out) hb) 1 (by decide) (by simp)).1; (have n0_ := Aside0.mk (below_step (by repeat (first | (with_reducible first | exact HB.out | apply below_alloc | apply pw_below_drewN | apply below_drew1) | exact HB.out)) hb); clear HB; have HB := n0_; clear n0_ hb)))
  all_goals (go_wp2_with fail; go_ret2; exact ⟨_, by rfl, HO3.out, by repeat (first | (with_reducible first | exact HB.out | apply below_alloc | apply pw_below_drewN | apply below_drew1) | exact HB.out)⟩)

set_option maxHeartbeats 2000000 in
set_option maxRecDepth 100000 in
theorem doorRange (r s s2 : ByteArray) (ls ds ls2 ds2 : List Int) (h : IsCell s ls ds) (h2 : IsCell s2 ls2 ds2) (hsz : r.size ≤ 1000) (hs : (bytesOf r).filter (fun x => x != 36) = bytesOf s ++ 58 :: bytesOf s2) (w : World) :
    Calls Tryz.prog 23 #[.string r] w fun e w' => ∃ v, e = .returned (.tuple #[v, .bool true]) ∧ Kd.R (Kd.int .i64) 3 w' w.heap.size (fun _ => True) v [colVal ls, rowVal ds, colVal ls2, rowVal ds2] ∧ Below w.heap.size w w' := by
  have A := Aside0.mk (fun w => rangeRef r s s2 ls ds ls2 ds2 h h2 hsz hs w)
  clear h h2 hsz hs
  have HB := Aside0.mk (Below.refl w.heap.size w)
  go_enter Tryz.func23, Tryz.ntmps23
  go_upto_region 2 with (first
    | (go_at_call 32; refine (A.out _).mono ?_; rintro e w1 ⟨v1, rfl, ho, hb⟩; have HO := Aside0.mk (Kd.R_lower ho (below_size (by repeat (first | (with_reducible first | exact HB.out | apply below_alloc | apply pw_below_drewN | apply below_drew1) | exact HB.out)))); clear ho; (have n0_ := Aside0.mk (below_step (by repeat (first | (with_reducible first | exact HB.out | apply below_alloc | apply pw_below_drewN | apply below_drew1) | exact HB.out)) hb); clear HB; have HB := n0_; clear n0_ hb)))
  go_quiet (fail)
  go_wp2_with fail
  go_ret2
  exact ⟨_, by rfl, by (with_reducible repeat (first | apply Kd.R_drewN | apply Kd.R_drew)); exact HO.out, by repeat (first | (with_reducible first | exact HB.out | apply below_alloc | apply pw_below_drewN | apply below_drew1) | exact HB.out)⟩

set_option maxHeartbeats 2000000 in
set_option maxRecDepth 100000 in
theorem implRange (r s s2 : ByteArray) (ls ds ls2 ds2 : List Int) (h : IsCell s ls ds) (h2 : IsCell s2 ls2 ds2) (hsz : r.size ≤ 1000) (hs : (bytesOf r).filter (fun x => x != 36) = bytesOf s ++ 58 :: bytesOf s2) (w : World) :
    Calls Tryz.prog 12 #[.string r] w fun e w' => ∃ v, e = .returned (.tuple #[v, .bool true]) ∧ Kd.R (Kd.int .i64) 3 w' w.heap.size (fun _ => True) v [colVal ls, rowVal ds, colVal ls2, rowVal ds2] ∧ Below w.heap.size w w' := by
  have A := Aside0.mk (fun w => doorRange r s s2 ls ds ls2 ds2 h h2 hsz hs w)
  clear h h2 hsz hs
  have HB := Aside0.mk (Below.refl w.heap.size w)
  go_enter Tryz.func12, Tryz.ntmps12
  go_wp2_with (first
    | (go_at_call 23; refine (A.out _).mono ?_; rintro e w1 ⟨v1, rfl, ho, hb⟩; have HO := Aside0.mk (Kd.R_lower ho (below_size (by repeat (first | (with_reducible first | exact HB.out | apply below_alloc | apply pw_below_drewN | apply below_drew1) | exact HB.out)))); clear ho; (have n0_ := Aside0.mk (below_step (by repeat (first | (with_reducible first | exact HB.out | apply below_alloc | apply pw_below_drewN | apply below_drew1) | exact HB.out)) hb); clear HB; have HB := n0_; clear n0_ hb)))
  go_ret2
  exact ⟨_, by rfl, HO.out, by repeat (first | (with_reducible first | exact HB.out | apply below_alloc | apply pw_below_drewN | apply below_drew1) | exact HB.out)⟩

set_option maxHeartbeats 2000000 in
set_option maxRecDepth 100000 in
theorem refLives (w : World) :
    Calls Tryz.prog 5 #[] w fun e w' => e = .returned (.bool true) ∧ Below w.heap.size w w' := by
  have c1 : IsCell (⟨#[66, 50]⟩ : ByteArray) [66] [50] := ⟨rfl, by decide, by decide, by decide, by decide, by decide, by decide, by decide, by decide, by decide⟩
  have c2 : IsCell (⟨#[67, 53]⟩ : ByteArray) [67] [53] := ⟨rfl, by decide, by decide, by decide, by decide, by decide, by decide, by decide, by decide, by decide⟩
  have A := Aside0.mk (fun w => implRange ⟨#[66, 50, 58, 67, 53]⟩ _ _ _ _ _ _ c1 c2 (by decide) (by decide) w)
  clear c1 c2
  have HB := Aside0.mk (Below.refl w.heap.size w)
  go_enter Tryz.func5, Tryz.ntmps5
  go_upto_region 2 with (first
    | (go_at_call 12; refine (A.out _).mono ?_; rintro e w1 ⟨v1, rfl, ho, hb⟩; have HO := Aside0.mk (Kd.R_lower ho (below_size (by repeat (first | (with_reducible first | exact HB.out | apply below_alloc | apply pw_below_drewN | apply below_drew1) | exact HB.out)))); clear ho; (have n0_ := Aside0.mk (below_step (by repeat (first | (with_reducible first | exact HB.out | apply below_alloc | apply pw_below_drewN | apply below_drew1) | exact HB.out)) hb); clear HB; have HB := n0_; clear n0_ hb)))
  obtain ⟨g, c, ev, gb, gl, cl, HG⟩ := Kd.R_form HO.out (by simp)
  have ev' : v1 = .slice (some ⟨g, 0, none⟩) 4 c := ev
  clear ev
  subst ev'
  have hc0 : w1.cell? ⟨g, 0, none⟩ = some (.int .i64 2) := (Kd.R_celln 0 HO.out 0 (by decide) (by simp)).1
  have hc1 : w1.cell? ⟨g, 1, none⟩ = some (.int .i64 2) := (Kd.R_celln 0 HO.out 1 (by decide) (by simp)).1
  have hc2 : w1.cell? ⟨g, 2, none⟩ = some (.int .i64 3) := (Kd.R_celln 0 HO.out 2 (by decide) (by simp)).1
  have hc3 : w1.cell? ⟨g, 3, none⟩ = some (.int .i64 5) := (Kd.R_celln 0 HO.out 3 (by decide) (by simp)).1
  clear gb gl cl HG
  go_wp2
  go_ret
  exact ⟨by rfl, by repeat (first | (with_reducible first | exact HB.out | apply below_alloc | apply pw_below_drewN | apply below_drew1) | exact HB.out)⟩
end Go.Proofs.YtmcppajgfhmpaaaGreatDoor.CellC
