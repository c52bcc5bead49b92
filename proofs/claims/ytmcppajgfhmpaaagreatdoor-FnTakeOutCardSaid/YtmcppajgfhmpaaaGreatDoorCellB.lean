/- Walks towards the package's reading of a cell's name, part 2: the column's number, the cell's parts and its coordinates. For names of capital letters and digits. -/
import Derived.Test.YtmcppajgfhmpaaaGreatDoorCellA
import Derived.Test.YtmcppajgfhmpaaaGreatDoorStr
import Derived.Test.YtmcppajgfhmpaaaGreatDoorShAtoi
import Derived.Test.YtmcppajgfhmpaaaGreatDoorTac
namespace Go.Proofs.YtmcppajgfhmpaaaGreatDoor.CellB
open Go.RowKit Go.Proofs.YtmcppajgfhmpaaaGreatDoorW.PrintWords Go.Proofs.YtmcppajgfhmpaaaGreatDoorW.PrintLast Go.Proofs.YtmcppajgfhmpaaaGreatDoorW.PrintMore
open Go.Proofs.YtmcppajgfhmpaaaGreatDoor.Str Go.Proofs.YtmcppajgfhmpaaaGreatDoor.CellA Go.Proofs.YtmcppajgfhmpaaaGreatDoor.Tac

def colVal (ls : List Int) : Int := ls.foldl (fun a x => 26 * a + (x - 64)) 0
def rowVal (ds : List Int) : Int := ds.foldl (fun a x => 10 * a + (x - 48)) 0
structure IsCell (s : ByteArray) (ls ds : List Int) : Prop where
  all : bytesOf s = ls ++ ds
  l1 : 1 ≤ ls.length
  l3 : ls.length ≤ 3
  up : ∀ x ∈ ls, 65 ≤ x ∧ x ≤ 90
  d1 : 1 ≤ ds.length
  d10 : ds.length ≤ 10
  dig : ∀ x ∈ ds, 48 ≤ x ∧ x ≤ 57
  cmax : colVal ls ≤ 16384
  rmin : 1 ≤ rowVal ds
  rmax : rowVal ds ≤ 1048576

theorem byte_at (s : ByteArray) (l : List Int) (h : bytesOf s = l) (i : Nat) (c : Int) (hc : l[i]? = some c) : ∀ h : i < s.size, ((s[i]'h).toNat : Int) = c := by
  intro hi
  have h1 := bytes_get s i hi
  rw [h, hc] at h1
  rw [Option.some.inj h1]
  simp [bt, hi]

set_option maxRecDepth 100000 in
set_option maxHeartbeats 1000000 in
theorem column1 (s : ByteArray) (a : Int) (hs : bytesOf s = [a]) (ha : 65 ≤ a ∧ a ≤ 90) (w : World) :
    Calls Tryz.prog 54 #[.string s] w fun e w' => e = .returned (.tuple #[.int .i64 (a - 65 + 1), .nilIface]) ∧ Drawn0 w w' := by
  have x0 := byte_at s _ hs 0 a rfl
  have hz : s.size = 1 := by have := congrArg List.length hs; rwa [bytesOf_length] at this
  have hzi : (s.size : Int) = 1 := by omega
  obtain ⟨a1, a2⟩ := ha
  have y0 : (0 : Int) < (s.size : Int) := by omega
  have z0 : 0 < s.size := by omega
  clear hs
  go_enter Tryz.func54, Tryz.ntmps54
  go_wp2
  refine wp_loop_rounds 2 ?_
  rw [rounds_succ]
  go_wp2
  rw [rounds_succ]
  go_wp2
  go_ret2
  exact ⟨by rfl, Drawn0.refl _⟩
set_option maxRecDepth 100000 in
set_option maxHeartbeats 1000000 in
theorem column2 (s : ByteArray) (a b : Int) (hs : bytesOf s = [a, b]) (ha : 65 ≤ a ∧ a ≤ 90) (hb : 65 ≤ b ∧ b ≤ 90) (w : World) :
    Calls Tryz.prog 54 #[.string s] w fun e w' => e = .returned (.tuple #[.int .i64 (b - 65 + 1 + (a - 65 + 1) * 26), .nilIface]) ∧ Drawn0 w w' := by
  have x0 := byte_at s _ hs 0 a rfl
  have x1 := byte_at s _ hs 1 b rfl
  have hz : s.size = 2 := by have := congrArg List.length hs; rwa [bytesOf_length] at this
  have hzi : (s.size : Int) = 2 := by omega
  obtain ⟨a1, a2⟩ := ha
  obtain ⟨b1, b2⟩ := hb
  have y0 : (0 : Int) < (s.size : Int) := by omega
  have z0 : 0 < s.size := by omega
  have y1 : (1 : Int) < (s.size : Int) := by omega
  have z1 : 1 < s.size := by omega
  clear hs
  go_enter Tryz.func54, Tryz.ntmps54
  go_wp2
  refine wp_loop_rounds 3 ?_
  rw [rounds_succ]
  go_wp2
  rw [rounds_succ]
  go_wp2
  rw [rounds_succ]
  go_wp2
  go_ret2
  exact ⟨by rfl, Drawn0.refl _⟩
set_option maxRecDepth 100000 in
set_option maxHeartbeats 1000000 in
theorem column3 (s : ByteArray) (a b c : Int) (hs : bytesOf s = [a, b, c]) (ha : 65 ≤ a ∧ a ≤ 90) (hb : 65 ≤ b ∧ b ≤ 90) (hc : 65 ≤ c ∧ c ≤ 90) (hm : c - 65 + 1 + (b - 65 + 1) * 26 + (a - 65 + 1) * 676 ≤ 16384) (w : World) :
    Calls Tryz.prog 54 #[.string s] w fun e w' => e = .returned (.tuple #[.int .i64 (c - 65 + 1 + (b - 65 + 1) * 26 + (a - 65 + 1) * 676), .nilIface]) ∧ Drawn0 w w' := by
  have x0 := byte_at s _ hs 0 a rfl
  have x1 := byte_at s _ hs 1 b rfl
  have x2 := byte_at s _ hs 2 c rfl
  have hz : s.size = 3 := by have := congrArg List.length hs; rwa [bytesOf_length] at this
  have hzi : (s.size : Int) = 3 := by omega
  obtain ⟨a1, a2⟩ := ha
  obtain ⟨b1, b2⟩ := hb
  obtain ⟨c1, c2⟩ := hc
  have y0 : (0 : Int) < (s.size : Int) := by omega
  have z0 : 0 < s.size := by omega
  have y1 : (1 : Int) < (s.size : Int) := by omega
  have z1 : 1 < s.size := by omega
  have y2 : (2 : Int) < (s.size : Int) := by omega
  have z2 : 2 < s.size := by omega
  clear hs
  go_enter Tryz.func54, Tryz.ntmps54
  go_wp2
  refine wp_loop_rounds 4 ?_
  rw [rounds_succ]
  go_wp2
  rw [rounds_succ]
  go_wp2
  rw [rounds_succ]
  go_wp2
  rw [rounds_succ]
  go_wp2
  go_ret2
  exact ⟨by rfl, Drawn0.refl _⟩

theorem column (s : ByteArray) (ls : List Int) (hs : bytesOf s = ls) (h1 : 1 ≤ ls.length) (h3 : ls.length ≤ 3) (hu : ∀ x ∈ ls, 65 ≤ x ∧ x ≤ 90) (hm : colVal ls ≤ 16384) (w : World) :
    Calls Tryz.prog 54 #[.string s] w fun e w' => e = .returned (.tuple #[.int .i64 (colVal ls), .nilIface]) ∧ Drawn0 w w' := by
  match ls, hs, h1, h3, hu, hm with
  | [a], hs, _, _, hu, hm =>
    have e : colVal [a] = a - 65 + 1 := by simp only [colVal, List.foldl]; omega
    rw [e]
    exact column1 s a hs (hu a (by simp)) w
  | [a, b], hs, _, _, hu, hm =>
    have e : colVal [a, b] = b - 65 + 1 + (a - 65 + 1) * 26 := by simp only [colVal, List.foldl]; omega
    rw [e]
    exact column2 s a b hs (hu a (by simp)) (hu b (by simp)) w
  | [a, b, c], hs, _, _, hu, hm =>
    have e : colVal [a, b, c] = c - 65 + 1 + (b - 65 + 1) * 26 + (a - 65 + 1) * 676 := by simp only [colVal, List.foldl]; omega
    rw [e] at hm ⊢
    exact column3 s a b c hs (hu a (by simp)) (hu b (by simp)) (hu c (by simp)) hm w
  | [], _, h1, _, _, _ => simp at h1
  | a :: b :: c :: d :: r, _, _, h3, _, _ => simp at h3

theorem atoi_of (t : ByteArray) (ds : List Int) (ht : bytesOf t = ds) (h1 : 1 ≤ ds.length) (hd : ∀ x ∈ ds, 48 ≤ x ∧ x ≤ 57) : Lib.atoi t.data.toList = some (rowVal ds) := by
  have hmap : t.data.toList.map (fun b : UInt8 => (b.toNat : Int)) = ds := ht
  have hfrom : ∀ (l : List UInt8) (acc : Nat), (∀ b ∈ l, 48 ≤ b.toNat ∧ b.toNat ≤ 57) → ∃ n : Nat, Lib.decFrom acc l = some n ∧ (n : Int) = (l.map (fun b : UInt8 => (b.toNat : Int))).foldl (fun a x => 10 * a + (x - 48)) (acc : Int) := by
    intro l
    induction l with
    | nil => intro acc _; exact ⟨acc, rfl, rfl⟩
    | cons b l ih =>
      intro acc hb
      have hb0 := hb b (by simp)
      obtain ⟨n, h1, h2⟩ := ih (acc * 10 + (b.toNat - 48)) (fun x hx => hb x (by simp [hx]))
      refine ⟨n, ?_, ?_⟩
      · simp only [Lib.decFrom, Lib.digitVal]
        rw [if_pos hb0]
        exact h1
      · rw [h2, List.map_cons, List.foldl_cons]
        congr 1
        omega
  have hb : ∀ b ∈ t.data.toList, 48 ≤ b.toNat ∧ b.toNat ≤ 57 := by
    intro b hb
    have := hd (b.toNat : Int) (by rw [← hmap]; exact List.mem_map.2 ⟨b, hb, rfl⟩)
    omega
  obtain ⟨n, e1, e2⟩ := hfrom t.data.toList 0 hb
  have hn : (n : Int) = rowVal ds := by rw [e2, hmap]; rfl
  cases hl : t.data.toList with
  | nil => rw [hl] at hmap; rw [← hmap] at h1; simp at h1
  | cons b r =>
    rw [hl] at e1 hb
    have hb0 := hb b (by simp)
    have n1 : (b == 45) = false := beq_eq_false_iff_ne.2 (fun e => by rw [e] at hb0; simp at hb0)
    have n2 : (b == 43) = false := beq_eq_false_iff_ne.2 (fun e => by rw [e] at hb0; simp at hb0)
    simp only [Lib.atoi, n1, n2, Lib.decNat, List.isEmpty_cons, e1, Bool.false_eq_true, if_false, Option.map_some]
    rw [hn]

theorem atoiCall (s : ByteArray) (n : Int) (hl : s.size ≤ 18) (h : Lib.atoi s.data.toList = some n) (w : World) :
    Calls Tryz.prog 93 #[.string s] w fun e w' => e = .returned (.tuple #[.int .i64 n, .nilIface]) ∧ Below w.heap.size w w' :=
  (Tryz.strconv_Atoi s n hl h w).mono (fun e w' ⟨he, t, ht⟩ => ⟨he, by rw [ht]; exact bytesWorld_below w _ t⟩)

set_option maxHeartbeats 2000000 in
set_option maxRecDepth 100000 in
theorem splitName (s : ByteArray) (ls ds : List Int) (h : IsCell s ls ds) (w : World) :
    Calls Tryz.prog 52 #[.string s] w fun e w' => (∃ t, bytesOf t = ls ∧ e = .returned (.tuple #[.string t, .int .i64 (rowVal ds), .nilIface])) ∧ Below w.heap.size w w' := by
  obtain ⟨hall, hl1, hl3, hup, hd1, hd10, hdig, hcm, hr1, hr2⟩ := h
  obtain ⟨n, hn⟩ : ∃ n, ls.length = n + 1 := ⟨ls.length - 1, by omega⟩
  have hsz : s.size = n + 1 + ds.length := by have := congrArg List.length hall; rw [bytesOf_length, List.length_append] at this; omega
  have h0 : 0 < s.size := by omega
  have hfirst : 65 ≤ (s[0]'h0).toNat ∧ (s[0]'h0).toNat ≤ 90 := by
    have hg : (ls ++ ds)[0]? = some (ls[0]'(by omega)) := by rw [List.getElem?_append_left (by omega), List.getElem?_eq_getElem (by omega)]
    have := byte_at s _ hall 0 _ hg h0
    have := hup _ (List.getElem_mem (show 0 < ls.length by omega))
    omega
  have hlast : ∃ c : Nat, bt s (n : Int) = (c : Int) ∧ 65 ≤ c ∧ c ≤ 90 := by
    have hg : (bytesOf s)[n]? = some (ls[n]'(by omega)) := by rw [hall, List.getElem?_append_left (by omega), List.getElem?_eq_getElem (by omega)]
    have h1 := hup _ (List.getElem_mem (show n < ls.length by omega))
    exact ⟨(ls[n]'(by omega)).toNat, by rw [bt_bytes _ _ _ hg]; omega, by omega, by omega⟩
  have hdigs : ∀ i : Nat, n < i → i < s.size → ∃ c : Nat, bt s (i : Int) = (c : Int) ∧ 48 ≤ c ∧ c ≤ 57 := by
    intro i hi1 hi2
    have hg : (bytesOf s)[i]? = some (ds[i - (n + 1)]'(by omega)) := by rw [hall, List.getElem?_append_right (by omega), hn, List.getElem?_eq_getElem (by omega)]
    have h1 := hdig _ (List.getElem_mem (show i - (n + 1) < ds.length by omega))
    exact ⟨(ds[i - (n + 1)]'(by omega)).toNat, by rw [bt_bytes _ _ _ hg]; omega, by omega, by omega⟩
  have ht : bytesOf (s.extract 0 (n + 1)) = ls := by
    rw [bytes_extract, hall, List.drop_zero, Nat.sub_zero, List.take_append_of_le_length (by omega), List.take_of_length_le (by omega)]
  have hu : bytesOf (s.extract (n + 1) s.size) = ds := by
    rw [bytes_extract, hall, List.drop_append_of_le_length (by omega), List.drop_of_length_le (by omega), List.nil_append, List.take_of_length_le (by omega)]
  have hno : (36 : Int) ∉ bytesOf (s.extract 0 (n + 1)) := by
    rw [ht]; intro hm; have := hup _ hm; omega
  have hts : (s.extract 0 (n + 1)).size ≤ 1000000 := by rw [ByteArray.size_extract]; omega
  have hrep := strike_none (s.extract 0 (n + 1)) ⟨#[36]⟩ ⟨#[]⟩ 36 rfl rfl hts 2000002 (Nat.le_refl _) hno
  have hus : (s.extract (n + 1) s.size).size ≤ 18 := by rw [ByteArray.size_extract]; omega
  have hat := atoi_of _ ds hu hd1 hdig
  have q1 : (n : Int) + 1 ≤ (s.size : Int) := by omega
  have q2 : (0 : Int) ≤ (n : Int) + 1 := by omega
  have q3 : n + 1 ≤ s.size := by omega
  have q4 : (n : Int) < (s.size : Int) - 1 := by omega
  have q5 : 0 < rowVal ds := by omega
  have q6 : (0 : Int) ≤ (n : Int) := by omega
  have q7 : s.size ≤ 100 := by omega
  have q8 : IntKind.i64.wrap ((n : Int) + 1) = (n : Int) + 1 := IntWalk.i64_in _ (by omega)
  have hs1 : ∀ W, (Instr.slice 9 (.string s) none (some (.int .i64 ((n : Int) + 1))) none).run Tryz.prog W = .ok (.string (s.extract 0 (n + 1))) W := by
    intro W
    simp [go_sem, q2, q1]
  have hs2 : ∀ W, (Instr.slice 9 (.string s) (some (.int .i64 ((n : Int) + 1))) none none).run Tryz.prog W = .ok (.string (s.extract (n + 1) s.size)) W := by
    intro W
    rw [run_slice_string_from_if W 9 s .i64 _ Tryz.underlying9, if_pos ⟨q2, q1⟩]
    rfl
  have HT := Aside0.mk ht
  have A1 := Aside0.mk hfirst
  have A2 := Aside0.mk hlast
  have A3 := Aside0.mk hdigs
  have A4 := Aside0.mk hrep
  have A5 := Aside0.mk hat
  have HB := Aside0.mk (Below.refl w.heap.size w)
  clear ht hfirst hlast hdigs hrep hat hall hup hdig hu hno hn hsz
  go_enter Tryz.func52, Tryz.ntmps52
  go_upto_region 5 with (first
    | (go_at_call 91; refine (indexFuncTop s h0 A1.out.1 A1.out.2 _).mono ?_; rintro e w1 ⟨rfl, hb⟩; (have n0_ := Aside0.mk (below_step (by repeat (first | (with_reducible first | exact HB.out | apply below_alloc | apply pw_below_drewN | apply below_drew1) | exact HB.out)) hb); clear HB; have HB := n0_; clear n0_ hb))
    | (go_at_call 92; refine (lastIndexFuncTop s n q3 A2.out A3.out (by omega) _).mono ?_; rintro e w2 ⟨rfl, ⟨nd, rfl⟩⟩))
  go_cut [7, 8] (fun v7 v8 wc => v7 = .string (s.extract 0 (n + 1)) ∧ v8 = .string (s.extract (n + 1) s.size) ∧ Aside0 (Below w.heap.size w wc))
  case first =>
    go_region_held3 (fun _ => True) (trivial) ((go_at_call 49; refine (PrangeRefToCoordinates.excelize_zzReplaceAll.calls 2000002 _ _ _ _ _ A4.out).mono ?_; rintro e w3 ⟨rfl, hb⟩; (have n0_ := Aside0.mk (below_step (by repeat (first | (with_reducible first | exact HB.out | apply below_alloc | apply pw_below_drewN | apply below_drew1) | exact HB.out)) hb); clear HB; have HB := n0_; clear n0_ hb)))
    all_goals (go_wp2_with fail; go_meet; exact ⟨rfl, rfl, Aside0.mk (by repeat (first | (with_reducible first | exact HB.out | apply below_alloc | apply pw_below_drewN | apply below_drew1) | exact HB.out))⟩)
  case rest =>
    clear HB
    obtain ⟨rfl, rfl, HB⟩ := hcut
    go_wp2_with (first
      | (go_at_call 93; refine (atoiCall _ _ hus A5.out _).mono ?_; rintro e w4 ⟨rfl, hb⟩; (have n0_ := Aside0.mk (below_step (by repeat (first | (with_reducible first | exact HB.out | apply below_alloc | apply pw_below_drewN | apply below_drew1) | exact HB.out)) hb); clear HB; have HB := n0_; clear n0_ hb)))
    go_ret3
    exact ⟨⟨_, HT.out, rfl⟩, by repeat (first | (with_reducible first | exact HB.out | apply below_alloc | apply pw_below_drewN | apply below_drew1) | exact HB.out)⟩
end Go.Proofs.YtmcppajgfhmpaaaGreatDoor.CellB
