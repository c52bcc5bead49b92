/- Plain facts on texts as lists of numbers, and on the package's search, split and replacement (as printed) at a pattern of one byte. -/
import Derived.Test.YtmcppajgfhmpaaaGreatDoorPrangeRefToCoordinatesx1
namespace Go.Proofs.YtmcppajgfhmpaaaGreatDoor.Str
open Go.RowKit Go.Proofs.YtmcppajgfhmpaaaGreatDoorW.PrintWords Go.Proofs.YtmcppajgfhmpaaaGreatDoorW.PrintLast Go.Proofs.YtmcppajgfhmpaaaGreatDoor.PrangeRefToCoordinates

theorem w64 (x : Int) (h : -9223372036854775808 ≤ x) (h2 : x ≤ 9223372036854775807) : wrap64 x = x := by unfold wrap64; omega

theorem bytes_inj {a b : ByteArray} (h : bytesOf a = bytesOf b) : a = b := by
  have h1 : a.data.toList = b.data.toList := by
    unfold bytesOf at h
    have hinj : ∀ (l m : List UInt8), l.map (fun b => (b.toNat : Int)) = m.map (fun b => (b.toNat : Int)) → l = m := by
      intro l
      induction l with
      | nil => intro m hm; cases m with
        | nil => rfl
        | cons x m => simp at hm
      | cons x l ih => intro m hm; cases m with
        | nil => simp at hm
        | cons y m =>
          simp only [List.map_cons, List.cons.injEq] at hm
          have hxy : x = y := by
            have : x.toNat = y.toNat := by omega
            exact UInt8.toNat_inj.1 this
          rw [hxy, ih m hm.2]
    exact hinj _ _ h
  cases a; cases b
  simp only [ByteArray.mk.injEq]
  exact Array.toList_inj.1 h1
theorem bytes_append (a b : ByteArray) : bytesOf (a ++ b) = bytesOf a ++ bytesOf b := by
  unfold bytesOf
  rw [ByteArray.data_append, Array.toList_append, List.map_append]
theorem bytes_extract (s : ByteArray) (a b : Nat) : bytesOf (s.extract a b) = ((bytesOf s).drop a).take (b - a) := by
  unfold bytesOf
  rw [ByteArray.data_extract, Array.toList_extract, List.extract_eq_take_drop, List.map_take, List.map_drop]
theorem bytes_get (s : ByteArray) (i : Nat) (h : i < s.size) : (bytesOf s)[i]? = some (bt s (i : Int)) := by
  unfold bytesOf bt
  have h1 : i < s.data.toList.length := h
  simp only [List.getElem?_map, Int.toNat_natCast, h, dif_pos]
  rw [List.getElem?_eq_getElem h1]
  rfl
theorem bytes_range (s : ByteArray) : ∀ x ∈ bytesOf s, 0 ≤ x ∧ x ≤ 255 := by
  intro x hx
  unfold bytesOf at hx
  obtain ⟨b, _, rfl⟩ := List.mem_map.1 hx
  have := b.toNat_lt
  omega
theorem str_bytes (l : List Int) (h : ∀ x ∈ l, 0 ≤ x ∧ x ≤ 255) : bytesOf (strOfNums l) = l := by
  unfold bytesOf
  rw [strOfNums_data, List.map_map]
  conv => rhs; rw [← List.map_id l]
  apply List.map_congr_left
  intro x hx
  have := h x hx
  simp only [Function.comp, id_eq, UInt8.toNat_ofNat']
  omega
theorem bytes_str (s : ByteArray) : strOfNums (bytesOf s) = s := bytes_inj (str_bytes _ (bytes_range s))
theorem toList_eq_iff (a b : ByteArray) : a.toList = b.toList ↔ bytesOf a = bytesOf b := by
  rw [ByteArray.toList_eq, ByteArray.toList_eq]
  constructor
  · intro h; unfold bytesOf; rw [h]
  · intro h; rw [bytes_inj h]
theorem bt_bytes (s : ByteArray) (i : Nat) (c : Int) (h : (bytesOf s)[i]? = some c) : bt s (i : Int) = c := by
  have hl : i < s.size := by
    have := (List.getElem?_eq_some_iff.1 h).1
    rwa [bytesOf_length] at this
  rw [bytes_get s i hl] at h
  exact Option.some.inj h

/-! The search at one byte. -/
theorem index_loop (s : ByteArray) (c : Int) (p : ByteArray) (hp : bytesOf p = [c]) (hs : s.size ≤ 140737488355328) :
    ∀ (d k i : Nat), s.size - i = d → i ≤ s.size → d < k →
      (∀ m : Nat, i ≤ m → (∀ j : Nat, i ≤ j → j < m → bt s (j : Int) ≠ c) → m < s.size → bt s (m : Int) = c → excelize_zzIndex.l0 k s p (i : Int) = some (m : Int)) ∧
      ((∀ j : Nat, i ≤ j → j < s.size → bt s (j : Int) ≠ c) → excelize_zzIndex.l0 k s p (i : Int) = some (-1))
  | 0, k, i, hd, hi, hk => by
    obtain ⟨k, rfl⟩ : ∃ m, k = m + 1 := ⟨k - 1, by omega⟩
    have hsz : p.size = 1 := by have := congrArg List.length hp; rwa [bytesOf_length] at this
    refine ⟨fun m h1 _ h3 _ => by omega, fun _ => ?_⟩
    simp only [excelize_zzIndex.l0]
    rw [hsz, w64 _ (by omega) (by omega), if_neg (by omega)]
  | d + 1, k, i, hd, hi, hk => by
    obtain ⟨k, rfl⟩ : ∃ m, k = m + 1 := ⟨k - 1, by omega⟩
    have hsz : p.size = 1 := by have := congrArg List.length hp; rwa [bytesOf_length] at this
    have hlt : i < s.size := by omega
    obtain ⟨ih1, ih2⟩ := index_loop s c p hp hs d k (i + 1) (by omega) (by omega) (by omega)
    have hex : ((s.extract i (i + 1)).toList = p.toList) ↔ bt s (i : Int) = c := by
      rw [toList_eq_iff, bytes_extract, hp, show i + 1 - i = 1 from by omega]
      have h1 : ((bytesOf s).drop i).take 1 = [bt s (i : Int)] := by
        have h2 := bytes_get s i hlt
        have h3 : i < (bytesOf s).length := by rw [bytesOf_length]; exact hlt
        rw [List.drop_eq_getElem_cons h3]
        rw [List.getElem?_eq_getElem h3] at h2
        rw [Option.some.inj h2]; rfl
      rw [h1]
      simp
    have e1 : wrap64 ((i : Int) + ((p.size : Nat) : Int)) = ((i + 1 : Nat) : Int) := by rw [hsz, w64 _ (by omega) (by omega)]; omega
    have e2 : wrap64 ((i : Int) + 1) = ((i + 1 : Nat) : Int) := by rw [w64 _ (by omega) (by omega)]; omega
    refine ⟨fun m h1 h2 h3 h4 => ?_, fun h => ?_⟩
    · simp only [excelize_zzIndex.l0]
      rw [e1, e2, if_pos (by omega), if_pos (by omega), if_pos (by omega), Int.toNat_natCast, Int.toNat_natCast]
      by_cases hc : bt s (i : Int) = c
      · have : m = i := by
          rcases Nat.lt_or_ge i m with hh | hh
          · exact absurd hc (h2 i (Nat.le_refl _) hh)
          · omega
        subst this
        rw [if_pos (hex.2 hc)]
      · rw [if_neg (fun e => hc (hex.1 e))]
        have hne : m ≠ i := fun e => hc (by rw [← e]; exact h4)
        exact ih1 m (by omega) (fun j hj1 hj2 => h2 j (by omega) hj2) h3 h4
    · simp only [excelize_zzIndex.l0]
      rw [e1, e2, if_pos (by omega), if_pos (by omega), if_pos (by omega), Int.toNat_natCast, Int.toNat_natCast]
      rw [if_neg (fun e => h i (Nat.le_refl _) hlt (hex.1 e))]
      exact ih2 (fun j hj1 hj2 => h j (by omega) hj2)
theorem index_at (s p : ByteArray) (c : Int) (hp : bytesOf p = [c]) (hs : s.size ≤ 140737488355328) (k m : Nat) (hk : s.size < k) (h2 : ∀ j : Nat, j < m → bt s (j : Int) ≠ c) (h3 : m < s.size) (h4 : bt s (m : Int) = c) :
    excelize_zzIndex.f k s p = some (m : Int) :=
  (index_loop s c p hp hs s.size k 0 (by omega) (by omega) hk).1 m (Nat.zero_le _) (fun j _ hj => h2 j hj) h3 h4
theorem index_none (s p : ByteArray) (c : Int) (hp : bytesOf p = [c]) (hs : s.size ≤ 140737488355328) (k : Nat) (hk : s.size < k) (h : ∀ j : Nat, j < s.size → bt s (j : Int) ≠ c) :
    excelize_zzIndex.f k s p = some (-1) :=
  (index_loop s c p hp hs s.size k 0 (by omega) (by omega) hk).2 (fun j _ hj => h j hj)

theorem not_mem_bt {s : ByteArray} {c : Int} (h : c ∉ bytesOf s) : ∀ j : Nat, j < s.size → bt s (j : Int) ≠ c := by
  intro j hj e
  exact h (e ▸ List.mem_of_getElem? (bytes_get s j hj))

/-- The split at a byte that occurs once. -/
theorem split_two (a b p : ByteArray) (c : Int) (hp : bytesOf p = [c]) (ha : c ∉ bytesOf a) (hb : c ∉ bytesOf b) (hs : (a ++ p ++ b).size ≤ 1000000) (k : Nat) (hk : 1000001 ≤ k) :
    excelize_zzSplit.f (k + 2) (a ++ p ++ b) p = some [a, b] := by
  have hsz : p.size = 1 := by have := congrArg List.length hp; rwa [bytesOf_length] at this
  have hall : bytesOf (a ++ p ++ b) = bytesOf a ++ [c] ++ bytesOf b := by rw [bytes_append, bytes_append, hp]
  have hlen : (a ++ p ++ b).size = a.size + 1 + b.size := by rw [ByteArray.size_append, ByteArray.size_append, hsz]
  have hat : bt (a ++ p ++ b) ((a.size : Nat) : Int) = c := bt_bytes _ _ _ (by
    rw [hall, List.append_assoc, List.getElem?_append_right (by rw [bytesOf_length]; omega), bytesOf_length]
    simp)
  have hbef : ∀ j : Nat, j < a.size → bt (a ++ p ++ b) (j : Int) ≠ c := by
    intro j hj
    have : bt (a ++ p ++ b) (j : Int) = bt a (j : Int) := bt_bytes _ _ _ (by
      rw [hall, List.append_assoc, List.getElem?_append_left (by rw [bytesOf_length]; omega)]
      exact bytes_get a j hj)
    rw [this]
    exact not_mem_bt ha j hj
  have i1 := index_at (a ++ p ++ b) p c hp (by omega) (k + 1) a.size (by omega) hbef (by omega) hat
  have i2 := index_none b p c hp (by omega) k (by omega) (not_mem_bt hb)
  have x1 : (a ++ p ++ b).extract 0 a.size = a := bytes_inj (by
    rw [bytes_extract, hall, List.drop_zero, Nat.sub_zero, List.append_assoc, List.take_append_of_le_length (by rw [bytesOf_length]; omega)]
    exact List.take_of_length_le (by rw [bytesOf_length]; omega))
  have x2 : (a ++ p ++ b).extract (a.size + 1) (a ++ p ++ b).size = b := bytes_inj (by
    rw [bytes_extract, hall, hlen, List.drop_append_of_le_length (by simp [bytesOf_length]), List.drop_of_length_le (by simp [bytesOf_length]), List.nil_append]
    exact List.take_of_length_le (by rw [bytesOf_length]; omega))
  unfold excelize_zzSplit.f
  simp only [excelize_zzSplit.l0]
  rw [i1, Option.bind_some, if_neg (by omega), if_pos (by omega), if_pos (by omega), if_pos (by decide)]
  rw [hsz, w64 _ (by omega) (by omega), if_pos (by omega), if_pos (by omega), Int.toNat_natCast, show ((a.size : Int) + ((1 : Nat) : Int)).toNat = a.size + 1 from by omega, x1, x2]
  rw [i2, Option.bind_some, if_pos (by omega), if_pos (by simp)]
  rfl
/-- The split at a byte that does not occur. -/
theorem split_one (a p : ByteArray) (c : Int) (hp : bytesOf p = [c]) (ha : c ∉ bytesOf a) (hs : a.size ≤ 1000000) (k : Nat) (hk : 1000001 ≤ k) :
    excelize_zzSplit.f (k + 1) a p = some [a] := by
  have i2 := index_none a p c hp (by omega) k (by omega) (not_mem_bt ha)
  unfold excelize_zzSplit.f
  simp only [excelize_zzSplit.l0]
  rw [i2, Option.bind_some, if_pos (by omega), if_pos (by decide)]
  rfl

/-- A byte is taken out. -/
theorem strike_loop (p q : ByteArray) (c : Int) (hp : bytesOf p = [c]) (hq : bytesOf q = []) :
    ∀ (d k : Nat) (s : ByteArray) (acc : List Int), s.size ≤ d → s.size ≤ 1000000 → acc.length ≤ 1000000 → acc.length + s.size ≤ 1000000 → s.size + d + 2 ≤ k →
      excelize_zzReplaceAll.l0 k s p q acc = some (strOfNums (acc ++ (bytesOf s).filter (· ≠ c)))
  | d, k, s, acc, hd, hs, ha, has, hk => by
    have hsz : p.size = 1 := by have := congrArg List.length hp; rwa [bytesOf_length] at this
    have hqz : q.size = 0 := by have := congrArg List.length hq; rwa [bytesOf_length] at this
    obtain ⟨k, rfl⟩ : ∃ m, k = m + 1 := ⟨k - 1, by omega⟩
    by_cases hm : c ∈ bytesOf s
    · obtain ⟨m, hm0⟩ : ∃ m, m = (bytesOf s).findIdx (· == c) := ⟨_, rfl⟩
      have hlt : m < (bytesOf s).length := by rw [hm0]; exact List.findIdx_lt_length_of_exists ⟨c, hm, beq_self_eq_true c⟩
      have hml : m < s.size := by rwa [bytesOf_length] at hlt
      have hat0 : (bytesOf s)[m]'hlt = c := by
        subst hm0
        exact beq_iff_eq.1 (List.findIdx_getElem (p := (· == c)) (w := hlt))
      have hat : bt s (m : Int) = c := bt_bytes _ _ _ (by rw [List.getElem?_eq_getElem hlt, hat0])
      have hbef : ∀ j : Nat, j < m → bt s (j : Int) ≠ c := by
        intro j hj e
        have hjl : j < (bytesOf s).length := by omega
        have h1 : ((bytesOf s)[j]'hjl == c) = false := by
          have := List.not_of_lt_findIdx (p := (· == c)) (xs := bytesOf s) (i := j) (by rw [← hm0]; exact hj)
          simpa using this
        have h2 := bytes_get s j (by omega)
        rw [List.getElem?_eq_getElem hjl] at h2
        rw [Option.some.inj h2, e] at h1
        simp at h1
      have i1 := index_at s p c hp (by omega) k m (by omega) hbef hml hat
      have hsplit : bytesOf s = (bytesOf s).take m ++ (c :: (bytesOf s).drop (m + 1)) := by
        rw [← hat0, ← List.drop_eq_getElem_cons hlt, List.take_append_drop]
      have x1 : bytesOf (s.extract 0 m) = (bytesOf s).take m := by rw [bytes_extract, List.drop_zero, Nat.sub_zero]
      have x2 : bytesOf (s.extract (m + 1) s.size) = (bytesOf s).drop (m + 1) := by
        rw [bytes_extract]; exact List.take_of_length_le (by rw [List.length_drop, bytesOf_length]; omega)
      have s1 : (s.extract 0 m).size = m := by rw [ByteArray.size_extract]; omega
      have s2 : (s.extract (m + 1) s.size).size = s.size - (m + 1) := by rw [ByteArray.size_extract]; omega
      have ih := strike_loop p q c hp hq (s.size - (m + 1)) k (s.extract (m + 1) s.size) (acc ++ bytesOf (s.extract 0 m) ++ bytesOf q) (by omega) (by omega)
        (by rw [hq, x1]; simp [bytesOf_length]; omega) (by rw [hq, x1]; simp [bytesOf_length]; omega) (by omega)
      have hfil : ((bytesOf s).take m).filter (· ≠ c) = (bytesOf s).take m := List.filter_eq_self.2 (fun x hx => by
        obtain ⟨j, hj, rfl⟩ := List.getElem_of_mem hx
        have hjm : j < m := by rw [List.length_take] at hj; omega
        rw [List.getElem_take]
        have h2 := bytes_get s j (by omega)
        rw [List.getElem?_eq_getElem (by omega)] at h2
        rw [Option.some.inj h2]
        simpa using hbef j hjm)
      simp only [excelize_zzReplaceAll.l0]
      rw [i1, Option.bind_some, if_neg (by omega), if_pos (by omega), if_pos (by omega), Int.toNat_natCast, if_pos (by omega), Option.bind_some,
        if_pos (by rw [List.length_append, bytesOf_length, s1, hqz]; omega), hsz, w64 _ (by omega) (by omega), if_pos (by omega), if_pos (by omega),
        show ((m : Int) + ((1 : Nat) : Int)).toNat = m + 1 from by omega, ih]
      congr 2
      rw [hq, x1, x2, List.append_nil]
      conv => rhs; rw [hsplit]
      rw [List.filter_append, hfil, List.filter_cons_of_neg (by simp), List.append_assoc]
    · have i2 := index_none s p c hp (by omega) k (by omega) (not_mem_bt hm)
      simp only [excelize_zzReplaceAll.l0]
      rw [i2, Option.bind_some, if_pos (by omega), if_pos (by omega)]
      congr 3
      exact (List.filter_eq_self.2 (fun x hx => by simp; intro e; exact hm (e ▸ hx))).symm
termination_by _ _ s => s.size
decreasing_by all_goals omega
theorem strike (s p q : ByteArray) (c : Int) (hp : bytesOf p = [c]) (hq : bytesOf q = []) (hs : s.size ≤ 1000000) (k : Nat) (hk : 2000002 ≤ k) :
    excelize_zzReplaceAll.f k s p q = some (strOfNums ((bytesOf s).filter (· ≠ c))) := by
  have h := strike_loop p q c hp hq s.size k s [] (Nat.le_refl _) hs (by simp) (by simp; exact hs) (by omega)
  rwa [List.nil_append] at h
theorem strike_none (s p q : ByteArray) (c : Int) (hp : bytesOf p = [c]) (hq : bytesOf q = []) (hs : s.size ≤ 1000000) (k : Nat) (hk : 2000002 ≤ k) (h : c ∉ bytesOf s) :
    excelize_zzReplaceAll.f k s p q = some s := by
  rw [strike s p q c hp hq hs k hk, List.filter_eq_self.2 (fun x hx => by simp; intro e; exact h (e ▸ hx)), bytes_str]
end Go.Proofs.YtmcppajgfhmpaaaGreatDoor.Str
