/-
  THE SEAM: code points of x ++ [10] ++ y; how many of them are 10.
-/
import Derived.Test.Qxb6608979aRune
import Derived.Test.Qxb6608979aCount
namespace Go.Proofs.Qxb6608979a
open Go.RowKit

theorem get_list (l : List UInt8) (k : Nat) : (⟨l.toArray⟩ : ByteArray).get! k = l.getD k 0 := by
  show l.toArray[k]! = _
  rw [getElem!_def]
  simp [List.getD_eq_getElem?_getD]
  cases l[k]? <;> rfl

theorem bsz (s : ByteArray) : s.size = s.data.toList.length := by cases s; rfl

/-- The code point at the head of a list of bytes, and its width. -/
def dl (l : List UInt8) : Nat × Nat := Utf8.decode ⟨l.toArray⟩ 0

/-- What 'decode' looks at: the first byte, and bytes that go on. -/
def co (s : ByteArray) (i k : Nat) : Bool := decide (i + k < s.size) && (s.get! (i + k)).toNat / 64 == 2

theorem dec_congr (s t : ByteArray) (i j : Nat) (h0 : s.get! (i + 0) = t.get! (j + 0)) (h1 : co s i 1 = co t j 1) (h2 : co s i 1 = true → co s i 2 = co t j 2) (h3 : co s i 1 = true → co s i 2 = true → co s i 3 = co t j 3)
    (v1 : co s i 1 = true → s.get! (i + 1) = t.get! (j + 1)) (v2 : co s i 1 = true → co s i 2 = true → s.get! (i + 2) = t.get! (j + 2)) (v3 : co s i 1 = true → co s i 2 = true → co s i 3 = true → s.get! (i + 3) = t.get! (j + 3)) : Utf8.decode s i = Utf8.decode t j := by
  unfold Utf8.decode
  simp only [h0]
  by_cases c1 : co s i 1 = true
  · have e1 := v1 c1
    rw [c1] at h1
    have e2 := h2 c1
    by_cases c2 : co s i 2 = true
    · have f2 := v2 c1 c2
      have e3 := h3 c1 c2
      rw [c2] at e2
      by_cases c3 : co s i 3 = true
      · have f3 := v3 c1 c2 c3
        rw [c3] at e3
        unfold co at *
        rw [c1, c2, c3, ← h1, ← e2, ← e3]
        simp only [e1, f2, f3]
      · have c3' : co s i 3 = false := by simpa using c3
        rw [c3'] at e3
        unfold co at *
        rw [c1, c2, c3', ← h1, ← e2, ← e3]
        simp only [e1, f2]
        simp
    · have c2' : co s i 2 = false := by simpa using c2
      rw [c2'] at e2
      unfold co at *
      rw [c1, c2', ← h1, ← e2]
      simp only [e1]
      simp
  · have c1' : co s i 1 = false := by simpa using c1
    rw [c1'] at h1
    unfold co at *
    rw [c1', ← h1]
    simp

theorem co_list (l : List UInt8) (k : Nat) : co ⟨l.toArray⟩ 0 k = (decide (k < l.length) && (l.getD k 0).toNat / 64 == 2) := by
  unfold co
  rw [get_list]
  rw [bsz]; simp

theorem dec_drop (s : ByteArray) (i : Nat) : Utf8.decode s i = dl (s.data.toList.drop i) := by
  have g : ∀ k, s.get! (i + k) = (⟨(s.data.toList.drop i).toArray⟩ : ByteArray).get! (0 + k) := fun k => by
    have e2 : s.get! (i + k) = s.data.toList.getD (i + k) 0 := by rw [← get_list]
    rw [e2, get_list, Nat.zero_add]
    simp [List.getD_eq_getElem?_getD]
  have c : ∀ k, co s i k = co ⟨(s.data.toList.drop i).toArray⟩ 0 k := fun k => by
    unfold co
    rw [g k]
    congr 1
    rw [bsz, bsz]
    simp only [List.length_drop, decide_eq_decide]
    omega
  exact dec_congr _ _ _ _ (g 0) (c 1) (fun _ => c 2) (fun _ _ => c 3) (fun _ => g 1) (fun _ _ => g 2) (fun _ _ _ => g 3)

theorem dl_seam (x y : List UInt8) (hx : x ≠ []) : dl (x ++ 10 :: y) = dl x := by
  have hpos : 0 < x.length := List.length_pos_iff.2 hx
  have glt : ∀ k, k < x.length → (x ++ 10 :: y).getD k 0 = x.getD k 0 := fun k hk => by
    simp [List.getD_eq_getElem?_getD, List.getElem?_append_left hk]
  have gat : (x ++ 10 :: y).getD x.length 0 = 10 := by simp [List.getD_eq_getElem?_getD]
  have clt : ∀ k, k < x.length → co ⟨(x ++ 10 :: y).toArray⟩ 0 k = co ⟨x.toArray⟩ 0 k := fun k hk => by
    rw [co_list, co_list, glt k hk]; simp [hk]; omega
  have cat : ∀ k, k = x.length → co ⟨(x ++ 10 :: y).toArray⟩ 0 k = co ⟨x.toArray⟩ 0 k := fun k hk => by
    subst hk; rw [co_list, co_list, gat]; simp
  have vlt : ∀ k, k < x.length → (⟨(x ++ 10 :: y).toArray⟩ : ByteArray).get! (0 + k) = (⟨x.toArray⟩ : ByteArray).get! (0 + k) := fun k hk => by
    rw [get_list, get_list, Nat.zero_add, glt k hk]
  have ctr : ∀ k, k ≤ x.length → co ⟨(x ++ 10 :: y).toArray⟩ 0 k = true → k < x.length := fun k hk hc => by
    rcases Nat.lt_or_ge k x.length with h | h
    · exact h
    · obtain rfl : k = x.length := by omega
      rw [co_list, gat] at hc; simp at hc
  have cle : ∀ k, k ≤ x.length → co ⟨(x ++ 10 :: y).toArray⟩ 0 k = co ⟨x.toArray⟩ 0 k := fun k hk => by
    rcases Nat.lt_or_ge k x.length with h | h
    · exact clt k h
    · exact cat k (by omega)
  unfold dl
  refine dec_congr _ _ _ _ (vlt 0 hpos) (cle 1 (by omega)) ?_ ?_ ?_ ?_ ?_
  · intro a; have := ctr 1 (by omega) a; exact cle 2 (by omega)
  · intro a b; have h1 := ctr 1 (by omega) a; have := ctr 2 (by omega) b; exact cle 3 (by omega)
  · intro a; have := ctr 1 (by omega) a; exact vlt 1 (by omega)
  · intro a b; have h1 := ctr 1 (by omega) a; have := ctr 2 (by omega) b; exact vlt 2 (by omega)
  · intro a b c; have h1 := ctr 1 (by omega) a; have h2 := ctr 2 (by omega) b; have := ctr 3 (by omega) c; exact vlt 3 (by omega)

theorem dl_width (b : UInt8) (t : List UInt8) : 1 ≤ (dl (b :: t)).2 ∧ (dl (b :: t)).2 ≤ (b :: t).length ∧ (b = 10 → dl (b :: t) = (10, 1)) ∧ (b ≠ 10 → (dl (b :: t)).1 ≠ 10) ∧ (∀ k, k < (dl (b :: t)).2 → b ≠ 10 → (b :: t).getD k 0 ≠ 10) := by
  have c : ∀ k, (decide (0 + k < (⟨(b :: t).toArray⟩ : ByteArray).size) && ((⟨(b :: t).toArray⟩ : ByteArray).get! (0 + k)).toNat / 64 == 2) = true → k < (b :: t).length ∧ (b :: t).getD k 0 ≠ 10 := fun k h => by
    have e := co_list (b :: t) k
    unfold co at e
    rw [h] at e
    simp only [Bool.true_eq, Bool.and_eq_true, decide_eq_true_eq, beq_iff_eq] at e
    refine ⟨e.1, fun e10 => ?_⟩
    rw [e10] at e
    have := e.2
    simp at this
  have g0 : (⟨(b :: t).toArray⟩ : ByteArray).get! (0 + 0) = b := by rw [get_list]; rfl
  have hz : ∀ k, k < 1 → b ≠ 10 → (b :: t).getD k 0 ≠ 10 := fun k hk hb => by
    obtain rfl : k = 0 := by omega
    exact hb
  unfold dl Utf8.decode
  simp only [g0]
  have hb10 : 128 ≤ b.toNat → b ≠ 10 := fun h e => by subst e; simp at h
  split
  · rename_i h
    refine ⟨Nat.le_refl _, by simp, fun e => by subst e; rfl, fun hne e => hne (UInt8.toNat_inj.1 e), hz⟩
  · rename_i h0
    have hbb : b ≠ 10 := hb10 (by omega)
    split
    · rename_i h
      simp only [Bool.and_eq_true] at h
      have c1 := c 1 (by simpa using h.2)
      split
      · rename_i hr
        refine ⟨by simp, c1.1, fun e => absurd e hbb, fun _ => by simp only; omega, fun k hk _ => ?_⟩
        have hk : k < 2 := hk
        rcases Nat.lt_or_ge k 1 with h | h
        · exact hz k h hbb
        · obtain rfl : k = 1 := by omega
          exact c1.2
      · exact ⟨Nat.le_refl _, by simp, fun e => absurd e hbb, fun _ => by simp [Utf8.runeError], hz⟩
    · split
      · rename_i h
        simp only [Bool.and_eq_true] at h
        have c1 := c 1 (by simpa using h.1.2)
        have c2 := c 2 (by simpa using h.2)
        split
        · rename_i hr
          simp only [ge_iff_le, Bool.and_eq_true, decide_eq_true_eq] at hr
          refine ⟨by simp, c2.1, fun e => absurd e hbb, fun _ => by simp only; omega, fun k hk _ => ?_⟩
          have hk : k < 3 := hk
          rcases Nat.lt_or_ge k 1 with h | h
          · exact hz k h hbb
          · rcases Nat.lt_or_ge k 2 with h2 | h2
            · obtain rfl : k = 1 := by omega
              exact c1.2
            · obtain rfl : k = 2 := by omega
              exact c2.2
        · exact ⟨Nat.le_refl _, by simp, fun e => absurd e hbb, fun _ => by simp [Utf8.runeError], hz⟩
      · split
        · rename_i h
          simp only [Bool.and_eq_true] at h
          have c1 := c 1 (by simpa using h.1.1.2)
          have c2 := c 2 (by simpa using h.1.2)
          have c3 := c 3 (by simpa using h.2)
          split
          · rename_i hr
            simp only [ge_iff_le, Bool.and_eq_true, decide_eq_true_eq] at hr
            refine ⟨by simp, c3.1, fun e => absurd e hbb, fun _ => by simp only; omega, fun k hk _ => ?_⟩
            have hk : k < 4 := hk
            rcases Nat.lt_or_ge k 1 with h | h
            · exact hz k h hbb
            · rcases Nat.lt_or_ge k 2 with h2 | h2
              · obtain rfl : k = 1 := by omega
                exact c1.2
              · rcases Nat.lt_or_ge k 3 with h3 | h3
                · obtain rfl : k = 2 := by omega
                  exact c2.2
                · obtain rfl : k = 3 := by omega
                  exact c3.2
          · exact ⟨Nat.le_refl _, by simp, fun e => absurd e hbb, fun _ => by simp [Utf8.runeError], hz⟩
        · exact ⟨Nat.le_refl _, by simp, fun e => absurd e hbb, fun _ => by simp [Utf8.runeError], hz⟩

/-- The code points of a list of bytes. -/
def rl : Nat → List UInt8 → List Int
  | 0, _ => []
  | _ + 1, [] => []
  | n + 1, b :: t => ((dl (b :: t)).1 : Int) :: rl n ((b :: t).drop (dl (b :: t)).2)

theorem rl_fuel : ∀ (n m : Nat) (l : List UInt8), l.length ≤ n → l.length ≤ m → rl n l = rl m l
  | 0, 0, _, _, _ => rfl
  | 0, m + 1, [], _, _ => rfl
  | n + 1, 0, [], _, _ => rfl
  | n + 1, m + 1, [], _, _ => rfl
  | 0, m + 1, b :: t, h, _ => by simp at h
  | n + 1, 0, b :: t, _, h => by simp at h
  | n + 1, m + 1, b :: t, h1, h2 => by
    have hw := (dl_width b t).1
    simp only [List.length_cons] at h1 h2
    simp only [rl]
    rw [rl_fuel n m _ (by simp; omega) (by simp; omega)]

theorem runesFrom_rl (s : ByteArray) : ∀ (n i : Nat) (acc : Array Value), ((Conv.runesFrom s n i acc).toList.map numOf) = acc.toList.map numOf ++ rl n (s.data.toList.drop i)
  | 0, i, acc => by simp [Conv.runesFrom, rl]
  | n + 1, i, acc => by
    unfold Conv.runesFrom
    split
    · rename_i h
      have hd : s.data.toList.drop i ≠ [] := by
        intro e
        have := congrArg List.length e
        rw [bsz] at h
        simp only [List.length_drop, List.length_nil] at this
        omega
      rw [dec_drop]
      dsimp only
      rw [runesFrom_rl s n]
      cases hl : s.data.toList.drop i with
      | nil => exact absurd hl hd
      | cons b t =>
        simp only [rl, Array.toList_push, List.map_append, List.map_cons, List.map_nil, numOf, List.append_assoc, List.singleton_append]
        rw [← hl, List.drop_drop, hl]
        rfl
    · rename_i h
      have hd : s.data.toList.drop i = [] := by
        apply List.drop_eq_nil_of_le
        rw [bsz] at h
        omega
      rw [hd]
      simp [rl]
theorem rn_rl (s : ByteArray) : rn s = rl s.size s.data.toList := by
  unfold rn
  rw [runesFrom_rl]
  simp

theorem rl_seam (y : List UInt8) : ∀ (n : Nat) (x : List UInt8), x.length ≤ n → ∀ m, (x ++ 10 :: y).length ≤ m → rl m (x ++ 10 :: y) = rl n x ++ 10 :: rl y.length y
  | n, [], _, m, hm => by
    cases m with
    | zero => simp at hm
    | succ m =>
      have e := (dl_width 10 y).2.2.1 rfl
      have hn : rl n [] = [] := by cases n <;> rfl
      simp only [List.nil_append, rl, e, hn, List.drop_succ_cons, List.drop_zero]
      rw [rl_fuel m y.length y (by simp at hm; omega) (Nat.le_refl _)]
      rfl
  | 0, b :: t, h, m, hm => by simp at h
  | n + 1, b :: t, h, m, hm => by
    cases m with
    | zero => simp at hm
    | succ m =>
      have hw := dl_width b t
      have e := dl_seam (b :: t) y (by simp)
      simp only [List.cons_append] at e ⊢
      simp only [rl, e]
      have ed : (b :: (t ++ 10 :: y)).drop (dl (b :: t)).2 = (b :: t).drop (dl (b :: t)).2 ++ 10 :: y := by
        rw [← List.cons_append, List.drop_append_of_le_length hw.2.1]
      rw [ed, rl_seam y n _ (by simp only [List.length_drop, List.length_cons] at h ⊢; omega) m (by simp only [List.length_append, List.length_drop, List.length_cons, List.cons_append] at hm ⊢; omega)]
      rfl
theorem rn_seam (x y : ByteArray) (z : ByteArray) (hz : z.data.toList = x.data.toList ++ 10 :: y.data.toList) : rn z = rn x ++ 10 :: rn y := by
  rw [rn_rl z, rn_rl x, rn_rl y, hz]
  have hx : x.size = x.data.toList.length := bsz x
  have hy : y.size = y.data.toList.length := bsz y
  have hzs : z.size = (x.data.toList ++ 10 :: y.data.toList).length := by rw [← hz]; exact bsz z
  rw [hx, hy, hzs]
  exact rl_seam _ _ _ (Nat.le_refl _) _ (Nat.le_refl _)

theorem rl_count : ∀ (n : Nat) (l : List UInt8), l.length ≤ n → (rl n l).count 10 = l.count 10
  | 0, [], _ => rfl
  | n + 1, [], _ => rfl
  | 0, b :: t, h => by simp at h
  | n + 1, b :: t, h => by
    have hw := dl_width b t
    simp only [List.length_cons] at h
    have ih := rl_count n ((b :: t).drop (dl (b :: t)).2) (by simp only [List.length_drop, List.length_cons]; omega)
    simp only [rl, List.count_cons, ih]
    by_cases hb : b = 10
    · have e := hw.2.2.1 hb
      subst hb
      rw [e]
      simp
    · have h1 := hw.2.2.2.1 hb
      have h2 : ((b :: t).take (dl (b :: t)).2).count 10 = 0 := by
        rw [List.count_eq_zero]
        intro hm
        obtain ⟨k, hk, e⟩ := List.getElem_of_mem hm
        simp only [List.length_take] at hk
        refine hw.2.2.2.2 k (by omega) hb ?_
        rw [List.getD_eq_getElem?_getD, List.getElem?_eq_getElem (by omega)]
        simpa [List.getElem_take] using e
      have h3 : (b :: t).count 10 = ((b :: t).drop (dl (b :: t)).2).count 10 := by
        conv => lhs; rw [← List.take_append_drop (dl (b :: t)).2 (b :: t)]
        rw [List.count_append, h2, Nat.zero_add]
      rw [← List.count_cons, h3]
      have : (((dl (b :: t)).1 : Int) == 10) = false := by
        rw [beq_eq_false_iff_ne]
        omega
      simp [this]
theorem rn_count (s : ByteArray) : (rn s).count 10 = s.data.toList.count 10 := by
  rw [rn_rl]
  exact rl_count _ _ (by rw [bsz]; exact Nat.le_refl _)

theorem lnsA_seam (y : List Int) : ∀ (x cur : List Int), lnsA cur (x ++ 10 :: y) = lnsA cur x ++ lns y
  | [], cur => by simp [lnsA, lns]
  | c :: x, cur => by
    by_cases hc : c = 10
    · subst hc; simp [lnsA, lnsA_seam y x []]
    · simp [lnsA, hc, lnsA_seam y x (cur ++ [c])]
theorem lns_seam (x y : List Int) : lns (x ++ 10 :: y) = lns x ++ lns y := lnsA_seam y x []
end Go.Proofs.Qxb6608979a
