/-
  THE CODE POINTS of a string, as a list of numbers.
-/
import Derived.Test.Qxb6608979aSmall
import Derived.Laws.IdiomStrings
namespace Go.Proofs.Qxb6608979a
open Go.RowKit

def numOf : Value → Int
  | .int _ z => z
  | _ => 0
/-- The code points of s. -/
def rn (s : ByteArray) : List Int := (Conv.runesFrom s s.size 0 #[]).toList.map numOf

theorem runesFrom_num (s : ByteArray) : ∀ (bound i : Nat) (acc : Array Value), (∀ v ∈ acc.toList, ∃ z, v = .int .i32 z) → ∀ v ∈ (Conv.runesFrom s bound i acc).toList, ∃ z, v = .int .i32 z
  | 0, _, acc, h => by simpa [Conv.runesFrom] using h
  | bound + 1, i, acc, h => by
    unfold Conv.runesFrom
    split
    · refine runesFrom_num s bound _ _ ?_
      intro v hv
      simp at hv
      rcases hv with hv | rfl
      · exact h v (by simpa using hv)
      · exact ⟨_, rfl⟩
    · exact h

theorem map_num : ∀ l : List Value, (∀ v ∈ l, ∃ z, v = .int .i32 z) → (l.map numOf).map (Value.int .i32) = l
  | [], _ => rfl
  | v :: l, h => by
    obtain ⟨z, rfl⟩ := h v (by simp)
    simp only [List.map_cons, numOf]
    rw [map_num l (fun u hu => h u (by simp [hu]))]

theorem runes_eq (s : ByteArray) : Conv.runesFrom s s.size 0 #[] = ((rn s).map (Value.int .i32)).toArray := by
  unfold rn
  rw [map_num _ (runesFrom_num s s.size 0 #[] (by simp))]
theorem rn_len (s : ByteArray) : (rn s).length ≤ s.size := by
  have := size_runesFrom s s.size 0 #[]
  simp [rn] at this ⊢
  omega

/-- The new row of code points, zeros behind it. -/
def runeRow (s : ByteArray) (c : Nat) : Array Value := ((rn s).map (Value.int .i32)).toArray ++ Array.replicate (c - (rn s).length) (.int .i32 0)
theorem runeRow_at (s : ByteArray) (c m : Nat) (h : m < (rn s).length) : (runeRow s c)[m]? = some (.int .i32 (rn s)[m]) := by
  unfold runeRow
  rw [Array.getElem?_append_left (by simpa using h)]
  simp [h]

/-- '[]rune(s)'. -/
theorem conv_any (s : ByteArray) (hs : s.size ≤ 16777216) (W : World) : ∃ c, (rn s).length ≤ c ∧
    (convert 9 27 (.string s)).run Try.prog W = .ok (.slice (some ⟨W.heap.size, 0, none⟩) (rn s).length c) (W.drew.alloc (.cells (runeRow s c) 21)) := by
  have hl := rn_len s
  have hsz : (Conv.runesFrom s s.size 0 #[]).size = (rn s).length := by simp [rn]
  have h := run_runes_of_string (P := Try.prog) W 9 27 21 s Try.underlying9 Try.underlying27 Try.underlying21 (by omega)
  refine ⟨grownCap W (rn s).length 0 21, grownCap_ge _ _ _ _, ?_⟩
  rw [hsz] at h
  rw [h]
  unfold runeRow
  rw [runes_eq]
end Go.Proofs.Qxb6608979a
