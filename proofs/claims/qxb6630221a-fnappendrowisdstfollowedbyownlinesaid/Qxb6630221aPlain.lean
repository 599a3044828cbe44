import Derived.Test.Qxb6630221aSmall
import Derived.Test.Qxb6630221aRow
namespace Go.Proofs.Qxb6630221a
open Go.RowKit Go.Lib

/-! ### PLAIN LISTS -/
theorem getD_left (A B : List Int) (i : Nat) (h : i < A.length) : (A ++ B).getD i 0 = A.getD i 0 := by
  simp [List.getD, List.getElem?_append, h]
theorem getD_right (A B : List Int) (j : Nat) : (A ++ B).getD (A.length + j) 0 = B.getD j 0 := by
  have h : ¬ A.length + j < A.length := by omega
  simp [List.getD, List.getElem?_append, h]
theorem getD_cons (x : Int) (B : List Int) (j : Nat) : (x :: B).getD (j + 1) 0 = B.getD j 0 := by
  simp [List.getD]

/-- A row's bytes. -/
def lineI (I M T : List Int) : List Int := I ++ (9 :: (M ++ (9 :: (T ++ [10]))))
/-- A string's bytes. -/
def bytesI (s : ByteArray) : List Int := s.data.toList.map fun b => (b.toNat : Int)

theorem bytesI_length (s : ByteArray) : (bytesI s).length = s.size := by
  simp only [bytesI, List.length_map, Array.length_toList]; rfl
theorem bytesI_at (s : ByteArray) (i : Nat) (h : i < s.size) : (bytesI s).getD i 0 = (s[i].toNat : Int) := by
  have h' : i < s.data.size := h
  have e : s.data[i]? = some s[i] := Array.getElem?_eq_getElem h'
  simp [bytesI, List.getD, e]
theorem u8s_bytesI (s : ByteArray) : u8s (bytesI s) = strCells s := by
  simp [u8s, bytesI, strCells]
theorem u8s_app (A B : List Int) : u8s (A ++ B) = u8s A ++ u8s B := by simp [u8s]
theorem u8s_line (id title : ByteArray) (active : Bool) : lineCells id title active = u8s (lineI (bytesI id) (bytesI (mark active)) (bytesI title)) := by
  simp only [lineI, lineCells, ← u8s_bytesI]
  simp [u8s]

theorem line_length (D I M T : List Int) : (D ++ lineI I M T).length = D.length + I.length + M.length + T.length + 3 := by
  simp [lineI]; omega
theorem line_D (D I M T : List Int) (k : Nat) (h : k < D.length) : (D ++ lineI I M T).getD k 0 = D.getD k 0 := getD_left _ _ _ h
theorem line_I (D I M T : List Int) (k : Nat) (h : k < I.length) : (D ++ lineI I M T).getD (D.length + k) 0 = I.getD k 0 := by
  rw [getD_right]; exact getD_left _ _ _ h
theorem line_after (D I M T : List Int) (k : Nat) : (D ++ lineI I M T).getD (D.length + I.length + k) 0 = (9 :: (M ++ (9 :: (T ++ [10])))).getD k 0 := by
  rw [Nat.add_assoc, getD_right]; exact getD_right _ _ _
theorem line_tab (D I M T : List Int) : (D ++ lineI I M T).getD (D.length + I.length) 0 = 9 := line_after D I M T 0
theorem line_M (D I M T : List Int) (k : Nat) (h : k < M.length) : (D ++ lineI I M T).getD (D.length + I.length + (k + 1)) 0 = M.getD k 0 := by
  rw [line_after, getD_cons]; exact getD_left _ _ _ h
theorem line_tail (D I M T : List Int) (k : Nat) : (D ++ lineI I M T).getD (D.length + I.length + (M.length + k + 1)) 0 = (9 :: (T ++ [10])).getD k 0 := by
  rw [line_after, getD_cons]; exact getD_right _ _ _
theorem line_T (D I M T : List Int) (k : Nat) (h : k < T.length) : (D ++ lineI I M T).getD (D.length + I.length + (M.length + (k + 1) + 1)) 0 = T.getD k 0 := by
  rw [line_tail, getD_cons]; exact getD_left _ _ _ h
theorem line_end (D I M T : List Int) : (D ++ lineI I M T).getD (D.length + I.length + (M.length + (T.length + 1) + 1)) 0 = 10 := by
  rw [line_tail, getD_cons]; exact getD_right T [10] 0

/-! ### FROM WHAT IS OWNED TO CELLS -/
theorem cell_row (w : World) (g : Nat) (cur : Array Value) (j : Nat) (h : w.heap[g]? = some (.cells cur 5 (0, 0))) : w.cell? ⟨g, j, none⟩ = cur[j]? := cell_of_row w g j cur 5 (0, 0) h
theorem own_cells {w : World} {base n : Nat} {v : Value} {X : List Int} (h : w.ownsRow base 5 1 v n (u8s X)) (h0 : 0 < n) :
    ∃ g cap, v = .slice (some ⟨g, 0, none⟩) n cap ∧ ∀ i, i < n → w.cell? ⟨g, i, none⟩ = some (.int .u8 (X.getD i 0)) := by
  have hl : X.length = n := by have := h.1; simp [u8s] at this; exact this
  rcases h.2 with ⟨_, h2⟩ | ⟨g, cap, cur, h2, hb, hg, h3, h4, h5, h6⟩
  · omega
  · refine ⟨g, cap, h2, fun i hi => ?_⟩
    have hi' : i < X.length := by omega
    rw [cell_row w g cur i hg]
    have e : (cur.toList.take (n * 1))[i]? = (u8s X)[i]? := by rw [h6]
    rw [List.getElem?_take, if_pos (by omega)] at e
    simp only [Array.getElem?_toList] at e
    rw [e]
    simp [u8s, List.getD, hi']
theorem full_cells {w : World} {v : Value} {X : List Int} {n : Nat} (hl : X.length = n) (h : Full w v (u8s X)) :
    ∃ o, v = .slice o n n ∧ (0 < n → ∃ g, o = some ⟨g, 0, none⟩ ∧ ∀ i, i < n → w.cell? ⟨g, i, none⟩ = some (.int .u8 (X.getD i 0))) := by
  rcases h with ⟨h1, h2⟩ | ⟨g, h1, h2⟩
  · have : X = [] := by simpa [u8s] using h2
    subst this
    simp at hl
    subst hl
    exact ⟨none, h1, fun h => absurd h (by omega)⟩
  · refine ⟨some ⟨g, 0, none⟩, by rw [h1]; simp [u8s, hl], fun _ => ⟨g, rfl, fun i hi => ?_⟩⟩
    have hi' : i < X.length := by omega
    rw [cell_row w g _ i h2]
    simp [u8s, List.getD, hi']
end Go.Proofs.Qxb6630221a
