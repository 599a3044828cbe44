import Derived.Test.Qxb6630221aParts
namespace Go.Proofs.Qxb6630221a
open Go.RowKit Go.Lib

/-- The mark of a row. -/
def mark (active : Bool) : ByteArray := if active then ⟨#[97, 99, 116, 105, 118, 101]⟩ else ⟨#[45]⟩
/-- The cells of a row. -/
def lineCells (id title : ByteArray) (active : Bool) : List Value := strCells id ++ (.int .u8 9 :: (strCells (mark active) ++ (.int .u8 9 :: (strCells title ++ [.int .u8 10]))))

set_option maxHeartbeats 400000 in
theorem appendRow_any (id title : ByteArray) (active : Bool) (v : Value) (w : World) (xs : List Value) (hown : Full w v xs) (h1 : id.size ≤ 1048576) (h2 : title.size ≤ 1048576) (h3 : xs.length ≤ 1048576) :
    Calls Try.prog 7 #[.agg #[.string id, .string title], v, .bool active] w fun e w' => ∃ v', e = .returned v' ∧ w'.ownsRow w.heap.size 5 1 v' (xs ++ lineCells id title active).length (xs ++ lineCells id title active) ∧ Below w.heap.size w w' := by
  have A0 := Ap.begin hown (.cells #[.string id, .string title] 27)
  clear hown
  have C0 : (w.alloc (.cells #[.string id, .string title] 27)).cell? ⟨w.heap.size, 1, none⟩ = some (.string title) := by simp
  cases active with
  | false =>
    have Z : ByteArray.size ⟨#[45]⟩ = 1 := rfl
    go_enter Try.func7, Try.ntmps7
    go_wp2_with (first | (at_builtin; refine wpList_ap_string A0 rfl (.tmp 9) (.tmp 11) 25 rfl Try.underlying25 id rfl rfl (by omega) ?_; intro v1 w1 A1; clear A0) | (at_builtin; refine wpList_ap_byte (A1.alloc _) rfl (.tmp 13) (.tmp 14) rfl ⟨w1.heap.size, 0, none⟩ 1 (.int .u8 9) rfl rfl (by simp) rfl (by simp [strCells_length]; omega) ?_; intro v2 w2 A2; clear A1) | (at_builtin; refine wpList_ap_string A2 rfl (.tmp 15) (.tmp 16) 9 rfl Try.underlying9 ⟨#[45]⟩ rfl rfl (by rw [Z]; simp [strCells_length]; omega) ?_; intro v3 w3 A3; clear A2))
    have C3 := A3.cell C0
    have N3 := World.new_ne w3 ⟨w.heap.size, 1, none⟩ C3
    go_region_held3 (fun w' => w'.cell? ⟨w.heap.size, 1, none⟩ = some (.string title)) (first | (go_keep; done) | exact C4 | exact C5) (first | (refine step_ap_byte (A3.alloc _).drew rfl (.tmp 18) (.tmp 19) rfl ⟨w3.heap.size, 0, none⟩ 1 (.int .u8 9) rfl rfl (by simp) rfl (by simp [strCells_length]; omega) ?_; intro v4 w4 A4; have C4 := A4.cell C0) | (refine step_ap_string A4 rfl (.tmp 20) (.tmp 22) 9 rfl Try.underlying9 title rfl rfl (by simp [strCells_length]; omega) ?_; intro v5 w5 A5; have C5 := A5.cell C0))
    go_wp2_with (first | (at_builtin; refine wpList_ap_byte (A5.alloc _) rfl (.tmp 24) (.tmp 25) rfl ⟨w5.heap.size, 0, none⟩ 1 (.int .u8 10) rfl rfl (by simp) rfl (by simp [strCells_length, Z]; omega) ?_; intro v6 w6 A6))
    go_ret
    refine ⟨v6, rfl, ?_⟩
    have := A6.weaken (by intro e; have := congrArg List.length e; simp at this)
    simpa [lineCells, mark] using this
  | true =>
    have Z : ByteArray.size ⟨#[97, 99, 116, 105, 118, 101]⟩ = 6 := rfl
    go_enter Try.func7, Try.ntmps7
    go_wp2_with (first | (at_builtin; refine wpList_ap_string A0 rfl (.tmp 9) (.tmp 11) 25 rfl Try.underlying25 id rfl rfl (by omega) ?_; intro v1 w1 A1; clear A0) | (at_builtin; refine wpList_ap_byte (A1.alloc _) rfl (.tmp 13) (.tmp 14) rfl ⟨w1.heap.size, 0, none⟩ 1 (.int .u8 9) rfl rfl (by simp) rfl (by simp [strCells_length]; omega) ?_; intro v2 w2 A2; clear A1) | (at_builtin; refine wpList_ap_string A2 rfl (.tmp 15) (.tmp 16) 9 rfl Try.underlying9 ⟨#[97, 99, 116, 105, 118, 101]⟩ rfl rfl (by rw [Z]; simp [strCells_length]; omega) ?_; intro v3 w3 A3; clear A2))
    have C3 := A3.cell C0
    have N3 := World.new_ne w3 ⟨w.heap.size, 1, none⟩ C3
    go_region_held3 (fun w' => w'.cell? ⟨w.heap.size, 1, none⟩ = some (.string title)) (first | (go_keep; done) | exact C4 | exact C5) (first | (refine step_ap_byte (A3.alloc _).drew rfl (.tmp 18) (.tmp 19) rfl ⟨w3.heap.size, 0, none⟩ 1 (.int .u8 9) rfl rfl (by simp) rfl (by simp [strCells_length]; omega) ?_; intro v4 w4 A4; have C4 := A4.cell C0) | (refine step_ap_string A4 rfl (.tmp 20) (.tmp 22) 9 rfl Try.underlying9 title rfl rfl (by simp [strCells_length]; omega) ?_; intro v5 w5 A5; have C5 := A5.cell C0))
    go_wp2_with (first | (at_builtin; refine wpList_ap_byte (A5.alloc _) rfl (.tmp 24) (.tmp 25) rfl ⟨w5.heap.size, 0, none⟩ 1 (.int .u8 10) rfl rfl (by simp) rfl (by simp [strCells_length, Z]; omega) ?_; intro v6 w6 A6))
    go_ret
    refine ⟨v6, rfl, ?_⟩
    have := A6.weaken (by intro e; have := congrArg List.length e; simp at this)
    simpa [lineCells, mark] using this

end Go.Proofs.Qxb6630221a
