import Derived.Test.Qxb6630272aLook
namespace Go.Proofs.Qxb6630272a
open Go.RowKit Go.Lib

theorem isZero_any (w : World) : Calls Try.prog 11 #[.agg #[.string ByteArray.empty, .int .u8 0, .slice none 0 0]] w fun e w' => e = .returned (.bool true) ∧ Below w.heap.size w w' := by
  have hn := fun w a l c => Lib.run_eql_slice_nil (P := Try.prog) w 31 5 a l c 0 0 Try.underlying31
  go_enter Try.func11, Try.ntmps11
  go_wp2_with fail
  refine (data_any _ _ _ _ _ _).mono ?_
  rintro e w' ⟨rfl, o, rfl⟩
  go_wp2_with fail
  go_ret
  exact ⟨rfl, two_new w _ _⟩

set_option maxHeartbeats 1000000 in
theorem sameVal_any (n : ByteArray) (t : Int) (o1 o2 : Option Addr) (l1 l2 c1 c2 : Nat) (w : World) {r1 r2 : Option Nat} {nl : Bool} {D : List Int} (h1 : Bytes w r1 (.slice o1 l1 c1) nl D) (h2 : Bytes w r2 (.slice o2 l2 c2) nl D) (hb : D.length ≤ 1048576) :
    Calls Try.prog 12 #[.agg #[.string n, .int .u8 t, .slice o1 l1 c1], .agg #[.string n, .int .u8 t, .slice o2 l2 c2]] w fun e w' => e = .returned (.bool true) ∧ Below w.heap.size w w' := by
  have key : ∀ A B C E, Below w.heap.size w (((((w.alloc A).alloc B).alloc C).alloc E).drew) := fun A B C E => ((((two_new w A B).alloc (by simp; omega) C).alloc (by simp; omega) E)).drew
  go_enter Try.func12, Try.ntmps12
  go_wp2_with fail
  go_region_held3 (fun w' => w'.cell? ⟨w.heap.size, 0, none⟩ = some (.string n) ∧ w'.cell? ⟨w.heap.size, 1, none⟩ = some (.int .u8 t) ∧ w'.cell? ⟨w.heap.size, 2, none⟩ = some (.slice o1 l1 c1) ∧ w'.cell? ⟨w.heap.size + 1, 0, none⟩ = some (.string n) ∧ w'.cell? ⟨w.heap.size + 1, 1, none⟩ = some (.int .u8 t) ∧ w'.cell? ⟨w.heap.size + 1, 2, none⟩ = some (.slice o2 l2 c2)) (simp [go_sem, World.cell?_alloc_past])
    (first
      | (go_at_call 18; refine (data_any _ _ _ _ _ _).mono ?_; rintro e w' ⟨rfl, o, rfl⟩)
      | (go_at_call 17; refine (same_any (h1.below (key _ _ _ _)) (h2.below (key _ _ _ _)) hb).mono ?_; rintro e w' ⟨rfl, m, rfl⟩))
  go_wp2
  go_ret
  exact ⟨rfl, below_drewN (((two_new w _ _).alloc (by simp; omega) _).alloc (by simp; omega) _) _⟩
end Go.Proofs.Qxb6630272a
