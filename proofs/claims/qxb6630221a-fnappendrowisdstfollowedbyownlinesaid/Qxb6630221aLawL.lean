import Derived.Test.Qxb6630221aPlain
import Derived.WalkSmall
namespace Go.Proofs.Qxb6630221a
open Go.RowKit Go.Lib

/-- What is known of the memory behind the two rows: every byte that the law looks at. 'm': the mark's length; 'N': m + 3. -/
structure Know2 (w : World) (d m N : Nat) (id title : ByteArray) (wo ao : Option Addr) (gr gl : Nat) (Dw Lw : Nat → Int) : Prop where
  want : 0 < d → ∃ g, wo = some ⟨g, 0, none⟩ ∧ ∀ k, k < d → w.cell? ⟨g, k, none⟩ = some (.int .u8 (Dw k))
  dst : 0 < d → ∃ g, ao = some ⟨g, 0, none⟩ ∧ ∀ k, k < d → w.cell? ⟨g, k, none⟩ = some (.int .u8 (Dw k))
  rD : ∀ k, k < d → w.cell? ⟨gr, k, none⟩ = some (.int .u8 (Dw k))
  rL : ∀ k, k < id.size + title.size + N → w.cell? ⟨gr, d + k, none⟩ = some (.int .u8 (Lw k))
  lL : ∀ k, k < id.size + title.size + N → w.cell? ⟨gl, k, none⟩ = some (.int .u8 (Lw k))
  lI : ∀ k (h : k < id.size), w.cell? ⟨gl, 0 + k, none⟩ = some (.int .u8 (id[k].toNat : Int))
  lTab : w.cell? ⟨gl, id.size, none⟩ = some (.int .u8 9)
  lTab2 : w.cell? ⟨gl, id.size + 1 + m, none⟩ = some (.int .u8 9)
  lTitle : ∀ k (h : k < title.size), w.cell? ⟨gl, id.size + 2 + m + k, none⟩ = some (.int .u8 (title[k].toNat : Int))
  lEnd : w.cell? ⟨gl, id.size + title.size + (m + 2), none⟩ = some (.int .u8 10)

theorem Know2.drewN {w : World} {d m N : Nat} {id title : ByteArray} {wo ao : Option Addr} {gr gl : Nat} {Dw Lw : Nat → Int} (h : Know2 w d m N id title wo ao gr gl Dw Lw) (q : Nat) : Know2 (w.drewN q) d m N id title wo ao gr gl Dw Lw := by
  have e : ∀ a, (w.drewN q).cell? a = w.cell? a := fun a => by simp
  exact { want := by simpa only [e] using h.want, dst := by simpa only [e] using h.dst, rD := by simpa only [e] using h.rD, rL := by simpa only [e] using h.rL, lL := by simpa only [e] using h.lL, lI := by simpa only [e] using h.lI, lTab := by simpa only [e] using h.lTab, lTab2 := by simpa only [e] using h.lTab2, lTitle := by simpa only [e] using h.lTitle, lEnd := by simpa only [e] using h.lEnd }

theorem know2 {w : World} {D : List Int} {id title : ByteArray} {active : Bool} {vw vd vr vl : Value} {br bl : Nat} {d m N : Nat} (hd : D.length = d) (hm : (mark active).size = m) (hN : N = m + 3)
    (hw : Full w vw (u8s D)) (hdst : Full w vd (u8s D)) (hr : w.ownsRow br 5 1 vr (u8s D ++ lineCells id title active).length (u8s D ++ lineCells id title active))
    (hl : w.ownsRow bl 5 1 vl ([] ++ lineCells id title active).length ([] ++ lineCells id title active)) :
    ∃ wo ao gr gl cr cl Dw Lw, vw = .slice wo d d ∧ vd = .slice ao d d ∧ vr = .slice (some ⟨gr, 0, none⟩) (d + id.size + title.size + N) cr ∧ vl = .slice (some ⟨gl, 0, none⟩) (id.size + title.size + N) cl ∧ Know2 w d m N id title wo ao gr gl Dw Lw := by
  subst hd hN
  obtain ⟨wo, rfl, h1⟩ := full_cells rfl hw
  obtain ⟨ao, rfl, h1'⟩ := full_cells rfl hdst
  have lI : (bytesI id).length = id.size := bytesI_length id
  have lT : (bytesI title).length = title.size := bytesI_length title
  have lM : (bytesI (mark active)).length = m := by rw [bytesI_length, hm]
  have la : (u8s D ++ lineCells id title active).length = D.length + id.size + title.size + (m + 3) := by
    rw [u8s_line, ← u8s_app, u8s_length, line_length, lI, lT, lM]; omega
  have lb : ([] ++ lineCells id title active).length = id.size + title.size + (m + 3) := by
    have := line_length [] (bytesI id) (bytesI (mark active)) (bytesI title)
    simp only [List.nil_append, List.length_nil] at this ⊢
    rw [u8s_line, u8s_length, this, lI, lT, lM]; omega
  rw [la, u8s_line, ← u8s_app] at hr
  rw [lb, u8s_line, List.nil_append] at hl
  obtain ⟨gr, cr, rfl, h2⟩ := own_cells hr (by omega)
  obtain ⟨gl, cl, rfl, h3⟩ := own_cells hl (by omega)
  refine ⟨wo, ao, gr, gl, cr, cl, fun k => D.getD k 0, fun k => (lineI (bytesI id) (bytesI (mark active)) (bytesI title)).getD k 0, rfl, rfl, rfl, rfl, ?_⟩
  refine { want := h1, dst := h1', rD := ?_, rL := ?_, lL := ?_, lI := ?_, lTab := ?_, lTab2 := ?_, lTitle := ?_, lEnd := ?_ }
  · intro k hk
    rw [h2 k (by omega), line_D _ _ _ _ _ hk]
  · intro k hk
    rw [h2 _ (by omega), getD_right]
  · intro k hk
    rw [h3 k (by omega)]
  · intro k hk
    rw [h3 _ (by omega)]
    have e := line_I [] (bytesI id) (bytesI (mark active)) (bytesI title) k (by omega)
    simp only [List.nil_append, List.length_nil] at e
    rw [e, bytesI_at id k hk]
  · rw [h3 _ (by omega)]
    have e := line_tab [] (bytesI id) (bytesI (mark active)) (bytesI title)
    simp only [List.nil_append, List.length_nil, lI, Nat.zero_add] at e
    rw [e]
  · rw [h3 _ (by omega)]
    have e := line_tail [] (bytesI id) (bytesI (mark active)) (bytesI title) 0
    simp only [List.nil_append, List.length_nil, lI, lM, Nat.zero_add, Nat.add_zero] at e
    rw [show id.size + 1 + m = id.size + (m + 1) from by omega, e]
    rfl
  · intro k hk
    rw [h3 _ (by omega)]
    have e := line_T [] (bytesI id) (bytesI (mark active)) (bytesI title) k (by omega)
    simp only [List.nil_append, List.length_nil, lI, lM, Nat.zero_add] at e
    rw [show id.size + 2 + m + k = id.size + (m + (k + 1) + 1) from by omega, e, bytesI_at title k hk]
  · rw [h3 _ (by omega)]
    have e := line_end [] (bytesI id) (bytesI (mark active)) (bytesI title)
    simp only [List.nil_append, List.length_nil, lI, lM, lT, Nat.zero_add] at e
    rw [show id.size + title.size + (m + 2) = id.size + (m + (title.size + 1) + 1) from by omega, e]

theorem same_any (ao wo : Option Addr) (n ca cb : Nat) (D : Nat → Int) (w : World) (hn : n ≤ 1048576) (h1 : 0 < n → ∃ g, ao = some ⟨g, 0, none⟩ ∧ ∀ k, k < n → w.cell? ⟨g, k, none⟩ = some (.int .u8 (D k)))
    (h2 : 0 < n → ∃ g, wo = some ⟨g, 0, none⟩ ∧ ∀ k, k < n → w.cell? ⟨g, k, none⟩ = some (.int .u8 (D k))) :
    Calls Try.prog 9 #[.slice ao n ca, .slice wo n cb] w fun e w' => e = .returned (.bool true) ∧ ∃ k, w' = w.drewN k := by
  by_cases h : n = 0
  · subst h; exact same_none ao wo ca cb w
  · obtain ⟨g, rfl, k1⟩ := h1 (by omega)
    obtain ⟨g', rfl, k2⟩ := h2 (by omega)
    refine same_some g g' n ca cb ((List.range n).map D) w (by omega) ?_ ?_
    · intro i hi; rw [k1 i hi]; simp [List.getD, hi]
    · intro i hi; rw [k2 i hi]; simp [List.getD, hi]
end Go.Proofs.Qxb6630221a
