import Derived.Test.Qxb6630221aPlain
import Derived.WalkSmall
namespace Go.Proofs.Qxb6630221a
open Go.RowKit Go.Lib

/-- What is known of the memory behind the two rows: every byte that the law looks at. -/
structure Know (w : World) (d i t : Nat) (id title : ByteArray) (wo : Option Addr) (ga gb : Nat) (Dw Tw : Nat → Int) : Prop where
  want : 0 < d → ∃ g, wo = some ⟨g, 0, none⟩ ∧ ∀ k, k < d → w.cell? ⟨g, k, none⟩ = some (.int .u8 (Dw k))
  aD : ∀ k, k < d → w.cell? ⟨ga, k, none⟩ = some (.int .u8 (Dw k))
  bD : ∀ k, k < d → w.cell? ⟨gb, k, none⟩ = some (.int .u8 (Dw k))
  aI : ∀ k (h : k < id.size), w.cell? ⟨ga, d + k, none⟩ = some (.int .u8 (id[k].toNat : Int))
  bI : ∀ k (h : k < id.size), w.cell? ⟨gb, d + k, none⟩ = some (.int .u8 (id[k].toNat : Int))
  aTab : w.cell? ⟨ga, d + i, none⟩ = some (.int .u8 9)
  bTab : w.cell? ⟨gb, d + i, none⟩ = some (.int .u8 9)
  aM : ∀ k (h : k < (mark true).size), w.cell? ⟨ga, d + i + 1 + k, none⟩ = some (.int .u8 ((mark true)[k].toNat : Int))
  bM : w.cell? ⟨gb, d + i + 1, none⟩ = some (.int .u8 45)
  aT : ∀ k, d + i + 2 ≤ k → k < d + i + t + 4 → w.cell? ⟨ga, k + 5, none⟩ = some (.int .u8 (Tw k))
  bT : ∀ k, d + i + 2 ≤ k → k < d + i + t + 4 → w.cell? ⟨gb, k, none⟩ = some (.int .u8 (Tw k))
  bTab2 : w.cell? ⟨gb, d + i + 1 + 1, none⟩ = some (.int .u8 9)
  bTitle : ∀ k (h : k < title.size), w.cell? ⟨gb, d + i + 1 + 2 + k, none⟩ = some (.int .u8 (title[k].toNat : Int))
  bEnd : w.cell? ⟨gb, d + i + t + 3, none⟩ = some (.int .u8 10)

theorem know {w : World} {D : List Int} {id title : ByteArray} {vw va vb : Value} {ba bb : Nat} {d i t : Nat} (hd : D.length = d) (hi : id.size = i) (ht : title.size = t)
    (hw : Full w vw (u8s D)) (ha : w.ownsRow ba 5 1 va (u8s D ++ lineCells id title true).length (u8s D ++ lineCells id title true))
    (hb : w.ownsRow bb 5 1 vb (u8s D ++ lineCells id title false).length (u8s D ++ lineCells id title false)) :
    ∃ wo ga gb ca cb Dw Tw, vw = .slice wo d d ∧ va = .slice (some ⟨ga, 0, none⟩) (d + i + t + 9) ca ∧ vb = .slice (some ⟨gb, 0, none⟩) (d + i + t + 4) cb ∧ Know w d i t id title wo ga gb Dw Tw := by
  subst hd hi ht
  obtain ⟨wo, rfl, h1⟩ := full_cells rfl hw
  have la : (u8s D ++ lineCells id title true).length = D.length + id.size + title.size + 9 := by
    have hm : (mark true).size = 6 := rfl
    rw [u8s_line, ← u8s_app, u8s_length, line_length, bytesI_length, bytesI_length, bytesI_length, hm]; omega
  have lb : (u8s D ++ lineCells id title false).length = D.length + id.size + title.size + 4 := by
    have hm : (mark false).size = 1 := rfl
    rw [u8s_line, ← u8s_app, u8s_length, line_length, bytesI_length, bytesI_length, bytesI_length, hm]; omega
  rw [la, u8s_line, ← u8s_app] at ha
  rw [lb, u8s_line, ← u8s_app] at hb
  obtain ⟨ga, ca, rfl, h2⟩ := own_cells ha (by omega)
  obtain ⟨gb, cb, rfl, h3⟩ := own_cells hb (by omega)
  have lI : (bytesI id).length = id.size := bytesI_length id
  have lT : (bytesI title).length = title.size := bytesI_length title
  have lMt : (bytesI (mark true)).length = 6 := rfl
  have lMf : (bytesI (mark false)).length = 1 := rfl
  refine ⟨wo, ga, gb, ca, cb, fun k => D.getD k 0, fun k => (9 :: (bytesI title ++ [10])).getD (k - (D.length + id.size + 2)) 0, rfl, rfl, rfl, ?_⟩
  refine { want := h1, aD := ?_, bD := ?_, aI := ?_, bI := ?_, aTab := ?_, bTab := ?_, aM := ?_, bM := ?_, aT := ?_, bT := ?_, bTab2 := ?_, bTitle := ?_, bEnd := ?_ }
  · intro k hk
    rw [h2 k (by omega), line_D _ _ _ _ _ hk]
  · intro k hk
    rw [h3 k (by omega), line_D _ _ _ _ _ hk]
  · intro k hk
    rw [h2 _ (by omega), line_I _ _ _ _ _ (by omega), bytesI_at id k hk]
  · intro k hk
    rw [h3 _ (by omega), line_I _ _ _ _ _ (by omega), bytesI_at id k hk]
  · rw [h2 _ (by omega), ← lI, line_tab]
  · rw [h3 _ (by omega), ← lI, line_tab]
  · intro k hk
    have hk' : k < 6 := hk
    rw [h2 _ (by omega), ← lI, show D.length + (bytesI id).length + 1 + k = D.length + (bytesI id).length + (k + 1) from by omega, line_M _ _ _ _ _ (by omega), bytesI_at _ k hk]
  · rw [h3 _ (by omega), ← lI, show D.length + (bytesI id).length + 1 = D.length + (bytesI id).length + (0 + 1) from by omega, line_M _ _ _ _ _ (by omega)]
    rfl
  · intro k hk1 hk2
    rw [h2 _ (by omega)]
    have e := line_tail D (bytesI id) (bytesI (mark true)) (bytesI title) (k - (D.length + id.size + 2))
    rw [lI, lMt, show D.length + id.size + (6 + (k - (D.length + id.size + 2)) + 1) = k + 5 from by omega] at e
    rw [e]
  · intro k hk1 hk2
    rw [h3 _ (by omega)]
    have e := line_tail D (bytesI id) (bytesI (mark false)) (bytesI title) (k - (D.length + id.size + 2))
    rw [lI, lMf, show D.length + id.size + (1 + (k - (D.length + id.size + 2)) + 1) = k from by omega] at e
    rw [e]
  · rw [h3 _ (by omega)]
    have e := line_tail D (bytesI id) (bytesI (mark false)) (bytesI title) 0
    rw [lI, lMf] at e
    exact congrArg (fun z => some (Value.int .u8 z)) e
  · intro k hk
    rw [h3 _ (by omega)]
    have e := line_T D (bytesI id) (bytesI (mark false)) (bytesI title) k (by omega)
    rw [lI, lMf, show D.length + id.size + (1 + (k + 1) + 1) = D.length + id.size + 1 + 2 + k from by omega, bytesI_at title k hk] at e
    rw [e]
  · rw [h3 _ (by omega)]
    have e := line_end D (bytesI id) (bytesI (mark false)) (bytesI title)
    rw [lI, lMf, lT, show D.length + id.size + (1 + (title.size + 1) + 1) = D.length + id.size + title.size + 3 from by omega] at e
    rw [e]

theorem Know.drewN {w : World} {d i t : Nat} {id title : ByteArray} {wo : Option Addr} {ga gb : Nat} {Dw Tw : Nat → Int} (h : Know w d i t id title wo ga gb Dw Tw) (m : Nat) : Know (w.drewN m) d i t id title wo ga gb Dw Tw := by
  have e : ∀ a, (w.drewN m).cell? a = w.cell? a := fun a => by simp
  exact { want := by simpa only [e] using h.want, aD := by simpa only [e] using h.aD, bD := by simpa only [e] using h.bD, aI := by simpa only [e] using h.aI, bI := by simpa only [e] using h.bI, aTab := by simpa only [e] using h.aTab, bTab := by simpa only [e] using h.bTab, aM := by simpa only [e] using h.aM, bM := by simpa only [e] using h.bM, aT := by simpa only [e] using h.aT, bT := by simpa only [e] using h.bT, bTab2 := by simpa only [e] using h.bTab2, bTitle := by simpa only [e] using h.bTitle, bEnd := by simpa only [e] using h.bEnd }
end Go.Proofs.Qxb6630221a
