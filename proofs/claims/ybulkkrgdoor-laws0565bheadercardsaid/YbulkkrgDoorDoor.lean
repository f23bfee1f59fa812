/-
  The door of the three rows: the tables as they are laid, the hits as they come in, the four variables read back.
-/
import Derived.Test.YbulkkrgDoorLawCode
import Derived.ProofKit
import Derived.LaidMore
import Derived.OpenShut
import Derived.OpenVars
import Derived.ShutString
import Derived.ChangeOld
import Derived.Below
import Derived.Lib.LaidTab
import Derived.Deep.SlicePairs
import Derived.Stop.Joined
import Derived.Stop.LaidErr
import Derived.WalkSmall
namespace Go.Proofs.YbulkkrgDoor.Dr
open Go.ChangeShapes Go.WideShapes Go.ChangeAt Go.WideMaps Go.WideElems Go.RowKit
open Go.Proofs.YbulkkrgDoor.Srt Go.Proofs.YbulkkrgDoor.De Go.Proofs.YbulkkrgDoor.Sm Go.Proofs.YbulkkrgDoor.Bl Go.Proofs.YbulkkrgDoor.Bu
open Go.Lib (TabIs tabData)
set_option linter.unusedVariables false

theorem own : ownKnob Ybad.prog.godebug = none := by kernel_rfl
theorem laidOut : laidOutB Ybad.prog = true := by kernel_rfl

/-- the variables' names, off the row's own text -/
abbrev nO : String := Rows.lawS0565BCodeSpec.vars.getD 0 ""
abbrev nX : String := Rows.lawS0565BCodeSpec.vars.getD 1 ""
abbrev nL : String := Rows.lawS0565BCodeSpec.vars.getD 2 ""
abbrev nD : String := Rows.lawS0565BCodeSpec.vars.getD 3 ""
theorem gO : Ybad.prog.globalNamed nO = some 0 := by kernel_rfl
theorem gX : Ybad.prog.globalNamed nX = some 1 := by kernel_rfl
theorem gL : Ybad.prog.globalNamed nL = some 2 := by kernel_rfl
theorem gD : Ybad.prog.globalNamed nD = some 3 := by kernel_rfl
theorem tO : (Ybad.prog.globals[0]?).map (·.type) = some 32 := by kernel_rfl
theorem tX : (Ybad.prog.globals[1]?).map (·.type) = some 32 := by kernel_rfl
theorem tL : (Ybad.prog.globals[2]?).map (·.type) = some 62 := by kernel_rfl
theorem tD : (Ybad.prog.globals[3]?).map (·.type) = some 26 := by kernel_rfl

/-- the rows' own list -/
abbrev laid4 : List (String × DataW Unit) := Rows.lawS0565BCodeRow.laid

theorem door_met (os : Os) (args : Array Value) : laidMetH Ybad.prog laid4 ((World.doorLaid Ybad.prog 731 os).forCall (fun _ _ => 0) ⟨#[], args, []⟩).memory :=
  laidMetH_of_parts3 (fuel := 8) (laidMet_of_run' 8 (by kernel_rfl) (by kernel_rfl)) (by kernel_rfl) (by kernel_rfl)

theorem of_laid {W : World} (h : laidMetH Ybad.prog laid4 W) : Tb W := by
  rw [MakeChecks.laidMetH_plain _ _ _ (by kernel_rfl)] at h
  have h1 : laidMet Ybad.prog ((nL, tabData .u8 lX) :: _) W := h
  have h2 : laidMet Ybad.prog ((nD, tabData .u8 dX) :: _) W := h.tail
  have h3 : laidMet Ybad.prog ((nO, tabData .u8 ordL) :: _) W := h.tail.tail
  have h4 : laidMet Ybad.prog ((nX, tabData .u8 clX) :: _) W := h.tail.tail.tail
  have k1 : TabIs Ybad.prog W nL .u8 lX := Lib.tabIs_of_head gL tL Ybad.underlying62 Ybad.underlying5 (by kernel_rfl) (by kernel_rfl) h1
  have k2 : TabIs Ybad.prog W nD .u8 dX := Lib.tabIs_of_head gD tD Ybad.underlying26 Ybad.underlying5 (by kernel_rfl) (by kernel_rfl) h2
  have k3 : TabIs Ybad.prog W nO .u8 ordL := Lib.tabIs_of_head gO tO Ybad.underlying32 Ybad.underlying5 (by kernel_rfl) (by kernel_rfl) h3
  have k4 : TabIs Ybad.prog W nX .u8 clX := Lib.tabIs_of_head gX tX Ybad.underlying32 Ybad.underlying5 (by kernel_rfl) (by kernel_rfl) h4
  exact ⟨fun j hj => k3.cell gO j hj, fun j hj => k4.cell gX j hj, fun j hj => k1.cell gL j hj, fun j hj => k2.cell gD j hj⟩

theorem tb_size {W : World} (h : Tb W) : 4 ≤ W.heap.size := World.block_lt_of_cell? W ⟨3, 0, none⟩ (h.t3 0 (by omega))

theorem bd_u16 {x : Int} (h : (Lit.int .u16 x).wf = true) : 0 ≤ x ∧ x ≤ 65535 := by
  simp only [Lit.wf, Bool.and_eq_true, decide_eq_true_eq] at h
  exact h
theorem bd_u32 {x : Int} (h : (Lit.int .u32 x).wf = true) : 0 ≤ x ∧ x ≤ 4294967295 := by
  simp only [Lit.wf, Bool.and_eq_true, decide_eq_true_eq] at h
  exact h

theorem hits_of {H : Type} {enc : TypeId × Value → H} {W : World} {base : Nat} {sp : Nat → Bool} {held : Bool} {fuel : Nat} {a : Option Addr} {len cap : Nat} {x : DataW H × List MemPlace} (h : DataW.trod enc Ybad.prog W base sp held fuel 22 [.slice a len cap] = some x) : Hits W a len ∧ len ≤ maxLen := by
  rcases Deep.open_slice_pairs Ybad.underlying22 Ybad.underlying55 (by kernel_rfl) rfl rfl (by kernel_rfl) (by kernel_rfl) h with ⟨hcs, _⟩ | ⟨b, l, c, m, n, V0, V1, D0, D1, P0, P1, hcs, _, hl, hm, hmm, _, hx⟩
  · simp at hcs
    obtain ⟨rfl, rfl, rfl⟩ := hcs
    exact ⟨.inl rfl, by unfold maxLen; omega⟩
  · simp at hcs
    obtain ⟨rfl, rfl, rfl⟩ := hcs
    have hlm : len ≤ m := by rw [hmm]; split <;> omega
    refine ⟨?_, by omega⟩
    by_cases h0 : len = 0
    · exact .inl h0
    right
    obtain ⟨bb, off, spot⟩ := b
    have hspot : spot = none := by simpa [Addr.add] using World.cell?_spot (hx 0 (by omega)).1
    subst hspot
    refine ⟨bb, off, rfl, fun j hj => ?_⟩
    obtain ⟨q1, q2, q3, q4⟩ := hx j (by omega)
    obtain ⟨u, e1, _, w1⟩ := DataW.trod_int Ybad.underlying27 q3
    obtain ⟨v, e2, _, w2⟩ := DataW.trod_int Ybad.underlying43 q4
    have e1' : V0 j = .int .u16 u := by simpa using e1
    have e2' : V1 j = .int .u32 v := by simpa using e2
    have b1 := bd_u16 w1
    have b2 := bd_u32 w2
    rw [Go.WideShapes.add_plain, e1'] at q1
    rw [Go.WideShapes.add_plain, e2'] at q2
    refine ⟨u.toNat, v.toNat, ?_, by omega, ?_, by omega⟩
    · rw [show ((u.toNat : Nat) : Int) = u by omega]; exact q1
    · rw [show ((v.toNat : Nat) : Int) = v by omega]; exact q2

theorem four {H : Type} {enc : TypeId × Value → H} {P : Program} {w : World} {sp : Nat → Bool} {n0 n1 n2 n3 : String} {gs : List (DataW H)} {ps : List MemPlace} (h : DataW.TrodVars enc P w sp [n0, n1, n2, n3] gs ps) : ∃ g1 g2 g3 g4, gs = [g1, g2, g3, g4] := by
  rcases gs with _ | ⟨g1, gs⟩
  · exact h.elim
  obtain ⟨_, _, _, _, _, _, _, _, _, _, h, _⟩ := h
  rcases gs with _ | ⟨g2, gs⟩
  · exact h.elim
  obtain ⟨_, _, _, _, _, _, _, _, _, _, h, _⟩ := h
  rcases gs with _ | ⟨g3, gs⟩
  · exact h.elim
  obtain ⟨_, _, _, _, _, _, _, _, _, _, h, _⟩ := h
  rcases gs with _ | ⟨g4, gs⟩
  · exact h.elim
  obtain ⟨_, _, _, _, _, _, _, _, _, _, h, _⟩ := h
  rcases gs with _ | ⟨g5, gs⟩
  · exact ⟨g1, g2, g3, g4, rfl⟩
  · exact h.elim
end Go.Proofs.YbulkkrgDoor.Dr
