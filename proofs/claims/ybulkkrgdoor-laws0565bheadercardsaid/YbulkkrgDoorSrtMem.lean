/-
  The row that is sorted: a slice of the call's own, as a list of integers; its exchange. The walks of 'swapRangeCmpFunc' (24) and 'rotateCmpFunc' (23).
-/
import Derived.Test.YbulkkrgDoorRows
import Derived.Test.YbulkkrgDoorSrtPlain
import Derived.WalkKit
import Derived.ProofKit
import Derived.WalkSmall
import Derived.BigRegion
namespace Go.Proofs.YbulkkrgDoor.Srt
open Go.RowKit
set_option linter.unusedVariables false

/-- the list as cells -/
def enc (l : List Int) : List Value := l.map (Value.int .i64)
theorem enc_set (l : List Int) (i : Nat) (x : Int) : (enc l).set i (.int .i64 x) = enc (l.set i x) := by simp [enc, List.map_set]
theorem enc_length (l : List Int) : (enc l).length = l.length := by simp [enc]

/-- the row in memory: from B on the blocks are the call's own -/
structure Row (w : World) (B g n cap : Nat) (l : List Int) : Prop where
  own : w.ownsRow B 3 1 (.slice (some ⟨g, 0, none⟩) n cap) n (enc l)

theorem Row.len {w : World} {B g n cap : Nat} {l : List Int} (h : Row w B g n cap l) : l.length = n := by
  have := h.own.1
  rw [enc_length] at this; omega
theorem Row.cell {w : World} {B g n cap : Nat} {l : List Int} (h : Row w B g n cap l) (j : Nat) (hj : j < n) : w.cell? ⟨g, j, none⟩ = some (.int .i64 (gt l j)) := by
  rw [h.own.cellAt j (by omega)]
  have := gt_get l j (by rw [h.len]; exact hj)
  simp [enc, this]
theorem Row.free {w : World} {B g n cap : Nat} {l : List Int} (h : Row w B g n cap l) (j : Nat) : w.frozen? ⟨g, j, none⟩ = false := h.own.frozenAt j
theorem Row.lt {w : World} {B g n cap : Nat} {l : List Int} (h : Row w B g n cap l) : B ≤ g ∧ g < w.heap.size := h.own.lt g rfl
theorem Row.cap {w : World} {B g n cap : Nat} {l : List Int} (h : Row w B g n cap l) : n ≤ cap := by
  rcases h.own.2 with ⟨h', _⟩ | ⟨g', cap', cur, h', _, _, hc, _⟩
  · simp at h'
  · simp only [Value.slice.injEq, Option.some.injEq, Addr.mk.injEq, and_true, true_and] at h'
    obtain ⟨_, rfl⟩ := h'; exact hc

/-- only block g has turned, and new blocks, and draws -/
def Same (g : Nat) (w w' : World) : Prop := w.grownBy w' (some g)
theorem Same.refl (g : Nat) (w : World) : Same g w w := World.grownBy.refl _ _
theorem Same.trans {g : Nat} {a b c : World} (h : Same g a b) (k : Same g b c) : Same g a c :=
  ⟨k.os.trans h.os, k.tape.trans h.tape, k.output.trans h.output, Nat.le_trans h.size k.size, fun i hi hne => (k.block i (Nat.lt_of_lt_of_le hi h.size) hne).trans (h.block i hi hne)⟩
theorem Same.drew {g : Nat} {a b : World} (h : Same g a b) : Same g a b.drew := ⟨h.os, h.tape, h.output, h.size, h.block⟩
theorem Same.drewN {g : Nat} {a b : World} (h : Same g a b) (n : Nat) : Same g a (b.drewN n) := ⟨h.os, h.tape, h.output, h.size, h.block⟩
theorem Row.drew {w : World} {B g n cap : Nat} {l : List Int} (h : Row w B g n cap l) : Row w.drew B g n cap l := ⟨h.own⟩
theorem Row.drewN {w : World} {B g n cap : Nat} {l : List Int} (h : Row w B g n cap l) (k : Nat) : Row (w.drewN k) B g n cap l := ⟨h.own⟩

/-- an exchange in memory -/
theorem Row.swap {w : World} {B g n cap : Nat} {l : List Int} (h : Row w B g n cap l) (i j : Nat) :
    Row ((w.setCell ⟨g, i, none⟩ (.int .i64 (gt l j))).setCell ⟨g, j, none⟩ (.int .i64 (gt l i))) B g n cap (swp l i j) ∧ Same g w ((w.setCell ⟨g, i, none⟩ (.int .i64 (gt l j))).setCell ⟨g, j, none⟩ (.int .i64 (gt l i))) := by
  have h1 := h.own.stored i (.int .i64 (gt l j))
  have h2 := h1.1.stored j (.int .i64 (gt l i))
  refine ⟨⟨?_⟩, Same.trans h1.2 h2.2⟩
  have := h2.1
  rwa [enc_set, enc_set] at this

set_option maxHeartbeats 1600000 in
theorem swapRange (B g n cap a b k : Nat) (fv : Value) (l : List Int) (w : World) (h : Row w B g n cap l) (hn : n ≤ 100000) (h1 : a + k ≤ b) (h2 : b + k ≤ n) :
    Calls Ybad.prog 24 #[.slice (some ⟨g, 0, none⟩) n cap, .int .i64 a, .int .i64 b, .int .i64 k, fv] w fun e w' => e = .returned (.tuple #[]) ∧ (∃ c, Row w' B g n cap c ∧ Xch l a b k c) ∧ Same g w w' := by
  have hcap := h.cap
  go_enter Ybad.func24, Ybad.ntmps24
  go_wp2
  go_loopw [10] (fun x wr => ∃ i : Nat, x = .int .i64 i ∧ i ≤ k ∧ (∃ c, Row wr B g n cap c ∧ Xch l a b i c) ∧ Same g w wr) (fun x _ => k - (intOf x).toNat)
  case atStart => exact ⟨0, rfl, Nat.zero_le _, ⟨l, h, Xch.start l a b⟩, Same.refl _ _⟩
  case round =>
    obtain ⟨i, rfl, hi, ⟨c, hR, hX⟩, hS⟩ := hrel
    by_cases hlt : i < k
    · have hlti : (i : Int) < k := by omega
      have c1 := hR.cell (a + i) (by omega)
      have c2 := hR.cell (b + i) (by omega)
      have f1 := hR.free (a + i)
      have f2 := hR.free (b + i)
      have hl := h.len
      have hs := hR.swap (a + i) (b + i)
      have hX' := hX.step (by omega) (by omega)
      have ha1 : (a : Int) + i < n := by omega
      have hb1 : (b : Int) + i < n := by omega
      clear hl
      go_wp2
      go_region
      go_wp2
      go_roundw
      case rel => exact ⟨i + 1, by go_num, by omega, ⟨_, hs.1.drew, hX'⟩, (hS.trans hs.2).drew⟩
      case measure => simp [intOf]; omega
    · go_wp2
      go_end0
      obtain rfl : i = k := by omega
      exact ⟨rfl, ⟨c, hR, hX⟩, hS⟩

set_option maxHeartbeats 1600000 in
theorem rotate (B g n cap a m b : Nat) (fv : Value) (l : List Int) (w : World) (h : Row w B g n cap l) (hn : n ≤ 100000) (h1 : a < m) (h2 : m < b) (h3 : b ≤ n) :
    Calls Ybad.prog 23 #[.slice (some ⟨g, 0, none⟩) n cap, .int .i64 a, .int .i64 m, .int .i64 b, fv] w fun e w' => e = .returned (.tuple #[]) ∧ (∃ c, Row w' B g n cap c ∧ Rot l a m b c) ∧ Same g w w' := by
  have hcap := h.cap
  go_enter Ybad.func23, Ybad.ntmps23
  go_wp2
  go_loopw [10, 11] (fun x y wr => ∃ i j : Nat, x = .int .i64 i ∧ y = .int .i64 j ∧ 0 < i ∧ 0 < j ∧ i ≤ n ∧ j ≤ n ∧ (∃ c, Row wr B g n cap c ∧ Todo l a m b i j c) ∧ Same g w wr) (fun x y _ => (intOf x).toNat + (intOf y).toNat)
  case atStart => exact ⟨m - a, b - m, by go_num, by go_num, by omega, by omega, by omega, by omega, ⟨l, h, Todo.start (by omega) (by omega)⟩, Same.refl _ _⟩
  case round =>
    obtain ⟨i, j, rfl, rfl, hi0, hj0, hin, hjn, ⟨c, hR, hT⟩, hS⟩ := hrel
    have t1 := hT.hi
    have t2 := hT.hj
    by_cases he : i = j
    · subst he
      have heb : ((i : Int) != (i : Int)) = false := by simp
      go_wp2_with fail
      rw [show (m : Int) - i = ((m - i : Nat) : Int) from by omega]
      refine (swapRange B g n cap (m - i) m i fv c _ hR hn (by omega) (by omega)).mono ?_
      rintro e w' ⟨rfl, ⟨d, hRd, hX⟩, hSd⟩
      go_wp2
      go_end0
      exact ⟨rfl, ⟨d, hRd, hT.last hX⟩, hS.trans hSd⟩
    · have heb : ((i : Int) != (j : Int)) = true := by rw [bne_iff_ne]; omega
      by_cases hgt : j < i
      · have hgti : (j : Int) < i := by omega
        go_wp2_with fail
        rw [show (m : Int) - i = ((m - i : Nat) : Int) from by omega]
        refine (swapRange B g n cap (m - i) m j fv c _ hR hn (by omega) (by omega)).mono ?_
        rintro e w' ⟨rfl, ⟨d, hRd, hX⟩, hSd⟩
        go_wp2
        go_roundw
        case rel => exact ⟨i - j, j, by go_num, by go_num, by omega, by omega, by omega, by omega, ⟨d, hRd, hT.left hgt hX⟩, hS.trans hSd⟩
        case measure => simp [intOf]; omega
      · have hgti : ¬ (j : Int) < i := by omega
        go_wp2_with fail
        rw [show (m : Int) - i = ((m - i : Nat) : Int) from by omega, show (m : Int) + j - i = ((m + j - i : Nat) : Int) from by omega]
        refine (swapRange B g n cap (m - i) (m + j - i) i fv c _ hR hn (by omega) (by omega)).mono ?_
        rintro e w' ⟨rfl, ⟨d, hRd, hX⟩, hSd⟩
        go_wp2
        go_roundw
        case rel => exact ⟨i, j - i, by go_num, by go_num, by omega, by omega, by omega, by omega, ⟨d, hRd, hT.right (by omega) hX⟩, hS.trans hSd⟩
        case measure => simp [intOf]; omega
end Go.Proofs.YbulkkrgDoor.Srt
