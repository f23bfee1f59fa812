/-
  The runs of code lengths: what they expand to; the header in memory.
-/
import Derived.Test.YbulkkrgDoorHuMem
namespace Go.Proofs.YbulkkrgDoor.De
open Go.RowKit Go.Proofs.YbulkkrgDoor.Srt Go.Proofs.YbulkkrgDoor.Mm Go.Proofs.YbulkkrgDoor.Hu
set_option linter.unusedVariables false

/-- the lengths with one run more -/
def exS (out : List Int) (r : Int × Int) : List Int :=
  if r.1 < 16 then out ++ [r.1] else if r.1 = 16 then out ++ List.replicate (3 + r.2.toNat) (gt out (out.length - 1)) else if r.1 = 17 then out ++ List.replicate (3 + r.2.toNat) 0 else out ++ List.replicate (11 + r.2.toNat) 0
/-- a run that may stand behind these lengths -/
structure ok1 (out : List Int) (r : Int × Int) : Prop where
  s0 : 0 ≤ r.1
  s1 : r.1 ≤ 18
  e0 : 0 ≤ r.2
  lit : r.1 < 16 → r.2 = 0
  rep : r.1 = 16 → out ≠ [] ∧ r.2 ≤ 3
  z17 : r.1 = 17 → r.2 ≤ 7
  z18 : r.1 = 18 → r.2 ≤ 127
def ex (R : List (Int × Int)) : List Int := R.foldl exS []
theorem ex_snoc (R : List (Int × Int)) (r : Int × Int) : ex (R ++ [r]) = exS (ex R) r := by unfold ex; rw [List.foldl_append]; rfl
structure Rn (R : List (Int × Int)) (Y : List Int) : Prop where
  ok : ∀ k r, R[k]? = some r → ok1 (ex (R.take k)) r
  eq : ex R = Y
  len : R.length ≤ Y.length
theorem Rn.nil : Rn [] [] := ⟨fun k r h => by simp at h, rfl, by simp⟩
theorem Rn.add {R : List (Int × Int)} {Y Y' : List Int} (h : Rn R Y) (r : Int × Int) (ho : ok1 Y r) (he : exS Y r = Y') (hl : Y.length < Y'.length) : Rn (R ++ [r]) Y' := by
  refine ⟨fun k q hk => ?_, by rw [ex_snoc, h.eq]; exact he, by have := h.len; rw [List.length_append]; simp; omega⟩
  by_cases hlt : k < R.length
  · rw [List.getElem?_append_left hlt] at hk
    rw [List.take_append_of_le_length (by omega)]
    exact h.ok k q hk
  · rw [List.getElem?_append_right (by omega)] at hk
    have hk0 : k - R.length = 0 := by
      have := (List.getElem?_eq_some_iff.1 hk).1
      simp at this; omega
    rw [hk0] at hk
    simp at hk
    subst hk
    have : k = R.length := by omega
    subst this
    rw [List.take_append_of_le_length (Nat.le_refl _), List.take_length, h.eq]; exact ho
theorem Rn.lit {R : List (Int × Int)} {Y : List Int} (h : Rn R Y) (v : Int) (h0 : 0 ≤ v) (h1 : v < 16) : Rn (R ++ [(v, 0)]) (Y ++ [v]) :=
  h.add _ ⟨h0, by show v ≤ 18; omega, by show (0 : Int) ≤ 0; omega, fun _ => rfl, fun h => by have : v = 16 := h; omega, fun h => by have : v = 17 := h; omega, fun h => by have : v = 18 := h; omega⟩ (by unfold exS; rw [if_pos h1]) (by simp)
theorem Rn.rep {R : List (Int × Int)} {Y : List Int} (h : Rn R Y) (v : Int) (e : Nat) (h0 : Y ≠ []) (h1 : gt Y (Y.length - 1) = v) (he : e ≤ 3) : Rn (R ++ [(16, (e : Int))]) (Y ++ List.replicate (3 + e) v) :=
  h.add _ ⟨by show (0 : Int) ≤ 16; omega, by show (16 : Int) ≤ 18; omega, by show (0 : Int) ≤ e; omega, fun h => by have : (16 : Int) < 16 := h; omega, fun _ => ⟨h0, by show (e : Int) ≤ 3; omega⟩, fun h => by have : (16 : Int) = 17 := h; omega, fun h => by have : (16 : Int) = 18 := h; omega⟩ (by unfold exS; rw [if_neg (by show ¬ (16 : Int) < 16; omega), if_pos rfl, h1]; simp) (by simp; omega)
theorem Rn.z17 {R : List (Int × Int)} {Y : List Int} (h : Rn R Y) (e : Nat) (he : e ≤ 7) : Rn (R ++ [(17, (e : Int))]) (Y ++ List.replicate (3 + e) 0) :=
  h.add _ ⟨by show (0 : Int) ≤ 17; omega, by show (17 : Int) ≤ 18; omega, by show (0 : Int) ≤ e; omega, fun h => by have : (17 : Int) < 16 := h; omega, fun h => by have : (17 : Int) = 16 := h; omega, fun _ => by show (e : Int) ≤ 7; omega, fun h => by have : (17 : Int) = 18 := h; omega⟩ (by unfold exS; rw [if_neg (by show ¬ (17 : Int) < 16; omega), if_neg (by show ¬ (17 : Int) = 16; omega), if_pos rfl]; simp) (by simp; omega)
theorem Rn.z18 {R : List (Int × Int)} {Y : List Int} (h : Rn R Y) (e : Nat) (he : e ≤ 127) : Rn (R ++ [(18, (e : Int))]) (Y ++ List.replicate (11 + e) 0) :=
  h.add _ ⟨by show (0 : Int) ≤ 18; omega, by show (18 : Int) ≤ 18; omega, by show (0 : Int) ≤ e; omega, fun h => by have : (18 : Int) < 16 := h; omega, fun h => by have : (18 : Int) = 16 := h; omega, fun h => by have : (18 : Int) = 17 := h; omega, fun _ => by show (e : Int) ≤ 127; omega⟩ (by unfold exS; rw [if_neg (by show ¬ (18 : Int) < 16; omega), if_neg (by show ¬ (18 : Int) = 16; omega), if_neg (by show ¬ (18 : Int) = 17; omega)]; simp) (by simp; omega)
theorem Rn.bd {R : List (Int × Int)} {Y : List Int} (h : Rn R Y) (k : Nat) (hk : k < R.length) : 0 ≤ (R[k]).1 ∧ (R[k]).1 ≤ 18 ∧ 0 ≤ (R[k]).2 ∧ (R[k]).2 ≤ 127 := by
  have o := h.ok k R[k] (List.getElem?_eq_getElem hk)
  refine ⟨o.s0, o.s1, o.e0, ?_⟩
  have := o.s0; have := o.s1; have := o.lit; have := o.rep; have := o.z17; have := o.z18
  by_cases h1 : (R[k]).1 < 16
  · have := o.lit h1; omega
  · by_cases h2 : (R[k]).1 = 16
    · have := (o.rep h2).2; omega
    · by_cases h3 : (R[k]).1 = 17
      · have := o.z17 h3; omega
      · have := o.z18 (by omega); omega

theorem rep_split (p q : Nat) (v : Int) (Y : List Int) : Y ++ List.replicate p v ++ List.replicate q v = Y ++ List.replicate (p + q) v := by
  rw [List.append_assoc, List.replicate_append_replicate]
theorem rep_one (p : Nat) (v : Int) (Y : List Int) : Y ++ List.replicate p v ++ [v] = Y ++ List.replicate (p + 1) v := by
  rw [List.append_assoc, ← List.replicate_succ']
theorem take_run (X : List Int) (v : Int) (i : Nat) : ∀ m, i + m ≤ X.length → (∀ t, t < m → gt X (i + t) = v) → X.take (i + m) = X.take i ++ List.replicate m v
  | 0, _, _ => by simp
  | m + 1, h, hv => by
    rw [← Nat.add_assoc, List.take_add_one, gt_get X (i + m) (by omega), take_run X v i m (by omega) (fun t ht => hv t (by omega)), hv m (by omega)]
    rw [show (some v).toList = [v] from rfl, rep_one]
theorem last_rep (Y : List Int) (m : Nat) (v : Int) : Y ++ List.replicate (m + 1) v ≠ [] ∧ gt (Y ++ List.replicate (m + 1) v) ((Y ++ List.replicate (m + 1) v).length - 1) = v := by
  constructor
  · simp
  · unfold gt
    rw [← rep_one]
    simp

/-- the cells of the runs -/
def rc (R : List (Int × Int)) : List Value := R.flatMap fun r => [Value.int .u8 r.1, Value.int .u8 r.2]
theorem rc_snoc (R : List (Int × Int)) (r : Int × Int) : rc (R ++ [r]) = rc R ++ [Value.int .u8 r.1, Value.int .u8 r.2] := by unfold rc; rw [List.flatMap_append]; simp
theorem rc_get (R : List (Int × Int)) : ∀ k (hk : k < R.length), (rc R)[2 * k]? = some (.int .u8 (R[k]).1) ∧ (rc R)[2 * k + 1]? = some (.int .u8 (R[k]).2) := by
  induction R with
  | nil => intro k hk; simp at hk
  | cons r R ih =>
    intro k hk
    have e : rc (r :: R) = Value.int .u8 r.1 :: Value.int .u8 r.2 :: rc R := rfl
    rw [e]
    cases k with
    | zero => exact ⟨rfl, rfl⟩
    | succ k =>
      have := ih k (by simpa using hk)
      rw [show 2 * (k + 1) = 2 * k + 1 + 1 by omega]
      simp only [List.getElem?_cons_succ, List.getElem_cons_succ]
      exact this
theorem rc_len (R : List (Int × Int)) : (rc R).length = 2 * R.length := by
  induction R with
  | nil => rfl
  | cons r R ih =>
    have e : rc (r :: R) = Value.int .u8 r.1 :: Value.int .u8 r.2 :: rc R := rfl
    rw [e]; simp [ih]; omega

abbrev h3 (L D C : Int) : List Value := [.int .i64 L, .int .i64 D, .int .i64 C]
/-- the header in memory -/
structure Hb (w : World) (hb : Nat) (L D C : Int) (cl cc : List Int) (rv lv : Value) : Prop where
  at_ : w.heap[hb]? = some (.cells (h3 L D C ++ (cl.map (Value.int .u8) ++ (cc.map (Value.int .u16) ++ [rv, lv]))).toArray 37 (0, 0))
  lcl : cl.length = 19
  lcc : cc.length = 19

variable {w : World} {hb : Nat} {L D C : Int} {cl cc : List Int} {rv lv : Value}
theorem Hb.at' (h : Hb w hb L D C cl cc rv lv) : At w hb 37 (h3 L D C ++ (cl.map (Value.int .u8) ++ (cc.map (Value.int .u16) ++ [rv, lv]))) := ⟨h.at_⟩
theorem Hb.lt (h : Hb w hb L D C cl cc rv lv) : hb < w.heap.size := h.at'.lt
theorem Hb.free (h : Hb w hb L D C cl cc rv lv) (j : Nat) : w.frozen? ⟨hb, j, none⟩ = false := h.at'.free j
theorem Hb.c0 (h : Hb w hb L D C cl cc rv lv) : w.cell? ⟨hb, 0, none⟩ = some (.int .i64 L) := h.at'.cell 0 _ rfl
theorem Hb.c1 (h : Hb w hb L D C cl cc rv lv) : w.cell? ⟨hb, 1, none⟩ = some (.int .i64 D) := h.at'.cell 1 _ rfl
theorem Hb.c2 (h : Hb w hb L D C cl cc rv lv) : w.cell? ⟨hb, 2, none⟩ = some (.int .i64 C) := h.at'.cell 2 _ rfl
theorem Hb.ccl (h : Hb w hb L D C cl cc rv lv) (j : Nat) (hj : j < 19) : w.cell? ⟨hb, 3 + j, none⟩ = some (.int .u8 (gt cl j)) := by
  refine h.at'.cell (3 + j) _ ?_
  rw [List.getElem?_append_right (by simp), List.getElem?_append_left (by simp [h.lcl]; omega), List.getElem?_map]
  simp only [List.length_cons, List.length_nil, Nat.zero_add]
  rw [show 3 + j - (0 + 1 + 1 + 1) = j by omega, gt_get cl j (by rw [h.lcl]; omega)]; rfl
theorem Hb.c41 (h : Hb w hb L D C cl cc rv lv) : w.cell? ⟨hb, 41, none⟩ = some rv := by
  refine h.at'.cell 41 _ ?_
  rw [List.getElem?_append_right (by simp), List.getElem?_append_right (by simp [h.lcl]), List.getElem?_append_right (by simp [h.lcl, h.lcc])]
  simp [h.lcl, h.lcc]
theorem Hb.c42 (h : Hb w hb L D C cl cc rv lv) : w.cell? ⟨hb, 42, none⟩ = some lv := by
  refine h.at'.cell 42 _ ?_
  rw [List.getElem?_append_right (by simp), List.getElem?_append_right (by simp [h.lcl]), List.getElem?_append_right (by simp [h.lcl, h.lcc])]
  simp [h.lcl, h.lcc]
theorem Hb.set0 (h : Hb w hb L D C cl cc rv lv) (x : Int) : Hb (w.setCell ⟨hb, 0, none⟩ (.int .i64 x)) hb x D C cl cc rv lv := ⟨(h.at'.set 0 (.int .i64 x)).at_, h.lcl, h.lcc⟩
theorem Hb.set1 (h : Hb w hb L D C cl cc rv lv) (x : Int) : Hb (w.setCell ⟨hb, 1, none⟩ (.int .i64 x)) hb L x C cl cc rv lv := ⟨(h.at'.set 1 (.int .i64 x)).at_, h.lcl, h.lcc⟩
theorem Hb.set2 (h : Hb w hb L D C cl cc rv lv) (x : Int) : Hb (w.setCell ⟨hb, 2, none⟩ (.int .i64 x)) hb L D x cl cc rv lv := ⟨(h.at'.set 2 (.int .i64 x)).at_, h.lcl, h.lcc⟩
theorem Hb.set41 (h : Hb w hb L D C cl cc rv lv) (x : Value) : Hb (w.setCell ⟨hb, 41, none⟩ x) hb L D C cl cc x lv := by
  refine ⟨?_, h.lcl, h.lcc⟩
  have e : (h3 L D C ++ (cl.map (Value.int .u8) ++ (cc.map (Value.int .u16) ++ [rv, lv]))).set 41 x = h3 L D C ++ (cl.map (Value.int .u8) ++ (cc.map (Value.int .u16) ++ [x, lv])) := by
    simp [h.lcl, h.lcc]
  rw [← e]
  exact (h.at'.set 41 x).at_
theorem Hb.set42 (h : Hb w hb L D C cl cc rv lv) (x : Value) : Hb (w.setCell ⟨hb, 42, none⟩ x) hb L D C cl cc rv x := by
  refine ⟨?_, h.lcl, h.lcc⟩
  have e : (h3 L D C ++ (cl.map (Value.int .u8) ++ (cc.map (Value.int .u16) ++ [rv, lv]))).set 42 x = h3 L D C ++ (cl.map (Value.int .u8) ++ (cc.map (Value.int .u16) ++ [rv, x])) := by
    simp [h.lcl, h.lcc]
  rw [← e]
  exact (h.at'.set 42 x).at_
theorem Hb.segL (h : Hb w hb L D C cl cc rv lv) : Seg w hb 37 .u8 (h3 L D C) cl (cc.map (Value.int .u16) ++ [rv, lv]) := ⟨h.at_⟩
theorem Hb.segC (h : Hb w hb L D C cl cc rv lv) : Seg w hb 37 .u16 (h3 L D C ++ cl.map (Value.int .u8)) cc [rv, lv] := ⟨by rw [List.append_assoc]; exact h.at_⟩
theorem Hb.ofL (h : Seg w hb 37 .u8 (h3 L D C) cl (cc.map (Value.int .u16) ++ [rv, lv])) (l1 : cl.length = 19) (l2 : cc.length = 19) : Hb w hb L D C cl cc rv lv := ⟨h.at_, l1, l2⟩
theorem Hb.ofC (h : Seg w hb 37 .u16 (h3 L D C ++ cl.map (Value.int .u8)) cc [rv, lv]) (l1 : cl.length = 19) (l2 : cc.length = 19) : Hb w hb L D C cl cc rv lv := ⟨by have := h.at_; rw [List.append_assoc] at this; exact this, l1, l2⟩
theorem Hb.kept {w' : World} {r : Option Nat} (h : Hb w hb L D C cl cc rv lv) (hg : w.grownBy w' r) (hr : some hb ≠ r) : Hb w' hb L D C cl cc rv lv := ⟨by rw [hg.block hb h.lt hr]; exact h.at_, h.lcl, h.lcc⟩
theorem Hb.alloc (h : Hb w hb L D C cl cc rv lv) (o : Obj) : Hb (w.alloc o) hb L D C cl cc rv lv := ⟨(h.at'.alloc o).at_, h.lcl, h.lcc⟩
theorem Hb.other (h : Hb w hb L D C cl cc rv lv) (a : Addr) (v : Value) (ha : hb ≠ a.block) : Hb (w.setCell a v) hb L D C cl cc rv lv := ⟨(h.at'.other a v ha).at_, h.lcl, h.lcc⟩
theorem Hb.drewN (h : Hb w hb L D C cl cc rv lv) (n : Nat) : Hb (w.drewN n) hb L D C cl cc rv lv := ⟨h.at_, h.lcl, h.lcc⟩
end Go.Proofs.YbulkkrgDoor.De
