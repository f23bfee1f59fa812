/-
  Runs of one length: the plain laws of the stable sort's outer loops.
-/
import Derived.Test.YbulkkrgDoorSrtPlain
namespace Go.Proofs.YbulkkrgDoor.Srt

/-! ### runs of one length -/
/-- from al on the pieces of bs elements are in order -/
def Runs (key : Int → Int) (bs n al : Nat) (c : List Int) : Prop := ∀ i, Srd key (al + i * bs) (min (al + i * bs + bs) n) c
/-- the first k pieces of bs elements are in order -/
def Done (key : Int → Int) (bs k : Nat) (c : List Int) : Prop := ∀ i, i < k → Srd key (i * bs) (i * bs + bs) c

theorem Done.zero (key : Int → Int) (bs : Nat) (c : List Int) : Done key bs 0 c := fun i hi => absurd hi (Nat.not_lt_zero i)
theorem Done.step {key : Int → Int} {bs k al : Nat} {c d : List Int} (h : Done key bs k c) (ha : al = k * bs) (hp : Prm al (al + bs) c d) (hs : Srd key al (al + bs) d) : Done key bs (k + 1) d := by
  intro i hi
  by_cases e : i = k
  · subst e; rw [← ha]; exact hs
  · have h1 : i * bs + bs ≤ al := by
      have : (i + 1) * bs ≤ k * bs := Nat.mul_le_mul_right bs (by omega)
      rw [Nat.add_mul, Nat.one_mul] at this; omega
    exact (h i (by omega)).of_out (fun q _ hq => hp.out q (Or.inl (by omega)))
theorem Done.runs {key : Int → Int} {bs k al n : Nat} {c : List Int} (h : Done key bs k c) (ha : al = k * bs) (hb : n < al + bs) (hs : Srd key al n c) : Runs key bs n 0 c := by
  intro i
  rw [Nat.zero_add]
  by_cases c1 : i < k
  · exact (h i c1).widen (Nat.le_refl _) (Nat.min_le_left _ _)
  · by_cases c2 : i = k
    · subst c2; rw [← ha]; exact hs.widen (Nat.le_refl _) (Nat.min_le_right _ _)
    · have : (k + 1) * bs ≤ i * bs := Nat.mul_le_mul_right bs (by omega)
      rw [Nat.add_mul, Nat.one_mul] at this
      intro p q hp hpq hq
      have := Nat.lt_of_lt_of_le hq (Nat.min_le_right _ _)
      omega
theorem Done.out {key : Int → Int} {bs k al n : Nat} {c d : List Int} (h : Done key bs k c) (ha : al = k * bs) (hp : Prm al n c d) : Done key bs k d := by
  intro i hi
  have h1 : i * bs + bs ≤ al := by
    have : (i + 1) * bs ≤ k * bs := Nat.mul_le_mul_right bs (by omega)
    rw [Nat.add_mul, Nat.one_mul] at this; omega
  exact (h i hi).of_out (fun q _ hq => hp.out q (Or.inl (by omega)))
theorem Runs.first {key : Int → Int} {bs n al : Nat} {c : List Int} (h : Runs key bs n al c) (hn : al + bs ≤ n) : Srd key al (al + bs) c := by
  have := h 0
  rw [Nat.zero_mul, Nat.add_zero] at this
  exact this.widen (Nat.le_refl _) (by omega)
theorem Runs.firstTo {key : Int → Int} {bs n al : Nat} {c : List Int} (h : Runs key bs n al c) (hn : n ≤ al + bs) : Srd key al n c := by
  have := h 0
  rw [Nat.zero_mul, Nat.add_zero] at this
  exact this.widen (Nat.le_refl _) (by omega)
theorem Runs.second {key : Int → Int} {bs n al : Nat} {c : List Int} (h : Runs key bs n al c) : Srd key (al + bs) (min (al + bs + bs) n) c := by
  have := h 1
  rwa [Nat.one_mul] at this
theorem Runs.step {key : Int → Int} {bs n al : Nat} {c d : List Int} (h : Runs key bs n al c) (hp : Prm al (al + 2 * bs) c d) : Runs key bs n (al + 2 * bs) d := by
  intro i
  have h1 := h (i + 2)
  rw [Nat.add_mul] at h1
  refine (h1.of_out (fun q hq _ => hp.out q (Or.inr (by omega)))).widen (by omega) (by omega)
theorem Runs.all {key : Int → Int} {bs n : Nat} {c : List Int} (h : Runs key bs n 0 c) (hn : n ≤ bs) : Srd key 0 n c := h.firstTo (by omega)

end Go.Proofs.YbulkkrgDoor.Srt
