/-
  The walks of 'zzs0578ccopy' (5) and of 'appendPadded' (6).
-/
import Derived.Test.YbulkkygDoorDig
import Derived.Laws.CopyOwn
import Derived.Lib.SliceRun
import Derived.OpenShut
namespace Go.Proofs.YbulkkygDoor.Pad
open Go.RowKit
open Go.Lib (decDigits nDigits byteCells dg byteCells_length decDigits_length TabIs TabBelow tabIs_alloc pow10Tab)

/-- WHAT THE WALK IS TOLD OF A SLICE OF INTEGERS THAT CAME IN (the shell's own words). -/
def IsRow (k : IntKind) (w : World) (a : Option Addr) (len cap : Nat) (zs : List Int) : Prop :=
  (a = none ∧ len = 0 ∧ cap = 0 ∧ zs = []) ∨
  ∃ x, a = some x ∧ len ≤ cap ∧ cap ≤ maxLen ∧ zs.length = cap ∧ (∀ i, i < zs.length → w.cell? (x.add i) = some (.int k (zs.getD i 0))) ∧ ∀ n ∈ zs, (Lit.int k n).wf = true

theorem size5 : (Ybad.prog.info? 5).map (·.size) = some 1 := by kernel_rfl

theorem setRow_own {w : World} {B g n : Nat} {cur : Array Value} {cs : List Value} (h : w.heap[g]? = some (.cells cur 5 (0, 0))) (hB : B ≤ g) (hn : cs.length = n) (hm : n ≤ maxLen) :
    (w.setRow g cs.toArray).ownsRow B 5 1 (.slice (some ⟨g, 0, none⟩) n n) n cs :=
  ⟨by omega, .inr ⟨g, n, cs.toArray, rfl, hB, setRow_heap w g cur _ 5 _ h, Nat.le_refl _, hm, by simp; omega, by subst hn; simp⟩⟩

theorem own_block {w : World} {B e g n cap : Nat} {xs : List Value} (h : w.ownsRow B e 1 (.slice (some ⟨g, 0, none⟩) n cap) n xs) : ∃ cur, w.heap[g]? = some (.cells cur e (0, 0)) ∧ cur.size = cap := by
  rcases h.2 with ⟨h', _⟩ | ⟨g', cap', cur, h', _, hg, _, _, hs, _⟩
  · simp at h'
  · simp only [Value.slice.injEq, Option.some.injEq, Addr.mk.injEq, and_true, true_and] at h'
    obtain ⟨rfl, rfl⟩ := h'
    exact ⟨cur, hg, by omega⟩

theorem cells_take {w : World} {x : Addr} {zs : List Int} {len : Nat} (hcell : ∀ i, i < zs.length → w.cell? (x.add i) = some (.int .u8 (zs.getD i 0))) :
    ∀ j v, ((zs.take len).map (Value.int .u8))[j]? = some v → w.cell? (x.add j) = some v := by
  intro j v hj
  rw [List.getElem?_map, Option.map_eq_some_iff] at hj
  obtain ⟨z, hz, rfl⟩ := hj
  rw [List.getElem?_take] at hz
  split at hz
  · have hlt := (List.getElem?_eq_some_iff.1 hz).1
    rw [hcell j hlt, List.getD_eq_getElem?_getD, hz]; rfl
  · cases hz

set_option maxHeartbeats 800000 in
set_option maxRecDepth 100000 in
theorem copy_any (a : Option Addr) (len cap : Nat) (zs : List Int) (w : World) (h : IsRow .u8 w a len cap zs) (hl : len ≤ 1024) :
    Calls Ybad.prog 5 #[.slice a len cap] w fun e w' => ∃ v, e = .returned v ∧ w'.ownsRow w.heap.size 5 1 v len ((zs.take len).map (Value.int .u8)) ∧ Below w.heap.size w w' := by
  obtain ⟨i0, hi, hz0, hz1, hz2⟩ := info_parts AppU.info5
  rcases h with ⟨rfl, rfl, rfl, rfl⟩ | ⟨x, rfl, hlc, hcm, hzl, hcell, hwf⟩
  · have hnil := fun W => Lib.run_eql_slice_nil (P := Ybad.prog) W 22 5 none 0 0 0 0 Ybad.underlying22
    go_enter Ybad.func5, Ybad.ntmps5
    go_wp2
    go_ret
    exact ⟨_, rfl, World.ownsRow_nil _ _ _ _, Below.refl _ _⟩
  · have hnil := fun W => Lib.run_eql_slice_nil (P := Ybad.prog) W 22 5 (some x) len cap 0 0 Ybad.underlying22
    by_cases h0 : len = 0
    · subst h0
      go_enter Ybad.func5, Ybad.ntmps5
      go_wp2_with (first
        | (at_make; refine wpList_make_full _ rfl _ _ 22 rfl w.heap.size 5 i0 (.int .u8 0) 1 Ybad.underlying22 hi hz0 hz1 .i64 .i64 0 0 0 rfl rfl (by omega) (by omega) (by rw [hz2]; omega) (by unfold maxLen; omega) (Nat.le_refl _) ?_; intro w1 hown1 hgrow1))
      rw [run_copy_none (P := Ybad.prog) w1 22 22 3 5 (some ⟨w.heap.size, 0, none⟩) (some x) 0 0 0 cap Ybad.underlying22 size5 (by simp)]
      go_wp2
      go_ret
      refine ⟨_, rfl, ?_, (Below.refl _ _).grown hgrow1 (Nat.le_refl _) (fun k hk => by cases hk)⟩
      have e0 : (madeCells (Value.int IntKind.u8 0).cells (0 * 1)).toList = (zs.take 0).map (Value.int .u8) := by simp [madeCells]
      rw [e0] at hown1
      exact hown1
    · go_enter Ybad.func5, Ybad.ntmps5
      go_wp2_with (first
        | (at_make; refine wpList_make_full _ rfl _ _ 22 rfl w.heap.size 5 i0 (.int .u8 0) 1 Ybad.underlying22 hi hz0 hz1 .i64 .i64 len len len rfl rfl rfl rfl (by rw [hz2]; omega) (by unfold maxLen; omega) (Nat.le_refl _) ?_; intro w1 hown1 hgrow1))
      have hb1 : Below w.heap.size w w1 := (Below.refl _ _).grown hgrow1 (Nat.le_refl _) (fun k hk => by cases hk)
      obtain ⟨cur, hg, hcs⟩ := own_block hown1
      obtain ⟨b, off, rfl, hc⟩ := ints_at hcell (by omega)
      have hlt : b < w.heap.size := World.block_lt_of_cell? w ⟨b, off + 0, none⟩ (hc 0 (by omega))
      have hlen : ((zs.take len).map (Value.int .u8)).length = len := by simp; omega
      have hsrc : ∀ j v, ((zs.take len).map (Value.int .u8))[j]? = some v → w1.cell? ((⟨b, off, none⟩ : Addr).add j) = some v := fun j v hj => by
        have h1 := cells_take hcell j v hj
        rw [Addr.add_lit] at h1 ⊢
        rw [hb1.cell (p := ⟨b, off + j, none⟩) hlt]; exact h1
      have hrun := run_copy_row (P := Ybad.prog) w1 22 22 3 5 w.heap.size 0 len len ⟨b, off, none⟩ len cap cur 5 ((zs.take len).map (Value.int .u8)) Ybad.underlying22 size5 hg (by rw [hlen]; simp) hsrc (by omega) (ints_oneCell _ _)
      rw [hrun]
      have hdrop : List.drop (0 + ((zs.take len).map (Value.int .u8)).length) cur.toList = [] := List.drop_eq_nil_of_le (by rw [hlen]; simp; omega)
      rw [hdrop]
      simp only [List.take_zero, List.nil_append, List.append_nil]
      generalize hcs' : (zs.take len).map (Value.int .u8) = cs at *
      clear hrun hdrop hsrc
      go_wp2
      go_ret
      refine ⟨_, rfl, ?_, below_setRow hb1 (Nat.le_refl _) _⟩
      rw [hcs']
      exact setRow_own hg (Nat.le_refl _) hlen (by unfold maxLen; omega)

/-- the row that a call owns bears its own type's number: another row is another block -/
theorem own_ne {w : World} {B G n : Nat} {v : Value} {xs : List Value} {c : Array Value} (h : w.ownsRow B 5 1 v n xs) (hG : w.heap[G]? = some (.cells c 28 (0, 0))) : some G ≠ v.ownBlock := by
  intro e
  rcases h.2 with ⟨rfl, _⟩ | ⟨g, cap, cur, rfl, _, hg, _⟩
  · cases e
  · simp only [Value.ownBlock, Option.some.injEq] at e
    subst e
    rw [hG] at hg
    cases hg

/-- the world behind the numeral's laying: the row that came in is owned as it was -/
theorem laid_own {w w1 : World} {B n : Nat} {v : Value} {xs : List Value} {l : List UInt8} {c : Array Value} (h : w.ownsRow B 5 1 v n xs) (hB : B ≤ w.heap.size)
    (hL : AppU.Laid (w.alloc (.cells c 28)) w1 w.heap.size l) : w1.ownsRow B 5 1 v n xs ∧ Below B w w1 ∧ w.heap.size < w1.heap.size := by
  have hg : (w.alloc (.cells c 28)).heap[w.heap.size]? = some (.cells c 28 (0, 0)) := heap_alloc_new w _
  refine ⟨(h.alloc _).kept hL.grown (Or.inr (Ne.symm (own_ne (h.alloc _) hg))), ((Below.refl B w).alloc hB _).grown hL.grown (by simp; omega) (fun k hk => by cases hk; exact hB), ?_⟩
  have := hL.grown.size
  simp at this
  omega

set_option maxHeartbeats 1600000 in
set_option maxRecDepth 100000 in
theorem padded (B n u : Nat) (v : Value) (xs : List Value) (wd : Int) (w : World) (hown : w.ownsRow B 5 1 v n xs) (hB : B ≤ w.heap.size) (hn : n ≤ 1024) (hd1 : -1024 ≤ wd) (hd2 : wd ≤ 1024) (hu64 : u < 18446744073709551616)
    (htab : TabIs Ybad.prog w AppU.pow10 .u64 pow10Tab) :
    Calls Ybad.prog 6 #[v, .int .u64 u, .int .i64 wd] w fun e w' => ∃ v', e = .returned v' ∧
      w'.ownsRow B 5 1 v' (n + (wd - (decDigits u).length).toNat + (decDigits u).length) (xs ++ List.replicate (wd - (decDigits u).length).toNat (.int .u8 48) ++ byteCells (decDigits u)) ∧ Below B w w' := by
  obtain ⟨i0, hi, hz0, hz1, hz2⟩ := info_parts AppU.info5
  have hd20 := AppU.dd20 u hu64
  go_enter Ybad.func6, Ybad.ntmps6
  go_wp2_with fail
  refine (AppU.appU w.heap.size u hu64 _ rfl _ (heap_alloc_new w _) (tabIs_alloc htab _)).mono ?_
  rintro e w1 ⟨rfl, hL⟩
  obtain ⟨hown1, hb1, hs1⟩ := laid_own hown hB hL
  obtain ⟨cur, hcur, htk⟩ := hL.row
  have HT : Hid (cur.toList.take (decDigits u).length = byteCells (decDigits u)) := htk
  clear hL htk htab hown
  obtain ⟨L, hLn⟩ : ∃ L, L = (decDigits u).length := ⟨_, rfl⟩
  obtain ⟨ds, hds⟩ : ∃ ds, ds = byteCells (decDigits u) := ⟨_, rfl⟩
  rw [← hLn] at hd20
  rw [← hLn, ← hds] at HT
  rw [← hLn]
  have hdl : ds.length = L := by rw [hds, hLn, byteCells_length]
  have HL : Hid (L = (decDigits u).length) := hLn
  have HD : Hid (ds = byteCells (decDigits u)) := hds
  clear hds hLn
  go_wp2
  go_loopw [0, 16] (fun r i wr => ∃ k : Nat, i = .int .i64 k ∧ k ≤ (wd - L).toNat ∧ wr.ownsRow B 5 1 r (n + k) (xs ++ List.replicate k (.int .u8 48)) ∧ wr.heap[w.heap.size]? = some (.cells cur 28 (0, 0)) ∧ Below B w wr) (fun _ i _ => 2048 - (intOf i).toNat)
  case atStart => exact ⟨0, rfl, Nat.zero_le _, by simpa using hown1, hcur, hb1⟩
  case round =>
    obtain ⟨k, rfl, hk, hownr, hcurr, hbr⟩ := hrel
    have hsz := hbr.size
    by_cases hlt : (k : Int) < wd - L
    · go_wp2_with (at_builtin; refine wpList_append_own _ rfl _ _ 22 rfl B 5 i0 (.int .u8 0) 1 1 Ybad.underlying22 hi hz0 hz1 hz2 rfl (by decide) _ _ _ rfl (hownr.alloc _) ⟨wr.heap.size, 0, none⟩ 1 1 [Value.int .u8 48] rfl rfl ?c1 ?c2 ?c3 ?c4 ?c5 ?_)
      case c1 =>
        intro j u' hj
        match j, hj with
        | 0, hj => simp at hj; subst hj; simp [Addr.add]
      case c2 => intro u' hu'; simp at hu'; subst hu'; rfl
      case c3 => unfold maxLen; omega
      case c4 => omega
      case c5 => simp; omega
      intro v' w2 hown2 hgrow2 _
      have hb2 : Below B w w2 := (hbr.alloc (by omega) _).grown hgrow2 (by simp; omega) (fun j hj => (hownr.lt j hj).1)
      have hlt2 : w.heap.size < wr.heap.size := (Array.getElem?_eq_some_iff.1 hcurr).1
      have hcur2 : w2.heap[w.heap.size]? = some (.cells cur 28 (0, 0)) := by
        rw [hgrow2.block w.heap.size (by simp; omega) (own_ne hownr hcurr), Below.heap_alloc _ _ _ hlt2]; exact hcurr
      have hown2' : w2.ownsRow B 5 1 v' (n + (k + 1)) (xs ++ List.replicate (k + 1) (.int .u8 48)) := by
        rw [List.replicate_succ']; first | exact hown2 | (rw [← List.append_assoc]; exact hown2)
      clear hown2 hgrow2 hownr hcurr
      go_wp2
      go_roundw
      case rel => exact ⟨k + 1, by go_num, by omega, hown2', hcur2, hb2⟩
      case measure => simp [intOf]; omega
    · have hk' : (wd - L).toNat = k := by omega
      have HK : Hid ((wd - L).toNat = k) := hk'
      clear hk'
      have hcells : ∀ j u', ds[j]? = some u' → wr.cell? ((⟨w.heap.size, 0, none⟩ : Addr).add j) = some u' := by
        intro j u' hj
        rw [Addr.add_lit, Nat.zero_add, cell_of_row wr w.heap.size j cur 28 (0, 0) hcurr]
        have hj2 := hj
        rw [← HT.out, List.getElem?_take] at hj2
        split at hj2
        · simpa using hj2
        · cases hj2
      have h1c : ∀ u' ∈ ds, u'.oneCell' = true := by
        rw [HD.out]; intro u' hu'; simp only [Lib.byteCells, List.mem_map] at hu'; obtain ⟨b, _, rfl⟩ := hu'; rfl
      go_wp2_with (at_builtin; refine wpList_append_own _ rfl _ _ 22 rfl B 5 i0 (.int .u8 0) 1 1 Ybad.underlying22 hi hz0 hz1 hz2 rfl (by decide) _ _ _ rfl hownr ⟨w.heap.size, 0, none⟩ L 20 ds rfl ?d0 hcells h1c ?d3 ?d4 ?d5 ?_)
      case d3 => unfold maxLen; omega
      case d4 => omega
      case d5 => omega
      intro v' w2 hown2 hgrow2 _
      have hb2 : Below B w w2 := hbr.grown hgrow2 (by omega) (fun j hj => (hownr.lt j hj).1)
      clear hcells h1c hgrow2 hownr hcurr
      go_wp2
      go_ret
      refine ⟨v', rfl, ?_, hb2⟩
      rw [← HL.out, ← HD.out, HK.out, List.append_assoc]
      exact hown2

end Go.Proofs.YbulkkygDoor.Pad
