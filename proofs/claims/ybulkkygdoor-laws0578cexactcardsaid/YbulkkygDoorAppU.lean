/-
  strconv.AppendUint(buf[:0], u, 10), buf a local array of 20 bytes (a block that bears the array's type number): the numeral is laid at the array's head. After the shelf's text on AppendUint (rows of the element's own type), turned to this program.
-/
import Derived.Test.YbulkkygDoorRows
import Derived.Test.YbulkkygDoorShelf
import Derived.Lib.Walk
import Derived.Lib.ItoaWalk
import Derived.Lib.ItoaMem
import Derived.Lib.AppendIntMem
import Derived.Lib.AppendStr
import Derived.Lib.Slices
import Derived.Lib.Hide
import Derived.WalkKit
import Derived.ProofKit
namespace Go.Proofs.YbulkkygDoor.AppU
open Go.Shelf Go.RowKit Go.Sort Go.Lib

/-- the table's name, as the row spells it -/
def pow10 : String := Rows.lawS0578CExactRow.named.getD 0 (String.ofList [])

theorem info5 : (Ybad.prog.info? 5).map (fun i => (i.zero, i.size, i.bytes)) = some (some (.int .u8 0), 1, 1) := by kernel_rfl

section
variable {P : Program} (w : World)

/-- append with room onto a row that bears whatever type's number -/
theorem run_append_room_tag (t ty e τ : TypeId) (i : TypeInfo) (ht : P.underlying t = some (.slice e)) (hi : P.info? e = some i)
    (g sLen sCap : Nat) (cur : Array Value) (hg : w.heap[g]? = some (.cells cur τ (0, 0)))
    (a : Addr) (m c : Nat) (news : List Value) (hl : news.length = m * i.size) (hnews : ∀ j u, news[j]? = some u → w.cell? (a.add j) = some u) (h1 : ∀ u ∈ news, u.oneCell' = true)
    (hroom : sLen + m ≤ sCap) (hfit : sLen * i.size + news.length ≤ cur.size) :
    (Builtin.append_ #[t, t] ty #[.slice (some ⟨g, 0, none⟩) sLen sCap, .slice (some a) m c]).run P w =
      .ok (.slice (some ⟨g, 0, none⟩) (sLen + m) sCap) (w.setRow g (cur.toList.take (sLen * i.size) ++ news ++ cur.toList.drop (sLen * i.size + news.length)).toArray) := by
  have hf := run_firstCells_some (P := P) w i.size m a m c news hl hnews
  have hst := run_storeCells_at P g (sLen * i.size) τ news 0 cur w hg (by simpa using hfit) h1
  simp only [Nat.add_zero] at hst
  simp [Builtin.append_, run_underlying ht, sizeOf, typeInfo, hi, Builtin.lenOf, hroom, hf, Addr.add_lit, hst]

theorem run_append_room_string_tag (t u ty e τ : TypeId) (i : TypeInfo) (ht : P.underlying t = some (.slice e)) (hu : P.underlying u = some .string) (hi : P.info? e = some i) (hs1 : i.size = 1)
    (g sLen sCap : Nat) (cur : Array Value) (hg : w.heap[g]? = some (.cells cur τ (0, 0))) (s : ByteArray)
    (hroom : sLen + s.size ≤ sCap) (hfit : sLen + s.size ≤ cur.size) :
    (Builtin.append_ #[t, u] ty #[.slice (some ⟨g, 0, none⟩) sLen sCap, .string s]).run P w =
      .ok (.slice (some ⟨g, 0, none⟩) (sLen + s.size) sCap) (w.setRow g (cur.toList.take sLen ++ strCells s ++ cur.toList.drop (sLen + s.size)).toArray) := by
  have hf := run_firstCells_string (P := P) w 1 s
  have hst := run_storeCells_at P g sLen τ (strCells s) 0 cur w hg (by simpa [strCells_length] using hfit) (strCells_oneCell s)
  simp only [Nat.add_zero, strCells_length] at hst
  simp [Builtin.append_, run_underlying ht, run_underlying hu, sizeOf, typeInfo, hi, hs1, Builtin.lenOf, hroom, hf, Addr.add_lit, hst]

theorem wpList_append_room_tag {ops : Array Oper} {rest : List Oper} {o : Oper} {a : Act} {Q : Exit → Act → World → Prop} (hgd : o.guard = none) (sl x : Operand) (t : TypeId)
    (ho : o.op = .call { callee := .builtin .append, args := #[sl, x], argTypes := #[t, t] })
    (e τ : TypeId) (i : TypeInfo) (ht : P.underlying t = some (.slice e)) (hi : P.info? e = some i) (hs1 : i.size = 1)
    (g sCap : Nat) (cur : Array Value) (hg : w.heap[g]? = some (.cells cur τ (0, 0))) (hs : a.eval sl = .slice (some ⟨g, 0, none⟩) 0 sCap)
    (ad : Addr) (m c : Nat) (news : List Value) (hx : a.eval x = .slice (some ad) m c) (hl : news.length = m) (hnews : ∀ j u, news[j]? = some u → w.cell? (ad.add j) = some u) (h1 : ∀ u ∈ news, u.oneCell' = true)
    (hroom : m ≤ sCap) (hfit : m ≤ cur.size)
    (h : wpList P ops Q rest (a.put o.dst (.slice (some ⟨g, 0, none⟩) m sCap)) (w.setRow g (news ++ cur.toList.drop m).toArray)) : wpList P ops Q (o :: rest) a w := by
  refine wpList_plain hgd fun K hK => ?_
  have hr := run_append_room_tag (P := P) w t o.type e τ i ht hi g 0 sCap cur hg ad m c news (by rw [hs1, hl]; omega) hnews h1 (by omega) (by rw [hs1, hl]; omega)
  rw [hs1] at hr
  simp only [Nat.zero_add, Nat.zero_mul, List.take_zero, List.nil_append, hl] at hr
  unfold Oper.wp execOp
  simp only [ho, resolve, invoke, builtin, Sem.run_bind, Sem.run_pure, Result.andThen_ok, List.map_toArray, List.map_cons, List.map_nil, hs, hx, hr]
  exact hK _ _ h

theorem wpList_append_room_string_tag {ops : Array Oper} {rest : List Oper} {o : Oper} {a : Act} {Q : Exit → Act → World → Prop} (hgd : o.guard = none) (sl x : Operand) (t u : TypeId)
    (ho : o.op = .call { callee := .builtin .append, args := #[sl, x], argTypes := #[t, u] })
    (e τ : TypeId) (i : TypeInfo) (ht : P.underlying t = some (.slice e)) (hu : P.underlying u = some .string) (hi : P.info? e = some i) (hs1 : i.size = 1)
    (g sCap : Nat) (cur : Array Value) (hg : w.heap[g]? = some (.cells cur τ (0, 0))) (hs : a.eval sl = .slice (some ⟨g, 0, none⟩) 0 sCap)
    (s : ByteArray) (hx : a.eval x = .string s)
    (hroom : s.size ≤ sCap) (hfit : s.size ≤ cur.size)
    (h : wpList P ops Q rest (a.put o.dst (.slice (some ⟨g, 0, none⟩) s.size sCap)) (w.setRow g (strCells s ++ cur.toList.drop s.size).toArray)) : wpList P ops Q (o :: rest) a w := by
  refine wpList_plain hgd fun K hK => ?_
  have hr := run_append_room_string_tag (P := P) w t u o.type e τ i ht hu hi hs1 g 0 sCap cur hg s (by omega) (by omega)
  simp only [Nat.zero_add, List.take_zero, List.nil_append] at hr
  unfold Oper.wp execOp
  simp only [ho, resolve, invoke, builtin, Sem.run_bind, Sem.run_pure, Result.andThen_ok, List.map_toArray, List.map_cons, List.map_nil, hs, hx, hr]
  exact hK _ _ h
end

theorem strCells_byteCells (l : List UInt8) : strCells ⟨l.toArray⟩ = byteCells l := by simp [strCells, byteCells]

/-- what the call leaves: the numeral's cells at the head of block g, every other block as it was -/
structure Laid (w w' : World) (g : Nat) (l : List UInt8) : Prop where
  grown : w.grownBy w' (some g)
  row : ∃ cur, w'.heap[g]? = some (.cells cur 28 (0, 0)) ∧ cur.toList.take l.length = byteCells l

theorem laid_setRow (w : World) (g : Nat) (cur : Array Value) (l : List UInt8) (r : List Value) (hg : w.heap[g]? = some (.cells cur 28 (0, 0))) : Laid w (w.setRow g (byteCells l ++ r).toArray) g l :=
  ⟨⟨rfl, rfl, rfl, by simp, fun k _ hk => setRow_other w g k _ (fun e => hk (by rw [e]))⟩, _, setRow_heap w g cur _ 28 _ hg, by simp [← byteCells_length l]⟩

theorem dd20 (u : Nat) (hu64 : u < 18446744073709551616) : (decDigits u).length ≤ 20 := by
  rw [decDigits_length]
  by_cases h : u < 10
  · rw [nDigits_small h]; omega
  · have := Lib.numDigits_eq u (by omega) hu64; split at this <;> omega

set_option maxHeartbeats 1600000 in
set_option maxRecDepth 100000 in
theorem small (g u : Nat) (hu : u < 100) (cur : Array Value) (hcs : cur.size = 20) (w : World) (hg : w.heap[g]? = some (.cells cur 28 (0, 0))) :
    Calls Ybad.prog 9 #[.slice (some ⟨g, 0, none⟩) 0 20, .int .u64 u, .int .i64 10] w fun e w' => e = .returned (.slice (some ⟨g, 0, none⟩) (decDigits u).length 20) ∧ Laid w w' g (decDigits u) := by
  obtain ⟨i0, hi, hz0, hz1, hz2⟩ := info_parts info5
  have hlen := dd20 u (by omega)
  have hsz : (⟨(Lib.decDigits u).toArray⟩ : ByteArray).size = (Lib.decDigits u).length := by simp [ByteArray.size]
  have hlt : g < w.heap.size := (Array.getElem?_eq_some_iff.1 hg).1
  go_enter Ybad.func9, Ybad.ntmps9
  go_wp2_with (first
    | (go_at_call 10; refine (Ybad.internal_strconv_small u hu _).mono ?_; rintro e w' ⟨rfl, rfl⟩)
    | (at_builtin; refine wpList_append_room_string_tag _ rfl _ _ 22 9 rfl 5 28 i0 Ybad.underlying22 Ybad.underlying9 hi hz1 g 20 cur hg rfl ⟨(Lib.decDigits u).toArray⟩ rfl (by rw [hsz]; exact hlen) (by rw [hsz, hcs]; exact hlen) ?_))
  go_wp2
  go_ret
  rw [strCells_byteCells]
  exact ⟨rfl, laid_setRow _ g cur _ _ hg⟩

set_option maxHeartbeats 3200000 in
set_option maxRecDepth 100000 in
theorem big (g u : Nat) (hu : 100 ≤ u) (hu64 : u < 18446744073709551616) (cur : Array Value) (hcs : cur.size = 20) (w : World) (hg : w.heap[g]? = some (.cells cur 28 (0, 0))) (htab : TabIs Ybad.prog w pow10 .u64 pow10Tab) :
    Calls Ybad.prog 9 #[.slice (some ⟨g, 0, none⟩) 0 20, .int .u64 u, .int .i64 10] w fun e w' => e = .returned (.slice (some ⟨g, 0, none⟩) (decDigits u).length 20) ∧ Laid w w' g (decDigits u) := by
  obtain ⟨i0, hi, hz0, hz1, hz2⟩ := info_parts info5
  have hu1 : 1 ≤ u := by omega
  have hlen := dd20 u hu64
  have hnd20 : Lib.nDigits u ≤ 20 := by rw [decDigits_length] at hlen; exact hlen
  have hlt : g < w.heap.size := (Array.getElem?_eq_some_iff.1 hg).1
  have hal : Ybad.prog.arrayLen 30 = 24 := by kernel_rfl
  have hsl : ∀ W, (Instr.sliceAt 30 (.pointer (some ⟨w.heap.size, 0, none⟩)) none (some (.int .i64 (Lib.nDigits u : Int))) none).run Ybad.prog W = .ok (.slice (some ⟨w.heap.size, 0, none⟩) (Lib.nDigits u) 24) W := fun W => by
    rw [run_sliceAt_array_h W 30 ⟨w.heap.size, 0, none⟩ (by kernel_rfl) .i64 (Lib.nDigits u : Int) (by omega) (by rw [hal]; omega)]
    go_simp
  have hH0 := Lib.holds_zero0 w 30 (Lib.nDigits u) (by omega)
  have hfmt := Ybad.internal_strconv_formatBase10 w.heap.size 0 24 u (Array.replicate (Lib.nDigits u) 0) (w.alloc (.cells Lib.zeros24 30)) hH0 (by rw [Array.size_replicate]; exact Lib.lt_pow_nDigits u) hu64 (by rw [Array.size_replicate]; omega)
  rw [Array.size_replicate] at hfmt
  have HH0 := Lib.hid hH0
  have iu : (100 : Int) ≤ (u : Int) := by omega
  clear hH0 hal
  go_enter Ybad.func9, Ybad.ntmps9
  go_wp2_with (first
    | (go_at_call 11; refine (Ybad.internal_strconv_numDigits u hu1 hu64 _ (Lib.tabIs_alloc htab _)).mono ?_; rintro e w' ⟨rfl, rfl⟩))
  refine hfmt.mono ?_
  rintro e w' ⟨rfl, k, v', dk, rfl, hF⟩
  have hcells : ∀ j u', (Lib.byteCells (Lib.decDigits u))[j]? = some u' → ((putRow (fun (b : UInt8) => Value.int .u8 (b.toNat : Int)) (w.alloc (.cells Lib.zeros24 30)) w.heap.size 0 dk).drewN k).cell? ((⟨w.heap.size, 0, none⟩ : Addr).add j) = some u' := by
    intro j u' hj
    have hjl : j < (Lib.decDigits u).length := by
      have h5 := (List.getElem?_eq_some_iff.1 hj).1
      rwa [Lib.byteCells_length] at h5
    have e5 : (Lib.byteCells (Lib.decDigits u))[j]? = some (Value.int .u8 ((Lib.decDigits u)[j].toNat : Int)) := by simp [Lib.byteCells, hjl]
    rw [e5] at hj
    cases hj
    rw [Lib.row_is_numeral hF j hjl, Lib.add_plain, World.cell?_drewN]
    exact cell?_putRow (fun (b : UInt8) => Value.int .u8 (b.toNat : Int)) _ w.heap.size 0 _ dk HH0.out (by rw [hF.size, Array.size_replicate]) j (by rw [hF.size]; rw [Lib.decDigits_length] at hjl; exact hjl)
  obtain ⟨os, eo⟩ := Lib.fin_at w (.cells Lib.zeros24 30) dk k 0
  have hg2 : ((putRow (fun (b : UInt8) => Value.int .u8 (b.toNat : Int)) (w.alloc (.cells Lib.zeros24 30)) w.heap.size 0 dk).drewN k).heap[g]? = some (.cells cur 28 (0, 0)) := by rw [eo, Lib.heap_grow_old w k os g hlt]; exact hg
  have hgr2 : w.grownBy ((putRow (fun (b : UInt8) => Value.int .u8 (b.toNat : Int)) (w.alloc (.cells Lib.zeros24 30)) w.heap.size 0 dk).drewN k) (some g) := by
    rw [eo]; exact ⟨rfl, rfl, rfl, Lib.size_grow w k os, fun j hj _ => Lib.heap_grow_old w k os j hj⟩
  generalize (putRow (fun (b : UInt8) => Value.int .u8 (b.toNat : Int)) (w.alloc (.cells Lib.zeros24 30)) w.heap.size 0 dk).drewN k = W2 at hcells hg2 hgr2 ⊢
  clear eo HH0 hfmt
  go_wp2_with (at_builtin; refine wpList_append_room_tag _ rfl _ _ 22 rfl 5 28 i0 Ybad.underlying22 hi hz1 g 20 cur hg2 rfl ⟨w.heap.size, 0, none⟩ (Lib.nDigits u) 24 (Lib.byteCells (Lib.decDigits u)) rfl ?c0 hcells ?c2 ?c3 ?c4 ?_)
  case c0 => rw [Lib.byteCells_length, Lib.decDigits_length]
  case c2 => intro u' hu'; simp only [Lib.byteCells, List.mem_map] at hu'; obtain ⟨b, _, rfl⟩ := hu'; rfl
  case c3 => omega
  case c4 => omega
  go_wp2
  go_ret
  have hL := laid_setRow W2 g cur (decDigits u) (List.drop (nDigits u) cur.toList) hg2
  refine ⟨by rw [decDigits_length]; rfl, ⟨⟨hL.grown.os.trans hgr2.os, hL.grown.tape.trans hgr2.tape, hL.grown.output.trans hgr2.output, Nat.le_trans hgr2.size hL.grown.size, fun j hj hne => (hL.grown.block j (Nat.lt_of_lt_of_le hj hgr2.size) hne).trans (hgr2.block j hj hne)⟩, hL.row⟩⟩

/-- strconv.AppendUint -/
theorem appU (g u : Nat) (hu64 : u < 18446744073709551616) (cur : Array Value) (hcs : cur.size = 20) (w : World) (hg : w.heap[g]? = some (.cells cur 28 (0, 0))) (htab : TabIs Ybad.prog w pow10 .u64 pow10Tab) :
    Calls Ybad.prog 8 #[.slice (some ⟨g, 0, none⟩) 0 20, .int .u64 u, .int .i64 10] w fun e w' => e = .returned (.slice (some ⟨g, 0, none⟩) (decDigits u).length 20) ∧ Laid w w' g (decDigits u) := by
  have h9 : Calls Ybad.prog 9 #[.slice (some ⟨g, 0, none⟩) 0 20, .int .u64 u, .int .i64 10] w fun e w' => e = .returned (.slice (some ⟨g, 0, none⟩) (decDigits u).length 20) ∧ Laid w w' g (decDigits u) := by
    by_cases h : u < 100
    · exact small g u h cur hcs w hg
    · exact big g u (by omega) hu64 cur hcs w hg htab
  go_enter Ybad.func8, Ybad.ntmps8
  go_wp2_with fail
  refine h9.mono ?_
  rintro e w' ⟨rfl, hL⟩
  go_wp2
  go_ret
  exact ⟨rfl, hL⟩

end Go.Proofs.YbulkkygDoor.AppU
