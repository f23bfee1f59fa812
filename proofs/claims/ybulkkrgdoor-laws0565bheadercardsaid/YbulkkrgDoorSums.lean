/-
  The walks of 'bits' (12) and 'dataBits' (13).
-/
import Derived.Test.YbulkkrgDoorFit
import Derived.Test.YbulkkrgDoorDePlain
import Derived.Deep.MidRow
namespace Go.Proofs.YbulkkrgDoor.Sm
open Go.RowKit Go.Proofs.YbulkkrgDoor.Srt Go.Proofs.YbulkkrgDoor.Mm Go.Proofs.YbulkkrgDoor.Hu Go.Proofs.YbulkkrgDoor.Co Go.Proofs.YbulkkrgDoor.Fb Go.Proofs.YbulkkrgDoor.De
set_option linter.unusedVariables false

/-- extra bits of the code-length symbols -/
def clX : List Int := [0, 0, 0, 0, 0, 0, 0, 0, 0, 0, 0, 0, 0, 0, 0, 0, 2, 3, 7]
/-- the bits of the runs below k -/
def rb (cl : List Int) (R : List (Int × Int)) : Nat → Int
  | 0 => 0
  | k + 1 => rb cl R k + (gt cl ((R.getD k (0, 0)).1.toNat) + gt clX ((R.getD k (0, 0)).1.toNat))
theorem clX_bd (j : Nat) (hj : j < 19) : 0 ≤ gt clX j ∧ gt clX j ≤ 7 := (by decide : ∀ j : Fin 19, 0 ≤ gt clX j.val ∧ gt clX j.val ≤ 7) ⟨j, hj⟩
theorem rb_bd (cl : List Int) (R : List (Int × Int)) (h : ∀ j, j < 19 → 0 ≤ gt cl j ∧ gt cl j ≤ 15) (hR : ∀ k, (hk : k < R.length) → 0 ≤ (R[k]).1 ∧ (R[k]).1 ≤ 18) : ∀ k, k ≤ R.length → 0 ≤ rb cl R k ∧ rb cl R k ≤ 22 * k
  | 0, _ => by unfold rb; omega
  | k + 1, hk => by
    have ih := rb_bd cl R h hR k (by omega)
    have e : R.getD k (0, 0) = R[k] := by rw [List.getD_eq_getElem?_getD, List.getElem?_eq_getElem (by omega)]; rfl
    have b := hR k (by omega)
    have c := h (R[k]).1.toNat (by omega)
    have x := clX_bd (R[k]).1.toNat (by omega)
    unfold rb
    rw [e]
    omega
set_option maxHeartbeats 1600000 in
set_option maxRecDepth 100000 in
theorem bits (hb s : Nat) (L D : Int) (C : Nat) (cl cc : List Int) (rv lv : Value) (R : List (Int × Int)) (Y : List Int) (w : World) (hH : Hb w hb L D C cl cc rv lv) (hR : w.ownsRow s 53 2 rv R.length (rc R)) (hC : C ≤ 19) (hcl : ∀ j, j < 19 → 0 ≤ gt cl j ∧ gt cl j ≤ 15) (hRn : Rn R Y) (hl : R.length ≤ 316) (hp : 0 < R.length) (hX : ∀ j, j < 19 → w.cell? ⟨1, j, none⟩ = some (.int .u8 (gt clX j))) :
    Calls Ybad.prog 12 #[.pointer (some ⟨hb, 0, none⟩)] w fun e w' => e = .returned (.int .i64 (17 + 3 * C + rb cl R R.length)) ∧ w.grownBy w' none := by
  have HX : Hid (∀ j, j < 19 → w.cell? ⟨1, j, none⟩ = some (.int .u8 (gt clX j))) := hX
  have HB : Hid (∀ k, k ≤ R.length → 0 ≤ rb cl R k ∧ rb cl R k ≤ 22 * k) := rb_bd cl R hcl (fun k hk => ⟨(hRn.bd k hk).1, (hRn.bd k hk).2.1⟩)
  have HCl : Hid (∀ j, j < 19 → 0 ≤ gt cl j ∧ gt cl j ≤ 15) := hcl
  have HRn : Hid (Rn R Y) := hRn
  clear hX hcl hRn
  obtain ⟨gr, cr, hrv, hgr⟩ : ∃ gr cr, rv = .slice (some ⟨gr, 0, none⟩) R.length cr ∧ gr < w.heap.size := by
    rcases hR.2 with ⟨_, h⟩ | ⟨g1, c1, cur, h, _, h3, _⟩
    · omega
    · exact ⟨g1, c1, h, (Array.getElem?_eq_some_iff.1 h3).1⟩
  subst hrv
  have hc2 := hH.c2
  have hc41 := hH.c41
  go_enter Ybad.func12, Ybad.ntmps12
  go_wp2_with fail
  go_loopw [3, 17] (fun bv kv wr => ∃ (k : Nat) (b : Int), bv = .int .i64 b ∧ kv = .int .i64 k ∧ k ≤ R.length ∧ Hid (b = 17 + 3 * C + rb cl R k) ∧ 0 ≤ b ∧ b ≤ 10000 ∧ w.grownBy wr none) (fun _ kv _ => R.length - (intOf kv).toNat)
  case atStart => exact ⟨0, _, rfl, rfl, by omega, by show _ = 17 + 3 * (C : Int) + rb cl R 0; unfold rb; omega, by omega, by omega, World.grownBy.refl _ _⟩
  case round =>
    obtain ⟨k, b, rfl, rfl, hk, HBb, hb0, hb1, hG⟩ := hrel
    obtain ⟨wo, hwo⟩ : ∃ wo : World, wo = wr := ⟨_, rfl⟩
    rw [← hwo] at hG ⊢
    clear hwo hc2 hc41
    by_cases hlt : k < R.length
    · have hlti : (k : Int) < R.length := by omega
      have hH1 := hH.kept hG (by simp)
      have g1 := rc_get R k hlt
      have l := rc_len R
      have hp1 : w.cell? ⟨gr, k * 2, none⟩ = some (.int .u8 (R[k]).1) := by
        rw [hR.cellAt (k * 2) (by omega), show k * 2 = 2 * k by omega]; exact g1.1
      have hp2 : w.cell? ⟨gr, k * 2 + 1, none⟩ = some (.int .u8 (R[k]).2) := by
        rw [hR.cellAt (k * 2 + 1) (by omega), show k * 2 = 2 * k by omega]; exact g1.2
      have kc : ∀ {p : Addr} {v : Value}, w.cell? p = some v → wo.cell? p = some v := by
        intro p v hc
        have hb := World.block_lt_of_cell? _ _ hc
        have := hG.block p.block hb (by simp)
        unfold World.cell? at hc ⊢
        rw [this]; exact hc
      have hbd := HRn.out.bd k hlt
      obtain ⟨p, hp⟩ : ∃ p : Nat, (R[k]).1 = p := ⟨(R[k]).1.toNat, by omega⟩
      obtain ⟨e, he⟩ : ∃ e : Nat, (R[k]).2 = e := ⟨(R[k]).2.toNat, by omega⟩
      have HSt : Hid (rb cl R (k + 1) = rb cl R k + (gt cl p + gt clX p)) := by
        show rb cl R (k + 1) = _
        rw [rb, show R.getD k (0, 0) = R[k] by rw [List.getD_eq_getElem?_getD, List.getElem?_eq_getElem hlt]; rfl, hp, Int.toNat_natCast]
      rw [hp] at hp1 hbd
      rw [he] at hp2 hbd
      have hq1 := kc hp1
      have hq2 := kc hp2
      have hp19 : p < 19 := by omega
      have hp19i : (p : Int) < 19 := by omega
      have hx1 := kc (HX.out p hp19)
      have hcl := hH1.ccl p hp19
      have b1 := HCl.out p hp19
      have b2 := clX_bd p hp19
      obtain ⟨y, hy⟩ : ∃ y : Nat, gt cl p = y := ⟨(gt cl p).toNat, by omega⟩
      obtain ⟨z, hz⟩ : ∃ z : Nat, gt clX p = z := ⟨(gt clX p).toNat, by omega⟩
      rw [hy] at hcl b1
      rw [hz] at hx1 b2
      rw [hy, hz] at HSt
      have hbt := HB.out (k + 1) (by omega)
      have hbn : b + (y + z) ≤ 10000 := by have := HBb.out; have := HSt.out; omega
      have hG1 := grown_alloc hG (.cells #[.int .u8 p, .int .u8 e] 53)
      have hblt := hH1.lt
      have hx1a : ∀ o, (wo.alloc o).cell? ⟨1, p, none⟩ = some (.int .u8 z) := fun o => by
        have hb := World.block_lt_of_cell? _ _ hx1
        have := Below.heap_alloc wo o 1 hb
        unfold World.cell? at hx1 ⊢
        rw [this]; exact hx1
      have hcla : ∀ o, (wo.alloc o).cell? ⟨hb, 3 + p, none⟩ = some (.int .u8 y) := fun o => by
        have := (hH1.alloc o).ccl p hp19
        rw [hy] at this; exact this
      clear hp he hy hz hbd l g1 hp1 hp2 kc hbt hH1 hx1 hcl
      go_wp2_with fail
      go_quiet (fail)
      go_wp2
      go_roundw
      case rel => exact ⟨k + 1, _, rfl, by go_num, by omega, by show _ = _; rw [HSt.out]; have := HBb.out; omega, by omega, hbn, grown_drewN hG1 _⟩
      case measure => simp [intOf]; omega
    · have hlti : ¬ (k : Int) < R.length := by omega
      have e : k = R.length := by omega
      subst e
      go_wp2
      go_ret
      exact ⟨by rw [← HBb.out]; rfl, hG⟩

/-! ### the data's bits -/
def row32 (n : Nat) (F : List Int) : List Value := (List.range n).map (fun s => Value.int .u32 (gt F s))
theorem row32_len (n : Nat) (F : List Int) : (row32 n F).length = n := by simp [row32]
theorem row32_get (n : Nat) (F : List Int) (j : Nat) (hj : j < n) : (row32 n F)[j]? = some (.int .u32 (gt F j)) := by simp [row32, hj]
theorem info43 : (Ybad.prog.info? 43).map (·.size) = some 1 := by kernel_rfl
theorem info44 : (Ybad.prog.info? 44).map (·.size) = some 286 := by kernel_rfl
theorem info45 : (Ybad.prog.info? 45).map (·.size) = some 30 := by kernel_rfl
theorem idx44 (A : Array Value) (i : Nat) (v : Value) (hi : i < 286) (hv : A[i]? = some v) (w : World) : (Instr.index 44 (.agg A) (.int .i64 i)).run Ybad.prog w = .ok v w := by
  cases hq : Ybad.prog.info? 43 with
  | none => have := info43; simp [hq] at this
  | some q =>
    have hs : q.size = 1 := by have := info43; simpa [hq] using this
    have hii : (0 : Int) ≤ i ∧ (i : Int) < 286 := by omega
    simp [Instr.index, asIntOf, Sem.run_bind, run_underlying Ybad.underlying44, sizeOf, typeInfo, hq, hs, part, isAgg]
    rw [if_pos hi, hv]; rfl
theorem idx45 (A : Array Value) (i : Nat) (v : Value) (hi : i < 30) (hv : A[i]? = some v) (w : World) : (Instr.index 45 (.agg A) (.int .i64 i)).run Ybad.prog w = .ok v w := by
  cases hq : Ybad.prog.info? 43 with
  | none => have := info43; simp [hq] at this
  | some q =>
    have hs : q.size = 1 := by have := info43; simpa [hq] using this
    have hii : (0 : Int) ≤ i ∧ (i : Int) < 30 := by omega
    simp [Instr.index, asIntOf, Sem.run_bind, run_underlying Ybad.underlying45, sizeOf, typeInfo, hq, hs, part, isAgg]
    rw [if_pos hi, hv]; rfl
/-- extra bits of the length symbols, of the distance symbols -/
def lX : List Int := [0, 0, 0, 0, 0, 0, 0, 0, 1, 1, 1, 1, 2, 2, 2, 2, 3, 3, 3, 3, 4, 4, 4, 4, 5, 5, 5, 5, 0]
def dX : List Int := [0, 0, 0, 0, 1, 1, 2, 2, 3, 3, 4, 4, 5, 5, 6, 6, 7, 7, 8, 8, 9, 9, 10, 10, 11, 11, 12, 12, 13, 13]
theorem lX_bd (j : Nat) (hj : j < 29) : 0 ≤ gt lX j ∧ gt lX j ≤ 5 := (by decide : ∀ j : Fin 29, 0 ≤ gt lX j.val ∧ gt lX j.val ≤ 5) ⟨j, hj⟩
theorem dX_bd (j : Nat) (hj : j < 30) : 0 ≤ gt dX j ∧ gt dX j ≤ 13 := (by decide : ∀ j : Fin 30, 0 ≤ gt dX j.val ∧ gt dX j.val ≤ 13) ⟨j, hj⟩
def db1 (F a : List Int) : Nat → Int
  | 0 => 0
  | s + 1 => db1 F a s + gt F s * gt a s + (if 257 ≤ s then gt F s * gt lX (s - 257) else 0)
def db2 (F d : List Int) : Nat → Int
  | 0 => 0
  | s + 1 => db2 F d s + gt F s * (gt d s + gt dX s)
theorem drewN_add (w : World) (n m : Nat) : w.drewN (n + m) = (w.drewN n).drewN m := by
  first | rfl | simp [World.drewN, Nat.add_assoc]
theorem mul_bd (x y m : Int) (h0 : 0 ≤ x) (h1 : x < 4294967296) (h2 : 0 ≤ y) (h3 : y ≤ m) : 0 ≤ x * y ∧ x * y ≤ 4294967296 * m := by
  refine ⟨Int.mul_nonneg h0 h2, ?_⟩
  exact Int.mul_le_mul (by omega) h3 h2 (by omega)
set_option maxHeartbeats 1600000 in
set_option maxRecDepth 100000 in
theorem dataBits (cb nb : Nat) (Fl Fd a d ca cd : List Int) (w : World) (hC : Cb w cb a d ca cd) (hn : Cn w nb Fl Fd) (hl : Bd32 Fl 286) (hd : Bd32 Fd 30) (ha : ∀ j, j < 286 → 0 ≤ gt a j ∧ gt a j ≤ 15) (hdd : ∀ j, j < 30 → 0 ≤ gt d j ∧ gt d j ≤ 15)
    (h2 : ∀ j, j < 29 → w.cell? ⟨2, j, none⟩ = some (.int .u8 (gt lX j))) (h3 : ∀ j, j < 30 → w.cell? ⟨3, j, none⟩ = some (.int .u8 (gt dX j))) :
    Calls Ybad.prog 13 #[.pointer (some ⟨cb, 0, none⟩), .pointer (some ⟨nb, 0, none⟩)] w fun e w' => e = .returned (.int .i64 (db1 Fl a 286 + db2 Fd d 30)) ∧ ∃ n, w' = w.drewN n := by
  have HL : Hid (Bd32 Fl 286) := hl
  have HD : Hid (Bd32 Fd 30) := hd
  have HA : Hid (∀ j, j < 286 → 0 ≤ gt a j ∧ gt a j ≤ 15) := ha
  have HDd : Hid (∀ j, j < 30 → 0 ≤ gt d j ∧ gt d j ≤ 15) := hdd
  have H2 : Hid (∀ j, j < 29 → w.cell? ⟨2, j, none⟩ = some (.int .u8 (gt lX j))) := h2
  have H3 : Hid (∀ j, j < 30 → w.cell? ⟨3, j, none⟩ = some (.int .u8 (gt dX j))) := h3
  clear hl hd ha hdd h2 h3
  have hr1 : w.rangeAt nb 0 (row32 286 Fl) := fun j v hv => by
    have hj : j < 286 := by have := (List.getElem?_eq_some_iff.1 hv).1; rwa [row32_len] at this
    rw [row32_get 286 Fl j hj] at hv
    rw [← Option.some.inj hv]; exact hn.cl j hj
  have hr2 : w.rangeAt nb 286 (row32 30 Fd) := fun j v hv => by
    have hj : j < 30 := by have := (List.getElem?_eq_some_iff.1 hv).1; rwa [row32_len] at this
    rw [row32_get 30 Fd j hj] at hv
    rw [← Option.some.inj hv]; exact hn.cd j hj
  obtain ⟨A1, hA1⟩ : ∃ A1, A1 = (row32 286 Fl).toArray := ⟨_, rfl⟩
  obtain ⟨A2, hA2⟩ : ∃ A2, A2 = (row32 30 Fd).toArray := ⟨_, rfl⟩
  have HI1 : Hid (∀ i : Nat, i < 286 → ∀ w : World, (Instr.index 44 (.agg A1) (.int .i64 i)).run Ybad.prog w = .ok (.int .u32 (gt Fl i)) w) := fun i hi w => idx44 A1 i _ hi (by rw [hA1, List.getElem?_toArray]; exact row32_get 286 Fl i hi) w
  have HI2 : Hid (∀ i : Nat, i < 30 → ∀ w : World, (Instr.index 45 (.agg A2) (.int .i64 i)).run Ybad.prog w = .ok (.int .u32 (gt Fd i)) w) := fun i hi w => idx45 A2 i _ hi (by rw [hA2, List.getElem?_toArray]; exact row32_get 30 Fd i hi) w
  have HN1 : Hid ((Ybad.prog.info? 44).map (·.size) = some (row32 286 Fl).length) := by show _ = _; rw [row32_len]; exact info44
  have HN2 : Hid ((Ybad.prog.info? 45).map (·.size) = some (row32 30 Fd).length) := by show _ = _; rw [row32_len]; exact info45
  have HR1 : Hid (w.rangeAt nb 0 (row32 286 Fl)) := hr1
  have HR2 : Hid (w.rangeAt nb 286 (row32 30 Fd)) := hr2
  clear hr1 hr2 hn
  go_enter Ybad.func13, Ybad.ntmps13
  go_upto_block 0 with (refine wpList_load_mid rfl 44 _ rfl nb 0 rfl (row32 286 Fl) (.array 286 43) HR1.out Ybad.underlying44 rfl HN1.out ?_)
  rw [← hA1]
  clear hA1
  go_cut [5] from 14 to 42 (fun v wx => v = .int .i64 (db1 Fl a 286) ∧ 0 ≤ db1 Fl a 286 ∧ db1 Fl a 286 ≤ 4294967296 * 20 * 286 ∧ w = wx)
  case first =>
    go_wp2_with fail
    go_loopw [5, 14] (fun bv iv wr => ∃ (i : Nat) (b : Int), bv = .int .i64 b ∧ iv = .int .i64 i ∧ i ≤ 286 ∧ Hid (b = db1 Fl a i) ∧ 0 ≤ b ∧ b ≤ 4294967296 * 20 * i ∧ w = wr) (fun _ iv _ => 286 - (intOf iv).toNat)
    case atStart => exact ⟨0, 0, rfl, rfl, by omega, rfl, by omega, by omega, rfl⟩
    case round =>
      obtain ⟨i, b, rfl, rfl, hi, HB, hb0, hb1, rfl⟩ := hrel
      by_cases hlt : i < 286
      · have hlti : (i : Int) < 286 := by omega
        have hidx := HI1.out i hlt
        have hcl := Seg.cell0 hC.segA i (by rw [hC.la]; exact hlt)
        have bf := HL.out i hlt
        have ba := HA.out i hlt
        obtain ⟨f, hf⟩ : ∃ f : Nat, gt Fl i = f := ⟨(gt Fl i).toNat, by omega⟩
        obtain ⟨y, hy⟩ : ∃ y : Nat, gt a i = y := ⟨(gt a i).toNat, by omega⟩
        rw [hf] at hidx bf
        rw [hy] at hcl ba
        have m1 := mul_bd f y 15 bf.1 bf.2 ba.1 ba.2
        obtain ⟨P, hP⟩ : ∃ P : Int, (f : Int) * y = P := ⟨_, rfl⟩
        rw [hP] at m1
        obtain ⟨p0, p1⟩ := m1
        obtain ⟨bf0, bf1⟩ := bf
        by_cases h257 : 257 ≤ i
        · have h257i : (257 : Int) ≤ i := by omega
          obtain ⟨t, ht⟩ : ∃ t, i = 257 + t := ⟨i - 257, by omega⟩
          have hc2 := H2.out t (by omega)
          have bx := lX_bd t (by omega)
          have hti : (i : Int) - 257 = t := by omega
          have ht29 : (t : Int) < 29 := by omega
          obtain ⟨z, hz⟩ : ∃ z : Nat, gt lX t = z := ⟨(gt lX t).toNat, by omega⟩
          have HSt : Hid (db1 Fl a (i + 1) = db1 Fl a i + f * y + f * z) := by
            show db1 Fl a (i + 1) = _
            rw [db1, if_pos (by omega), hf, hy, show i - 257 = t by omega, hz]
          rw [hz] at hc2 bx
          have m2 := mul_bd f z 5 bf0 bf1 bx.1 bx.2
          obtain ⟨Q, hQ⟩ : ∃ Q : Int, (f : Int) * z = Q := ⟨_, rfl⟩
          rw [hQ] at m2
          rw [hP, hQ] at HSt
          obtain ⟨q0, q1⟩ := m2
          have hy15 : y ≤ 15 := by omega
          have hz5 : z ≤ 5 := by omega
          clear hf hy hz bx ba ht
          go_wp2
          go_roundw
          case rel => exact ⟨i + 1, _, rfl, by go_num, by omega, by show _ = _; rw [HSt.out]; have := HB.out; omega, by omega, by omega, by first | trivial | rfl⟩
          case measure => simp [intOf]; omega
        · have h257i : ¬ (257 : Int) ≤ i := by omega
          have HSt : Hid (db1 Fl a (i + 1) = db1 Fl a i + f * y) := by
            show db1 Fl a (i + 1) = _
            rw [db1, if_neg (by omega), hf, hy, Int.add_zero]
          rw [hP] at HSt
          have hy15 : y ≤ 15 := by omega
          clear hf hy ba
          go_wp2
          go_roundw
          case rel => exact ⟨i + 1, _, rfl, by go_num, by omega, by show _ = _; rw [HSt.out]; have := HB.out; omega, by omega, by omega, by first | trivial | rfl⟩
          case measure => simp [intOf]; omega
      · have hlti : ¬ (i : Int) < 286 := by omega
        have e : i = 286 := by omega
        subst e
        go_wp2
        go_meet
        case rel => exact ⟨by rw [HB.out], by have := HB.out; omega, by have := HB.out; omega, rfl⟩
  case rest =>
  obtain ⟨rfl, hb9, hb10, rfl⟩ := hcut
  obtain ⟨B0, hB0⟩ : ∃ B0, B0 = db1 Fl a 286 := ⟨_, rfl⟩
  have HB0 : Hid (B0 = db1 Fl a 286) := hB0
  rw [← hB0] at hb9 hb10 ⊢
  clear hB0
  go_wp2_with (refine wpList_load_mid rfl 45 _ rfl nb 286 rfl (row32 30 Fd) (.array 30 43) HR2.out Ybad.underlying45 rfl HN2.out ?_)
  rw [← hA2]
  clear hA2
  go_wp2_with fail
  go_loopw [5, 47] (fun bv iv wr => ∃ (i n : Nat) (b : Int), bv = .int .i64 b ∧ iv = .int .i64 i ∧ i ≤ 30 ∧ Hid (b = B0 + db2 Fd d i) ∧ 0 ≤ b ∧ b ≤ 4294967296 * 20 * 286 + 4294967296 * 28 * i ∧ w.drewN n = wr) (fun _ iv _ => 30 - (intOf iv).toNat)
  case atStart => exact ⟨0, 0, B0, rfl, rfl, by omega, by show B0 = B0 + db2 Fd d 0; unfold db2; omega, by omega, by omega, rfl⟩
  case round =>
    obtain ⟨i, n, b, rfl, rfl, hi, HB, hb0, hb1, hw⟩ := hrel
    obtain ⟨wo, hwo⟩ : ∃ wo : World, wo = wr := ⟨_, rfl⟩
    rw [← hwo] at hw ⊢
    clear hwo
    by_cases hlt : i < 30
    · have hlti : (i : Int) < 30 := by omega
      have hidx := HI2.out i hlt
      have hcl : wo.cell? ⟨cb, 286 + i, none⟩ = some (.int .u8 (gt d i)) := by
        rw [← hw]; exact (hC.drewN n).segD.cell 286 i (by rw [List.length_map]; exact hC.la.symm) (by rw [hC.ld]; exact hlt)
      have hcx : wo.cell? ⟨3, i, none⟩ = some (.int .u8 (gt dX i)) := by rw [← hw]; exact H3.out i hlt
      have bf := HD.out i hlt
      have ba := HDd.out i hlt
      have bx := dX_bd i hlt
      obtain ⟨f, hf⟩ : ∃ f : Nat, gt Fd i = f := ⟨(gt Fd i).toNat, by omega⟩
      obtain ⟨y, hy⟩ : ∃ y : Nat, gt d i = y := ⟨(gt d i).toNat, by omega⟩
      obtain ⟨z, hz⟩ : ∃ z : Nat, gt dX i = z := ⟨(gt dX i).toNat, by omega⟩
      have HSt : Hid (db2 Fd d (i + 1) = db2 Fd d i + f * (y + z)) := by
        show db2 Fd d (i + 1) = _
        rw [db2, hf, hy, hz]
      rw [hf] at hidx bf
      rw [hy] at hcl ba
      rw [hz] at hcx bx
      have m1 := mul_bd f (y + z) 28 bf.1 bf.2 (by omega) (by omega)
      obtain ⟨P, hP⟩ : ∃ P : Int, (f : Int) * (y + z) = P := ⟨_, rfl⟩
      rw [hP] at m1 HSt
      obtain ⟨p0, p1⟩ := m1
      obtain ⟨bf0, bf1⟩ := bf
      have hy15 : y ≤ 15 := by omega
      have hz13 : z ≤ 13 := by omega
      clear hf hy hz ba bx
      go_wp2_with fail
      go_quiet (fail)
      go_wp2
      go_roundw
      case rel => exact ⟨i + 1, n + nq, _, rfl, by go_num, by omega, by show _ = _; rw [HSt.out]; have := HB.out; omega, by omega, by omega, by rw [← hw]; exact drewN_add _ _ _⟩
      case measure => simp [intOf]; omega
    · have hlti : ¬ (i : Int) < 30 := by omega
      have e : i = 30 := by omega
      subst e
      go_wp2
      go_ret
      exact ⟨by rw [← HB0.out, ← HB.out]; rfl, n, hw.symm⟩
end Go.Proofs.YbulkkrgDoor.Sm
