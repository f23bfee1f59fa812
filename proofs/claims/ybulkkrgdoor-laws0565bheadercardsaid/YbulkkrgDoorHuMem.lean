/-
  What 'huffmanLengths' leaves, as a plain law; its memory as one bundle.
-/
import Derived.Test.YbulkkrgDoorMm
import Derived.Test.YbulkkrgDoorHuLens
namespace Go.Proofs.YbulkkrgDoor.Hu
open Go.RowKit Go.Proofs.YbulkkrgDoor.Srt Go.Proofs.YbulkkrgDoor.Mm
set_option linter.unusedVariables false

/-- the counted symbols below k -/
def usd (F : List Int) (k : Nat) : List Int := ((List.range k).filter (fun s => decide (0 < gt F s))).map (fun s : Nat => (s : Int))
theorem usd_zero (F : List Int) : usd F 0 = [] := rfl
theorem usd_succ (F : List Int) (k : Nat) : usd F (k + 1) = usd F k ++ (if 0 < gt F k then [(k : Int)] else []) := by
  unfold usd
  rw [List.range_succ, List.filter_append, List.map_append]
  congr 1
  by_cases h : 0 < gt F k <;> simp [h]
theorem usd_yes (F : List Int) (k : Nat) (h : 0 < gt F k) : usd F (k + 1) = usd F k ++ [(k : Int)] := by rw [usd_succ, if_pos h]
theorem usd_no (F : List Int) (k : Nat) (h : ¬ 0 < gt F k) : usd F (k + 1) = usd F k := by rw [usd_succ, if_neg h, List.append_nil]
theorem usd_len (F : List Int) (k : Nat) : (usd F k).length ≤ k := by
  unfold usd
  rw [List.length_map]
  exact Nat.le_trans (List.length_filter_le _ _) (by simp)
theorem mem_usd (F : List Int) (k : Nat) (x : Int) : x ∈ usd F k ↔ ∃ s : Nat, s < k ∧ 0 < gt F s ∧ x = s := by
  unfold usd
  simp only [List.mem_map, List.mem_filter, List.mem_range, decide_eq_true_eq]
  constructor
  · rintro ⟨s, ⟨h1, h2⟩, rfl⟩; exact ⟨s, h1, h2, rfl⟩
  · rintro ⟨s, h1, h2, rfl⟩; exact ⟨s, ⟨h1, h2⟩, rfl⟩
theorem usd_nodup (F : List Int) (k : Nat) : (usd F k).Nodup := by
  unfold usd
  refine List.Pairwise.map _ (fun a b (h : a ≠ b) => by omega) (List.Pairwise.filter _ List.nodup_range)

theorem gt_mem (l : List Int) (i : Nat) (h : i < l.length) : gt l i ∈ l := by
  have := gt_get l i h
  exact List.mem_of_getElem? this

theorem us_of {F U : List Int} {N : Nat} (hP : U.Perm (usd F N)) : Us N U := by
  refine ⟨fun i hi => ?_, fun i j hi hj hne he => ?_⟩
  · obtain ⟨s, h1, _, h3⟩ := (mem_usd F N _).1 (hP.mem_iff.1 (gt_mem U i hi))
    omega
  · have hnd : U.Nodup := hP.nodup_iff.2 (usd_nodup F N)
    have a := gt_get U i hi
    have b := gt_get U j hj
    rw [← he] at b
    have := (List.getElem?_inj hi hnd).1 (a.trans b.symm)
    exact hne this

/-- what the lengths are -/
structure Hf (N lim : Nat) (F l : List Int) : Prop where
  len : l.length = N
  off : ∀ s, s < N → gt F s = 0 → gt l s = 0
  bd : ∀ s, s < N → gt F s ≠ 0 → 1 ≤ gt l s ∧ gt l s ≤ lim
  one : (usd F N).length = 1 → ∀ s, s < N → gt F s ≠ 0 → gt l s = 1
  full : 2 ≤ (usd F N).length → ((usd F N).map (un lim l)).sum = 2 ^ lim

theorem sum_perm {f : Int → Int} {a b : List Int} (h : a.Perm b) : (a.map f).sum = (b.map f).sum := by
  induction h with
  | nil => rfl
  | cons x _ ih => simp [ih]
  | swap x y l => simp; omega
  | trans _ _ h1 h2 => exact h1.trans h2

theorem Hf.fin {N lim : Nat} {F U l : List Int} (hP : U.Perm (usd F N)) (hF : ∀ s, s < N → 0 ≤ gt F s) (hL : Ln N lim U l) (hK : Ks lim U l = 2 ^ lim) (h2 : 2 ≤ U.length) : Hf N lim F l := by
  have hlen := hP.length_eq
  refine ⟨hL.len, fun s hs h0 => hL.off s hs fun i hi he => ?_, fun s hs h0 => ?_, fun h => by omega, fun _ => ?_⟩
  · obtain ⟨t, h1, h3, h4⟩ := (mem_usd F N _).1 (hP.mem_iff.1 (gt_mem U i hi))
    rw [he] at h4
    have : s = t := by omega
    subst this; omega
  · have hm : (s : Int) ∈ U := hP.mem_iff.2 ((mem_usd F N _).2 ⟨s, hs, by have := hF s hs; omega, rfl⟩)
    obtain ⟨i, hi, he⟩ := List.mem_iff_getElem.1 hm
    have hg : gt U i = s := by
      have := gt_get U i hi
      rw [List.getElem?_eq_getElem hi, he] at this
      exact (Option.some.inj this).symm
    have := hL.bd i hi
    rw [hg] at this
    exact this
  · rw [← sum_perm hP, ← S_sum]; exact hK
theorem Hf.none {N lim : Nat} {F : List Int} (hF : ∀ s, s < N → 0 ≤ gt F s) (h0 : (usd F N).length = 0) : Hf N lim F (List.replicate N 0) := by
  have hn : ∀ s, s < N → ¬ gt F s ≠ 0 := fun s hs h => by
    have hm : (s : Int) ∈ usd F N := (mem_usd F N _).2 ⟨s, hs, by have := hF s hs; omega, rfl⟩
    rw [List.length_eq_zero_iff.1 h0] at hm
    cases hm
  exact ⟨by simp, fun s _ _ => gt_replicate _ _, fun s hs h => absurd h (hn s hs), fun h => by omega, fun h => by omega⟩
theorem Hf.single {N lim x : Nat} {F : List Int} (hl : 1 ≤ lim) (hF : ∀ s, s < N → 0 ≤ gt F s) (hx : usd F N = [(x : Int)]) : x < N ∧ Hf N lim F ((List.replicate N 0).set x 1) := by
  have hxN : x < N := by
    obtain ⟨s, h1, _, h3⟩ := (mem_usd F N (x : Int)).1 (by rw [hx]; exact List.mem_singleton.2 rfl)
    omega
  have hn : ∀ s, s < N → gt F s ≠ 0 → s = x := fun s hs h => by
    have hm : (s : Int) ∈ usd F N := (mem_usd F N _).2 ⟨s, hs, by have := hF s hs; omega, rfl⟩
    rw [hx] at hm
    have := List.mem_singleton.1 hm
    omega
  have hF0 : 0 < gt F x := by
    obtain ⟨s, h1, h2, h3⟩ := (mem_usd F N (x : Int)).1 (by rw [hx]; exact List.mem_singleton.2 rfl)
    have : x = s := by omega
    subst this; exact h2
  have hg : gt ((List.replicate N 0).set x 1) x = 1 := gt_set_self _ _ _ (by simpa using hxN)
  refine ⟨hxN, ⟨by simp, fun s hs h => ?_, fun s hs h => ?_, fun _ s hs h => ?_, fun h => ?_⟩⟩
  · by_cases e : s = x
    · subst e; omega
    · rw [gt_set_ne _ _ _ _ (by omega)]; exact gt_replicate _ _
  · rw [hn s hs h, hg]; omega
  · rw [hn s hs h, hg]
  · rw [hx] at h; simp at h

/-! ### the row off 'used' as a piece -/
theorem seg_of_row {w : World} {B g n cap : Nat} {l : List Int} (h : Row w B g n cap l) : ∃ spare, Seg w g 3 .i64 [] l spare := by
  rcases h.own.2 with ⟨h', _⟩ | ⟨g', cap', cur, h', h2, h3, h4, h5, h6, h7⟩
  · simp at h'
  · simp only [Value.slice.injEq, Option.some.injEq, Addr.mk.injEq, and_true, true_and] at h'
    obtain ⟨rfl, rfl⟩ := h'
    refine ⟨cur.toList.drop (n * 1), ⟨?_⟩⟩
    rw [h3]
    congr 2
    have : [] ++ (l.map (Value.int .i64) ++ cur.toList.drop (n * 1)) = cur.toList := by
      rw [List.nil_append, show l.map (Value.int .i64) = enc l from rfl, ← h7, List.take_append_drop]
    rw [this]
theorem seg_made {w : World} {B g n : Nat} {e : TypeId} {k : IntKind} (h : w.ownsRow B e 1 (.slice (some ⟨g, 0, none⟩) n n) n (List.replicate n (.int k 0))) : Seg w g e k [] (List.replicate n 0) [] := by
  rcases h.2 with ⟨h', _⟩ | ⟨g', cap', cur, h', h2, h3, h4, h5, h6, h7⟩
  · simp at h'
  · simp only [Value.slice.injEq, Option.some.injEq, Addr.mk.injEq, and_true, true_and] at h'
    obtain ⟨rfl, rfl⟩ := h'
    refine ⟨?_⟩
    rw [h3]
    congr 2
    have : [] ++ ((List.replicate n (0 : Int)).map (Value.int k) ++ []) = cur.toList := by
      rw [List.map_replicate, List.nil_append, List.append_nil, ← h7, List.take_of_length_le (by simp [h6])]
    rw [this]
theorem Seg.cell0 {w : World} {b : Nat} {τ : TypeId} {k : IntKind} {post : List Value} {l : List Int} (h : Seg w b τ k [] l post) (j : Nat) (hj : j < l.length) : w.cell? ⟨b, j, none⟩ = some (.int k (gt l j)) := by
  have := Seg.cell h 0 j rfl hj
  rwa [Nat.zero_add] at this
theorem Seg.set0 {w : World} {b : Nat} {τ : TypeId} {k : IntKind} {post : List Value} {l : List Int} (h : Seg w b τ k [] l post) (j : Nat) (hj : j < l.length) (x : Int) : Seg (w.setCell ⟨b, j, none⟩ (.int k x)) b τ k [] (l.set j x) post := by
  have := Seg.set h 0 j rfl hj x
  rwa [Nat.zero_add] at this

/-- the memory behind the sort: s the counts' box, g the used symbols, then the call's later blocks -/
structure M (fq : Value) (lb : Nat) (τ : TypeId) (pre post : List Value) (s g n K bn bw bb bp : Nat) (spare : List Value) (w0 wx : World) (l U Wt P : List Int) : Prop where
  hL : Seg wx lb τ .u8 pre l post
  hB : At wx s 42 [fq]
  hU : Seg wx g 3 .i64 [] U spare
  hN : At wx bn 3 [.int .i64 n]
  hW : Seg wx bw 67 .u64 [] Wt []
  hWb : At wx bb 66 [.slice (some ⟨bw, 0, none⟩) K K]
  hP : Seg wx bp 3 .i64 [] P []
  hG : w0.grownBy wx (some lb)
  ord : lb < s ∧ s < g ∧ g < bn ∧ bn < bw ∧ bw < bb ∧ bb < bp ∧ w0.heap.size = s

variable {fq : Value} {lb : Nat} {τ : TypeId} {pre post : List Value} {s g n K bn bw bb bp : Nat} {spare : List Value} {w0 wx : World} {l U Wt P : List Int}

theorem M.drewN (h : M fq lb τ pre post s g n K bn bw bb bp spare w0 wx l U Wt P) (k : Nat) : M fq lb τ pre post s g n K bn bw bb bp spare w0 (wx.drewN k) l U Wt P :=
  ⟨h.hL.drewN k, h.hB.drewN k, h.hU.drewN k, h.hN.drewN k, h.hW.drewN k, h.hWb.drewN k, h.hP.drewN k, grown_drewN h.hG k, h.ord⟩
theorem M.alloc (h : M fq lb τ pre post s g n K bn bw bb bp spare w0 wx l U Wt P) (o : Obj) : M fq lb τ pre post s g n K bn bw bb bp spare w0 (wx.alloc o) l U Wt P :=
  ⟨h.hL.alloc o, h.hB.alloc o, h.hU.alloc o, h.hN.alloc o, h.hW.alloc o, h.hWb.alloc o, h.hP.alloc o, grown_alloc h.hG o, h.ord⟩
theorem M.kept0 (h : M fq lb τ pre post s g n K bn bw bb bp spare w0 wx l U Wt P) {w' : World} (hg : wx.grownBy w' none) : M fq lb τ pre post s g n K bn bw bb bp spare w0 w' l U Wt P :=
  ⟨h.hL.kept0 hg, h.hB.kept0 hg, h.hU.kept0 hg, h.hN.kept0 hg, h.hW.kept0 hg, h.hWb.kept0 hg, h.hP.kept0 hg, grown_own h.hG hg (fun k hk => by cases hk), h.ord⟩
/-- a store into a block of its own -/
theorem M.other (h : M fq lb τ pre post s g n K bn bw bb bp spare w0 wx l U Wt P) (a : Addr) (v : Value) (ha : bp < a.block) : M fq lb τ pre post s g n K bn bw bb bp spare w0 (wx.setCell a v) l U Wt P := by
  have o := h.ord
  exact ⟨h.hL.other a v (by omega), h.hB.other a v (by omega), h.hU.other a v (by omega), h.hN.other a v (by omega), h.hW.other a v (by omega), h.hWb.other a v (by omega), h.hP.other a v (by omega), grown_set h.hG a v (.inl (by omega)), h.ord⟩
theorem M.setL (h : M fq lb τ pre post s g n K bn bw bb bp spare w0 wx l U Wt P) (lo j : Nat) (ho : lo = pre.length) (hj : j < l.length) (x : Int) : M fq lb τ pre post s g n K bn bw bb bp spare w0 (wx.setCell ⟨lb, lo + j, none⟩ (.int .u8 x)) (l.set j x) U Wt P := by
  have o := h.ord
  exact ⟨h.hL.set lo j ho hj x, h.hB.other _ _ (by show s ≠ lb; omega), h.hU.other _ _ (by show g ≠ lb; omega), h.hN.other _ _ (by show bn ≠ lb; omega), h.hW.other _ _ (by show bw ≠ lb; omega), h.hWb.other _ _ (by show bb ≠ lb; omega), h.hP.other _ _ (by show bp ≠ lb; omega), grown_set h.hG _ _ (.inr rfl), h.ord⟩
theorem M.setW (h : M fq lb τ pre post s g n K bn bw bb bp spare w0 wx l U Wt P) (j : Nat) (hj : j < Wt.length) (x : Int) : M fq lb τ pre post s g n K bn bw bb bp spare w0 (wx.setCell ⟨bw, j, none⟩ (.int .u64 x)) l U (Wt.set j x) P := by
  have o := h.ord
  exact ⟨h.hL.other _ _ (by show lb ≠ bw; omega), h.hB.other _ _ (by show s ≠ bw; omega), h.hU.other _ _ (by show g ≠ bw; omega), h.hN.other _ _ (by show bn ≠ bw; omega), Seg.set0 h.hW j hj x, h.hWb.other _ _ (by show bb ≠ bw; omega), h.hP.other _ _ (by show bp ≠ bw; omega), grown_set h.hG _ _ (.inl (by show _ ≤ bw; omega)), h.ord⟩
theorem M.setP (h : M fq lb τ pre post s g n K bn bw bb bp spare w0 wx l U Wt P) (j : Nat) (hj : j < P.length) (x : Int) : M fq lb τ pre post s g n K bn bw bb bp spare w0 (wx.setCell ⟨bp, j, none⟩ (.int .i64 x)) l U Wt (P.set j x) := by
  have o := h.ord
  exact ⟨h.hL.other _ _ (by show lb ≠ bp; omega), h.hB.other _ _ (by show s ≠ bp; omega), h.hU.other _ _ (by show g ≠ bp; omega), h.hN.other _ _ (by show bn ≠ bp; omega), h.hW.other _ _ (by show bw ≠ bp; omega), h.hWb.other _ _ (by show bb ≠ bp; omega), Seg.set0 h.hP j hj x, grown_set h.hG _ _ (.inl (by show _ ≤ bp; omega)), h.ord⟩
theorem M.bnd (h : M fq lb τ pre post s g n K bn bw bb bp spare w0 wx l U Wt P) : bp < wx.heap.size := h.hP.lt
theorem info3 : (Ybad.prog.info? 3).map (fun i => (i.zero, i.size, i.bytes)) = some (some (.int .i64 0), 1, 8) := by kernel_rfl
theorem info67 : (Ybad.prog.info? 67).map (fun i => (i.zero, i.size, i.bytes)) = some (some (.int .u64 0), 1, 8) := by kernel_rfl
theorem info_parts {P : Program} {e : TypeId} {z : Value} {k b : Nat} (h : (P.info? e).map (fun i => (i.zero, i.size, i.bytes)) = some (some z, k, b)) : ∃ i, P.info? e = some i ∧ i.zero = some z ∧ i.size = k ∧ i.bytes = b := by
  cases hi : P.info? e with
  | none => rw [hi] at h; simp at h
  | some i => rw [hi] at h; simp at h; exact ⟨i, rfl, h.1, h.2.1, h.2.2⟩
end Go.Proofs.YbulkkrgDoor.Hu
