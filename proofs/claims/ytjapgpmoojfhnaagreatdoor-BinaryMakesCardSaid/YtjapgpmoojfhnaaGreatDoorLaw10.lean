/- ref03's DivMod at numbers without a sign. The reference's Of at the text of an odd number with any exponent. The reference's Make at a number that is not nought. The law BinaryMakes returns true for every description and exponent. -/
import Derived.Test.YtjapgpmoojfhnaaGreatDoorWalkZXG
import Derived.Deep.RegionWith
namespace Go.Proofs.YtjapgpmoojfhnaaGreatDoor
open Go.RowKit Go.Lib

/-- What DivMod holds: its blocks and the quotient's row. -/
structure DivBlk (w : World) (X n n2 c c2 : Nat) (A B : Option Addr) (lc : List Nat) (wx : World) : Prop where
  ba : wx.heap[X]? = some (.cells #[.bool false, .slice A n c] 33 (0, 0))
  bb : wx.heap[X + 1]? = some (.cells #[.bool false, .slice B n2 c2] 33 (0, 0))
  r1 : wx.heap[X + 2]? = some (.cells #[.bool false, .slice none 0 0] 33 (0, 0))
  r2 : wx.heap[X + 3]? = some (.cells #[.bool false, .slice none 0 0] 33 (0, 0))
  q : wx.heap[X + 4]? = some (.cells (u8s lc).toArray 5 (0, 0))
  sz : X + 5 ≤ wx.heap.size
  bel : Below X w wx
theorem DivBlk.on {w : World} {X n n2 c c2 : Nat} {A B : Option Addr} {lc : List Nat} {wx wy : World} (h : DivBlk w X n n2 c c2 A B lc wx) (hb : Below wx.heap.size wx wy) : DivBlk w X n n2 c c2 A B lc wy := by
  obtain ⟨h1, h2, h3, h4, h5, h6, h7⟩ := h
  exact ⟨(hb.block X (by omega)).trans h1, (hb.block (X + 1) (by omega)).trans h2, (hb.block (X + 2) (by omega)).trans h3, (hb.block (X + 3) (by omega)).trans h4, (hb.block (X + 4) (by omega)).trans h5, by have := hb.size; omega, h7.trans (hb.mono (by omega))⟩
theorem DivBlk.drewN {w : World} {X n n2 c c2 : Nat} {A B : Option Addr} {lc : List Nat} {wx : World} (h : DivBlk w X n n2 c c2 A B lc wx) (k : Nat) : DivBlk w X n n2 c c2 A B lc (wx.drewN k) := h.on (below_drewN (Below.refl _ _) k)
theorem DivBlk.setq {w : World} {X n n2 c c2 : Nat} {A B : Option Addr} {lc : List Nat} {wx : World} (h : DivBlk w X n n2 c c2 A B lc wx) (f x : Nat) : DivBlk w X n n2 c c2 A B (lc.set f x) (wx.setCell ⟨X + 4, f, none⟩ (.int .u8 (x : Int))) := by
  obtain ⟨h1, h2, h3, h4, h5, h6, h7⟩ := h
  refine ⟨?_, ?_, ?_, ?_, ?_, by simp [World.setCell]; omega, h7.setCell (p := ⟨X + 4, f, none⟩) (by show X ≤ X + 4; omega) _⟩
  · rw [Below.heap_setCell _ _ _ _ (show X ≠ X + 4 by omega)]; exact h1
  · rw [Below.heap_setCell _ _ _ _ (show X + 1 ≠ X + 4 by omega)]; exact h2
  · rw [Below.heap_setCell _ _ _ _ (show X + 2 ≠ X + 4 by omega)]; exact h3
  · rw [Below.heap_setCell _ _ _ _ (show X + 3 ≠ X + 4 by omega)]; exact h4
  · rw [u8s_set]; exact block_set h5 f _
theorem Reads.heap {w w' : World} {A : Option Addr} {n : Nat} {xs : List Value} (h : Reads w w.heap.size A n xs) (hs : w.heap.size ≤ w'.heap.size) (hk : ∀ b off, A = some ⟨b, off, none⟩ → b < w.heap.size → w'.heap[b]? = w.heap[b]?) : Reads w' w'.heap.size A n xs := by
  refine ⟨h.1, fun hn => ?_⟩
  obtain ⟨b, off, e, hb, hc⟩ := h.2 hn
  refine ⟨b, off, e, by omega, fun j u hu => ?_⟩
  have h1 := hc j u hu
  simp only [World.cell?, hk b off e hb] at h1 ⊢
  exact h1
/-- What has turned since the end's begin: the two results' boxes alone. -/
structure DEnd (wr : World) (X : Nat) (W : World) : Prop where
  sz : wr.heap.size ≤ W.heap.size
  keep : ∀ k, k < wr.heap.size → k ≠ X + 2 → k ≠ X + 3 → W.heap[k]? = wr.heap[k]?
  low : X ≤ wr.heap.size
  bel : Below X wr W
section
variable {wr W W' : World} {X : Nat}
theorem DEnd.on (h : DEnd wr X W) (hb : Below W.heap.size W W') : DEnd wr X W' := by
  obtain ⟨h1, h2, h3, h4⟩ := h
  exact ⟨by have := hb.size; omega, fun k k1 k2 k3 => (hb.block k (by omega)).trans (h2 k k1 k2 k3), h3, h4.trans (hb.mono (by omega))⟩
theorem DEnd.drew (h : DEnd wr X W) : DEnd wr X W.drew := ⟨h.1, h.2, h.3, h.4.drew⟩
theorem DEnd.set (h : DEnd wr X W) (k i : Nat) (hk : k = X + 2 ∨ k = X + 3) (v : Value) : DEnd wr X (W.setCell ⟨k, i, none⟩ v) :=
  ⟨by simp [World.setCell]; exact h.1, fun j h1 h2 h3 => by rw [Below.heap_setCell _ _ _ _ (show j ≠ k by omega)]; exact h.2 j h1 h2 h3, h.3, h.4.setCell (p := ⟨k, i, none⟩) (by show X ≤ k; omega) _⟩
theorem DEnd.set2 {i : Nat} {v : Value} (h : DEnd wr X W) : DEnd wr X (W.setCell ⟨X + 1 + 1, i, none⟩ v) := h.set _ _ (by omega) _
theorem DEnd.set3 {i : Nat} {v : Value} (h : DEnd wr X W) : DEnd wr X (W.setCell ⟨X + 1 + 1 + 1, i, none⟩ v) := h.set _ _ (by omega) _
theorem frozen_block {p : Addr} (hb : Below W.heap.size W W') (h : p.block < W.heap.size) : W'.frozen? p = W.frozen? p := by simp [World.frozen?, hb.block _ h]
theorem DEnd.facts (h : DEnd wr X W) (hs : X + 5 ≤ wr.heap.size) (hb : Below W.heap.size W W') : W'.cell? ⟨X + 1, 0, none⟩ = W.cell? ⟨X + 1, 0, none⟩ ∧ W'.cell? ⟨X + 1 + 1, 0, none⟩ = W.cell? ⟨X + 1 + 1, 0, none⟩ ∧ W'.cell? ⟨X + 1 + 1, 1, none⟩ = W.cell? ⟨X + 1 + 1, 1, none⟩ ∧ W'.cell? ⟨X + 1 + 1 + 1, 0, none⟩ = W.cell? ⟨X + 1 + 1 + 1, 0, none⟩ ∧ W'.cell? ⟨X + 1 + 1 + 1, 1, none⟩ = W.cell? ⟨X + 1 + 1 + 1, 1, none⟩ ∧
    W'.frozen? ⟨X + 1 + 1, 0, none⟩ = W.frozen? ⟨X + 1 + 1, 0, none⟩ ∧ W'.frozen? ⟨X + 1 + 1, 1, none⟩ = W.frozen? ⟨X + 1 + 1, 1, none⟩ ∧ W'.frozen? ⟨X + 1 + 1 + 1, 0, none⟩ = W.frozen? ⟨X + 1 + 1 + 1, 0, none⟩ ∧ W'.frozen? ⟨X + 1 + 1 + 1, 1, none⟩ = W.frozen? ⟨X + 1 + 1 + 1, 1, none⟩ := by
  have h1 := h.1
  refine ⟨hb.cell ?_, hb.cell ?_, hb.cell ?_, hb.cell ?_, hb.cell ?_, frozen_block hb ?_, frozen_block hb ?_, frozen_block hb ?_, frozen_block hb ?_⟩
  all_goals
    simp only
    omega
end
/-- A digit put ahead of the rest, trimmed. -/
theorem rest_trim {v d m k : Nat} (hk : (Fl.digL v).length = k) (hd : d ≤ 9) (h : Trimmed (d :: Fl.digL v) (1 + k) m) : (d :: Fl.digL v).take m = Fl.digL (10 * v + d) := by
  have h1 := digL_trim (l := d :: Fl.digL v) (by rw [List.length_cons, hk]; omega) (fun x hx => by
    rcases List.mem_cons.1 hx with h | h
    · omega
    · exact digL_le9 v x h) h
  rw [h1, dv, dv_digL, Nat.add_comm]
theorem alloc_at {w : World} {k : Nat} {o b : Obj} (h : w.heap[k]? = some b) : (w.alloc o).heap[k]? = some b := by
  rw [Below.heap_alloc _ _ _ (lt_of_block h)]; exact h
theorem new_at (w : World) (cs : Array Value) (t : TypeId) {k : Nat} (hk : k = w.heap.size) : (w.alloc (.cells cs t)).heap[k]? = some (.cells cs t (0, 0)) := by
  subst hk; exact heap_alloc_new w _
theorem digL_len_le {u v : Nat} (h : u ≤ v) : (Fl.digL u).length ≤ (Fl.digL v).length := by
  rcases Nat.lt_or_ge (Fl.digL v).length (Fl.digL u).length with h1 | h1
  · have := dv_longer (digL_le9 v) (digL_noLead u) h1
    rw [dv_digL, dv_digL] at this
    omega
  · exact h1
theorem div_end {w wr W : World} {X n n2 c c2 k cr v : Nat} {A B Ar : Option Addr} {l lb lc : List Nat} {mq mr : Nat}
    (h : DivBlk w X n n2 c c2 A B lc wr ∧ Reads wr wr.heap.size Ar k (u8s (Fl.digL (dv l % v))) ∧ (∀ b off, Ar = some ⟨b, off, none⟩ → X + 5 ≤ b) ∧ dv lc = dv l / v ∧ (∀ x ∈ lc, x ≤ 9) ∧ lc.length = n ∧ Reads wr wr.heap.size (some ⟨X + 4, 0, none⟩) n (u8s lc))
    (hv : dv lb = v) (hmq : Trimmed lc n mq) (hmr : Trimmed (Fl.digL (dv l % v)) k mr) (hkc : k ≤ cr) (hE : DEnd wr X W) :
    (∃ Q m cq R k cr', m ≤ cq ∧ k ≤ cr' ∧ (∀ b off, Q = some ⟨b, off, none⟩ → X ≤ b) ∧ (∀ b off, R = some ⟨b, off, none⟩ → X ≤ b) ∧ Reads W W.heap.size Q m (u8s (Fl.digL (dv l / dv lb))) ∧ Reads W W.heap.size R k (u8s (Fl.digL (dv l % dv lb))) ∧ Ending.returned (.tuple #[.agg #[.bool false, .slice (some ⟨X + 1 + 1 + 1 + 1, 0, none⟩) mq n], .agg #[.bool false, .slice Ar mr cr]]) = .returned (.tuple #[.agg #[.bool false, .slice Q m cq], .agg #[.bool false, .slice R k cr']])) ∧ Below X w W := by
  obtain ⟨h1, h2, h3, h4, h5, h6, h7⟩ := h
  subst hv
  refine ⟨⟨some ⟨X + 1 + 1 + 1 + 1, 0, none⟩, mq, n, Ar, mr, cr, hmq.1, by have := hmr.1; omega, fun b off he => by cases he; omega, fun b off he => by have := h3 b off he; omega, ?_, ?_, rfl⟩, h1.bel.trans hE.bel⟩
  · have e : (u8s lc).take mq = u8s (Fl.digL (dv l / dv lb)) := by
      rw [← h4, ← digL_trim h6 h5 hmq]
      simp [u8s, List.map_take]
    rw [← e]
    exact (h7.take mq hmq.1).heap hE.sz (fun b off he hlt => by cases he; exact hE.keep _ hlt (by omega) (by omega))
  · have hk : (Fl.digL (dv l % dv lb)).length = k := by have := h2.1; rwa [u8s_len] at this
    have e : (u8s (Fl.digL (dv l % dv lb))).take mr = u8s (Fl.digL (dv l % dv lb)) := by
      have := digL_trim hk (digL_le9 _) hmr
      rw [dv_digL] at this
      have e2 : (u8s (Fl.digL (dv l % dv lb))).take mr = u8s ((Fl.digL (dv l % dv lb)).take mr) := by simp [u8s, List.map_take]
      rw [e2, this]
    rw [← e]
    exact (h2.take mr hmr.1).heap hE.sz (fun b off he hlt => by have := h3 b off he; exact hE.keep _ hlt (by omega) (by omega))
theorem divmod_step {r v d : Nat} (hv : 0 < v) (s : Nat) {u : Nat} (hus : u + v * s = 10 * (r % v) + d) (hu : u < v) : (d + 10 * r) % v = u ∧ (d + 10 * r) / v = s + 10 * (r / v) := by
  have h1 := Nat.div_add_mod r v
  have h2 : d + 10 * r = u + v * (s + 10 * (r / v)) := by
    rw [Nat.mul_add]
    have : v * (10 * (r / v)) = 10 * (v * (r / v)) := by rw [Nat.mul_left_comm]
    omega
  rw [h2]
  refine ⟨?_, ?_⟩
  · rw [Nat.add_mul_mod_self_left, Nat.mod_eq_of_lt hu]
  · rw [Nat.add_mul_div_left _ _ hv, Nat.div_eq_of_lt hu, Nat.zero_add]
set_option maxHeartbeats 4000000 in
set_option maxRecDepth 100000 in
theorem divmod_any (A B : Option Addr) (n n2 c c2 : Nat) (l lb : List Nat) (w : World) (hr : Reads w w.heap.size A n (u8s l)) (hn : n ≤ 100000) (hd : ∀ x ∈ l, x ≤ 9) (h2 : Reads w w.heap.size B n2 (u8s lb)) (hn2 : n2 ≤ 100000) (hb9 : ∀ x ∈ lb, x ≤ 9) (nb : NoLead lb) (hv0 : 0 < dv lb) :
    Calls Tryz.prog 84 #[.agg #[.bool false, .slice A n c], .agg #[.bool false, .slice B n2 c2]] w fun x w' => (∃ Q m cq R k cr, m ≤ cq ∧ k ≤ cr ∧ (∀ b off, Q = some ⟨b, off, none⟩ → w.heap.size ≤ b) ∧ (∀ b off, R = some ⟨b, off, none⟩ → w.heap.size ≤ b) ∧ Reads w' w'.heap.size Q m (u8s (Fl.digL (dv l / dv lb))) ∧ Reads w' w'.heap.size R k (u8s (Fl.digL (dv l % dv lb))) ∧ x = .returned (.tuple #[.agg #[.bool false, .slice Q m cq], .agg #[.bool false, .slice R k cr]])) ∧ Below w.heap.size w w' := by
  obtain ⟨i0, hi, hz0, hz1, hz2⟩ := info_parts info5
  have hll : l.length = n := by have := hr.1; rwa [u8s_len] at this
  have hlb : lb.length = n2 := by have := h2.1; rwa [u8s_len] at this
  have hmk := fun W => make_bytes n (by omega) W
  have w0 : IntKind.i64.wrap ((n : Int) - 1) = (n : Int) - 1 := IntWalk.i64_in _ (by omega)
  obtain ⟨w2, hw2⟩ : ∃ w2, (((((w.alloc (Obj.cells #[.bool false, .slice A n c] 33)).alloc (Obj.cells #[.bool false, .slice B n2 c2] 33)).alloc (Obj.cells #[.bool false, .slice none 0 0] 33)).alloc (Obj.cells #[.bool false, .slice none 0 0] 33)).alloc (Obj.cells (u8s (List.replicate n 0)).toArray 5)) = w2 := ⟨_, rfl⟩
  have hblk : DivBlk w w.heap.size n n2 c c2 A B (List.replicate n 0) w2 := by
    rw [← hw2]
    refine ⟨?_, ?_, ?_, ?_, ?_, by simp, ?_⟩
    · exact alloc_at (alloc_at (alloc_at (alloc_at (new_at _ _ _ rfl))))
    · exact alloc_at (alloc_at (alloc_at (new_at _ _ _ (by simp))))
    · exact alloc_at (alloc_at (new_at _ _ _ (by simp)))
    · exact alloc_at (new_at _ _ _ (by simp))
    · exact new_at _ _ _ (by simp)
    · exact (((((Below.refl _ _).alloc (Nat.le_refl _) _).alloc (by simp) _).alloc (by simp <;> omega) _).alloc (by simp <;> omega) _).alloc (by simp <;> omega) _
  have HW2 := Lib.hid hw2
  clear hw2
  go_enter Tryz.func84, Tryz.ntmps84
  go_upto_block 0 with fail
  rw [HW2.out]
  obtain ⟨X, hX⟩ : ∃ X, w.heap.size = X := ⟨_, rfl⟩
  obtain ⟨v, hv⟩ : ∃ v, dv lb = v := ⟨_, rfl⟩
  rw [hX] at hr h2 hblk
  rw [hX]
  have HX := Lib.hid hX
  have HBL2 := Lib.hid hblk
  have HB := Lib.hid (And.intro hlb (And.intro hb9 (And.intro nb (And.intro hv hv0))))
  have HLL := Lib.hid hll
  have HD := Lib.hid hd
  have hvp : 0 < v := by omega
  clear hX hll hd hlb hb9 nb hv hv0
  have p1 := at_block hblk.ba 1 _ rfl
  clear hblk
  go_wp2_with fail
  go_loopg [6, 8] n (fun f t6 t8 wx => ∃ (lc : List Nat) (Ar : Option Addr) (k cr : Nat), t8 = .int .i64 ((f : Int) - 1) ∧ f ≤ n ∧ lc.length = n ∧ t6 = .slice Ar k cr ∧ k ≤ cr ∧ Reads wx wx.heap.size Ar k (u8s (Fl.digL (dv (l.drop f) % v))) ∧ (∀ b off, Ar = some ⟨b, off, none⟩ → X + 5 ≤ b) ∧ dv (lc.drop f) = dv (l.drop f) / v ∧ (∀ x ∈ lc, x ≤ 9) ∧ (∀ i, i < f → lc[i]? = some 0) ∧ DivBlk w X n n2 c c2 A B lc wx)
  case atStart =>
    have e : l.drop n = [] := List.drop_of_length_le (by rw [HLL.out]; exact Nat.le_refl _)
    refine ⟨List.replicate n 0, none, 0, 0, by first | rfl | (congr 1), Nat.le_refl _, by simp, rfl, Nat.le_refl _, by rw [e, show dv [] % v = 0 from Nat.zero_mod _, Fl.digL_zero]; exact Reads.none_, fun b off h => by (cases h), ?_, fun x hx => by rw [List.mem_replicate] at hx; omega, fun i hi => by rw [List.getElem?_replicate, if_pos hi], HBL2.out⟩
    rw [e, List.drop_of_length_le (by simp)]
    exact (Nat.zero_div _).symm
  case round =>
    obtain ⟨lc, Ar, k, cr, rfl, hf, hlc, rfl, hkc, hrr, hra, hq, hdc, hz, hb⟩ := hrel
    clear p1
    have p1 := at_block hb.ba 1 _ rfl
    have p2 := at_block hb.bb 1 _ rfl
    cases gk with
    | zero =>
      have c1 : decide ((0 : Int) ≤ ((0 : Nat) : Int) - 1) = false := by decide
      have c1b : decide ((0 : Int) ≤ -1) = false := by decide
      have p3 := at_block hb.ba 0 _ rfl
      have p4 := at_block hb.bb 0 _ rfl
      rw [List.drop_zero] at hrr hq
      rw [List.drop_zero] at hq
      have hks : k ≤ 100000 := by
        obtain ⟨q1, q2, q3, q4, q5⟩ := HB.out
        have hk : (Fl.digL (dv l % v)).length = k := by have := hrr.1; rwa [u8s_len] at this
        have h1 := digL_len_le (Nat.le_of_lt (Nat.mod_lt (dv l) hvp))
        have h2 : Fl.digL v = lb := by rw [← q4]; exact digL_dv q2 q3
        rw [h2] at h1
        omega
      have hRq : Reads wr wr.heap.size (some ⟨X + 4, 0, none⟩) n (u8s lc) := by
        have := Reads.of_block hb.q
        rwa [u8s_len, hlc] at this
      have SQ := fun W (hW : DEnd wr X W) => signed_pos (some ⟨X + 1 + 1 + 1 + 1, 0, none⟩) n n lc W (hRq.heap hW.1 (fun b off he hlt => by cases he; exact hW.2 _ hlt (by omega) (by omega))) (Nat.le_refl _) (by omega)
      have SR := fun W (hW : DEnd wr X W) => signed_pos Ar k cr (Fl.digL (dv l % v)) W (hrr.heap hW.1 (fun b off he hlt => by have := hra b off he; exact hW.2 _ hlt (by omega) (by omega))) hkc (by omega)
      have SQ := Lib.hid SQ
      have SR := Lib.hid SR
      have r20 := at_block hb.r1 0 _ rfl
      have r21 := at_block hb.r1 1 _ rfl
      have r30 := at_block hb.r2 0 _ rfl
      have r31 := at_block hb.r2 1 _ rfl
      have s20 := free_block hb.r1 0
      have s21 := free_block hb.r1 1
      have s30 := free_block hb.r2 0
      have s31 := free_block hb.r2 1
      have hsz := hb.sz
      have D0 := Lib.hid (show DEnd wr X wr from ⟨Nat.le_refl _, fun _ _ _ _ => rfl, by omega, Below.refl _ _⟩)
      have HBE := Lib.hid (And.intro hb (And.intro hrr (And.intro hra (And.intro hq (And.intro hdc (And.intro hlc hRq))))))
      clear c1 hb hrr hra hq hdc hz hRq
      go_wp2_with fail
      go_region_with (first
        | (go_at_call_of 97 Ar; refine (SR.out _ ?_).mono ?_; (repeat (first | with_reducible assumption | with_reducible exact D0.out | with_reducible refine DEnd.drew ?_ | with_reducible refine DEnd.set2 ?_ | with_reducible refine DEnd.set3 ?_)); rintro x w10 ⟨⟨mr, hmr, rfl⟩, hb10⟩; have hD10 : DEnd wr X w10 := DEnd.on (by (repeat (first | with_reducible assumption | with_reducible exact D0.out | with_reducible refine DEnd.drew ?_ | with_reducible refine DEnd.set2 ?_ | with_reducible refine DEnd.set3 ?_))) hb10; obtain ⟨z0, z1, z2, z3, z4, z5, z6, z7, z8⟩ := DEnd.facts (by (repeat (first | with_reducible assumption | with_reducible exact D0.out | with_reducible refine DEnd.drew ?_ | with_reducible refine DEnd.set2 ?_ | with_reducible refine DEnd.set3 ?_))) hsz hb10)
        | (go_at_call 97; refine (SQ.out _ ?_).mono ?_; (repeat (first | with_reducible assumption | with_reducible exact D0.out | with_reducible refine DEnd.drew ?_ | with_reducible refine DEnd.set2 ?_ | with_reducible refine DEnd.set3 ?_)); rintro x w9 ⟨⟨mq, hmq, rfl⟩, hb9⟩; have hD9 : DEnd wr X w9 := DEnd.on (by (repeat (first | with_reducible assumption | with_reducible exact D0.out | with_reducible refine DEnd.drew ?_ | with_reducible refine DEnd.set2 ?_ | with_reducible refine DEnd.set3 ?_))) hb9; obtain ⟨y0, y1, y2, y3, y4, y5, y6, y7, y8⟩ := DEnd.facts (by (repeat (first | with_reducible assumption | with_reducible exact D0.out | with_reducible refine DEnd.drew ?_ | with_reducible refine DEnd.set2 ?_ | with_reducible refine DEnd.set3 ?_))) hsz hb9))
      all_goals
        go_wp2_with fail
        refine bodyPost_ret (v := .tuple #[.agg #[.bool false, .slice (some ⟨X + 1 + 1 + 1 + 1, 0, none⟩) mq n], .agg #[.bool false, .slice Ar mr cr]]) (by simp [results, Tryz.results84, go_sem, *]) rfl ?_
        (try rw [HX.out])
        refine div_end HBE.out HB.out.2.2.2.1 hmq hmr hkc ?_
        (repeat (first | with_reducible assumption | with_reducible exact D0.out | with_reducible refine DEnd.drew ?_ | with_reducible refine DEnd.set2 ?_ | with_reducible refine DEnd.set3 ?_))
    | succ f =>
      have e8 : (((f + 1 : Nat) : Int) - 1) = (f : Int) := by omega
      rw [e8]
      obtain ⟨b, off, u, rfl, hbX, hu, hcell⟩ := (hr.below hb.bel).at_ (k := f) (by omega)
      obtain ⟨d, hdf, rfl⟩ := u8_at hu
      have hd9 := HD.out d (List.mem_of_getElem? hdf)
      have c1 : decide ((0 : Int) ≤ (f : Int)) = true := decide_eq_true (by omega)
      have hf0 : (0 : Int) ≤ (f : Int) := by omega
      have hfn : (f : Int) < (n : Int) := by omega
      obtain ⟨r, hrv⟩ : ∃ r, dv (l.drop (f + 1)) = r := ⟨_, rfl⟩
      have hdr : dv (l.drop f) = d + 10 * r := by rw [dv_drop hdf, hrv]
      rw [hrv] at hrr hq
      have hmod : r % v < v := Nat.mod_lt _ hvp
      obtain ⟨V, hV⟩ : ∃ V, u8s (Fl.digL (r % v)) = V := ⟨_, rfl⟩
      have hone := u8s_one (Fl.digL (r % v))
      have hk : (Fl.digL (r % v)).length = k := by have := hrr.1; rwa [u8s_len] at this
      have hk20 : k ≤ 100000 := by
        obtain ⟨q1, q2, q3, q4, q5⟩ := HB.out
        have h1 := digL_len_le (Nat.le_of_lt hmod)
        have h2 : Fl.digL v = lb := by rw [← q4]; exact digL_dv q2 q3
        rw [h2] at h1
        omega
      rw [hV] at hrr hone
      have hown := fresh_row wr d
      have HV := Lib.hid (And.intro hV (And.intro hk (And.intro hmod (And.intro hq (And.intro hdc (And.intro hz (And.intro hb (And.intro hdf hdr))))))))
      have hhs := hb.sz
      clear hV hk hmod hq hdc hz hb hu hdf hdr hrv
      go_wp2_with (at_builtin; refine wpList_append_any _ rfl _ _ 31 rfl wr.heap.size 5 i0 (.int .u8 0) 1 Tryz.underlying31 hi hz0 hz1 hz2 rfl _ 1 [.int .u8 (d : Int)] rfl hown _ Ar k cr V rfl (hrr.alloc (Nat.le_refl _) _) hone ?c3 ?c4 (by simp) ?_)
      case c3 => unfold maxLen; omega
      case c4 => omega
      intro v' w5 hown5 hgr5
      have hb5 : Below wr.heap.size wr w5 := ((Below.refl _ _).alloc (Nat.le_refl _) _).grown hgr5 (by simp) (fun k hk => (hown.lt k hk).1)
      obtain ⟨A5, c5, rfl, hc5, hrd5⟩ := own_slice hown5
      have had5 := own_addr hown5
      have e5 : Value.int .u8 (d : Int) :: V = u8s (d :: Fl.digL (r % v)) := by rw [← HV.out.1]; rfl
      rw [e5] at hrd5
      have TR := Lib.hid (trim85_any A5 (1 + k) c5 (d :: Fl.digL (r % v)) w5 hrd5 hc5 (by omega))
      have HRD := Lib.hid hrd5
      have HB5 := Lib.hid (And.intro hb5 had5)
      clear hgr5 hown5 hown hrd5 had5 hb5 e5 hrr hone
      go_wp2_with fail
      refine (TR.out).mono ?_
      rintro y w6 ⟨⟨m, hm, rfl⟩, rfl⟩
      obtain ⟨q1, q2, q3, q4, q5, q6, q7, q8, q9⟩ := HV.out
      have hrm := (HRD.out).take m hm.1
      have em : (u8s (d :: Fl.digL (r % v))).take m = u8s (Fl.digL (10 * (r % v) + d)) := by
        rw [← rest_trim q2 hd9 hm]
        simp [u8s, List.map_take]
      rw [em] at hrm
      have hm1 := hm.1
      have hblk6 : DivBlk w X n n2 c c2 (some ⟨b, off, none⟩) B lc w6 := q7.on HB5.out.1
      have hset : lc.set f 0 = lc := by
        apply List.ext_getElem?
        intro i
        by_cases h : i = f
        · subst h
          rw [List.getElem?_set_self (by omega), q6 i (by omega)]
        · rw [List.getElem?_set_ne (by omega)]
      have hadr6 : ∀ b' off', A5 = some ⟨b', off', none⟩ → X + 5 ≤ b' := fun b' off' he => by
        have := HB5.out.2 b' off' he
        omega
      have hmc : m ≤ c5 := by omega
      have hmle : m ≤ 100001 := by omega
      have HS6 := Lib.hid (And.intro hrm (And.intro hblk6 (And.intro hset hadr6)))
      obtain ⟨T, hT⟩ : ∃ T, 10 * (r % v) + d = T := ⟨_, rfl⟩
      have hTm : (Fl.digL T).length = m := by have := hrm.1; rw [u8s_len, hT] at this; exact this
      have hT10 : T < 10 * v := by omega
      have HT := Lib.hid hT
      clear q1 q2 q3 q4 q5 q6 q7 q8 q9 hrm em hm hm1 hblk6 hset hadr6 p1 p2 hT
      go_wp2_with fail
      go_loopg [6] 10 (fun F t6 wx => ∃ (A' : Option Addr) (k' c' u s : Nat), t6 = .slice A' k' c' ∧ k' ≤ c' ∧ Reads wx wx.heap.size A' k' (u8s (Fl.digL u)) ∧ (∀ b' off', A' = some ⟨b', off', none⟩ → X + 5 ≤ b') ∧ u + v * s = T ∧ s + F = 10 ∧ DivBlk w X n n2 c c2 (some ⟨b, off, none⟩) B (lc.set f s) wx)
      case atStart =>
        obtain ⟨a1, a3, a4, a5⟩ := HS6.out
        exact ⟨A5, m, c5, T, 0, rfl, hmc, by rw [← HT.out]; exact a1, a5, by omega, by omega, by rw [a4]; exact a3⟩
      case round =>
        obtain ⟨A', k', c', u, s, rfl, hkc', hru, hau, hus, hsF, hbu⟩ := hrel
        have p1 := at_block hbu.ba 1 _ rfl
        have p2 := at_block hbu.bb 1 _ rfl
        have hb2r : Reads wr wr.heap.size B n2 (u8s lb) := (h2.below hbu.bel).more (by have := hbu.sz; omega)
        have hk1 : (Fl.digL u).length = k' := by have := hru.1; rwa [u8s_len] at this
        have hk2 : k' ≤ 100001 := by
          have := digL_len_le (show u ≤ T by omega)
          omega
        obtain ⟨q1, q2, q3, q4, q5⟩ := HB.out
        have SZ := size_any A' B k' n2 c' c2 (Fl.digL u) lb wr hru hb2r (by omega) (by omega) (digL_le9 u) q2 (digL_noLead u) q3
        rw [dv_digL, q4] at SZ
        have g8 : IntKind.i64.wrap ((f : Int) - 1) = (f : Int) - 1 := IntWalk.i64_in _ (by omega)
        by_cases hlt : u < v
        · rw [cmpN_lt hlt] at SZ
          have SZ := Lib.hid SZ
          have HIN := Lib.hid (And.intro hru (And.intro hbu (And.intro hus (And.intro hlt hau))))
          clear hru hbu hus hlt hau hb2r q1 q2 q3 q4 q5 hk1
          go_wp2_with fail
          refine (SZ.out).mono ?_
          rintro x w7 ⟨rfl, hb7⟩
          go_wp2_with fail
          go_roundg f
          case measure => omega
          case rel =>
            obtain ⟨r1, r2, r3, r4, r5⟩ := HIN.out
            obtain ⟨k1, k2, k3, k4, k5, k6, k7, k8, k9⟩ := HV.out
            have ht := HT.out
            have hs9 : s ≤ 9 := by
              rcases Nat.lt_or_ge 9 s with h | h
              · have h1 : v * 10 ≤ v * s := Nat.mul_le_mul_left v (by omega)
                omega
              · exact h
            obtain ⟨m1, m2⟩ := divmod_step (r := r) (d := d) (u := u) hvp s (r3.trans ht.symm) r4
            refine ⟨lc.set f s, A', k', c', rfl, by omega, by rw [List.length_set, hlc], rfl, hkc', ?_, r5, ?_, ?_, ?_, r2.on hb7⟩
            · rw [k9, m1]; exact r1.on hb7
            · rw [dv_drop (d := s) (by rw [List.getElem?_set_self (by omega)]), List.drop_set_of_lt (by omega), k4, k9, m2]
            · intro z hz
              rcases List.mem_or_eq_of_mem_set hz with h | h
              · exact k5 z h
              · omega
            · intro i hi
              rw [List.getElem?_set_ne (by omega)]
              exact k6 i (by omega)
        · obtain ⟨C, hC, hC0⟩ : ∃ C, cmpN u v = C ∧ 0 ≤ C := ⟨_, rfl, by unfold cmpN; rw [if_neg hlt]; split <;> omega⟩
          rw [hC] at SZ
          have cC : decide (0 ≤ C) = true := decide_eq_true hC0
          have cC2 : decide (C ≥ 0) = true := decide_eq_true hC0
          have hvu : v ≤ u := by omega
          have hs8 : s ≤ 8 := by
            rcases Nat.lt_or_ge 8 s with h | h
            · have h1 : v * 9 ≤ v * s := Nat.mul_le_mul_left v (by omega)
              have := HT.out
              omega
            · exact h
          have hnk : n2 ≤ k' := by
            have h1 := digL_len_le hvu
            have h2 : Fl.digL v = lb := by rw [← q4]; exact digL_dv q2 q3
            rw [h2] at h1
            omega
          have MN := fun W (hW : Below wr.heap.size wr W) => minus_any A' B k' n2 c' c2 (Fl.digL u) lb W (hru.on hW) (hb2r.on hW) (by omega) hnk (digL_le9 u) q2 (by rw [dv_digL, q4]; exact hvu)
          rw [dv_digL, q4] at MN
          have SZ := Lib.hid SZ
          have MN := Lib.hid MN
          have HIN := Lib.hid (And.intro hru (And.intro hbu (And.intro hus (And.intro hvu hau))))
          have hlf : f < (lc.set f s).length := by rw [List.length_set]; omega
          clear hru hus hlt hau hb2r q1 q2 q3 q4 q5 hk1 hC hC0 hvu hnk
          obtain ⟨F, rfl⟩ : ∃ F, gk = F + 1 := ⟨gk - 1, by omega⟩
          go_wp2_with fail
          refine (SZ.out).mono ?_
          rintro x w7 ⟨rfl, hb7⟩
          have hbu7 := hbu.on hb7
          clear p1 p2 hbu
          have p1 := at_block hbu7.ba 1 _ rfl
          have p2 := at_block hbu7.bb 1 _ rfl
          go_wp2_with fail
          refine (MN.out _ hb7).mono ?_
          rintro x w8 ⟨⟨A8, m8, c8, hmc8, had8, hrd8, rfl⟩, hb8⟩
          have hbu8 := hbu7.on hb8
          have hs7 := hbu7.sz
          clear p1 p2 hbu7
          have p1 := at_block hbu8.ba 1 _ rfl
          have p2 := at_block hbu8.bb 1 _ rfl
          have z0 := at_block hbu8.q f (.int .u8 (s : Int)) (by
            have : (lc.set f s)[f]? = some s := by rw [List.getElem?_set_self (by omega)]
            rw [List.getElem?_toArray]
            simp only [u8s, List.getElem?_map, this]
            rfl)
          have fz0 := free_block hbu8.q f
          have g9 : IntKind.u8.wrap ((s : Int) + 1) = ((s + 1 : Nat) : Int) := by rw [IntKind.wrap_u8]; omega
          have H8 := Lib.hid (And.intro hrd8 (And.intro had8 (And.intro hbu8 hs7)))
          clear hrd8 had8 hbu8 hs7
          go_wp2_with fail
          go_roundg F
          case measure => omega
          case rel =>
            obtain ⟨r1, r2, r3, r4, r5⟩ := HIN.out
            obtain ⟨u1, u2, u3, u4⟩ := H8.out
            refine ⟨A8, m8, c8, u - v, s + 1, rfl, hmc8, ?_, ?_, ?_, by omega, ?_⟩
            · have := u1.setOther (p := ⟨X + 4, f, none⟩) (fun b' off' he => by have := u2 b' off' he; show b' ≠ X + 4; omega) (.int .u8 ((s + 1 : Nat) : Int))
              exact this.more (by simp [World.setCell])
            · intro b' off' he
              have := u2 b' off' he
              omega
            · rw [Nat.mul_add, Nat.mul_one]; omega
            · have := u3.setq f (s + 1)
              rw [List.set_set] at this
              exact this
end Go.Proofs.YtjapgpmoojfhnaaGreatDoor

namespace Go.Proofs.YtjapgpmoojfhnaaGreatDoor
open Go.RowKit Go.Lib

set_option maxHeartbeats 2000000 in
set_option maxRecDepth 100000 in
theorem floattext_far (neg : Bool) (m : Nat) (e : Int) (w : World) (hm : m < 18446744073709551616) (he : -10000 ≤ e ∧ e ≤ 10000) :
    Calls Tryz.prog 15 #[.agg #[.int .i64 0, .bool neg, .int .u64 (m : Int), .int .i64 e]] w fun x w' => x = .returned (.string ⟨(sgnS neg ++ (decDigits m ++ 112 :: itoa e)).toArray⟩) ∧ Below w.heap.size w w' := by
  obtain ⟨w2, X, hw2, hX, hb2, hcells⟩ := box_float 0 neg m e w
  have OT := Lib.hid (fun W => ofText m hm W)
  have SM := Lib.hid (fun W => small_any e W (by omega))
  obtain ⟨D, hD⟩ : ∃ D : ByteArray, ⟨(decDigits m).toArray⟩ = D := ⟨_, rfl⟩
  obtain ⟨I, hI⟩ : ∃ I : ByteArray, ⟨(itoa e).toArray⟩ = I := ⟨_, rfl⟩
  rw [hD] at OT
  rw [hI] at SM
  have hDs : D.size ≤ 20 := by
    rw [← hD]
    show (decDigits m).length ≤ 20
    by_cases h0 : m = 0
    · subst h0; rw [decDigits_one (by omega)]; simp
    · rw [Lib.decDigits_length]
      have := Lib.numDigits_eq m (by omega) hm
      split at this <;> omega
  have hIs : I.size ≤ 18 := by rw [← hI]; exact itoa_few (by omega) (by omega)
  have hadd1 := fun W => run_string_add_sum (P := Tryz.prog) (w := W) D ⟨#[112]⟩ (by show D.size + 1 ≤ _; omega)
  have hadd2 := fun W => run_string_add_sum (P := Tryz.prog) (w := W) (D ++ ⟨#[112]⟩) I (by rw [ByteArray.size_append]; show D.size + 1 + I.size ≤ _; omega)
  have hadd3 := fun W => run_string_add_sum (P := Tryz.prog) (w := W) ⟨#[45]⟩ (D ++ ⟨#[112]⟩ ++ I) (by rw [ByteArray.size_append, ByteArray.size_append]; show 1 + (D.size + 1 + I.size) ≤ _; omega)
  have HDI := Lib.hid (And.intro hD hI)
  have HC := Lib.hid hcells
  have HW2 := Lib.hid hw2
  have HX := Lib.hid hX
  have hd2 : Below w2.heap.size w2 w2 := Below.refl _ _
  obtain ⟨x0, x1, x2, x3, _⟩ := hcells w2 hd2
  clear hcells hw2 hX hD hI hDs hIs hm he
  go_enter Tryz.func15, Tryz.ntmps15
  go_upto_region 1 with fail
  rw [HW2.out, HX.out]
  go_upto_region 5 with fail
  go_region_held3 (fun W => W.cell? ⟨X, 0, none⟩ = some (.int .i64 0) ∧ W.cell? ⟨X, 1, none⟩ = some (.bool neg) ∧ W.cell? ⟨X, 2, none⟩ = some (.int .u64 (m : Int)) ∧ W.cell? ⟨X, 3, none⟩ = some (.int .i64 e) ∧ Below w2.heap.size w2 W)
    ((refine HC.out _ ?_; first | assumption | exact b_drew hd2 | exact b_drew (by assumption)))
    (first | (go_at_call 50; refine (OT.out _).mono ?_; rintro x w3 ⟨A, n, c, rfl, hb3, k1, _, _⟩; have hb3' := f4_trans (by assumption) hb3) | (go_at_call 19; refine (k1 _ (by first | exact Below.refl _ _ | exact (Below.refl _ _).drew)).mono ?_; rintro x w4 ⟨rfl, hb4⟩; have hb4' := f4_trans (by assumption) hb4) | (go_at_call 51; refine (SM.out _).mono ?_; rintro x w5 ⟨rfl, hb5⟩; have hb5' := f4_trans (by assumption) hb5))
  clear x0 x1 x2 x3
  obtain ⟨x0, x1, x2, x3, _⟩ := HC.out w5 hb5'
  have hbz : Below w.heap.size w w5 := hb2.trans (hb5'.mono hb2.size)
  clear k1 hb3 hb3' hb4 hb4' hb5
  cases neg with
  | true =>
    go_wp2_with fail
    go_ret
    refine ⟨?_, hbz⟩
    rw [lit_112, lit_45, ← HDI.out.1, ← HDI.out.2, str_append, str_append, str_append]
    simp [sgnS]
  | false =>
    go_wp2_with fail
    go_ret
    refine ⟨?_, hbz⟩
    rw [lit_112, ← HDI.out.1, ← HDI.out.2, str_append, str_append]
    simp [sgnS]
theorem oddtext_head (c : Nat) (E : Int) (b : UInt8) (hb : b ≠ 112) (hb2 : ¬ (48 ≤ b.toNat ∧ b.toNat ≤ 57)) (l : List UInt8) : decDigits c ++ 112 :: itoa E ≠ b :: l := by
  intro he
  cases h : decDigits c with
  | nil => rw [h] at he; exact hb (List.cons.inj he).1.symm
  | cons d t =>
    rw [h] at he
    have := Dc.dec_mem c d (by rw [h]; simp)
    rw [(List.cons.inj he).1] at this
    exact hb2 this
set_option maxHeartbeats 1000000 in
theorem refof_odd (g : Bool) (c : Nat) (E : Int) (ho : c % 2 = 1) (hc : c < 10000000000000000) (hE : -10000 ≤ E ∧ E ≤ 10000) : ∃ (ok : Bool) (K : Int) (n : Bool) (m e : Int), (ok = true ↔ Fl.Fits c E) ∧
    ∀ w, Calls Tryz.prog 33 #[.string ⟨(sgnS g ++ (decDigits c ++ 112 :: itoa E)).toArray⟩] w fun x w' => x = .returned (.tuple #[.agg #[.int .i64 K, .bool n, .int .u64 m, .int .i64 e], .bool ok]) ∧ Below w.heap.size w w' := by
  have hA : itoa (c : Int) = decDigits c := itoa_nat c
  have l1 : (decDigits c).length ≤ 18 := by rw [← hA]; exact itoa_few (by omega) (by omega)
  have l2 : (itoa E).length ≤ 18 := itoa_few (by omega) (by omega)
  have hlen : (sgnS g ++ (decDigits c ++ 112 :: itoa E)).length ≤ 300 := by
    have : (sgnS g).length ≤ 1 := by unfold sgnS; split <;> simp
    rw [List.length_append, List.length_append, List.length_cons]; omega
  obtain ⟨s, hs⟩ : ∃ s : ByteArray, (⟨(sgnS g ++ (decDigits c ++ 112 :: itoa E)).toArray⟩ : ByteArray) = s := ⟨_, rfl⟩
  have hsl : s.data.toList = sgnS g ++ (decDigits c ++ 112 :: itoa E) := by rw [← hs]
  have hs3 : s.size ≤ 300 := by rw [← hs, ba_size, List.length_append] at *; first | exact hlen | (rw [List.length_append] at hlen; exact hlen)
  have hs0 : 0 < s.size := by rw [← hs, ba_size, List.length_append, List.length_append, List.length_cons]; omega
  have hp : OfPre s ⟨(decDigits c ++ 112 :: itoa E).toArray⟩ g := of_pre s g _ hsl (fun _ he => by
    cases h : decDigits c ++ 112 :: itoa E with
    | nil => simp at h
    | cons d t =>
      rw [h] at he
      obtain rfl : d = 45 := Option.some.inj he
      exact oddtext_head c E 45 (by decide) (by decide) t h) hs3 hs0
  have hi : (⟨(decDigits c ++ 112 :: itoa E).toArray⟩ : ByteArray).data.toList ≠ [105, 110, 102] := oddtext_head c E 105 (by decide) (by decide) _
  have hn : s.data.toList ≠ [110, 97, 110] := by
    rw [hsl]
    cases g with
    | true => intro he; cases (List.cons.inj he).1
    | false => exact oddtext_head c E 110 (by decide) (by decide) _
  have hAm : ∀ b ∈ itoa (c : Int), b ≠ 112 := fun b hb he => by
    rw [hA, he] at hb
    exact absurd (Dc.dec_mem _ _ hb).2 (by decide)
  have hAB : (⟨(decDigits c ++ 112 :: itoa E).toArray⟩ : ByteArray).data.toList = itoa (c : Int) ++ 112 :: itoa E := by rw [hA]
  have a2 : (itoa (c : Int)).length ≤ 18 := itoa_few (by omega) (by omega)
  have a3 : Fl.numI (itoa (c : Int)) = c := numI_itoa (by omega) (by omega)
  have a4 : Fl.numI (itoa E) = E := numI_itoa (by omega) (by omega)
  rw [hs]
  have no : ∀ {p : Prop}, ¬ p → (false = true ↔ p) := fun h => ⟨fun h2 => (by cases h2), fun h2 => absurd h2 h⟩
  by_cases c3 : Lib.bitLen c ≤ 53
  · by_cases c4 : -1074 ≤ E
    · by_cases c5 : E ≤ 1023
      · by_cases c6 : E + (Lib.bitLen c : Int) ≤ 1024
        · exact ⟨true, _, _, _, _, ⟨fun _ => ⟨ho, c3, c4, c5, c6⟩, fun _ => rfl⟩, fun w => refof_num s _ g hp hi hn (itoa (c : Int)) (itoa E) hAB hAm c E (Fl.itoa_vB _) a2 a3 (Fl.itoa_vB _) l2 a4 c rfl (by omega) (by omega) ho c3 c4 c5 c6 w⟩
        · exact ⟨false, _, _, _, _, no (fun h => c6 h.2.2.2.2), fun w => refof_sum s _ g hp hi hn (itoa (c : Int)) (itoa E) hAB hAm c E (Fl.itoa_vB _) a2 a3 (Fl.itoa_vB _) l2 a4 c rfl (by omega) (by omega) ho c3 c4 c5 (by omega) w⟩
      · exact ⟨false, _, _, _, _, no (fun h => c5 h.2.2.2.1), fun w => refof_high s _ g hp hi hn (itoa (c : Int)) (itoa E) hAB hAm c E (Fl.itoa_vB _) a2 a3 (Fl.itoa_vB _) l2 a4 c rfl (by omega) (by omega) ho c3 c4 (by omega) w⟩
    · exact ⟨false, _, _, _, _, no (fun h => c4 h.2.2.1), fun w => refof_low s _ g hp hi hn (itoa (c : Int)) (itoa E) hAB hAm c E (Fl.itoa_vB _) a2 a3 (Fl.itoa_vB _) l2 a4 c rfl (by omega) (by omega) ho c3 (by omega) w⟩
  · exact ⟨false, _, _, _, _, no (fun h => c3 h.2.1), fun w => refof_long s _ g hp hi hn (itoa (c : Int)) (itoa E) hAB hAm c E (Fl.itoa_vB _) a2 a3 (Fl.itoa_vB _) l2 a4 c rfl (by omega) (by omega) ho (by omega) w⟩
end Go.Proofs.YtjapgpmoojfhnaaGreatDoor

namespace Go.Proofs.YtjapgpmoojfhnaaGreatDoor
open Go.RowKit Go.Lib

/-- How Make ends. -/
def MakeRes (N : Nat) (g : Bool) (e : Int) (x : Ending) : Prop :=
  ((∃ (K : Int) (n : Bool) (m E : Int), x = .returned (.tuple #[.agg #[.int .i64 K, .bool n, .int .u64 m, .int .i64 E], .bool false])) ∧ ∀ c t : Nat, c % 2 = 1 → N = c * 2 ^ t → c < 9007199254740992 → ¬ Fl.Fits c (e + t)) ∨
  (∃ c t : Nat, c % 2 = 1 ∧ N = c * 2 ^ t ∧ c < 10000000000000000 ∧ Fl.Fits c (e + t) ∧ x = .returned (.tuple #[.agg #[.int .i64 0, .bool g, .int .u64 (c : Int), .int .i64 (e + t)], .bool true]))
theorem ten_pow_lt (n : Nat) : 10 ^ n ≤ 2 ^ (4 * n) := by
  rw [Nat.pow_mul]
  exact Nat.pow_le_pow_left (by decide) n
theorem digL_bound {N n : Nat} (h : (Fl.digL N).length = n) : N < 10 ^ n := by
  have := dv_lt (digL_le9 N)
  rwa [dv_digL, h] at this
theorem two_exp {N n c t : Nat} (h : (Fl.digL N).length = n) (hc : 0 < c) (hN : N = c * 2 ^ t) : t < 4 * n := by
  have h1 := digL_bound h
  have h2 := ten_pow_lt n
  have h3 : 2 ^ t ≤ c * 2 ^ t := Nat.le_mul_of_pos_left _ hc
  exact (Nat.pow_lt_pow_iff_right (a := 2) (by omega)).1 (by omega)
/-- What Make holds. -/
structure MkBlk (w : World) (X T : Nat) (g : Bool) (A : Option Addr) (n c : Nat) (B : Option Addr) (c2 : Nat) (Ad : Option Addr) (m cd : Nat) (wx : World) : Prop where
  ba : wx.heap[X]? = some (.cells #[.bool g, .slice A n c] 33 (0, 0))
  bf : wx.heap[X + 1]? = some (.cells #[.int .i64 0, .bool false, .int .u64 0, .int .i64 0] 24 (0, 0))
  bd : wx.heap[X + 2]? = some (.cells #[.bool false, .slice Ad m cd] 33 (0, 0))
  bt : wx.heap[T]? = some (.cells #[.bool false, .slice B 1 c2] 33 (0, 0))
  rt : Reads wx wx.heap.size B 1 (u8s [2])
  low : X + 3 ≤ T
  sz : T + 1 ≤ wx.heap.size
  bel : Below X w wx
theorem MkBlk.on {w : World} {X T : Nat} {g : Bool} {A : Option Addr} {n c : Nat} {B : Option Addr} {c2 : Nat} {Ad : Option Addr} {m cd : Nat} {wx wy : World} (h : MkBlk w X T g A n c B c2 Ad m cd wx) (hb : Below wx.heap.size wx wy) : MkBlk w X T g A n c B c2 Ad m cd wy := by
  obtain ⟨h1, h2, h3, h4, h5, h6, h7, h8⟩ := h
  exact ⟨(hb.block X (by omega)).trans h1, (hb.block (X + 1) (by omega)).trans h2, (hb.block (X + 2) (by omega)).trans h3, (hb.block T (by omega)).trans h4, h5.on hb, h6, by have := hb.size; omega, h8.trans (hb.mono (by omega))⟩
theorem MkBlk.set {w : World} {X T : Nat} {g : Bool} {A : Option Addr} {n c : Nat} {B : Option Addr} {c2 : Nat} {Ad : Option Addr} {m cd : Nat} {wx : World} (h : MkBlk w X T g A n c B c2 Ad m cd wx) (hB : ∀ b off, B = some ⟨b, off, none⟩ → b ≠ X + 2) (Q : Option Addr) (mq cq : Nat) :
    MkBlk w X T g A n c B c2 Q mq cq ((wx.setCell ⟨X + 2, 0, none⟩ (.bool false)).setCell ⟨X + 2, 1, none⟩ (.slice Q mq cq)) := by
  obtain ⟨h1, h2, h3, h4, h5, h6, h7, h8⟩ := h
  refine ⟨?_, ?_, block_set (block_set h3 0 _) 1 _, ?_, ?_, h6, by simp [World.setCell]; exact h7, (h8.setCell (p := ⟨X + 2, 0, none⟩) (by show X ≤ X + 2; omega) _).setCell (p := ⟨X + 2, 1, none⟩) (by show X ≤ X + 2; omega) _⟩
  · rw [Below.heap_setCell _ _ _ _ (show X ≠ X + 2 by omega), Below.heap_setCell _ _ _ _ (show X ≠ X + 2 by omega)]; exact h1
  · rw [Below.heap_setCell _ _ _ _ (show X + 1 ≠ X + 2 by omega), Below.heap_setCell _ _ _ _ (show X + 1 ≠ X + 2 by omega)]; exact h2
  · rw [Below.heap_setCell _ _ _ _ (show T ≠ X + 2 by omega), Below.heap_setCell _ _ _ _ (show T ≠ X + 2 by omega)]; exact h4
  · exact ((h5.setOther (p := ⟨X + 2, 0, none⟩) hB _).setOther (p := ⟨X + 2, 1, none⟩) hB _).more (by simp [World.setCell])
theorem digL_one {v : Nat} (h : v < 10) (h0 : v ≠ 0) : Fl.digL v = [v] := by
  rw [Fl.digL_pos h0, show v / 10 = 0 by omega, Fl.digL_zero, Nat.mod_eq_of_lt h]
theorem digL_mod2 (c : Nat) : (Fl.digL (c % 2)).length = c % 2 := by
  rcases (show c % 2 = 0 ∨ c % 2 = 1 by omega) with h | h
  · rw [h, Fl.digL_zero]; rfl
  · rw [h, digL_one (by omega) (by omega)]; rfl
set_option maxHeartbeats 4000000 in
set_option maxRecDepth 100000 in
theorem make_any (A : Option Addr) (n c : Nat) (g : Bool) (N : Nat) (e : Int) (he : -9223372036854775808 ≤ e ∧ e ≤ 9223372036854775807) (hN0 : 0 < N) (hn : n ≤ 400) (w : World) (hr : Reads w w.heap.size A n (u8s (Fl.digL N))) :
    Calls Tryz.prog 39 #[.agg #[.bool g, .slice A n c], .int .i64 e] w fun x w' => MakeRes N g e x ∧ Below w.heap.size w w' := by
  have hlen : (Fl.digL N).length = n := by have := hr.1; rwa [u8s_len] at this
  have hn0 : n ≠ 0 := fun h => by rw [Fl.digL_pos (by omega), h] at hlen; simp at hlen
  have n0 : ((n : Int) == 0) = false := by rw [beq_eq_false_iff_ne]; omega
  obtain ⟨X, hX⟩ : ∃ X, w.heap.size = X := ⟨_, rfl⟩
  obtain ⟨w2, hw2⟩ : ∃ w2, (w.alloc (Obj.cells #[.bool g, .slice A n c] 33)).alloc (Obj.cells #[.int .i64 0, .bool false, .int .u64 0, .int .i64 0] 24) = w2 := ⟨_, rfl⟩
  have hb2 : Below X w w2 := by rw [← hw2, ← hX]; exact ((Below.refl _ _).alloc (Nat.le_refl _) _).alloc (by simp) _
  have hs2 : w2.heap.size = X + 2 := by rw [← hw2, ← hX]; simp
  have ba : w2.heap[X]? = some (.cells #[.bool g, .slice A n c] 33 (0, 0)) := by rw [← hw2, ← hX]; exact alloc_at (new_at _ _ _ rfl)
  have bf : w2.heap[X + 1]? = some (.cells #[.int .i64 0, .bool false, .int .u64 0, .int .i64 0] 24 (0, 0)) := by rw [← hw2, ← hX]; exact new_at _ _ _ (by simp)
  have HW2 := Lib.hid hw2
  have HL := Lib.hid hlen
  have a0 := at_block ba 0 _ rfl
  have a1 := at_block ba 1 _ rfl
  have f0 := at_block bf 0 _ rfl
  have f1 := at_block bf 1 _ rfl
  have f2 := at_block bf 2 _ rfl
  have f3 := at_block bf 3 _ rfl
  have z0 := free_block bf 0
  have z1 := free_block bf 1
  have z2 := free_block bf 2
  have z3 := free_block bf 3
  have HB := Lib.hid (And.intro ba (And.intro bf (And.intro hb2 (And.intro hs2 hX))))
  rw [hX] at hr
  have HR := Lib.hid hr
  clear hw2 hlen ba bf hb2 hs2 hX hr
  go_enter Tryz.func39, Tryz.ntmps39
  go_upto_region 1 with fail
  rw [HW2.out, HB.out.2.2.2.2]
  by_cases hlow : e < -4000
  · have d1 : decide (e < -4000) = true := decide_eq_true hlow
    have HM := Lib.hid (show ∀ c t : Nat, c % 2 = 1 → N = c * 2 ^ t → c < 9007199254740992 → ¬ Fl.Fits c (e + t) from fun c t ho hN _ hf => by
      have := two_exp HL.out (by omega) hN
      have := hf.2.2.1
      omega)
    clear hlow
    go_wp2_with fail
    refine bodyPost_ret (v := .tuple #[.agg #[.int .i64 0, .bool false, .int .u64 0, .int .i64 0], .bool false]) (by simp [results, Tryz.results39, go_sem, *]) rfl ?_
    refine ⟨.inl ⟨⟨0, false, 0, 0, rfl⟩, HM.out⟩, ?_⟩
    rw [HB.out.2.2.2.2]
    exact (((HB.out.2.2.1.setCell (p := ⟨X + 1, 0, none⟩) (by show X ≤ X + 1; omega) _).setCell (p := ⟨X + 1, 1, none⟩) (by show X ≤ X + 1; omega) _).setCell (p := ⟨X + 1, 2, none⟩) (by show X ≤ X + 1; omega) _).setCell (p := ⟨X + 1, 3, none⟩) (by show X ≤ X + 1; omega) _
  · by_cases hhigh : 4000 < e
    · have d1 : decide (e < -4000) = false := decide_eq_false hlow
      have d2 : decide ((4000 : Int) < e) = true := decide_eq_true hhigh
      have HM := Lib.hid (show ∀ c t : Nat, c % 2 = 1 → N = c * 2 ^ t → c < 9007199254740992 → ¬ Fl.Fits c (e + t) from fun c t ho hN _ hf => by
        have := hf.2.2.2.1
        omega)
      clear hlow hhigh
      go_wp2_with fail
      refine bodyPost_ret (v := .tuple #[.agg #[.int .i64 0, .bool false, .int .u64 0, .int .i64 0], .bool false]) (by simp [results, Tryz.results39, go_sem, *]) rfl ?_
      refine ⟨.inl ⟨⟨0, false, 0, 0, rfl⟩, HM.out⟩, ?_⟩
      rw [HB.out.2.2.2.2]
      exact (((HB.out.2.2.1.setCell (p := ⟨X + 1, 0, none⟩) (by show X ≤ X + 1; omega) _).setCell (p := ⟨X + 1, 1, none⟩) (by show X ≤ X + 1; omega) _).setCell (p := ⟨X + 1, 2, none⟩) (by show X ≤ X + 1; omega) _).setCell (p := ⟨X + 1, 3, none⟩) (by show X ≤ X + 1; omega) _
    · have d1 : decide (e < -4000) = false := decide_eq_false hlow
      have d2 : decide ((4000 : Int) < e) = false := decide_eq_false hhigh
      have O2 := Lib.hid (fun W => of64_any 2 W (by decide))
      go_wp2_with fail
      refine (O2.out _).mono ?_
      rintro x w4 ⟨v, rfl, hown4, hb4⟩
      obtain ⟨B, c2, rfl, hc2, hrB⟩ := own_slice hown4
      have haB := own_addr hown4
      have e2 : Fl.digL 2 = [2] := digL_one (by omega) (by omega)
      rw [e2] at hrB hown4
      rw [show (([2] : List Nat).length) = 1 from rfl] at *
      obtain ⟨T, hT⟩ : ∃ T, w4.heap.size = T := ⟨_, rfl⟩
      obtain ⟨w5, hw5⟩ : ∃ w5, w4.alloc (.cells #[.bool false, .slice B 1 c2] 33) = w5 := ⟨_, rfl⟩
      obtain ⟨b1, b2, b3, b4, b5⟩ := HB.out
      have hs3 : (w2.alloc (.cells #[.bool false, .slice A n c] 33)).heap.size = X + 3 := by simp; omega
      have hb25 : Below (X + 2) w2 w5 := by
        rw [← hw5]
        exact (((Below.refl _ _).alloc (by omega) _).trans (hb4.mono (by omega))).alloc (by have := hb4.size; omega) _
      have hmk : MkBlk w X T g A n c B c2 A n c w5 := by
        have h4s := hb4.size
        refine ⟨(hb25.block X (by omega)).trans b1, (hb25.block (X + 1) (by omega)).trans b2, ?_, ?_, ?_, by omega, by rw [← hw5]; simp; omega, b3.trans (hb25.mono (by omega))⟩
        · rw [← hw5, Below.heap_alloc _ _ _ (by omega), hb4.block (X + 2) (by omega)]
          exact new_at _ _ _ (by omega)
        · rw [← hw5]; exact new_at _ _ _ hT.symm
        · rw [← hw5]; exact (hrB.alloc (Nat.le_refl _) _).more (by simp)
      have hrA : Reads w5 w5.heap.size A n (u8s (Fl.digL N)) := (HR.out.below hmk.bel).more (by have := hmk.sz; have := hmk.low; omega)
      have HW5 := Lib.hid (And.intro hw5 hT)
      have HMK := Lib.hid (And.intro hmk (And.intro hrA (show ∀ b off, B = some ⟨b, off, none⟩ → X + 5 ≤ b from fun b off he => by have := haB b off he; omega)))
      clear hown4 haB hb4 hrB hw5 hT b1 b2 b3 b4 b5 hs3 hb25 hmk hrA a0 a1 f0 f1 f2 f3 z0 z1 z2 z3
      go_upto_block 0 with fail
      have hs2 := HB.out.2.2.2.1
      rw [HW5.out.1, HW5.out.2, hs2]
      clear hs2
      go_wp2_with fail
      go_loopg [1, 8, 9] N (fun f t1 t8 t9 wx => ∃ (cur j : Nat) (Ad : Option Addr) (m cd : Nat), N = cur * 2 ^ j ∧ 0 < cur ∧ cur ≤ f ∧ t1 = .int .i64 (e + (j : Int)) ∧ Reads wx wx.heap.size Ad m (u8s (Fl.digL cur)) ∧ MkBlk w X T g A n c B c2 Ad m cd wx)
      case atStart => exact ⟨N, 0, A, n, c, by simp, hN0, Nat.le_refl _, by simp, HMK.out.2.1, HMK.out.1⟩
      case round =>
        obtain ⟨cur, j, Ad, m, cd, hcur, hc0, hcf, rfl, hrd, hb⟩ := hrel
        have hj := two_exp HL.out hc0 hcur
        have hmn : m ≤ n := by
          have h1 : (Fl.digL cur).length = m := by have := hrd.1; rwa [u8s_len] at this
          have h2 := digL_len_le (show cur ≤ N by rw [hcur]; exact Nat.le_mul_of_pos_right _ (Nat.two_pow_pos _))
          have := HL.out
          omega
        have x0 := at_block hb.bd 0 _ rfl
        have x1 := at_block hb.bd 1 _ rfl
        have y0 := at_block hb.bt 0 _ rfl
        have y1 := at_block hb.bt 1 _ rfl
        have DM := divmod_any Ad B m 1 cd c2 (Fl.digL cur) [2] wr hrd (by omega) (digL_le9 cur) hb.rt (by omega) (by intro x hx; simp at hx; omega) (.inr ⟨2, rfl, by decide⟩) (by decide)
        rw [dv_digL, show dv [2] = 2 from rfl] at DM
        have DM := Lib.hid DM
        have HR1 := Lib.hid (And.intro hcur (And.intro hrd hb))
        clear hcur hrd hb
        go_wp2_with fail
        refine (DM.out).mono ?_
        rintro x w6 ⟨⟨Q, mq, cq, R, k, cr, hmq, hkr, haQ, haR, hrq, hrr, rfl⟩, hb6⟩
        have hk : k = cur % 2 := by have := hrr.1; rw [u8s_len, digL_mod2] at this; exact this.symm
        subst hk
        have hmk6 := HR1.out.2.2.on hb6
        obtain ⟨Y, hY⟩ : ∃ Y, w6.heap.size = Y := ⟨_, rfl⟩
        obtain ⟨w7, hw7⟩ : ∃ w7, (w6.alloc (.cells #[.bool false, .slice Q mq cq] 33)).alloc (.cells #[.bool false, .slice R (cur % 2) cr] 33) = w7 := ⟨_, rfl⟩
        have hb67 : Below w6.heap.size w6 w7 := by rw [← hw7]; exact ((Below.refl _ _).alloc (Nat.le_refl _) _).alloc (by simp) _
        have hmk7 := hmk6.on hb67
        have hrq7 := hrq.on hb67
        have hrd7 := (HR1.out.2.1.on hb6).on hb67
        have u0 : w7.heap[Y]? = some (.cells #[.bool false, .slice Q mq cq] 33 (0, 0)) := by rw [← hw7, ← hY]; exact alloc_at (new_at _ _ _ rfl)
        have v0 : w7.heap[Y + 1]? = some (.cells #[.bool false, .slice R (cur % 2) cr] 33 (0, 0)) := by rw [← hw7, ← hY]; exact new_at _ _ _ (by simp)
        have hs7 : w7.heap.size = Y + 2 := by rw [← hw7, ← hY]; simp
        have hwrX : X + 3 ≤ wr.heap.size := by have := HR1.out.2.2.sz; have := HR1.out.2.2.low; omega
        have HW7 := Lib.hid (And.intro hw7 hY)
        go_upto_region 8 with fail
        have yy0 := at_block u0 0 _ rfl
        have yy1 := at_block u0 1 _ rfl
        have vv1 := at_block v0 1 _ rfl
        have xx0 := at_block hmk7.bd 0 _ rfl
        have xx1 := at_block hmk7.bd 1 _ rfl
        have gx0 := free_block hmk7.bd 0
        have gx1 := free_block hmk7.bd 1
        have k0 := at_block hmk7.ba 0 _ rfl
        have f0 := at_block hmk7.bf 0 _ rfl
        have f1 := at_block hmk7.bf 1 _ rfl
        have f2 := at_block hmk7.bf 2 _ rfl
        have f3 := at_block hmk7.bf 3 _ rfl
        have z0 := free_block hmk7.bf 0
        have z1 := free_block hmk7.bf 1
        have z2 := free_block hmk7.bf 2
        have z3 := free_block hmk7.bf 3
        have hs7b := hmk7.sz
        have hs7c := hmk7.low
        have H7 := Lib.hid (And.intro hmk7 (And.intro hrq7 (And.intro hrd7 (And.intro haQ (And.intro hs7 hwrX)))))
        clear hmk6 hb67 hmk7 hrq7 hrd7 haQ haR u0 v0 hs7 hwrX hw7 hY hrq hrr x0 x1 y0 y1
        rcases (show cur % 2 = 0 ∨ cur % 2 = 1 by omega) with h2 | h2
        · rw [h2]
          rw [h2] at vv1 hkr
          have g1 : IntKind.i64.wrap (e + (j : Int) + 1) = e + ((j + 1 : Nat) : Int) := by have := IntWalk.i64_in (e + (j : Int) + 1) (by omega); rw [this]; omega
          have HC := Lib.hid (And.intro h2 (And.intro hc0 hcf))
          obtain ⟨F, rfl⟩ : ∃ F, gk = F + 1 := ⟨gk - 1, by omega⟩
          clear h2 hc0 hcf
          go_wp2_with fail
          go_roundg F
          case measure => omega
          case rel =>
            obtain ⟨c1, c2', c3⟩ := HC.out
            obtain ⟨q1, q2, q3, q4, q5, q6⟩ := H7.out
            refine ⟨cur / 2, j + 1, Q, mq, cq, ?_, by omega, by omega, rfl, ?_, ?_⟩
            · have := HR1.out.1
              rw [Nat.pow_succ, this]
              obtain ⟨P, hP⟩ : ∃ P, 2 ^ j = P := ⟨_, rfl⟩
              rw [hP, ← Nat.mul_assoc, Nat.mul_right_comm]
              congr 1
              omega
            · exact ((q2.setOther (p := ⟨X + 2, 0, none⟩) (fun b off he => by have := q4 b off he; show b ≠ X + 2; omega) _).setOther (p := ⟨X + 2, 1, none⟩) (fun b off he => by have := q4 b off he; show b ≠ X + 2; omega) _).more (by simp [World.setCell])
            · exact q1.set (fun b off he => by have := HMK.out.2.2 b off he; omega) Q mq cq
        · rw [h2]
          rw [h2] at vv1 hkr
          have hm1 : (Fl.digL cur).length = m := by have := H7.out.2.2.1.1; rwa [u8s_len] at this
          have hun : ∀ c t : Nat, c % 2 = 1 → N = c * 2 ^ t → c = cur ∧ t = j := fun c t hc hN => odd_pow (hN.symm.trans HR1.out.1) hc h2
          by_cases hm16 : 16 < m
          · have m1 : decide (16 < m) = true := decide_eq_true hm16
            have m2 : decide ((16 : Int) < (m : Int)) = true := decide_eq_true (by omega)
            have HM := Lib.hid (show ∀ c t : Nat, c % 2 = 1 → N = c * 2 ^ t → c < 9007199254740992 → ¬ Fl.Fits c (e + t) from fun c t hc hN hlt => by
              obtain ⟨rfl, _⟩ := hun c t hc hN
              have h3 := dv_ge (digL_noLead c) (by intro h0; rw [h0] at hm1; simp at hm1; omega)
              rw [dv_digL, hm1] at h3
              have h4 : (10 : Nat) ^ 16 ≤ 10 ^ (m - 1) := Nat.pow_le_pow_right (by omega) (by omega)
              omega)
            clear hun hm1 h2 hcf hc0 hm16
            go_wp2_with fail
            refine bodyPost_ret (v := .tuple #[.agg #[.int .i64 0, .bool false, .int .u64 0, .int .i64 0], .bool false]) (by simp [results, Tryz.results39, go_sem, *]) rfl ?_
            refine ⟨.inl ⟨⟨0, false, 0, 0, rfl⟩, HM.out⟩, ?_⟩
            rw [HB.out.2.2.2.2]
            exact (((H7.out.1.bel.setCell (p := ⟨X + 1, 0, none⟩) (by show X ≤ X + 1; omega) _).setCell (p := ⟨X + 1, 1, none⟩) (by show X ≤ X + 1; omega) _).setCell (p := ⟨X + 1, 2, none⟩) (by show X ≤ X + 1; omega) _).setCell (p := ⟨X + 1, 3, none⟩) (by show X ≤ X + 1; omega) _
          · have m1 : decide (16 < m) = false := decide_eq_false hm16
            have m2 : decide ((16 : Int) < (m : Int)) = false := decide_eq_false (by omega)
            have w0 : IntKind.i64.wrap ((m : Int) - 1) = (m : Int) - 1 := IntWalk.i64_in _ (by omega)
            have hc16 : cur < 10000000000000000 := by
              have h3 := digL_bound hm1
              have h4 : (10 : Nat) ^ m ≤ 10 ^ 16 := Nat.pow_le_pow_right (by omega) (by omega)
              omega
            have FT := Lib.hid (fun W => floattext_far g cur (e + (j : Int)) W (by omega) (by omega))
            obtain ⟨ok, K, nn, mm, EE, hok, RO⟩ := refof_odd g cur (e + (j : Int)) h2 hc16 (by omega)
            have RO := Lib.hid RO
            have HFIN := Lib.hid (show MakeRes N g e (.returned (.tuple #[.agg #[.int .i64 0, .bool g, .int .u64 (cur : Int), .int .i64 (e + (j : Int))], .bool ok])) by
              cases ok with
              | true => exact .inr ⟨cur, j, h2, HR1.out.1, hc16, hok.1 rfl, rfl⟩
              | false => exact .inl ⟨⟨0, g, _, _, rfl⟩, fun c t hc hN _ hf => by
                  obtain ⟨rfl, rfl⟩ := hun c t hc hN
                  have := hok.2 hf
                  cases this⟩)
            have HM1 := Lib.hid hm1
            clear hun h2 hcf hc0 hok hm1
            go_wp2_with fail
            go_loopg [10, 11] m (fun f t10 t11 wx => t10 = .int .u64 ((dv ((Fl.digL cur).drop f) : Nat) : Int) ∧ t11 = .int .i64 ((f : Int) - 1) ∧ f ≤ m ∧ wx = w7)
            case atStart => exact ⟨by rw [List.drop_of_length_le (Nat.le_of_eq HM1.out)]; rfl, rfl, Nat.le_refl _, rfl⟩
            case round =>
              obtain ⟨rfl, rfl, hfm, hww⟩ := hrel
              subst hww
              cases gk with
              | zero =>
                have c1 : decide ((0 : Int) ≤ ((0 : Nat) : Int) - 1) = false := by decide
                have c1b : decide ((0 : Int) ≤ -1) = false := by decide
                rw [List.drop_zero, dv_digL]
                obtain ⟨w8, Z, hw8, hZ, hb8, hcells⟩ := box_float 0 g (cur : Int) (e + (j : Int)) wr
                obtain ⟨q0, q1, q2, q3, _⟩ := hcells w8 (Below.refl _ _)
                have HC8 := Lib.hid hcells
                have H78 := Lib.hid (H7.out.1.on hb8)
                have HZ := Lib.hid (show X + 2 ≤ Z by have := H7.out.1.sz; have := H7.out.1.low; omega)
                clear hb8 hcells
                go_upto_region 19 with fail
                clear f0 f1 f2 f3 z0 z1 z2 z3 hw8 hZ k0 xx0 xx1 gx0 gx1 yy0 yy1 vv1
                go_wp2_with fail
                refine (FT.out _).mono ?_
                rintro x w9 ⟨rfl, hb9⟩
                go_wp2_with fail
                refine (RO.out _).mono ?_
                rintro x w10 ⟨rfl, hb10⟩
                have hb10 := b_trans hb9 hb10
                obtain ⟨w11, hw11⟩ : ∃ w11, w10.alloc (.cells #[.int .i64 K, .bool nn, .int .u64 mm, .int .i64 EE] 24) = w11 := ⟨_, rfl⟩
                have hb11 : Below w8.heap.size w8 w11 := by rw [← hw11]; exact hb10.alloc hb10.size _
                clear q0 q1 q2 q3
                obtain ⟨q0, q1, q2, q3, _⟩ := HC8.out w11 hb11
                have hmk := H78.out.on hb11
                have f0 := at_block hmk.bf 0 _ rfl
                have f1 := at_block hmk.bf 1 _ rfl
                have f2 := at_block hmk.bf 2 _ rfl
                have f3 := at_block hmk.bf 3 _ rfl
                have z0 := free_block hmk.bf 0
                have z1 := free_block hmk.bf 1
                have z2 := free_block hmk.bf 2
                have z3 := free_block hmk.bf 3
                have HMF := Lib.hid hmk.bel
                clear hb9 hb10 hb11 hmk
                go_upto_region 20 with fail
                clear hw11
                go_wp2_with fail
                refine bodyPost_ret (v := .tuple #[.agg #[.int .i64 0, .bool g, .int .u64 (cur : Int), .int .i64 (e + (j : Int))], .bool ok]) (by simp [results, Tryz.results39, go_sem, *]) rfl ?_
                refine ⟨HFIN.out, ?_⟩
                rw [HB.out.2.2.2.2]
                exact (((HMF.out.setCell (p := ⟨X + 1, 0, none⟩) (by show X ≤ X + 1; omega) _).setCell (p := ⟨X + 1, 1, none⟩) (by show X ≤ X + 1; omega) _).setCell (p := ⟨X + 1, 2, none⟩) (by show X ≤ X + 1; omega) _).setCell (p := ⟨X + 1, 3, none⟩) (by show X ≤ X + 1; omega) _
              | succ f =>
                have e8 : (((f + 1 : Nat) : Int) - 1) = (f : Int) := by omega
                rw [e8]
                obtain ⟨bq, off, u, rfl, hbX, hu, hcell⟩ := (H7.out.2.2.1).at_ (k := f) (by omega)
                obtain ⟨d, hdf, rfl⟩ := u8_at hu
                have hd9 := digL_le9 cur d (List.mem_of_getElem? hdf)
                have c1 : decide ((0 : Int) ≤ (f : Int)) = true := decide_eq_true (by omega)
                have hf0 : (0 : Int) ≤ (f : Int) := by omega
                have hfn : (f : Int) < (m : Int) := by omega
                obtain ⟨V, hV⟩ : ∃ V, dv ((Fl.digL cur).drop (f + 1)) = V := ⟨_, rfl⟩
                have hdv := dv_drop hdf
                rw [hV] at hdv
                have hVle : dv ((Fl.digL cur).drop f) ≤ cur := by
                  have := dv_split (Fl.digL cur) f (by rw [HM1.out]; omega)
                  rw [dv_digL] at this
                  have h1 : dv ((Fl.digL cur).drop f) ≤ 10 ^ f * dv ((Fl.digL cur).drop f) := Nat.le_mul_of_pos_left _ (Nat.pow_pos (by omega))
                  omega
                have g1 : IntKind.u64.wrap (10 * (V : Int)) = ((10 * V : Nat) : Int) := by rw [IntKind.wrap_u64]; omega
                have g2 : IntKind.u64.wrap (d : Int) = (d : Int) := by rw [IntKind.wrap_u64]; omega
                have g3 : IntKind.u64.wrap (((10 * V : Nat) : Int) + (d : Int)) = ((d + 10 * V : Nat) : Int) := by rw [IntKind.wrap_u64]; omega
                have g3b : IntKind.u64.wrap (10 * (V : Int) + (d : Int)) = ((d + 10 * V : Nat) : Int) := by rw [IntKind.wrap_u64]; omega
                have g8 : IntKind.i64.wrap ((f : Int) - 1) = (f : Int) - 1 := IntWalk.i64_in _ (by omega)
                rw [hV]
                have HDV := Lib.hid hdv
                clear hu hdf hdv hV hVle e8
                go_wp2_with fail
                go_roundg f
                case measure => omega
                case rel => exact ⟨by rw [HDV.out]; exact congrArg _ (by omega), rfl, by omega, rfl⟩
end Go.Proofs.YtjapgpmoojfhnaaGreatDoor

namespace Go.Proofs.YtjapgpmoojfhnaaGreatDoor
open Go.RowKit Go.Lib

/-- The text of a description. -/
def txtT (g : Bool) (T : List Nat) : ByteArray := if T = [] then ⟨#[48]⟩ else if g = true then ⟨((45 :: T.map UInt8.ofNat) : List UInt8).toArray⟩ else ⟨(T.map UInt8.ofNat).toArray⟩
theorem digT_toNat {T : List Nat} (h : GoodT T) : ∀ x ∈ T, (UInt8.ofNat x).toNat = x := fun x hx => by
  have := h.1 x hx
  simp
  omega
theorem readPre_text {T : List Nat} (hT : GoodT T) (h0 : T ≠ []) (hl : T.length ≤ 400) (g : Bool) : ReadPre (if g = true then ⟨((45 :: T.map UInt8.ofNat) : List UInt8).toArray⟩ else ⟨(T.map UInt8.ofNat).toArray⟩) ⟨(T.map UInt8.ofNat).toArray⟩ g := by
  have hsz : (⟨(T.map UInt8.ofNat).toArray⟩ : ByteArray).size = T.length := by rw [ba_size]; simp
  have hpos : 0 < T.length := List.length_pos_iff.2 h0
  have hget : ∀ k (h : k < (⟨(T.map UInt8.ofNat).toArray⟩ : ByteArray).size), ∃ x, T[k]? = some x ∧ ((⟨(T.map UInt8.ofNat).toArray⟩ : ByteArray)[k]'h).toNat = x := fun k h => by
    have hk : k < T.length := by omega
    refine ⟨T[k], List.getElem?_eq_getElem hk, ?_⟩
    have e : (⟨(T.map UInt8.ofNat).toArray⟩ : ByteArray)[k]'h = UInt8.ofNat T[k] := by
      show (T.map UInt8.ofNat).toArray[k]'_ = _
      simp
    rw [e]
    exact digT_toNat hT _ (List.getElem_mem hk)
  have hdig : ∀ k (h : k < (⟨(T.map UInt8.ofNat).toArray⟩ : ByteArray).size), 48 ≤ ((⟨(T.map UInt8.ofNat).toArray⟩ : ByteArray)[k]'h).toNat ∧ ((⟨(T.map UInt8.ofNat).toArray⟩ : ByteArray)[k]'h).toNat ≤ 57 := fun k h => by
    obtain ⟨x, hx, e⟩ := hget k h
    rw [e]
    exact hT.1 x (List.mem_of_getElem? hx)
  have hone : ∀ h : 0 < (⟨(T.map UInt8.ofNat).toArray⟩ : ByteArray).size, ((((⟨(T.map UInt8.ofNat).toArray⟩ : ByteArray)[0]'h).toNat : Int) == 48) = true → False := fun h he => by
    obtain ⟨x, hx, e⟩ := hget 0 h
    rw [e] at he
    have h48 : (x : Int) = 48 := eq_of_beq he
    refine hT.2 ?_
    cases T with
    | nil => simp at hpos
    | cons t T => simp at hx ⊢; omega
  cases g with
  | true =>
    refine ⟨fun _ => ?_, fun h => ?_, fun _ => ?_, fun h => (by cases h), by omega, by omega, hdig, fun h he => (hone h he).elim⟩
    · show 1 < (⟨((45 :: T.map UInt8.ofNat) : List UInt8).toArray⟩ : ByteArray).size
      rw [ba_size]; simp; omega
    · rfl
    · apply ba_ext
      show ((⟨((45 :: T.map UInt8.ofNat) : List UInt8).toArray⟩ : ByteArray).extract 1 _).data.toList = _
      simp
      exact List.take_of_length_le (by rw [ba_size]; simp)
  | false =>
    refine ⟨fun h => (by cases h), fun h => ?_, fun h => (by cases h), fun _ => rfl, by omega, by omega, hdig, fun h he => (hone h he).elim⟩
    show ((((⟨(T.map UInt8.ofNat).toArray⟩ : ByteArray)[0]'(by omega)).toNat : Int) == 45) = false
    have := (hdig 0 (by omega)).1
    rw [beq_eq_false_iff_ne]
    omega
theorem ldig_text {T : List Nat} (hT : GoodT T) : ldig ⟨(T.map UInt8.ofNat).toArray⟩ = (T.map fun x => x - 48).reverse := by
  unfold ldig
  congr 1
  show ((T.map UInt8.ofNat).toArray.toList).map _ = _
  simp
  intro x hx
  have := digT_toNat hT x hx
  simp at this
  omega
theorem ldig_nine {T : List Nat} (hT : GoodT T) : ∀ x ∈ ldig ⟨(T.map UInt8.ofNat).toArray⟩, x ≤ 9 := fun x hx => by
  rw [ldig_text hT, List.mem_reverse, List.mem_map] at hx
  obtain ⟨y, hy, rfl⟩ := hx
  have := hT.1 y hy
  omega
theorem ldig_noLead {T : List Nat} (hT : GoodT T) : NoLead (ldig ⟨(T.map UInt8.ofNat).toArray⟩) := by
  rw [ldig_text hT]
  cases T with
  | nil => left; rfl
  | cons t T =>
    right
    refine ⟨t - 48, ?_, ?_⟩
    · simp
    · have h1 := hT.1 t (by simp)
      have h2 : t ≠ 48 := fun h => hT.2 (by rw [h]; rfl)
      omega
theorem pow_256 (n : Nat) : 256 ^ n = 2 ^ (8 * n) := by rw [Nat.pow_mul]
theorem same_odd {c R : Nat} {E : Int} (h : Fl.Same c E (Fl.rmag Ieee.double R) (Fl.rplace Ieee.double R)) (hc : c % 2 = 1) (h0 : 0 < R) : Fl.om R = c ∧ Fl.oe R = E := by
  obtain ⟨o1, o2, o3, o4⟩ := Fl.om_spec h0
  have e : Fl.oe R = Fl.rplace Ieee.double R + (tzN (Fl.rmag Ieee.double R) : Nat) := rfl
  rw [e]
  obtain ⟨t, ht⟩ : ∃ t, tzN (Fl.rmag Ieee.double R) = t := ⟨_, rfl⟩
  rw [ht] at o1 ⊢
  rcases h with ⟨d, h1, h2⟩ | ⟨d, h1, h2⟩
  · cases d with
    | zero =>
      have h3 : c * 2 ^ 0 = Fl.om R * 2 ^ t := by rw [← o1, h1]; simp
      obtain ⟨a, b⟩ := odd_pow h3 hc o2
      exact ⟨a.symm, by omega⟩
    | succ d => rw [Nat.pow_succ, ← Nat.mul_assoc] at h1; omega
  · obtain ⟨a, b⟩ := odd_pow (h1.symm.trans o1) hc o2
    exact ⟨a.symm, by omega⟩
theorem txt_word {c R : Nat} {E : Int} (g : Bool) (h : Fl.Same c E (Fl.rmag Ieee.double R) (Fl.rplace Ieee.double R)) (hc : c % 2 = 1) (h0 : 0 < R) (hR : R < 9218868437227405312) :
    Fl.txt (if g = true then R + 9223372036854775808 else R) = sgnS g ++ (decDigits c ++ 112 :: itoa E) := by
  obtain ⟨a, b⟩ := same_odd h hc h0
  cases g with
  | true =>
    have e : (R + 9223372036854775808) % 9223372036854775808 = R := by omega
    rw [if_pos rfl, Fl.txt, e, if_neg (by omega), if_neg (by omega), if_neg (by omega), Fl.numB_is, a, b, Fl.sgB, if_pos (by omega)]
    rfl
  | false =>
    have e : R % 9223372036854775808 = R := by omega
    rw [if_neg (by simp), Fl.txt, e, if_neg (by omega), if_neg (by omega), if_neg (by omega), Fl.numB_is, a, b, Fl.sgB, if_neg (by omega)]
    rfl
set_option maxHeartbeats 1000000 in
set_option maxRecDepth 100000 in
/-- Make at nought. -/
theorem make_zero (A : Option Addr) (c : Nat) (g : Bool) (e : Int) (w : World) : Calls Tryz.prog 39 #[.agg #[.bool g, .slice A 0 c], .int .i64 e] w fun x w' => x = .returned (.tuple #[.agg #[.int .i64 0, .bool false, .int .u64 0, .int .i64 0], .bool true]) ∧ Below w.heap.size w w' := by
  obtain ⟨X, hX⟩ : ∃ X, w.heap.size = X := ⟨_, rfl⟩
  obtain ⟨w2, hw2⟩ : ∃ w2, (w.alloc (Obj.cells #[.bool g, .slice A 0 c] 33)).alloc (Obj.cells #[.int .i64 0, .bool false, .int .u64 0, .int .i64 0] 24) = w2 := ⟨_, rfl⟩
  have hb2 : Below X w w2 := by rw [← hw2, ← hX]; exact ((Below.refl _ _).alloc (Nat.le_refl _) _).alloc (by simp) _
  have ba : w2.heap[X]? = some (.cells #[.bool g, .slice A 0 c] 33 (0, 0)) := by rw [← hw2, ← hX]; exact alloc_at (new_at _ _ _ rfl)
  have bf : w2.heap[X + 1]? = some (.cells #[.int .i64 0, .bool false, .int .u64 0, .int .i64 0] 24 (0, 0)) := by rw [← hw2, ← hX]; exact new_at _ _ _ (by simp)
  have HW2 := Lib.hid hw2
  have a0 := at_block ba 0 _ rfl
  have a1 := at_block ba 1 _ rfl
  have f0 := at_block bf 0 _ rfl
  have f1 := at_block bf 1 _ rfl
  have f2 := at_block bf 2 _ rfl
  have f3 := at_block bf 3 _ rfl
  have z0 := free_block bf 0
  have z1 := free_block bf 1
  have z2 := free_block bf 2
  have z3 := free_block bf 3
  have HB := Lib.hid (And.intro hb2 hX)
  clear hw2 ba bf hb2 hX
  go_enter Tryz.func39, Tryz.ntmps39
  go_upto_region 1 with fail
  rw [HW2.out, HB.out.2]
  go_wp2_with fail
  refine bodyPost_ret (v := .tuple #[.agg #[.int .i64 0, .bool false, .int .u64 0, .int .i64 0], .bool true]) (by simp [results, Tryz.results39, go_sem, *]) rfl ?_
  refine ⟨rfl, ?_⟩
  rw [HB.out.2]
  exact (((HB.out.1.setCell (p := ⟨X + 1, 0, none⟩) (by show X ≤ X + 1; omega) _).setCell (p := ⟨X + 1, 1, none⟩) (by show X ≤ X + 1; omega) _).setCell (p := ⟨X + 1, 2, none⟩) (by show X ≤ X + 1; omega) _).setCell (p := ⟨X + 1, 3, none⟩) (by show X ≤ X + 1; omega) _
/-- What the law meets where Of returns a float. -/
structure MkOk (t fs mm : ByteArray) (gg : Bool) (cc : Nat) (e E : Int) : Prop where
  o1 : ∀ W, Laid W → Calls Tryz.prog 38 #[.string t, .int .i64 e] W fun x w' => x = .returned (.tuple #[.string fs, .int .i64 0]) ∧ Below W.heap.size W w'
  o2 : ∀ W, Calls Tryz.prog 40 #[.string t] W fun x w' => ∃ v, x = .returned v ∧ Below W.heap.size W w' ∧ Calls Tryz.prog 39 #[v, .int .i64 e] w' fun y w'' => y = .returned (.tuple #[.agg #[.int .i64 0, .bool gg, .int .u64 (cc : Int), .int .i64 E], .bool true]) ∧ Below w'.heap.size w' w''
  o3 : ∀ W, Laid W → Calls Tryz.prog 35 #[.string fs] W fun x w' => x = .returned (.tuple #[.string mm, .int .i64 E, .int .i64 0]) ∧ Below W.heap.size W w'
  o4 : ∀ W, Calls Tryz.prog 15 #[.agg #[.int .i64 0, .bool gg, .int .u64 (cc : Int), .int .i64 E]] W fun x w' => x = .returned (.string fs) ∧ Below W.heap.size W w'
  o5 : ∀ W, Calls Tryz.prog 15 #[.agg #[.int .i64 0, .bool gg, .int .u64 (cc : Int), .int .i64 0]] W fun x w' => x = .returned (.string (mm ++ ⟨#[112, 48]⟩)) ∧ Below W.heap.size W w'
  o6 : ∀ W, Laid W → Calls Tryz.prog 34 #[.string fs] W fun x w' => x = .returned (.bool true) ∧ Below W.heap.size W w'
  sz : mm.size ≤ 300
/-- .. and where it returns an error. -/
structure MkBad (t : ByteArray) (e : Int) : Prop where
  b1 : ∀ W, Laid W → Calls Tryz.prog 38 #[.string t, .int .i64 e] W fun x w' => x = .returned (.tuple #[.string ⟨#[]⟩, .int .i64 2]) ∧ Below W.heap.size W w'
  b2 : ∀ W, Calls Tryz.prog 40 #[.string t] W fun x w' => ∃ v, x = .returned v ∧ Below W.heap.size W w' ∧ Calls Tryz.prog 39 #[v, .int .i64 e] w' fun y w'' => (∃ (K : Int) (n : Bool) (m E : Int), y = .returned (.tuple #[.agg #[.int .i64 K, .bool n, .int .u64 m, .int .i64 E], .bool false])) ∧ Below w'.heap.size w' w''
theorem lit_p0 (l : List UInt8) : (⟨(l ++ [112, 48]).toArray⟩ : ByteArray) = ⟨l.toArray⟩ ++ ⟨#[112, 48]⟩ := by
  apply ba_ext
  simp
theorem itoa_zero : itoa 0 = [48] := by kernel_rfl
theorem mkok_zero (e : Int) : MkOk ⟨#[48]⟩ ⟨#[48, 112, 48]⟩ ⟨#[48]⟩ false 0 e 0 := by
  have ht : Fl.txt 0 = [48, 112, 48] := by decide
  have e1 : (⟨(Fl.txt 0).toArray⟩ : ByteArray) = ⟨#[48, 112, 48]⟩ := by rw [ht]
  have d0 : sgnS false ++ (decDigits 0 ++ 112 :: itoa 0) = [48, 112, 48] := by rw [itoa_zero, decDigits_one (by omega)]; rfl
  refine ⟨fun W _ => of38_zero e W, fun W => ?_, fun W hW => ?_, fun W => ?_, fun W => ?_, fun W hW => ?_, by decide⟩
  · refine (ref03of_any _ _ false readPre_zero W).mono ?_
    rintro x w' ⟨⟨A, m, c, hm, hmc, hr, rfl⟩, hb⟩
    have hl : ldig ⟨#[48]⟩ = [0] := by decide
    rw [hl] at hm
    have hm0 : m = 0 := by
      obtain ⟨m1, m2 | ⟨d, m2, m3⟩, _⟩ := hm
      · exact m2
      · have : m ≤ 1 := m1
        rcases (show m = 0 ∨ m = 1 by omega) with h | h
        · exact h
        · subst h
          simp at m2
          omega
    subst hm0
    exact ⟨_, rfl, hb, make_zero A c false e w'⟩
  · have := parts_zero 0 (by decide) (by decide) W hW
    rw [e1] at this
    exact this
  · have := floattext_num false 0 0 W (by decide) (by decide)
    rw [d0] at this
    exact this
  · have := floattext_num false 0 0 W (by decide) (by decide)
    rw [d0] at this
    exact this
  · have := valid_of _ _ _ W (parse_txt 0 (by decide) W hW)
    rw [e1] at this
    exact this
theorem mk_text (T : List Nat) (hT : GoodT T) (hl : T.length ≤ 400) (g : Bool) (e : Int) (he : -9223372036854775808 ≤ e ∧ e ≤ 9223372036854775807) :
    (∃ fs mm gg cc E, MkOk (txtT g T) fs mm gg cc e E) ∨ MkBad (txtT g T) e := by
  by_cases h0 : T = []
  · left
    rw [show txtT g T = ⟨#[48]⟩ from if_pos h0]
    exact ⟨_, _, _, _, _, mkok_zero e⟩
  · have hp := readPre_text hT h0 hl g
    rw [show txtT g T = (if g = true then ⟨((45 :: T.map UInt8.ofNat) : List UInt8).toArray⟩ else ⟨(T.map UInt8.ofNat).toArray⟩) from if_neg h0]
    obtain ⟨t, ht⟩ : ∃ t : ByteArray, (if g = true then ⟨((45 :: T.map UInt8.ofNat) : List UInt8).toArray⟩ else ⟨(T.map UInt8.ofNat).toArray⟩) = t := ⟨_, rfl⟩
    obtain ⟨D, hD⟩ : ∃ D : ByteArray, (⟨(T.map UInt8.ofNat).toArray⟩ : ByteArray) = D := ⟨_, rfl⟩
    have hDs : D.size = T.length := by rw [← hD, ba_size]; simp
    have hnl := ldig_noLead hT
    have hn9 := ldig_nine hT
    rw [ht, hD] at hp
    rw [hD] at hnl hn9
    rw [ht]
    obtain ⟨N, hN⟩ : ∃ N, dv (ldig D) = N := ⟨_, rfl⟩
    have hlen : (ldig D).length = D.size := by rw [ldig, List.length_reverse, List.length_map, ba_size]
    have hne : ldig D ≠ [] := fun h => by rw [h] at hlen; simp at hlen; have := List.length_pos_iff.2 h0; omega
    have hN0 : 0 < N := by rw [← hN]; exact dv_pos hnl hne
    have h256 : N < 256 ^ 200 := by
      have key : ∀ q, q = 200 → N < 256 ^ q := fun q hq => by
        have h1 := dv_lt hn9
        rw [hN, hlen] at h1
        have h2 : D.size ≤ 400 := by omega
        have h3 := ten_pow_lt D.size
        rw [pow_256]
        exact Nat.lt_of_lt_of_le h1 (Nat.le_trans h3 (Nat.pow_le_pow_right (by decide) (by omega)))
      exact key 200 rfl
    have h48 : t.data.toList ≠ [48] := by
      rw [← ht]
      intro hh
      cases g with
      | true => simp at hh
      | false =>
        rw [if_neg (by simp)] at hh
        have h1 : T.map UInt8.ofNat = [48] := hh
        cases T with
        | nil => simp at h1
        | cons a T =>
          have h2 := hT.1 a (by simp)
          have h3 : UInt8.ofNat a = 48 := (List.cons.inj h1).1
          have h4 := digT_toNat hT a (by simp)
          rw [h3] at h4
          have h5 : a = 48 := h4.symm
          exact hT.2 (by rw [h5]; rfl)
    have OF := fun W hW => of38_any t D g hp N hN hN0 h256 h48 e he W hW
    have RM : ∀ W, Calls Tryz.prog 40 #[.string t] W fun x w' => ∃ v, x = .returned v ∧ Below W.heap.size W w' ∧ Calls Tryz.prog 39 #[v, .int .i64 e] w' fun y w'' => MakeRes N g e y ∧ Below w'.heap.size w' w'' := fun W => by
      refine (ref03of_any t D g hp W).mono ?_
      rintro x w' ⟨⟨A, m, c, hm, hmc, hr, rfl⟩, hb⟩
      rw [digL_trim hlen hn9 hm, hN] at hr
      exact ⟨_, rfl, hb, make_any A m c g N e he hN0 (by have := hm.1; omega) w' hr⟩
    by_cases hf : ∃ c t, c % 2 = 1 ∧ N = c * 2 ^ t ∧ c < 9007199254740992 ∧ Fl.Fits c (e + (t : Nat))
    · obtain ⟨c, k, hc, hNc, hc53, hfit⟩ := hf
      left
      obtain ⟨f1, f2, f3, f4, R, r1, r2, r3⟩ := Fl.fits_word hfit (by omega)
      obtain ⟨E, hE⟩ : ∃ E, e + (k : Int) = E := ⟨_, rfl⟩
      rw [hE] at hfit f4 r3
      have hEb := And.intro hfit.2.2.1 hfit.2.2.2.1
      obtain ⟨b, hb⟩ : ∃ b, (if g = true then R + 9223372036854775808 else R) = b := ⟨_, rfl⟩
      have hbt := txt_word g r3 hc r1 r2
      rw [hb] at hbt
      have hb64 : b < 18446744073709551616 := by rw [← hb]; split <;> omega
      have hbR : b % 9223372036854775808 = R := by rw [← hb]; split <;> omega
      obtain ⟨ho1, ho2⟩ := same_odd r3 hc r1
      have hsg : Fl.sgB b = sgnS g := by
        clear h256 OF RM hN hNc
        cases g with
        | true =>
          rw [if_pos rfl] at hb
          rw [Fl.sgB, if_pos (by omega)]
          rfl
        | false =>
          rw [if_neg (by simp)] at hb
          rw [Fl.sgB, if_neg (by omega)]
          rfl
      refine ⟨⟨(Fl.txt b).toArray⟩, ⟨(sgnS g ++ decDigits c).toArray⟩, g, c, E, fun W hW => ?_, fun W => ?_, fun W hW => ?_, fun W => ?_, fun W => ?_, fun W hW => valid_of _ _ _ W (parse_txt b hb64 W hW), ?_⟩
      · refine (OF W hW).mono ?_
        rintro x w' ⟨hx, hbl⟩
        refine ⟨?_, hbl⟩
        rcases hx with ⟨c1, t1, R1, h1, h2, h3, h4, h5, h6, h7, rfl⟩ | ⟨hno, _⟩
        · obtain ⟨rfl, rfl⟩ := odd_pow (h2.symm.trans hNc) h1 hc
          rw [hE] at h7
          rw [txt_word g h7 h1 h5 h6, hbt]
        · exact absurd (by rw [hE]; exact hfit) (hno c k hc hNc hc53)
      · refine (RM W).mono ?_
        rintro x w' ⟨v, rfl, hbl, hm⟩
        refine ⟨v, rfl, hbl, hm.mono ?_⟩
        rintro y w'' ⟨hy, hbl2⟩
        refine ⟨?_, hbl2⟩
        rcases hy with ⟨_, hno⟩ | ⟨c1, t1, h1, h2, h3, h4, rfl⟩
        · exact absurd (by rw [hE]; exact hfit) (hno c k hc hNc hc53)
        · obtain ⟨rfl, rfl⟩ := odd_pow (h2.symm.trans hNc) h1 hc
          rw [hE]
      · have := parts_num b hb64 (by omega) (by omega) W hW
        rw [hbR, ho1, ho2, hsg] at this
        exact this
      · have := floattext_num g c E W (by omega) (by omega)
        rw [← hbt] at this
        exact this
      · have := floattext_num g c 0 W (by omega) (by omega)
        rw [itoa_zero, ← List.append_assoc, lit_p0] at this
        exact this
      · rw [ba_size, List.length_append]
        have l1 : (decDigits c).length ≤ 18 := by rw [← itoa_nat]; exact itoa_few (by omega) (by omega)
        have l2 : (sgnS g).length ≤ 1 := by unfold sgnS; split <;> simp
        omega
    · right
      refine ⟨fun W hW => ?_, fun W => ?_⟩
      · refine (OF W hW).mono ?_
        rintro x w' ⟨hx, hbl⟩
        refine ⟨?_, hbl⟩
        rcases hx with ⟨c1, t1, R1, h1, h2, h3, h4, h5, h6, h7, rfl⟩ | ⟨_, hx⟩
        · exact absurd ⟨c1, t1, h1, h2, (Fl.fits_word h4 h3).2.1, h4⟩ hf
        · exact hx
      · refine (RM W).mono ?_
        rintro x w' ⟨v, rfl, hbl, hm⟩
        refine ⟨v, rfl, hbl, hm.mono ?_⟩
        rintro y w'' ⟨hy, hbl2⟩
        refine ⟨?_, hbl2⟩
        rcases hy with ⟨hx, _⟩ | ⟨c1, t1, h1, h2, h3, h4, rfl⟩
        · exact hx
        · exact absurd ⟨c1, t1, h1, h2, (Fl.fits_word h4 (by omega)).2.1, h4⟩ hf
set_option maxHeartbeats 4000000 in
set_option maxRecDepth 100000 in
theorem law10 (g : Bool) (D : ByteArray) (n : Nat) (e : Int) (hn : n < 65536) (he : -9223372036854775808 ≤ e ∧ e ≤ 9223372036854775807) (w : World) (hL : Laid w) :
    Calls Tryz.prog 10 #[.agg #[.bool g, .string D, .int .u16 (n : Int)], .int .i64 e] w fun x w' => x = .returned (.bool true) ∧ Below w.heap.size w w' := by
  have AW := Lib.hid (fun W hW => awake_any W hW)
  have TX := Lib.hid (fun W => text03_any g D n hn W)
  have HMK := Lib.hid (fun T hT hl => mk_text T hT hl g e he)
  have HL := Lib.hid hL
  clear hL hn he
  go_enter Tryz.func10, Tryz.ntmps10
  go_wp2_with fail
  refine (TX.out _).mono ?_
  rintro x w1 ⟨T, hT, hTl, rfl, hb1⟩
  have HM := HMK.out T hT hTl
  obtain ⟨t, ht⟩ : ∃ t, txtT g T = t := ⟨_, rfl⟩
  rw [ht] at HM
  unfold txtT at ht
  rw [ht]
  have hb1' : Below w.heap.size w w1 := by
    refine Below.trans ?_ (hb1.mono (by simp))
    exact (Below.refl _ _).alloc (Nat.le_refl _) _
  have HB1 := Lib.hid hb1'
  have HL1 := Lib.hid (HL.out.on hb1')
  clear ht hT hTl hb1 hb1'
  rcases HM with ⟨fs, mm, gg, cc, E, HO⟩ | HO
  · obtain ⟨o1, o2, o3, o4, o5, o6, o7⟩ := HO
    have O1 := Lib.hid o1
    have O2 := Lib.hid o2
    have O3 := Lib.hid o3
    have O4 := Lib.hid o4
    have O5 := Lib.hid o5
    have O6 := Lib.hid o6
    have hadd := fun W => run_string_add_sum (P := Tryz.prog) (w := W) mm ⟨#[112, 48]⟩ (by show mm.size + 2 ≤ _; omega)
    clear o1 o2 o3 o4 o5 o6 o7
    obtain ⟨mp, hmp⟩ : ∃ mp : ByteArray, mm ++ ⟨#[112, 48]⟩ = mp := ⟨_, rfl⟩
    rw [hmp] at O5
    rw [hmp] at hadd
    clear hmp
    go_wp2_with fail
    refine (O1.out _ HL1.out).mono ?_
    rintro x w2 ⟨rfl, hb2⟩
    go_wp2_with fail
    refine (O2.out _).mono ?_
    rintro x w3 ⟨v, rfl, hb3, hmk⟩
    have HMA := Lib.hid hmk
    clear hmk
    have hb3 := b_trans hb2 hb3
    clear hb2
    go_wp2_with fail
    refine (HMA.out).mono ?_
    rintro x w4 ⟨rfl, hb4⟩
    have hb4 := b_trans hb3 hb4
    clear hb3 HMA
    obtain ⟨w5, X, hw5, hX, hb5, hcells⟩ := box_float 0 gg (cc : Int) E w4
    have hb5 := b_trans hb4 hb5
    have HC := Lib.hid hcells
    have HL5 := Lib.hid (HL1.out.on hb5)
    have HB5 := Lib.hid hb5
    obtain ⟨x0, x1, x2, x3, _⟩ := hcells w5 (Below.refl _ _)
    clear hb4 hb5 hcells
    go_upto_region 4 with fail
    clear hw5 hX
    go_wp2_with fail
    refine (O3.out _ HL5.out).mono ?_
    rintro x w6 ⟨rfl, hb6⟩
    clear x0 x1 x2 x3
    obtain ⟨x0, x1, x2, x3, _⟩ := HC.out w6 hb6
    go_wp2_with fail
    refine (O5.out _).mono ?_
    rintro x w7 ⟨rfl, hb7⟩
    have hb7 := b_trans hb6 hb7
    clear hb6 x0 x1 x2 x3
    obtain ⟨x0, x1, x2, x3, _⟩ := HC.out w7 hb7
    go_wp2_with fail
    refine (O4.out _).mono ?_
    rintro x w8 ⟨rfl, hb8⟩
    have hb8 := b_trans hb7 hb8
    clear hb7 x0 x1 x2 x3
    obtain ⟨x0, x1, x2, x3, _⟩ := HC.out w8 hb8
    go_wp2_with fail
    refine (O6.out _ (HL5.out.on hb8)).mono ?_
    rintro x w9 ⟨rfl, hb9⟩
    have hb9 := b_trans hb8 hb9
    clear hb8 x0 x1 x2 x3
    obtain ⟨x0, x1, x2, x3, _⟩ := HC.out w9 hb9
    go_wp2_with fail
    refine (AW.out _ (HL5.out.on hb9)).mono ?_
    rintro x w10 ⟨rfl, hb10⟩
    have hb10 := b_trans hb9 hb10
    clear hb9 x0 x1 x2 x3
    go_wp2_with fail
    go_ret
    exact ⟨rfl, b_trans HB1.out (b_trans HB5.out hb10)⟩
  · obtain ⟨o1, o2⟩ := HO
    have O1 := Lib.hid o1
    have O2 := Lib.hid o2
    clear o1 o2
    go_wp2_with fail
    refine (O1.out _ HL1.out).mono ?_
    rintro x w2 ⟨rfl, hb2⟩
    go_wp2_with fail
    refine (O2.out _).mono ?_
    rintro x w3 ⟨v, rfl, hb3, hmk⟩
    have HMA := Lib.hid hmk
    clear hmk
    have hb3 := b_trans hb2 hb3
    clear hb2
    go_wp2_with fail
    refine (HMA.out).mono ?_
    rintro x w4 ⟨⟨K, nn, mm, E, rfl⟩, hb4⟩
    have hb4 := b_trans hb3 hb4
    clear hb3 HMA
    obtain ⟨w5, X, hw5, hX, hb5, hcells⟩ := box_float K nn mm E w4
    have hb5 := b_trans hb4 hb5
    have HL5 := Lib.hid (HL1.out.on hb5)
    have HB5 := Lib.hid hb5
    clear hb4 hb5 hcells
    go_upto_region 4 with fail
    clear hw5 hX
    go_wp2_with fail
    refine (AW.out _ HL5.out).mono ?_
    rintro x w10 ⟨rfl, hb10⟩
    go_wp2_with fail
    go_ret
    exact ⟨rfl, b_trans HB1.out (b_trans HB5.out hb10)⟩
end Go.Proofs.YtjapgpmoojfhnaaGreatDoor
