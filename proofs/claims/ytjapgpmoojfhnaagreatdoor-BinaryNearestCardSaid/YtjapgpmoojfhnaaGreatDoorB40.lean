/- ref03's DivMod at numbers without a sign. The reference's Of at the text of an odd number with any exponent. The reference's Make at a number that is not nought. The law BinaryMakes returns true for every description and exponent. -/
import Derived.Test.YtjapgpmoojfhnaaGreatDoorB21
import Derived.Deep.RegionWith
set_option maxHeartbeats 16000000
set_option maxRecDepth 100000
set_option linter.unusedSimpArgs false
set_option linter.unusedVariables false
namespace Go.Proofs.YtjapgpmoojfhnaaGreatDoor
open Go.RowKit Go.Lib
structure DivBlk (w : World) (X n n2 c c2 : Nat) (A B : Option Addr) (lc : List Nat) (wx : World) : Prop where
 ba : wx.heap[X]? = some (.cells #[.bool false, .slice A n c] 33 (0, 0))
 bb : wx.heap[X + 1]? = some (.cells #[.bool false, .slice B n2 c2] 33 (0, 0))
 r1 : wx.heap[X + 2]? = some (.cells #[.bool false, .slice none 0 0] 33 (0, 0))
 r2 : wx.heap[X + 3]? = some (.cells #[.bool false, .slice none 0 0] 33 (0, 0))
 q : wx.heap[X + 4]? = some (.cells (u8s lc).toArray 5 (0, 0))
 sz : X + 5 ≤ wx.heap.size
 bel : Below X w wx
theorem DivBlk.on {w : World} {X n n2 c c2 : Nat} {A B : Option Addr} {lc : List Nat} {wx wy : World} (h : DivBlk w X n n2 c c2 A B lc wx) (hb : Below wx.heap.size wx wy) : DivBlk w X n n2 c c2 A B lc wy := by
 obtain ⟨h1, h2, h3, h4, h5, h6, h7⟩ := h
 exact ⟨(hb.block X (by omega)).trans h1, (hb.block (X + 1) (by omega)).trans h2, (hb.block (X + 2) (by omega)).trans h3, (hb.block (X + 3) (by omega)).trans h4, (hb.block (X + 4) (by omega)).trans h5, by have := hb.size; omega, h7.trans (hb.mono (by omega))⟩
theorem DivBlk.setq {w : World} {X n n2 c c2 : Nat} {A B : Option Addr} {lc : List Nat} {wx : World} (h : DivBlk w X n n2 c c2 A B lc wx) (f x : Nat) : DivBlk w X n n2 c c2 A B (lc.set f x) (wx.setCell ⟨X + 4, f, none⟩ (.int .u8 (x : Int))) := by
 obtain ⟨h1, h2, h3, h4, h5, h6, h7⟩ := h
 refine ⟨?_, ?_, ?_, ?_, ?_, by simp [World.setCell]; omega, h7.setCell (p := ⟨X + 4, f, none⟩) (by show X ≤ X + 4; omega) _⟩
 · rw [Below.heap_setCell _ _ _ _ (show X ≠ X + 4 by omega)]; exact h1
 · rw [Below.heap_setCell _ _ _ _ (show X + 1 ≠ X + 4 by omega)]; exact h2
 · rw [Below.heap_setCell _ _ _ _ (show X + 2 ≠ X + 4 by omega)]; exact h3
 · rw [Below.heap_setCell _ _ _ _ (show X + 3 ≠ X + 4 by omega)]; exact h4
 · rw [u8s_set]; exact block_set h5 f _
theorem Reads.heap {w w' : World} {A : Option Addr} {n : Nat} {xs : List Value} (h : Reads w w.heap.size A n xs) (hs : w.heap.size ≤ w'.heap.size) (hk : ∀ b off, A = some ⟨b, off, none⟩ → b < w.heap.size → w'.heap[b]? = w.heap[b]?) : Reads w' w'.heap.size A n xs := by
 refine ⟨h.1, fun hn => ?_⟩
 obtain ⟨b, off, e, hb, hc⟩ := h.2 hn
 refine ⟨b, off, e, by omega, fun j u hu => ?_⟩
 have h1 := hc j u hu
 simp only [World.cell?, hk b off e hb] at h1 ⊢
 exact h1
structure DEnd (wr : World) (X : Nat) (W : World) : Prop where
 sz : wr.heap.size ≤ W.heap.size
 keep : ∀ k, k < wr.heap.size → k ≠ X + 2 → k ≠ X + 3 → W.heap[k]? = wr.heap[k]?
 low : X ≤ wr.heap.size
 bel : Below X wr W
section
variable {wr W W' : World} {X : Nat}
theorem DEnd.on (h : DEnd wr X W) (hb : Below W.heap.size W W') : DEnd wr X W' := by
 obtain ⟨h1, h2, h3, h4⟩ := h
 exact ⟨by have := hb.size; omega, fun k k1 k2 k3 => (hb.block k (by omega)).trans (h2 k k1 k2 k3), h3, h4.trans (hb.mono (by omega))⟩
theorem DEnd.drew (h : DEnd wr X W) : DEnd wr X W.drew := ⟨h.1, h.2, h.3, h.4.drew⟩
theorem DEnd.set (h : DEnd wr X W) (k i : Nat) (hk : k = X + 2 ∨ k = X + 3) (v : Value) : DEnd wr X (W.setCell ⟨k, i, none⟩ v) :=
 ⟨by simp [World.setCell]; exact h.1, fun j h1 h2 h3 => by rw [Below.heap_setCell _ _ _ _ (show j ≠ k by omega)]; exact h.2 j h1 h2 h3, h.3, h.4.setCell (p := ⟨k, i, none⟩) (by show X ≤ k; omega) _⟩
theorem DEnd.set2 {i : Nat} {v : Value} (h : DEnd wr X W) : DEnd wr X (W.setCell ⟨X + 1 + 1, i, none⟩ v) := h.set _ _ (by omega) _
theorem DEnd.set3 {i : Nat} {v : Value} (h : DEnd wr X W) : DEnd wr X (W.setCell ⟨X + 1 + 1 + 1, i, none⟩ v) := h.set _ _ (by omega) _
theorem frozen_block {p : Addr} (hb : Below W.heap.size W W') (h : p.block < W.heap.size) : W'.frozen? p = W.frozen? p := by simp [World.frozen?, hb.block _ h]
theorem DEnd.facts (h : DEnd wr X W) (hs : X + 5 ≤ wr.heap.size) (hb : Below W.heap.size W W') : W'.cell? ⟨X + 1, 0, none⟩ = W.cell? ⟨X + 1, 0, none⟩ ∧ W'.cell? ⟨X + 1 + 1, 0, none⟩ = W.cell? ⟨X + 1 + 1, 0, none⟩ ∧ W'.cell? ⟨X + 1 + 1, 1, none⟩ = W.cell? ⟨X + 1 + 1, 1, none⟩ ∧ W'.cell? ⟨X + 1 + 1 + 1, 0, none⟩ = W.cell? ⟨X + 1 + 1 + 1, 0, none⟩ ∧ W'.cell? ⟨X + 1 + 1 + 1, 1, none⟩ = W.cell? ⟨X + 1 + 1 + 1, 1, none⟩ ∧
 W'.frozen? ⟨X + 1 + 1, 0, none⟩ = W.frozen? ⟨X + 1 + 1, 0, none⟩ ∧ W'.frozen? ⟨X + 1 + 1, 1, none⟩ = W.frozen? ⟨X + 1 + 1, 1, none⟩ ∧ W'.frozen? ⟨X + 1 + 1 + 1, 0, none⟩ = W.frozen? ⟨X + 1 + 1 + 1, 0, none⟩ ∧ W'.frozen? ⟨X + 1 + 1 + 1, 1, none⟩ = W.frozen? ⟨X + 1 + 1 + 1, 1, none⟩ := by
 have h1 := h.1
 refine ⟨hb.cell ?_, hb.cell ?_, hb.cell ?_, hb.cell ?_, hb.cell ?_, frozen_block hb ?_, frozen_block hb ?_, frozen_block hb ?_, frozen_block hb ?_⟩
 all_goals
  simp only
  omega
end
theorem rest_trim {v d m k : Nat} (hk : (Fl.digL v).length = k) (hd : d ≤ 9) (h : Trimmed (d :: Fl.digL v) (1 + k) m) : (d :: Fl.digL v).take m = Fl.digL (10 * v + d) := by
 have h1 := digL_trim (l := d :: Fl.digL v) (by rw [List.length_cons, hk]; omega) (fun x hx => by
  rcases List.mem_cons.1 hx with h | h
  · omega
  · exact digL_le9 v x h) h
 rw [h1, dv, dv_digL, Nat.add_comm]
theorem alloc_at {w : World} {k : Nat} {o b : Obj} (h : w.heap[k]? = some b) : (w.alloc o).heap[k]? = some b := by
 rw [Below.heap_alloc _ _ _ (lt_of_block h)]; exact h
theorem new_at (w : World) (cs : Array Value) (t : TypeId) {k : Nat} (hk : k = w.heap.size) : (w.alloc (.cells cs t)).heap[k]? = some (.cells cs t (0, 0)) := by
 subst hk; exact heap_alloc_new w _
theorem digL_len_le {u v : Nat} (h : u ≤ v) : (Fl.digL u).length ≤ (Fl.digL v).length := by
 rcases Nat.lt_or_ge (Fl.digL v).length (Fl.digL u).length with h1 | h1
 · have := dv_longer (digL_le9 v) (digL_noLead u) h1
   rw [dv_digL, dv_digL] at this
   omega
 · exact h1
theorem div_end {w wr W : World} {X n n2 c c2 k cr v : Nat} {A B Ar : Option Addr} {l lb lc : List Nat} {mq mr : Nat}
 (h : DivBlk w X n n2 c c2 A B lc wr ∧ Reads wr wr.heap.size Ar k (u8s (Fl.digL (dv l % v))) ∧ (∀ b off, Ar = some ⟨b, off, none⟩ → X + 5 ≤ b) ∧ dv lc = dv l / v ∧ (∀ x ∈ lc, x ≤ 9) ∧ lc.length = n ∧ Reads wr wr.heap.size (some ⟨X + 4, 0, none⟩) n (u8s lc))
 (hv : dv lb = v) (hmq : Trimmed lc n mq) (hmr : Trimmed (Fl.digL (dv l % v)) k mr) (hkc : k ≤ cr) (hE : DEnd wr X W) :
 (∃ Q m cq R k cr', m ≤ cq ∧ k ≤ cr' ∧ (∀ b off, Q = some ⟨b, off, none⟩ → X ≤ b) ∧ (∀ b off, R = some ⟨b, off, none⟩ → X ≤ b) ∧ Reads W W.heap.size Q m (u8s (Fl.digL (dv l / dv lb))) ∧ Reads W W.heap.size R k (u8s (Fl.digL (dv l % dv lb))) ∧ Ending.returned (.tuple #[.agg #[.bool false, .slice (some ⟨X + 1 + 1 + 1 + 1, 0, none⟩) mq n], .agg #[.bool false, .slice Ar mr cr]]) = .returned (.tuple #[.agg #[.bool false, .slice Q m cq], .agg #[.bool false, .slice R k cr']])) ∧ Below X w W := by
 obtain ⟨h1, h2, h3, h4, h5, h6, h7⟩ := h
 subst hv
 refine ⟨⟨some ⟨X + 1 + 1 + 1 + 1, 0, none⟩, mq, n, Ar, mr, cr, hmq.1, by have := hmr.1; omega, fun b off he => by cases he; omega, fun b off he => by have := h3 b off he; omega, ?_, ?_, rfl⟩, h1.bel.trans hE.bel⟩
 · have e : (u8s lc).take mq = u8s (Fl.digL (dv l / dv lb)) := by
    rw [← h4, ← digL_trim h6 h5 hmq]
    simp [u8s, List.map_take]
   rw [← e]
   exact (h7.take mq hmq.1).heap hE.sz (fun b off he hlt => by cases he; exact hE.keep _ hlt (by omega) (by omega))
 · have hk : (Fl.digL (dv l % dv lb)).length = k := by have := h2.1; rwa [u8s_len] at this
   have e : (u8s (Fl.digL (dv l % dv lb))).take mr = u8s (Fl.digL (dv l % dv lb)) := by
    have := digL_trim hk (digL_le9 _) hmr
    rw [dv_digL] at this
    have e2 : (u8s (Fl.digL (dv l % dv lb))).take mr = u8s ((Fl.digL (dv l % dv lb)).take mr) := by simp [u8s, List.map_take]
    rw [e2, this]
   rw [← e]
   exact (h2.take mr hmr.1).heap hE.sz (fun b off he hlt => by have := h3 b off he; exact hE.keep _ hlt (by omega) (by omega))
theorem divmod_step {r v d : Nat} (hv : 0 < v) (s : Nat) {u : Nat} (hus : u + v * s = 10 * (r % v) + d) (hu : u < v) : (d + 10 * r) % v = u ∧ (d + 10 * r) / v = s + 10 * (r / v) := by
 have h1 := Nat.div_add_mod r v
 have h2 : d + 10 * r = u + v * (s + 10 * (r / v)) := by
  rw [Nat.mul_add]
  have : v * (10 * (r / v)) = 10 * (v * (r / v)) := by rw [Nat.mul_left_comm]
  omega
 rw [h2]
 refine ⟨?_, ?_⟩
 · rw [Nat.add_mul_mod_self_left, Nat.mod_eq_of_lt hu]
 · rw [Nat.add_mul_div_left _ _ hv, Nat.div_eq_of_lt hu, Nat.zero_add]
theorem divmod_any (A B : Option Addr) (n n2 c c2 : Nat) (l lb : List Nat) (w : World) (hr : Reads w w.heap.size A n (u8s l)) (hn : n ≤ 100000) (hd : ∀ x ∈ l, x ≤ 9) (h2 : Reads w w.heap.size B n2 (u8s lb)) (hn2 : n2 ≤ 100000) (hb9 : ∀ x ∈ lb, x ≤ 9) (nb : NoLead lb) (hv0 : 0 < dv lb) :
 Calls Tryz.prog 84 #[.agg #[.bool false, .slice A n c], .agg #[.bool false, .slice B n2 c2]] w fun x w' => (∃ Q m cq R k cr, m ≤ cq ∧ k ≤ cr ∧ (∀ b off, Q = some ⟨b, off, none⟩ → w.heap.size ≤ b) ∧ (∀ b off, R = some ⟨b, off, none⟩ → w.heap.size ≤ b) ∧ Reads w' w'.heap.size Q m (u8s (Fl.digL (dv l / dv lb))) ∧ Reads w' w'.heap.size R k (u8s (Fl.digL (dv l % dv lb))) ∧ x = .returned (.tuple #[.agg #[.bool false, .slice Q m cq], .agg #[.bool false, .slice R k cr]])) ∧ Below w.heap.size w w' := by
 obtain ⟨i0, hi, hz0, hz1, hz2⟩ := info_parts info5
 have hll : l.length = n := by have := hr.1; rwa [u8s_len] at this
 have hlb : lb.length = n2 := by have := h2.1; rwa [u8s_len] at this
 have hmk := fun W => make_bytes n (by omega) W
 have w0 : IntKind.i64.wrap ((n : Int) - 1) = (n : Int) - 1 := IntWalk.i64_in _ (by omega)
 obtain ⟨w2, hw2⟩ : ∃ w2, (((((w.alloc (Obj.cells #[.bool false, .slice A n c] 33)).alloc (Obj.cells #[.bool false, .slice B n2 c2] 33)).alloc (Obj.cells #[.bool false, .slice none 0 0] 33)).alloc (Obj.cells #[.bool false, .slice none 0 0] 33)).alloc (Obj.cells (u8s (List.replicate n 0)).toArray 5)) = w2 := ⟨_, rfl⟩
 have hblk : DivBlk w w.heap.size n n2 c c2 A B (List.replicate n 0) w2 := by
  rw [← hw2]
  refine ⟨?_, ?_, ?_, ?_, ?_, by simp, ?_⟩
  · exact alloc_at (alloc_at (alloc_at (alloc_at (new_at _ _ _ rfl))))
  · exact alloc_at (alloc_at (alloc_at (new_at _ _ _ (by simp))))
  · exact alloc_at (alloc_at (new_at _ _ _ (by simp)))
  · exact alloc_at (new_at _ _ _ (by simp))
  · exact new_at _ _ _ (by simp)
  · exact (((((Below.refl _ _).alloc (Nat.le_refl _) _).alloc (by simp) _).alloc (by simp <;> omega) _).alloc (by simp <;> omega) _).alloc (by simp <;> omega) _
 have HW2 := Lib.hid hw2
 clear hw2
 go_enter Tryz.func84, Tryz.ntmps84
 go_upto_block 0 with fail
 rw [HW2.out]
 obtain ⟨X, hX⟩ : ∃ X, w.heap.size = X := ⟨_, rfl⟩
 obtain ⟨v, hv⟩ : ∃ v, dv lb = v := ⟨_, rfl⟩
 rw [hX] at hr h2 hblk
 rw [hX]
 have HX := Lib.hid hX
 have HBL2 := Lib.hid hblk
 have HB := Lib.hid (And.intro hlb (And.intro hb9 (And.intro nb (And.intro hv hv0))))
 have HLL := Lib.hid hll
 have HD := Lib.hid hd
 have hvp : 0 < v := by omega
 clear hX hll hd hlb hb9 nb hv hv0
 have p1 := at_block hblk.ba 1 _ rfl
 clear hblk
 go_wp2_with fail
 go_loopg [6, 8] n (fun f t6 t8 wx => ∃ (lc : List Nat) (Ar : Option Addr) (k cr : Nat), t8 = .int .i64 ((f : Int) - 1) ∧ f ≤ n ∧ lc.length = n ∧ t6 = .slice Ar k cr ∧ k ≤ cr ∧ Reads wx wx.heap.size Ar k (u8s (Fl.digL (dv (l.drop f) % v))) ∧ (∀ b off, Ar = some ⟨b, off, none⟩ → X + 5 ≤ b) ∧ dv (lc.drop f) = dv (l.drop f) / v ∧ (∀ x ∈ lc, x ≤ 9) ∧ (∀ i, i < f → lc[i]? = some 0) ∧ DivBlk w X n n2 c c2 A B lc wx)
 case atStart =>
  have e : l.drop n = [] := List.drop_of_length_le (by rw [HLL.out]; exact Nat.le_refl _)
  refine ⟨List.replicate n 0, none, 0, 0, by first | rfl | (congr 1), Nat.le_refl _, by simp, rfl, Nat.le_refl _, by rw [e, show dv [] % v = 0 from Nat.zero_mod _, Fl.digL_zero]; exact Reads.none_, fun b off h => by (cases h), ?_, fun x hx => by rw [List.mem_replicate] at hx; omega, fun i hi => by rw [List.getElem?_replicate, if_pos hi], HBL2.out⟩
  rw [e, List.drop_of_length_le (by simp)]
  exact (Nat.zero_div _).symm
 case round =>
  obtain ⟨lc, Ar, k, cr, rfl, hf, hlc, rfl, hkc, hrr, hra, hq, hdc, hz, hb⟩ := hrel
  clear p1
  have p1 := at_block hb.ba 1 _ rfl
  have p2 := at_block hb.bb 1 _ rfl
  cases gk with
  | zero =>
    have c1 : decide ((0 : Int) ≤ ((0 : Nat) : Int) - 1) = false := by decide
    have c1b : decide ((0 : Int) ≤ -1) = false := by decide
    have p3 := at_block hb.ba 0 _ rfl
    have p4 := at_block hb.bb 0 _ rfl
    rw [List.drop_zero] at hrr hq
    rw [List.drop_zero] at hq
    have hks : k ≤ 100000 := by
     obtain ⟨q1, q2, q3, q4, q5⟩ := HB.out
     have hk : (Fl.digL (dv l % v)).length = k := by have := hrr.1; rwa [u8s_len] at this
     have h1 := digL_len_le (Nat.le_of_lt (Nat.mod_lt (dv l) hvp))
     have h2 : Fl.digL v = lb := by rw [← q4]; exact digL_dv q2 q3
     rw [h2] at h1
     omega
    have hRq : Reads wr wr.heap.size (some ⟨X + 4, 0, none⟩) n (u8s lc) := by
     have := Reads.of_block hb.q
     rwa [u8s_len, hlc] at this
    have SQ := fun W (hW : DEnd wr X W) => signed_pos (some ⟨X + 1 + 1 + 1 + 1, 0, none⟩) n n lc W (hRq.heap hW.1 (fun b off he hlt => by cases he; exact hW.2 _ hlt (by omega) (by omega))) (Nat.le_refl _) (by omega)
    have SR := fun W (hW : DEnd wr X W) => signed_pos Ar k cr (Fl.digL (dv l % v)) W (hrr.heap hW.1 (fun b off he hlt => by have := hra b off he; exact hW.2 _ hlt (by omega) (by omega))) hkc (by omega)
    have SQ := Lib.hid SQ
    have SR := Lib.hid SR
    have r20 := at_block hb.r1 0 _ rfl
    have r21 := at_block hb.r1 1 _ rfl
    have r30 := at_block hb.r2 0 _ rfl
    have r31 := at_block hb.r2 1 _ rfl
    have s20 := free_block hb.r1 0
    have s21 := free_block hb.r1 1
    have s30 := free_block hb.r2 0
    have s31 := free_block hb.r2 1
    have hsz := hb.sz
    have D0 := Lib.hid (show DEnd wr X wr from ⟨Nat.le_refl _, fun _ _ _ _ => rfl, by omega, Below.refl _ _⟩)
    have HBE := Lib.hid (And.intro hb (And.intro hrr (And.intro hra (And.intro hq (And.intro hdc (And.intro hlc hRq))))))
    clear c1 hb hrr hra hq hdc hz hRq
    go_wp2_with fail
    go_region_with (first
     | (go_at_call_of 97 Ar; refine (SR.out _ ?_).mono ?_; (repeat (first | with_reducible assumption | with_reducible exact D0.out | with_reducible refine DEnd.drew ?_ | with_reducible refine DEnd.set2 ?_ | with_reducible refine DEnd.set3 ?_)); rintro x w10 ⟨⟨mr, hmr, rfl⟩, hb10⟩; have hD10 : DEnd wr X w10 := DEnd.on (by (repeat (first | with_reducible assumption | with_reducible exact D0.out | with_reducible refine DEnd.drew ?_ | with_reducible refine DEnd.set2 ?_ | with_reducible refine DEnd.set3 ?_))) hb10; obtain ⟨z0, z1, z2, z3, z4, z5, z6, z7, z8⟩ := DEnd.facts (by (repeat (first | with_reducible assumption | with_reducible exact D0.out | with_reducible refine DEnd.drew ?_ | with_reducible refine DEnd.set2 ?_ | with_reducible refine DEnd.set3 ?_))) hsz hb10)
     | (go_at_call 97; refine (SQ.out _ ?_).mono ?_; (repeat (first | with_reducible assumption | with_reducible exact D0.out | with_reducible refine DEnd.drew ?_ | with_reducible refine DEnd.set2 ?_ | with_reducible refine DEnd.set3 ?_)); rintro x w9 ⟨⟨mq, hmq, rfl⟩, hb9⟩; have hD9 : DEnd wr X w9 := DEnd.on (by (repeat (first | with_reducible assumption | with_reducible exact D0.out | with_reducible refine DEnd.drew ?_ | with_reducible refine DEnd.set2 ?_ | with_reducible refine DEnd.set3 ?_))) hb9; obtain ⟨y0, y1, y2, y3, y4, y5, y6, y7, y8⟩ := DEnd.facts (by (repeat (first | with_reducible assumption | with_reducible exact D0.out | with_reducible refine DEnd.drew ?_ | with_reducible refine DEnd.set2 ?_ | with_reducible refine DEnd.set3 ?_))) hsz hb9))
    all_goals
     go_wp2_with fail
     refine bodyPost_ret (v := .tuple #[.agg #[.bool false, .slice (some ⟨X + 1 + 1 + 1 + 1, 0, none⟩) mq n], .agg #[.bool false, .slice Ar mr cr]]) (by simp [results, Tryz.results84, go_sem, *]) rfl ?_
     (try rw [HX.out])
     refine div_end HBE.out HB.out.2.2.2.1 hmq hmr hkc ?_
     (repeat (first | with_reducible assumption | with_reducible exact D0.out | with_reducible refine DEnd.drew ?_ | with_reducible refine DEnd.set2 ?_ | with_reducible refine DEnd.set3 ?_))
  | succ f =>
    have e8 : (((f + 1 : Nat) : Int) - 1) = (f : Int) := by omega
    rw [e8]
    obtain ⟨b, off, u, rfl, hbX, hu, hcell⟩ := (hr.below hb.bel).at_ (k := f) (by omega)
    obtain ⟨d, hdf, rfl⟩ := u8_at hu
    have hd9 := HD.out d (List.mem_of_getElem? hdf)
    have c1 : decide ((0 : Int) ≤ (f : Int)) = true := decide_eq_true (by omega)
    have hf0 : (0 : Int) ≤ (f : Int) := by omega
    have hfn : (f : Int) < (n : Int) := by omega
    obtain ⟨r, hrv⟩ : ∃ r, dv (l.drop (f + 1)) = r := ⟨_, rfl⟩
    have hdr : dv (l.drop f) = d + 10 * r := by rw [dv_drop hdf, hrv]
    rw [hrv] at hrr hq
    have hmod : r % v < v := Nat.mod_lt _ hvp
    obtain ⟨V, hV⟩ : ∃ V, u8s (Fl.digL (r % v)) = V := ⟨_, rfl⟩
    have hone := u8s_one (Fl.digL (r % v))
    have hk : (Fl.digL (r % v)).length = k := by have := hrr.1; rwa [u8s_len] at this
    have hk20 : k ≤ 100000 := by
     obtain ⟨q1, q2, q3, q4, q5⟩ := HB.out
     have h1 := digL_len_le (Nat.le_of_lt hmod)
     have h2 : Fl.digL v = lb := by rw [← q4]; exact digL_dv q2 q3
     rw [h2] at h1
     omega
    rw [hV] at hrr hone
    have hown := fresh_row wr d
    have HV := Lib.hid (And.intro hV (And.intro hk (And.intro hmod (And.intro hq (And.intro hdc (And.intro hz (And.intro hb (And.intro hdf hdr))))))))
    have hhs := hb.sz
    clear hV hk hmod hq hdc hz hb hu hdf hdr hrv
    go_wp2_with (at_builtin; refine wpList_append_any _ rfl _ _ 31 rfl wr.heap.size 5 i0 (.int .u8 0) 1 Tryz.underlying31 hi hz0 hz1 hz2 rfl _ 1 [.int .u8 (d : Int)] rfl hown _ Ar k cr V rfl (hrr.alloc (Nat.le_refl _) _) hone ?c3 ?c4 (by simp) ?_)
    case c3 => unfold maxLen; omega
    case c4 => omega
    intro v' w5 hown5 hgr5
    have hb5 : Below wr.heap.size wr w5 := ((Below.refl _ _).alloc (Nat.le_refl _) _).grown hgr5 (by simp) (fun k hk => (hown.lt k hk).1)
    obtain ⟨A5, c5, rfl, hc5, hrd5⟩ := own_slice hown5
    have had5 := own_addr hown5
    have e5 : Value.int .u8 (d : Int) :: V = u8s (d :: Fl.digL (r % v)) := by rw [← HV.out.1]; rfl
    rw [e5] at hrd5
    have TR := Lib.hid (trim85_any A5 (1 + k) c5 (d :: Fl.digL (r % v)) w5 hrd5 hc5 (by omega))
    have HRD := Lib.hid hrd5
    have HB5 := Lib.hid (And.intro hb5 had5)
    clear hgr5 hown5 hown hrd5 had5 hb5 e5 hrr hone
    go_wp2_with fail
    refine (TR.out).mono ?_
    rintro y w6 ⟨⟨m, hm, rfl⟩, rfl⟩
    obtain ⟨q1, q2, q3, q4, q5, q6, q7, q8, q9⟩ := HV.out
    have hrm := (HRD.out).take m hm.1
    have em : (u8s (d :: Fl.digL (r % v))).take m = u8s (Fl.digL (10 * (r % v) + d)) := by
     rw [← rest_trim q2 hd9 hm]
     simp [u8s, List.map_take]
    rw [em] at hrm
    have hm1 := hm.1
    have hblk6 : DivBlk w X n n2 c c2 (some ⟨b, off, none⟩) B lc w6 := q7.on HB5.out.1
    have hset : lc.set f 0 = lc := by
     apply List.ext_getElem?
     intro i
     by_cases h : i = f
     · subst h
       rw [List.getElem?_set_self (by omega), q6 i (by omega)]
     · rw [List.getElem?_set_ne (by omega)]
    have hadr6 : ∀ b' off', A5 = some ⟨b', off', none⟩ → X + 5 ≤ b' := fun b' off' he => by
     have := HB5.out.2 b' off' he
     omega
    have hmc : m ≤ c5 := by omega
    have hmle : m ≤ 100001 := by omega
    have HS6 := Lib.hid (And.intro hrm (And.intro hblk6 (And.intro hset hadr6)))
    obtain ⟨T, hT⟩ : ∃ T, 10 * (r % v) + d = T := ⟨_, rfl⟩
    have hTm : (Fl.digL T).length = m := by have := hrm.1; rw [u8s_len, hT] at this; exact this
    have hT10 : T < 10 * v := by omega
    have HT := Lib.hid hT
    clear q1 q2 q3 q4 q5 q6 q7 q8 q9 hrm em hm hm1 hblk6 hset hadr6 p1 p2 hT
    go_wp2_with fail
    go_loopg [6] 10 (fun F t6 wx => ∃ (A' : Option Addr) (k' c' u s : Nat), t6 = .slice A' k' c' ∧ k' ≤ c' ∧ Reads wx wx.heap.size A' k' (u8s (Fl.digL u)) ∧ (∀ b' off', A' = some ⟨b', off', none⟩ → X + 5 ≤ b') ∧ u + v * s = T ∧ s + F = 10 ∧ DivBlk w X n n2 c c2 (some ⟨b, off, none⟩) B (lc.set f s) wx)
    case atStart =>
     obtain ⟨a1, a3, a4, a5⟩ := HS6.out
     exact ⟨A5, m, c5, T, 0, rfl, hmc, by rw [← HT.out]; exact a1, a5, by omega, by omega, by rw [a4]; exact a3⟩
    case round =>
     obtain ⟨A', k', c', u, s, rfl, hkc', hru, hau, hus, hsF, hbu⟩ := hrel
     have p1 := at_block hbu.ba 1 _ rfl
     have p2 := at_block hbu.bb 1 _ rfl
     have hb2r : Reads wr wr.heap.size B n2 (u8s lb) := (h2.below hbu.bel).more (by have := hbu.sz; omega)
     have hk1 : (Fl.digL u).length = k' := by have := hru.1; rwa [u8s_len] at this
     have hk2 : k' ≤ 100001 := by
      have := digL_len_le (show u ≤ T by omega)
      omega
     obtain ⟨q1, q2, q3, q4, q5⟩ := HB.out
     have SZ := size_any A' B k' n2 c' c2 (Fl.digL u) lb wr hru hb2r (by omega) (by omega) (digL_le9 u) q2 (digL_noLead u) q3
     rw [dv_digL, q4] at SZ
     have g8 : IntKind.i64.wrap ((f : Int) - 1) = (f : Int) - 1 := IntWalk.i64_in _ (by omega)
     by_cases hlt : u < v
     · rw [cmpN_lt hlt] at SZ
       have SZ := Lib.hid SZ
       have HIN := Lib.hid (And.intro hru (And.intro hbu (And.intro hus (And.intro hlt hau))))
       clear hru hbu hus hlt hau hb2r q1 q2 q3 q4 q5 hk1
       go_wp2_with fail
       refine (SZ.out).mono ?_
       rintro x w7 ⟨rfl, hb7⟩
       go_wp2_with fail
       go_roundg f
       case measure => omega
       case rel =>
        obtain ⟨r1, r2, r3, r4, r5⟩ := HIN.out
        obtain ⟨k1, k2, k3, k4, k5, k6, k7, k8, k9⟩ := HV.out
        have ht := HT.out
        have hs9 : s ≤ 9 := by
         rcases Nat.lt_or_ge 9 s with h | h
         · have h1 : v * 10 ≤ v * s := Nat.mul_le_mul_left v (by omega)
           omega
         · exact h
        obtain ⟨m1, m2⟩ := divmod_step (r := r) (d := d) (u := u) hvp s (r3.trans ht.symm) r4
        refine ⟨lc.set f s, A', k', c', rfl, by omega, by rw [List.length_set, hlc], rfl, hkc', ?_, r5, ?_, ?_, ?_, r2.on hb7⟩
        · rw [k9, m1]; exact r1.on hb7
        · rw [dv_drop (d := s) (by rw [List.getElem?_set_self (by omega)]), List.drop_set_of_lt (by omega), k4, k9, m2]
        · intro z hz
          rcases List.mem_or_eq_of_mem_set hz with h | h
          · exact k5 z h
          · omega
        · intro i hi
          rw [List.getElem?_set_ne (by omega)]
          exact k6 i (by omega)
     · obtain ⟨C, hC, hC0⟩ : ∃ C, cmpN u v = C ∧ 0 ≤ C := ⟨_, rfl, by unfold cmpN; rw [if_neg hlt]; split <;> omega⟩
       rw [hC] at SZ
       have cC : decide (0 ≤ C) = true := decide_eq_true hC0
       have cC2 : decide (C ≥ 0) = true := decide_eq_true hC0
       have hvu : v ≤ u := by omega
       have hs8 : s ≤ 8 := by
        rcases Nat.lt_or_ge 8 s with h | h
        · have h1 : v * 9 ≤ v * s := Nat.mul_le_mul_left v (by omega)
          have := HT.out
          omega
        · exact h
       have hnk : n2 ≤ k' := by
        have h1 := digL_len_le hvu
        have h2 : Fl.digL v = lb := by rw [← q4]; exact digL_dv q2 q3
        rw [h2] at h1
        omega
       have MN := fun W (hW : Below wr.heap.size wr W) => minus_any A' B k' n2 c' c2 (Fl.digL u) lb W (hru.on hW) (hb2r.on hW) (by omega) hnk (digL_le9 u) q2 (by rw [dv_digL, q4]; exact hvu)
       rw [dv_digL, q4] at MN
       have SZ := Lib.hid SZ
       have MN := Lib.hid MN
       have HIN := Lib.hid (And.intro hru (And.intro hbu (And.intro hus (And.intro hvu hau))))
       have hlf : f < (lc.set f s).length := by rw [List.length_set]; omega
       clear hru hus hlt hau hb2r q1 q2 q3 q4 q5 hk1 hC hC0 hvu hnk
       obtain ⟨F, rfl⟩ : ∃ F, gk = F + 1 := ⟨gk - 1, by omega⟩
       go_wp2_with fail
       refine (SZ.out).mono ?_
       rintro x w7 ⟨rfl, hb7⟩
       have hbu7 := hbu.on hb7
       clear p1 p2 hbu
       have p1 := at_block hbu7.ba 1 _ rfl
       have p2 := at_block hbu7.bb 1 _ rfl
       go_wp2_with fail
       refine (MN.out _ hb7).mono ?_
       rintro x w8 ⟨⟨A8, m8, c8, hmc8, had8, hrd8, rfl⟩, hb8⟩
       have hbu8 := hbu7.on hb8
       have hs7 := hbu7.sz
       clear p1 p2 hbu7
       have p1 := at_block hbu8.ba 1 _ rfl
       have p2 := at_block hbu8.bb 1 _ rfl
       have z0 := at_block hbu8.q f (.int .u8 (s : Int)) (by
        have : (lc.set f s)[f]? = some s := by rw [List.getElem?_set_self (by omega)]
        rw [List.getElem?_toArray]
        simp only [u8s, List.getElem?_map, this]
        rfl)
       have fz0 := free_block hbu8.q f
       have g9 : IntKind.u8.wrap ((s : Int) + 1) = ((s + 1 : Nat) : Int) := by rw [IntKind.wrap_u8]; omega
       have H8 := Lib.hid (And.intro hrd8 (And.intro had8 (And.intro hbu8 hs7)))
       clear hrd8 had8 hbu8 hs7
       go_wp2_with fail
       go_roundg F
       case measure => omega
       case rel =>
        obtain ⟨r1, r2, r3, r4, r5⟩ := HIN.out
        obtain ⟨u1, u2, u3, u4⟩ := H8.out
        refine ⟨A8, m8, c8, u - v, s + 1, rfl, hmc8, ?_, ?_, ?_, by omega, ?_⟩
        · have := u1.setOther (p := ⟨X + 4, f, none⟩) (fun b' off' he => by have := u2 b' off' he; show b' ≠ X + 4; omega) (.int .u8 ((s + 1 : Nat) : Int))
          exact this.more (by simp [World.setCell])
        · intro b' off' he
          have := u2 b' off' he
          omega
        · rw [Nat.mul_add, Nat.mul_one]; omega
        · have := u3.setq f (s + 1)
          rw [List.set_set] at this
          exact this
theorem digT_toNat {T : List Nat} (h : GoodT T) : ∀ x ∈ T, (UInt8.ofNat x).toNat = x := fun x hx => by
 have := h.1 x hx
 simp
 omega
theorem readPre_text {T : List Nat} (hT : GoodT T) (h0 : T ≠ []) (hl : T.length ≤ 400) (g : Bool) : ReadPre (if g = true then ⟨((45 :: T.map UInt8.ofNat) : List UInt8).toArray⟩ else ⟨(T.map UInt8.ofNat).toArray⟩) ⟨(T.map UInt8.ofNat).toArray⟩ g := by
 have hsz : (⟨(T.map UInt8.ofNat).toArray⟩ : ByteArray).size = T.length := by rw [ba_size]; simp
 have hpos : 0 < T.length := List.length_pos_iff.2 h0
 have hget : ∀ k (h : k < (⟨(T.map UInt8.ofNat).toArray⟩ : ByteArray).size), ∃ x, T[k]? = some x ∧ ((⟨(T.map UInt8.ofNat).toArray⟩ : ByteArray)[k]'h).toNat = x := fun k h => by
  have hk : k < T.length := by omega
  refine ⟨T[k], List.getElem?_eq_getElem hk, ?_⟩
  have e : (⟨(T.map UInt8.ofNat).toArray⟩ : ByteArray)[k]'h = UInt8.ofNat T[k] := by
   show (T.map UInt8.ofNat).toArray[k]'_ = _
   simp
  rw [e]
  exact digT_toNat hT _ (List.getElem_mem hk)
 have hdig : ∀ k (h : k < (⟨(T.map UInt8.ofNat).toArray⟩ : ByteArray).size), 48 ≤ ((⟨(T.map UInt8.ofNat).toArray⟩ : ByteArray)[k]'h).toNat ∧ ((⟨(T.map UInt8.ofNat).toArray⟩ : ByteArray)[k]'h).toNat ≤ 57 := fun k h => by
  obtain ⟨x, hx, e⟩ := hget k h
  rw [e]
  exact hT.1 x (List.mem_of_getElem? hx)
 have hone : ∀ h : 0 < (⟨(T.map UInt8.ofNat).toArray⟩ : ByteArray).size, ((((⟨(T.map UInt8.ofNat).toArray⟩ : ByteArray)[0]'h).toNat : Int) == 48) = true → False := fun h he => by
  obtain ⟨x, hx, e⟩ := hget 0 h
  rw [e] at he
  have h48 : (x : Int) = 48 := eq_of_beq he
  refine hT.2 ?_
  cases T with
  | nil => simp at hpos
  | cons t T => simp at hx ⊢; omega
 cases g with
 | true =>
   refine ⟨fun _ => ?_, fun h => ?_, fun _ => ?_, fun h => (by cases h), by omega, by omega, hdig, fun h he => (hone h he).elim⟩
   · show 1 < (⟨((45 :: T.map UInt8.ofNat) : List UInt8).toArray⟩ : ByteArray).size
     rw [ba_size]; simp; omega
   · rfl
   · apply ba_ext
     show ((⟨((45 :: T.map UInt8.ofNat) : List UInt8).toArray⟩ : ByteArray).extract 1 _).data.toList = _
     simp
     exact List.take_of_length_le (by rw [ba_size]; simp)
 | false =>
   refine ⟨fun h => (by cases h), fun h => ?_, fun h => (by cases h), fun _ => rfl, by omega, by omega, hdig, fun h he => (hone h he).elim⟩
   show ((((⟨(T.map UInt8.ofNat).toArray⟩ : ByteArray)[0]'(by omega)).toNat : Int) == 45) = false
   have := (hdig 0 (by omega)).1
   rw [beq_eq_false_iff_ne]
   omega
theorem ldig_text {T : List Nat} (hT : GoodT T) : ldig ⟨(T.map UInt8.ofNat).toArray⟩ = (T.map fun x => x - 48).reverse := by
 unfold ldig
 congr 1
 show ((T.map UInt8.ofNat).toArray.toList).map _ = _
 simp
 intro x hx
 have := digT_toNat hT x hx
 simp at this
 omega
theorem ldig_nine {T : List Nat} (hT : GoodT T) : ∀ x ∈ ldig ⟨(T.map UInt8.ofNat).toArray⟩, x ≤ 9 := fun x hx => by
 rw [ldig_text hT, List.mem_reverse, List.mem_map] at hx
 obtain ⟨y, hy, rfl⟩ := hx
 have := hT.1 y hy
 omega
end Go.Proofs.YtjapgpmoojfhnaaGreatDoor
