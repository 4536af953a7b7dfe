/- The reference: the text of a decimal; Long. Rows that are written. Rows of digits, least significant first: products by sums of columns. ref03's Mul at numbers without a sign. -/
import Derived.Test.YtjapgpmoojfhnaaGreatDoorB14
import Derived.Test.YtjapgpmoojfhnaaGreatDoorB15
import Derived.Test.YtjapgpmoojfhnaaGreatDoorB21
import Derived.StillTailTactics
set_option maxHeartbeats 16000000
set_option maxRecDepth 100000
set_option linter.unusedSimpArgs false
set_option linter.unusedVariables false
namespace Go.Proofs.YtjapgpmoojfhnaaGreatDoor
open Go.RowKit Go.Lib
theorem f3_trans {A B C : Prop} {a W W' : World} (h : A ∧ B ∧ C ∧ Below a.heap.size a W) (hb : Below W.heap.size W W') : Below a.heap.size a W' := h.2.2.2.trans (hb.mono h.2.2.2.size)
theorem box_dec (g : Bool) (D : ByteArray) (e : Int) (w : World) : ∃ (w2 : World) (X : Nat), w.alloc (.cells #[.bool g, .string D, .int .i64 e] 37) = w2 ∧ w.heap.size = X ∧ Below w.heap.size w w2 ∧
 ∀ W, Below w2.heap.size w2 W → W.cell? ⟨X, 0, none⟩ = some (.bool g) ∧ W.cell? ⟨X, 1, none⟩ = some (.string D) ∧ W.cell? ⟨X, 2, none⟩ = some (.int .i64 e) ∧ Below w2.heap.size w2 W := by
 refine ⟨_, _, rfl, rfl, (Below.refl _ _).alloc (Nat.le_refl _) _, fun W hW => ?_⟩
 have h1 := (hW.block w.heap.size (by simp)).trans (heap_alloc_new w _)
 exact ⟨at_block h1 0 _ rfl, at_block h1 1 _ rfl, at_block h1 2 _ rfl, hW⟩
theorem dectext21 (g : Bool) (c : Nat) (e : Int) (w : World) (hc : (decDigits c).length ≤ 5000) (he : -2000 ≤ e ∧ e ≤ 2000) :
 Calls Tryz.prog 21 #[.agg #[.bool g, .string ⟨(decDigits c).toArray⟩, .int .i64 e]] w fun x w' => x = .returned (.string ⟨(Fl.expB g c e).toArray⟩) ∧ Below w.heap.size w w' := by
 obtain ⟨D, hD⟩ : ∃ D : ByteArray, ⟨(decDigits c).toArray⟩ = D := ⟨_, rfl⟩
 obtain ⟨I, hI⟩ : ∃ I : ByteArray, ⟨(itoa e).toArray⟩ = I := ⟨_, rfl⟩
 rw [hD]
 obtain ⟨w2, X, hw2, hX, hb2, hcells⟩ := box_dec g D e w
 have SM := Lib.hid (fun W => small_any e W (by omega))
 rw [hI] at SM
 have hDs : D.size ≤ 5000 := by rw [← hD, str_size]; exact hc
 have hIs : I.size ≤ 5 := by rw [← hI]; exact Dc.itoa_len (by omega) (by omega)
 have hadd1 := fun W => run_string_add_sum (P := Tryz.prog) (w := W) D ⟨#[101]⟩ (by show D.size + 1 ≤ _; omega)
 have hadd2 := fun W => run_string_add_sum (P := Tryz.prog) (w := W) (D ++ ⟨#[101]⟩) I (by rw [ByteArray.size_append]; show D.size + 1 + I.size ≤ _; omega)
 have hadd3 := fun W => run_string_add_sum (P := Tryz.prog) (w := W) ⟨#[45]⟩ (D ++ ⟨#[101]⟩ ++ I) (by rw [ByteArray.size_append, ByteArray.size_append]; show 1 + (D.size + 1 + I.size) ≤ _; omega)
 have HDI := Lib.hid (And.intro hD hI)
 have HC := Lib.hid hcells
 have HW2 := Lib.hid hw2
 have HX := Lib.hid hX
 have hd2 : Below w2.heap.size w2 w2 := Below.refl _ _
 obtain ⟨x0, x1, x2, _⟩ := hcells w2 hd2
 clear hcells hw2 hX hD hI hDs hIs hc he
 go_enter Tryz.func21, Tryz.ntmps21
 go_upto_region 1 with fail
 rw [HW2.out, HX.out]
 go_region_held3 (fun W => W.cell? ⟨X, 0, none⟩ = some (.bool g) ∧ W.cell? ⟨X, 1, none⟩ = some (.string D) ∧ W.cell? ⟨X, 2, none⟩ = some (.int .i64 e) ∧ Below w2.heap.size w2 W)
  ((refine HC.out _ ?_; first | assumption | exact b_drew hd2 | exact b_drew (by assumption)))
  (first | (go_at_call 51; refine (SM.out _).mono ?_; rintro x w5 ⟨rfl, hb5⟩; have hb5' := f3_trans (by assumption) hb5))
 clear x0 x1 x2
 obtain ⟨x0, x1, x2, _⟩ := HC.out w5 hb5'
 have hbz : Below w.heap.size w w5 := hb2.trans (hb5'.mono hb2.size)
 clear hb5
 cases g with
 | true =>
   go_wp2_with fail
   go_ret
   refine ⟨?_, hbz⟩
   rw [show (⟨#[101]⟩ : ByteArray) = ⟨([101] : List UInt8).toArray⟩ from rfl, lit_45, ← HDI.out.1, ← HDI.out.2, str_append, str_append, str_append]
   simp [Fl.expB, Dc.sgnB]
 | false =>
   go_wp2_with fail
   go_ret
   refine ⟨?_, hbz⟩
   rw [show (⟨#[101]⟩ : ByteArray) = ⟨([101] : List UInt8).toArray⟩ from rfl, ← HDI.out.1, ← HDI.out.2, str_append, str_append]
   simp [Fl.expB, Dc.sgnB]
def Row (w : World) (g : Nat) (t : TypeId) (cap : Nat) (xs : List Value) : Prop := ∃ cur, w.heap[g]? = some (.cells cur t (0, 0)) ∧ cur.size = cap ∧ xs.length ≤ cap ∧ cur.toList.take xs.length = xs
section
variable {w w' : World} {g cap : Nat} {t : TypeId} {xs : List Value}
theorem Row.at_ (h : Row w g t cap xs) {i : Nat} {v : Value} (hv : xs[i]? = some v) : w.cell? ⟨g, i, none⟩ = some v := by
 obtain ⟨cur, hg, h1, h2, h3⟩ := h
 refine at_block hg i v ?_
 have hi : i < xs.length := (List.getElem?_eq_some_iff.1 hv).1
 rw [← h3, List.getElem?_take, if_pos hi] at hv
 simpa using hv
theorem Row.free (h : Row w g t cap xs) (i : Nat) : w.frozen? ⟨g, i, none⟩ = false := by
 obtain ⟨cur, hg, _⟩ := h
 exact free_block hg i
theorem Row.below {B : Nat} (h : Row w g t cap xs) (hb : Below B w w') (hg : g < B) : Row w' g t cap xs := by
 obtain ⟨cur, hc, hr⟩ := h
 exact ⟨cur, (hb.block g hg).trans hc, hr⟩
theorem Row.lt (h : Row w g t cap xs) : g < w.heap.size := by
 obtain ⟨cur, hg, _⟩ := h
 exact lt_of_block hg
theorem Row.on (h : Row w g t cap xs) (hb : Below w.heap.size w w') : Row w' g t cap xs := h.below hb h.lt
theorem Row.set (h : Row w g t cap xs) {i : Nat} (_hi : i < xs.length) (v : Value) : Row (w.setCell ⟨g, i, none⟩ v) g t cap (xs.set i v) := by
 obtain ⟨cur, hg, h1, h2, h3⟩ := h
 refine ⟨cur.setIfInBounds i v, block_set hg i v, by simp [h1], by simpa using h2, ?_⟩
 rw [List.length_set, Array.toList_setIfInBounds, List.take_set, h3]
end
theorem alloc_kp {w : World} {k : Nat} {o b : Obj} (h : w.heap[k]? = some b) : (w.alloc o).heap[k]? = some b := by
 rw [Below.heap_alloc _ _ _ (lt_of_block h)]; exact h
theorem new_kp (w : World) (cs : Array Value) (t : TypeId) {k : Nat} (hk : k = w.heap.size) : (w.alloc (.cells cs t)).heap[k]? = some (.cells cs t (0, 0)) := by
 subst hk; exact heap_alloc_new w _
theorem Reads.kept {w w' : World} {A : Option Addr} {n : Nat} {xs : List Value} (h : Reads w w.heap.size A n xs) (hs : w.heap.size ≤ w'.heap.size) (hk : ∀ b off, A = some ⟨b, off, none⟩ → b < w.heap.size → w'.heap[b]? = w.heap[b]?) : Reads w' w'.heap.size A n xs := by
 refine ⟨h.1, fun hn => ?_⟩
 obtain ⟨b, off, e, hb, hc⟩ := h.2 hn
 refine ⟨b, off, e, by omega, fun j u hu => ?_⟩
 have h1 := hc j u hu
 simp only [World.cell?, hk b off e hb] at h1 ⊢
 exact h1
theorem i64s_set' (l : List Nat) (q x : Nat) : i64s (l.set q x) = (i64s l).set q (.int .i64 (x : Int)) := by simp [i64s, List.map_set]
theorem dv_set : ∀ {l : List Nat} {j x : Nat}, l[j]? = some x → ∀ y, dv (l.set j (x + y)) = dv l + 10 ^ j * y
 | [], _, _, h, _ => by simp at h
 | d :: l, 0, _, h, y => by
   simp at h
   subst h
   rw [List.set_cons_zero, dv, dv, Nat.pow_zero]
   omega
 | d :: l, j + 1, _, h, y => by
   rw [List.getElem?_cons_succ] at h
   rw [List.set_cons_succ, dv, dv, dv_set h y, Nat.pow_succ, Nat.mul_add, Nat.mul_comm (10 ^ j) 10, Nat.mul_assoc]
   omega
theorem dv_rep (n : Nat) : dv (List.replicate n 0) = 0 := dv_zeros _ fun _ hx => (List.mem_replicate.1 hx).2
theorem dv_take_succ {l : List Nat} {i x : Nat} (hx : l[i]? = some x) : dv (l.take (i + 1)) = dv (l.take i) + 10 ^ i * x := by
 have hk : i < l.length := by
  rcases Nat.lt_or_ge i l.length with h1 | h1
  · exact h1
  · rw [List.getElem?_eq_none h1] at hx; cases hx
 rw [List.take_add_one, hx, dv_append, List.length_take, Nat.min_eq_left (by omega)]
 simp [dv]
theorem mul_step {s la lb : List Nat} {i k x y u : Nat} (hy : lb[k]? = some y) (hu : s[i + k]? = some u) (h : dv s = dv (la.take i) * dv lb + 10 ^ i * (x * dv (lb.take k))) :
 dv (s.set (i + k) (u + x * y)) = dv (la.take i) * dv lb + 10 ^ i * (x * dv (lb.take (k + 1))) := by
 rw [dv_set hu, h, dv_take_succ hy, Nat.mul_add x, Nat.mul_add (10 ^ i), Nat.add_assoc, Nat.pow_add, Nat.mul_assoc, Nat.mul_left_comm x]
theorem mul_row {s la lb : List Nat} {i x : Nat} (hx : la[i]? = some x) (h : dv s = dv (la.take i) * dv lb + 10 ^ i * (x * dv (lb.take lb.length))) : dv s = dv (la.take (i + 1)) * dv lb := by
 rw [h, List.take_length, dv_take_succ hx, Nat.add_mul, Nat.mul_assoc]
theorem mul_begin {s la lb : List Nat} {i x : Nat} (h : dv s = dv (la.take i) * dv lb) : dv s = dv (la.take i) * dv lb + 10 ^ i * (x * dv (lb.take 0)) := by
 rw [h, List.take_zero, dv, Nat.mul_zero, Nat.mul_zero, Nat.add_zero]
theorem carry_step {s o : List Nat} {i c x : Nat} (hx : s[i]? = some x) (ho : o.length = i) (h : dv o + 10 ^ i * c = dv (s.take i)) : dv (o ++ [(c + x) % 10]) + 10 ^ (i + 1) * ((c + x) / 10) = dv (s.take (i + 1)) := by
 rw [dv_take_succ hx, ← h, dv_append, ho, Nat.pow_succ, Nat.mul_assoc]
 have e : dv [(c + x) % 10] = (c + x) % 10 := by simp [dv]
 have e2 : 10 ^ i * ((c + x) % 10) + 10 ^ i * (10 * ((c + x) / 10)) = 10 ^ i * c + 10 ^ i * x := by
  rw [← Nat.mul_add, ← Nat.mul_add]
  congr 1
  omega
 rw [e]
 omega
theorem carry_end {s o la lb : List Nat} {n c : Nat} (hs : s.length = n) (hn : la.length + lb.length ≤ n) (ha : ∀ x ∈ la, x ≤ 9) (hb : ∀ x ∈ lb, x ≤ 9) (h : dv o + 10 ^ n * c = dv (s.take n)) (hv : dv s = dv la * dv lb) : dv o = dv la * dv lb := by
 rw [List.take_of_length_le (by omega), hv] at h
 have h1 := dv_lt ha
 have h2 := dv_lt hb
 have h3 : dv la * dv lb < 10 ^ (la.length + lb.length) := by
  rw [Nat.pow_add]
  exact Nat.mul_lt_mul_of_lt_of_le h1 (Nat.le_of_lt h2) (Nat.pow_pos (by decide))
 have h4 : 10 ^ (la.length + lb.length) ≤ 10 ^ n := Nat.pow_le_pow_right (by decide) hn
 have hc : c = 0 := by
  rcases Nat.eq_zero_or_pos c with h5 | h5
  · exact h5
  · have := Nat.mul_le_mul_left (10 ^ n) h5
    omega
 rw [hc, Nat.mul_zero] at h
 omega
structure MulBlk (w : World) (X n n2 c c2 T : Nat) (A B : Option Addr) (s : List Nat) (wx : World) : Prop where
 ba : wx.heap[X]? = some (.cells #[.bool false, .slice A n c] 33 (0, 0))
 bb : wx.heap[X + 1]? = some (.cells #[.bool false, .slice B n2 c2] 33 (0, 0))
 r1 : wx.heap[X + 2]? = some (.cells #[.bool false, .slice none 0 0] 33 (0, 0))
 q : Row wx (X + 3) 3 T (i64s s)
 len : s.length = T
 sz : X + 4 ≤ wx.heap.size
 bel : Below X w wx
section
variable {w wx wy : World} {X n n2 c c2 T : Nat} {A B : Option Addr} {s : List Nat}
theorem MulBlk.on (h : MulBlk w X n n2 c c2 T A B s wx) (hb : Below (X + 4) wx wy) : MulBlk w X n n2 c c2 T A B s wy := by
 obtain ⟨h1, h2, h3, h4, h5, h6, h7⟩ := h
 exact ⟨(hb.block X (by omega)).trans h1, (hb.block (X + 1) (by omega)).trans h2, (hb.block (X + 2) (by omega)).trans h3, h4.below hb (by omega), h5, by have := hb.size; omega, h7.trans (hb.mono (by omega))⟩
theorem MulBlk.setq (h : MulBlk w X n n2 c c2 T A B s wx) {k : Nat} (hk : k < T) (x : Nat) : MulBlk w X n n2 c c2 T A B (s.set k x) (wx.setCell ⟨X + 3, k, none⟩ (.int .i64 (x : Int))) := by
 obtain ⟨h1, h2, h3, h4, h5, h6, h7⟩ := h
 refine ⟨?_, ?_, ?_, ?_, by rw [List.length_set]; exact h5, by simp [World.setCell]; omega, h7.setCell (p := ⟨X + 3, k, none⟩) (by show X ≤ X + 3; omega) _⟩
 · rw [Below.heap_setCell _ _ _ _ (show X ≠ X + 3 by omega)]; exact h1
 · rw [Below.heap_setCell _ _ _ _ (show X + 1 ≠ X + 3 by omega)]; exact h2
 · rw [Below.heap_setCell _ _ _ _ (show X + 2 ≠ X + 3 by omega)]; exact h3
 · rw [i64s_set']
   exact h4.set (by rw [i64s_len]; omega) _
end
theorem mul_any (A B : Option Addr) (n n2 c c2 : Nat) (la lb : List Nat) (w : World) (hr : Reads w w.heap.size A n (u8s la)) (h2 : Reads w w.heap.size B n2 (u8s lb)) (hn : n ≤ 2000) (hn2 : n2 ≤ 2000) (ha : ∀ x ∈ la, x ≤ 9) (hb : ∀ x ∈ lb, x ≤ 9) :
 Calls Tryz.prog 52 #[.agg #[.bool false, .slice A n c], .agg #[.bool false, .slice B n2 c2]] w fun x w' => (∃ A' m c', m ≤ c' ∧ (∀ b off, A' = some ⟨b, off, none⟩ → w.heap.size < b) ∧ Reads w' w'.heap.size A' m (u8s (Fl.digL (dv la * dv lb))) ∧ x = .returned (.agg #[.bool false, .slice A' m c'])) ∧ Below w.heap.size w w' := by
 obtain ⟨i0, hi, hz0, hz1, hz2⟩ := info_parts info5
 have hla : la.length = n := by have := hr.1; rwa [u8s_len] at this
 have hlb : lb.length = n2 := by have := h2.1; rwa [u8s_len] at this
 obtain ⟨T, hT⟩ : ∃ T, n + n2 + 1 = T := ⟨_, rfl⟩
 obtain ⟨S, hS⟩ : ∃ S, n + n2 = S := ⟨_, rfl⟩
 have hmk := fun W => make_ints T (by omega) W
 have g1 : IntKind.i64.wrap ((n : Int) + (n2 : Int)) = (S : Int) := by rw [← hS, Int.natCast_add]; exact IntWalk.i64_in _ (by omega)
 have g2 : IntKind.i64.wrap ((S : Int) + 1) = (T : Int) := by have := IntWalk.i64_in ((S : Int) + 1) (by omega); rw [this]; omega
 obtain ⟨w2, hw2⟩ : ∃ w2, ((((w.alloc (Obj.cells #[.bool false, .slice A n c] 33)).alloc (Obj.cells #[.bool false, .slice B n2 c2] 33)).alloc (Obj.cells #[.bool false, .slice none 0 0] 33)).alloc (Obj.cells (i64s (List.replicate T 0)).toArray 3)) = w2 := ⟨_, rfl⟩
 have hblk : MulBlk w w.heap.size n n2 c c2 T A B (List.replicate T 0) w2 := by
  rw [← hw2]
  refine ⟨?_, ?_, ?_, ?_, by simp, by simp, ?_⟩
  · exact alloc_kp (alloc_kp (alloc_kp (new_kp _ _ _ rfl)))
  · exact alloc_kp (alloc_kp (new_kp _ _ _ (by simp)))
  · exact alloc_kp (new_kp _ _ _ (by simp))
  · exact ⟨_, new_kp _ _ _ (by simp), by simp [i64s_len], by simp [i64s_len], by simp⟩
  · exact ((((Below.refl _ _).alloc (Nat.le_refl _) _).alloc (by simp) _).alloc (by simp <;> omega) _).alloc (by simp <;> omega) _
 have HW2 := Lib.hid hw2
 clear hw2
 go_enter Tryz.func52, Tryz.ntmps52
 go_upto_block 0 with fail
 rw [HW2.out]
 obtain ⟨X, hX⟩ : ∃ X, w.heap.size = X := ⟨_, rfl⟩
 rw [hX] at hr h2 hblk
 rw [hX]
 have HX := Lib.hid hX
 have HLL := Lib.hid (And.intro hla hlb)
 have HD := Lib.hid (And.intro ha hb)
 have HT := Lib.hid hT
 have hTs : T ≤ 4001 := by omega
 have hXs : X + 4 ≤ w2.heap.size := hblk.sz
 clear hX hla hlb ha hb hT hmk g1 g2 hS
 go_cut [6, 7] (fun _ _ wx => ∃ s, MulBlk w X n n2 c c2 T A B s wx ∧ dv s = dv la * dv lb ∧ (∀ x ∈ s, x ≤ 324000000))
 case first =>
  go_wp2_with fail
  go_loopg [6, 7] n (fun f t6 _ wx => ∃ (i : Nat) (s : List Nat), t6 = .int .i64 (i : Int) ∧ i + f = n ∧ MulBlk w X n n2 c c2 T A B s wx ∧ dv s = dv (la.take i) * dv lb ∧ (∀ x ∈ s, x ≤ 162000 * i))
  case atStart => exact ⟨0, List.replicate T 0, rfl, by omega, hblk, by rw [dv_rep, List.take_zero, dv, Nat.zero_mul], fun x hx => by rw [(List.mem_replicate.1 hx).2]; omega⟩
  case round =>
   obtain ⟨i, s, rfl, hif, hbk, hdv, hbd⟩ := hrel
   have p1 := at_block hbk.ba 1 _ rfl
   have q1 := at_block hbk.bb 1 _ rfl
   cases gk with
   | zero =>
     obtain rfl : i = n := by omega
     have hin : decide ((i : Int) < (i : Int)) = false := decide_eq_false (by omega)
     have HE := Lib.hid (And.intro hbk (And.intro hdv hbd))
     clear hblk hbk hdv hbd
     go_wp2_with fail
     go_meet
     obtain ⟨e1, e2, e3⟩ := HE.out
     refine ⟨s, e1, ?_, fun x hx => by have := e3 x hx; omega⟩
     rw [e2, List.take_of_length_le (by rw [HLL.out.1]; exact Nat.le_refl _)]
   | succ f =>
     have hin : decide ((i : Int) < (n : Int)) = true := decide_eq_true (by omega)
     have hin' : (i : Int) < (n : Int) := by omega
     have hi0 : (0 : Int) ≤ (i : Int) := by omega
     obtain ⟨x, hx⟩ : ∃ x, la[i]? = some x := ⟨_, List.getElem?_eq_getElem (by rw [HLL.out.1]; omega)⟩
     have hx9 := HD.out.1 x (List.mem_of_getElem? hx)
     have HX0 := Lib.hid hx
     have HE := Lib.hid (And.intro hbk (And.intro hdv hbd))
     clear hblk hbk hdv hbd hx
     go_wp2_with fail
     clear p1 q1
     go_loopg [7] n2 (fun f t7 wx => ∃ (k : Nat) (s : List Nat), t7 = .int .i64 (k : Int) ∧ k + f = n2 ∧ MulBlk w X n n2 c c2 T A B s wx ∧ dv s = dv (la.take i) * dv lb + 10 ^ i * (x * dv (lb.take k)) ∧ (∀ x ∈ s, x ≤ 162000 * i + 81 * k))
     case atStart => exact ⟨0, s, rfl, by omega, HE.out.1, mul_begin HE.out.2.1, fun x hx => by have := HE.out.2.2 x hx; omega⟩
     case round =>
      obtain ⟨k, s2, rfl, hkf, hbk, hdv, hbd⟩ := hrel
      have p1 := at_block hbk.ba 1 _ rfl
      have q1 := at_block hbk.bb 1 _ rfl
      cases gk with
      | zero =>
        obtain rfl : k = n2 := by omega
        have hkn : decide ((k : Int) < (k : Int)) = false := decide_eq_false (by omega)
        have g9 : IntKind.i64.wrap ((i : Int) + 1) = ((i + 1 : Nat) : Int) := by have := IntWalk.i64_in ((i : Int) + 1) (by omega); rw [this]; omega
        have HE2 := Lib.hid (And.intro hbk (And.intro hdv hbd))
        clear hbk hdv hbd
        go_wp2_with fail
        go_roundg f
        case measure => omega
        case rel =>
         obtain ⟨e1, e2, e3⟩ := HE2.out
         refine ⟨i + 1, s2, rfl, by omega, e1, ?_, fun x hx => by have := e3 x hx; omega⟩
         refine mul_row HX0.out ?_
         rw [HLL.out.2]
         exact e2
      | succ f3 =>
        have hkn : decide ((k : Int) < (n2 : Int)) = true := decide_eq_true (by omega)
        have hkn' : (k : Int) < (n2 : Int) := by omega
        have hk0 : (0 : Int) ≤ (k : Int) := by omega
        obtain ⟨p, hp⟩ : ∃ p, i + k = p := ⟨_, rfl⟩
        have hpT' : p < T := by have := HT.out; omega
        have hp0 : (0 : Int) ≤ (p : Int) := by omega
        have hpT : (p : Int) < (T : Int) := by omega
        obtain ⟨v, hv⟩ : ∃ v, s2[p]? = some v := ⟨_, List.getElem?_eq_getElem (by rw [hbk.len]; exact hpT')⟩
        have hvb := hbd v (List.mem_of_getElem? hv)
        obtain ⟨b1, off1, u1, rfl, hb1, hu1, hcell1⟩ := (hr.below hbk.bel).at_ (k := i) (by omega)
        obtain ⟨x', hx', rfl⟩ := u8_at hu1
        obtain rfl : x' = x := by have := HX0.out; rw [hx'] at this; exact Option.some.inj this
        obtain ⟨b2, off2, u2, rfl, hb2, hu2, hcell2⟩ := (h2.below hbk.bel).at_ (k := k) (by omega)
        obtain ⟨y, hy, rfl⟩ := u8_at hu2
        have hy9 := HD.out.2 y (List.mem_of_getElem? hy)
        have hcv := hbk.q.at_ (i64s_get hv)
        have hfv := hbk.q.free p
        obtain ⟨z, hz⟩ : ∃ z, x' * y = z := ⟨_, rfl⟩
        have hz81 : z ≤ 81 := by rw [← hz]; exact Nat.le_trans (Nat.mul_le_mul_right y hx9) (by omega)
        have hw1 : IntKind.i64.wrap ((i : Int) + (k : Int)) = (p : Int) := by rw [← hp, Int.natCast_add]; exact IntWalk.i64_in _ (by omega)
        have hw3 : IntKind.i64.wrap ((x' : Int) * (y : Int)) = (z : Int) := by rw [← hz, Int.natCast_mul]; exact IntWalk.i64_in _ (by rw [← Int.natCast_mul, hz]; omega)
        have hw4 : IntKind.i64.wrap ((v : Int) + (z : Int)) = ((v + z : Nat) : Int) := IntWalk.i64_in _ (by omega)
        have hw5 : IntKind.i64.wrap (x' : Int) = (x' : Int) := IntWalk.i64_in _ (by omega)
        have hw6 : IntKind.i64.wrap (y : Int) = (y : Int) := IntWalk.i64_in _ (by omega)
        have g9 : IntKind.i64.wrap ((k : Int) + 1) = ((k + 1 : Nat) : Int) := by have := IntWalk.i64_in ((k : Int) + 1) (by omega); rw [this]; omega
        go_wp2_with fail
        go_still_tail 21, (by kernel_rfl)
        change wpList _ _ _ _ _ wr.drew
        have HE2 := Lib.hid (And.intro hbk (And.intro hdv hbd))
        have HXY := Lib.hid (And.intro hy (And.intro hv (And.intro hp hz)))
        clear hbk hdv hbd hy hv hz hp hx' hu1 hu2
        go_wp2_with fail
        go_roundg f3
        case measure => omega
        case rel =>
         obtain ⟨e1, e2, e3⟩ := HE2.out
         obtain ⟨k1, k2, k3, k4⟩ := HXY.out
         have hnew := (e1.on (Below.drew (Below.refl _ _))).setq hpT' (v + z)
         refine ⟨k + 1, s2.set p (v + z), rfl, by omega, hnew, ?_, fun u hu => ?_⟩
         · subst k3 k4
           exact mul_step k1 k2 e2
         · rcases List.mem_or_eq_of_mem_set hu with hu | hu
           · have := e3 u hu; omega
           · rw [hu]; omega
 case rest =>
  obtain ⟨s, hbk, hdv, hbd⟩ := hcut
  obtain ⟨w4, hw4⟩ : ∃ W, W = wc := ⟨_, rfl⟩
  subst hw4
  have hrs : ∀ (W : World), Below w4.heap.size w4 W → Row W (X + 3) 3 T (i64s s) := fun W hW => hbk.q.on hW
  have hslen := hbk.len
  have hsz4 := hbk.sz
  have HBK := Lib.hid (And.intro hbk (And.intro hdv hbd))
  have HROW := Lib.hid hrs
  clear hbk hdv hbd hrs hblk
  go_wp2_with fail
  go_loopg [8, 9, 10] T (fun f t8 t9 t10 wx => ∃ (i cy : Nat) (lo : List Nat), t10 = .int .i64 (i : Int) ∧ i + f = T ∧ t9 = .int .i64 (cy : Int) ∧ cy ≤ 324000000 ∧ lo.length = i ∧ (∀ x ∈ lo, x ≤ 9) ∧ dv lo + 10 ^ i * cy = dv (s.take i) ∧ wx.ownsRow w4.heap.size 5 1 t8 i (u8s lo) ∧ Below w4.heap.size w4 wx)
  case atStart => exact ⟨0, 0, [], rfl, by omega, rfl, by omega, rfl, by simp, by simp [dv], World.ownsRow_nil _ _ _ _, Below.refl _ _⟩
  case round =>
   obtain ⟨i, cy, lo, rfl, hif, rfl, hcy, hlo, hlo9, hdv, hown, hbx⟩ := hrel
   cases gk with
   | zero =>
     obtain rfl : i = T := by omega
     have hin : decide ((i : Int) < (i : Int)) = false := decide_eq_false (by omega)
     obtain ⟨A', c', rfl, hcc, hrd⟩ := own_slice hown
     have had := own_addr hown
     have SG := Lib.hid (fun W (hW : Below wr.heap.size wr W) => signed_pos A' i c' lo W (hrd.on hW) hcc (by omega))
     have hbk := HBK.out.1.on (hbx.mono hsz4)
     have p0 := at_block hbk.ba 0 _ rfl
     have q0 := at_block hbk.bb 0 _ rfl
     have HE := Lib.hid (And.intro hbk (And.intro hrd (And.intro had (And.intro hlo (And.intro hlo9 (And.intro hdv (And.intro hbx hcc)))))))
     clear hbk hrd had hlo hlo9 hdv hbx hown hcc
     go_wp2_with fail
     refine (SG.out _ (Below.refl _ _)).mono ?_
     rintro y w5 ⟨⟨m, hm, rfl⟩, hb5⟩
     have hbk5 := HE.out.1.on (hb5.mono HE.out.1.sz)
     have r20 := at_block hbk5.r1 0 _ rfl
     have r21 := at_block hbk5.r1 1 _ rfl
     have s20 := free_block hbk5.r1 0
     have s21 := free_block hbk5.r1 1
     have HM := Lib.hid (And.intro hm (And.intro hb5 hbk5))
     clear hm hb5 hbk5 p0 q0
     go_wp2_with fail
     refine bodyPost_ret (v := .agg #[.bool false, .slice A' m c']) (by simp [results, Tryz.results52, go_sem, r20, r21]) rfl ?_
     obtain ⟨e1, e2, e3, e4, e5, e6, e7, e8⟩ := HE.out
     obtain ⟨k1, k2, k3⟩ := HM.out
     obtain ⟨b1, b2, b3⟩ := HBK.out
     have hval := carry_end hslen (by rw [HLL.out.1, HLL.out.2]; have := HT.out; omega) HD.out.1 HD.out.2 e6 b2
     have e : (u8s lo).take m = u8s (Fl.digL (dv la * dv lb)) := by
      rw [← hval, ← digL_trim e4 e5 k1]
      simp [u8s, List.map_take]
     have h3 := (e2.on k2).take m k1.1
     rw [e] at h3
     have hs5 := k3.sz
     have hm1 := k1.1
     refine ⟨⟨A', m, c', by omega, ?_, ?_, rfl⟩, ?_⟩
     · intro b off he
       have := e3 b off he
       rw [HX.out]
       omega
     · refine h3.kept (by simp [World.setCell]) (fun b off he _ => ?_)
       have := e3 b off he
       rw [Below.heap_setCell _ _ _ _ (show b ≠ X + 1 + 1 by omega), Below.heap_setCell _ _ _ _ (show b ≠ X + 1 + 1 by omega)]
     · rw [HX.out]
       exact (k3.bel.setCell (p := ⟨X + 1 + 1, 0, none⟩) (by show X ≤ X + 1 + 1; omega) _).setCell (p := ⟨X + 1 + 1, 1, none⟩) (by show X ≤ X + 1 + 1; omega) _
   | succ f =>
     have hin : decide ((i : Int) < (T : Int)) = true := decide_eq_true (by omega)
     have hin' : (i : Int) < (T : Int) := by omega
     have hi0 : (0 : Int) ≤ (i : Int) := by omega
     obtain ⟨x, hx⟩ : ∃ x, s[i]? = some x := ⟨_, List.getElem?_eq_getElem (by rw [hslen]; omega)⟩
     have hxb := HBK.out.2.2 x (List.mem_of_getElem? hx)
     have hcell := (HROW.out wr hbx).at_ (i64s_get hx)
     obtain ⟨u, hu⟩ : ∃ u, cy + x = u := ⟨_, rfl⟩
     obtain ⟨d, hd⟩ : ∃ d, u % 10 = d := ⟨_, rfl⟩
     obtain ⟨cc, hcc⟩ : ∃ cc, u / 10 = cc := ⟨_, rfl⟩
     have g1 : IntKind.i64.wrap ((cy : Int) + (x : Int)) = (u : Int) := by rw [← hu, Int.natCast_add]; exact IntWalk.i64_in _ (by omega)
     have hm1 : (u : Int) % 10 = (d : Int) := by omega
     have hm2 : Int.tmod (u : Int) 10 = (d : Int) := by rw [Int.tmod_eq_emod_of_nonneg (by omega)]; exact hm1
     have hm3 : (u : Int) / 10 = (cc : Int) := by omega
     have hm4 : Int.tdiv (u : Int) 10 = (cc : Int) := by rw [Int.tdiv_eq_ediv_of_nonneg (by omega)]; exact hm3
     have g3 : IntKind.i64.wrap (d : Int) = (d : Int) := IntWalk.i64_in _ (by omega)
     have g4 : IntKind.u8.wrap (d : Int) = (d : Int) := by rw [IntKind.wrap_u8]; omega
     have g5 : IntKind.i64.wrap (cc : Int) = (cc : Int) := IntWalk.i64_in _ (by omega)
     have g9 : IntKind.i64.wrap ((i : Int) + 1) = ((i + 1 : Nat) : Int) := by have := IntWalk.i64_in ((i : Int) + 1) (by omega); rw [this]; omega
     have hnew := carry_step (o := lo) hx hlo hdv
     rw [hu, hd, hcc] at hnew
     have hd9 : d ≤ 9 := by omega
     have hcc2 : cc ≤ 324000000 := by omega
     obtain ⟨A', c', rfl⟩ := own_form hown
     obtain ⟨V, hV⟩ : ∃ V, u8s lo = V := ⟨_, rfl⟩
     rw [hV] at hown
     have HV := Lib.hid (And.intro hV (And.intro hnew (And.intro hlo (And.intro hlo9 hd9))))
     have hii : i + f + 1 = T := by omega
     have hws := hbx.size
     clear hV hnew hlo hlo9 hd9 hdv hx hu hd hcc hif hm1 hm3 hxb
     go_wp2_with (at_builtin; refine wpList_append_own _ rfl _ _ 31 rfl w4.heap.size 5 i0 (.int .u8 0) 1 1 Tryz.underlying31 hi hz0 hz1 hz2 rfl (by decide) _ _ _ rfl (hown.alloc _) ⟨wr.heap.size, 0, none⟩ 1 1 [.int .u8 (d : Int)] rfl rfl ?c1 ?c2 ?c3 ?c4 ?c5 ?_)
     case c1 =>
      intro j u' hj
      match j, hj with
      | 0, hj => simp at hj; subst hj; simp [Addr.add]
     case c2 => intro u' hu'; simp at hu'; subst hu'; rfl
     case c3 => unfold maxLen; omega
     case c4 => omega
     case c5 => simp <;> omega
     intro v' w3 hown3 hgr3 _
     have hb3 : Below w4.heap.size wr w3 := ((Below.refl _ _).alloc hws _).grown hgr3 (by simp <;> omega) (fun k hk => (hown.lt k hk).1)
     have H3 := Lib.hid (And.intro hown3 (hbx.trans hb3))
     clear hgr3 hown hown3 hb3
     go_wp2_with fail
     go_roundg f
     case measure => omega
     case rel =>
      obtain ⟨k1, k2, k3, k4, k5⟩ := HV.out
      refine ⟨i + 1, cc, lo ++ [d], rfl, by omega, rfl, hcc2, by rw [List.length_append, k3]; rfl, ?_, k2, ?_, H3.out.2⟩
      · intro z hz
        rcases List.mem_append.1 hz with h | h
        · exact k4 z h
        · rw [List.mem_singleton.1 h]; exact k5
      · have e : u8s (lo ++ [d]) = V ++ [.int .u8 (d : Int)] := by rw [← k1]; simp [u8s]
        rw [e]
        exact H3.out.1
end Go.Proofs.YtjapgpmoojfhnaaGreatDoor
