/- The reference: the text of a decimal; Long. Rows that are written. Rows of digits, least significant first: products by sums of columns. ref03's Mul at numbers without a sign. The reference: powers. The reference: the decimal that is equal to a float. The reference: the decimal of nought. The law BinaryDecimals: its walk where the decimal is not too long, over what it calls. The law BinaryDecimals returns true for every word. -/
import Derived.Test.YtjapgpmoojfhnaaGreatDoorB07
import Derived.Test.YtjapgpmoojfhnaaGreatDoorB13
import Derived.Test.YtjapgpmoojfhnaaGreatDoorB19
import Derived.Test.YtjapgpmoojfhnaaGreatDoorB22
import Derived.StillTailTactics
namespace Go.Proofs.YtjapgpmoojfhnaaGreatDoor
open Go.RowKit Go.Lib

theorem f3_trans {A B C : Prop} {a W W' : World} (h : A ∧ B ∧ C ∧ Below a.heap.size a W) (hb : Below W.heap.size W W') : Below a.heap.size a W' := h.2.2.2.trans (hb.mono h.2.2.2.size)
theorem box_dec (g : Bool) (D : ByteArray) (e : Int) (w : World) : ∃ (w2 : World) (X : Nat), w.alloc (.cells #[.bool g, .string D, .int .i64 e] 37) = w2 ∧ w.heap.size = X ∧ Below w.heap.size w w2 ∧
    ∀ W, Below w2.heap.size w2 W → W.cell? ⟨X, 0, none⟩ = some (.bool g) ∧ W.cell? ⟨X, 1, none⟩ = some (.string D) ∧ W.cell? ⟨X, 2, none⟩ = some (.int .i64 e) ∧ Below w2.heap.size w2 W := by
  refine ⟨_, _, rfl, rfl, (Below.refl _ _).alloc (Nat.le_refl _) _, fun W hW => ?_⟩
  have h1 := (hW.block w.heap.size (by simp)).trans (heap_alloc_new w _)
  exact ⟨at_block h1 0 _ rfl, at_block h1 1 _ rfl, at_block h1 2 _ rfl, hW⟩
set_option maxHeartbeats 2000000 in
set_option maxRecDepth 100000 in
theorem dectext21 (g : Bool) (c : Nat) (e : Int) (w : World) (hc : (decDigits c).length ≤ 5000) (he : -2000 ≤ e ∧ e ≤ 2000) :
    Calls Tryz.prog 21 #[.agg #[.bool g, .string ⟨(decDigits c).toArray⟩, .int .i64 e]] w fun x w' => x = .returned (.string ⟨(Fl.expB g c e).toArray⟩) ∧ Below w.heap.size w w' := by
  obtain ⟨D, hD⟩ : ∃ D : ByteArray, ⟨(decDigits c).toArray⟩ = D := ⟨_, rfl⟩
  obtain ⟨I, hI⟩ : ∃ I : ByteArray, ⟨(itoa e).toArray⟩ = I := ⟨_, rfl⟩
  rw [hD]
  obtain ⟨w2, X, hw2, hX, hb2, hcells⟩ := box_dec g D e w
  have SM := Lib.hid (fun W => small_any e W (by omega))
  rw [hI] at SM
  have hDs : D.size ≤ 5000 := by rw [← hD, str_size]; exact hc
  have hIs : I.size ≤ 5 := by rw [← hI]; exact Dc.itoa_len (by omega) (by omega)
  have hadd1 := fun W => run_string_add_sum (P := Tryz.prog) (w := W) D ⟨#[101]⟩ (by show D.size + 1 ≤ _; omega)
  have hadd2 := fun W => run_string_add_sum (P := Tryz.prog) (w := W) (D ++ ⟨#[101]⟩) I (by rw [ByteArray.size_append]; show D.size + 1 + I.size ≤ _; omega)
  have hadd3 := fun W => run_string_add_sum (P := Tryz.prog) (w := W) ⟨#[45]⟩ (D ++ ⟨#[101]⟩ ++ I) (by rw [ByteArray.size_append, ByteArray.size_append]; show 1 + (D.size + 1 + I.size) ≤ _; omega)
  have HDI := Lib.hid (And.intro hD hI)
  have HC := Lib.hid hcells
  have HW2 := Lib.hid hw2
  have HX := Lib.hid hX
  have hd2 : Below w2.heap.size w2 w2 := Below.refl _ _
  obtain ⟨x0, x1, x2, _⟩ := hcells w2 hd2
  clear hcells hw2 hX hD hI hDs hIs hc he
  go_enter Tryz.func21, Tryz.ntmps21
  go_upto_region 1 with fail
  rw [HW2.out, HX.out]
  go_region_held3 (fun W => W.cell? ⟨X, 0, none⟩ = some (.bool g) ∧ W.cell? ⟨X, 1, none⟩ = some (.string D) ∧ W.cell? ⟨X, 2, none⟩ = some (.int .i64 e) ∧ Below w2.heap.size w2 W)
    ((refine HC.out _ ?_; first | assumption | exact b_drew hd2 | exact b_drew (by assumption)))
    (first | (go_at_call 51; refine (SM.out _).mono ?_; rintro x w5 ⟨rfl, hb5⟩; have hb5' := f3_trans (by assumption) hb5))
  clear x0 x1 x2
  obtain ⟨x0, x1, x2, _⟩ := HC.out w5 hb5'
  have hbz : Below w.heap.size w w5 := hb2.trans (hb5'.mono hb2.size)
  clear hb5
  cases g with
  | true =>
    go_wp2_with fail
    go_ret
    refine ⟨?_, hbz⟩
    rw [show (⟨#[101]⟩ : ByteArray) = ⟨([101] : List UInt8).toArray⟩ from rfl, lit_45, ← HDI.out.1, ← HDI.out.2, str_append, str_append, str_append]
    simp [Fl.expB, Dc.sgnB]
  | false =>
    go_wp2_with fail
    go_ret
    refine ⟨?_, hbz⟩
    rw [show (⟨#[101]⟩ : ByteArray) = ⟨([101] : List UInt8).toArray⟩ from rfl, ← HDI.out.1, ← HDI.out.2, str_append, str_append]
    simp [Fl.expB, Dc.sgnB]
end Go.Proofs.YtjapgpmoojfhnaaGreatDoor

namespace Go.Proofs.YtjapgpmoojfhnaaGreatDoor
open Go.RowKit Go.Lib

/-- A block whose first cells are a row, and that may be written. -/
def Row (w : World) (g : Nat) (t : TypeId) (cap : Nat) (xs : List Value) : Prop := ∃ cur, w.heap[g]? = some (.cells cur t (0, 0)) ∧ cur.size = cap ∧ xs.length ≤ cap ∧ cur.toList.take xs.length = xs
section
variable {w w' : World} {g cap : Nat} {t : TypeId} {xs : List Value}
theorem Row.at_ (h : Row w g t cap xs) {i : Nat} {v : Value} (hv : xs[i]? = some v) : w.cell? ⟨g, i, none⟩ = some v := by
  obtain ⟨cur, hg, h1, h2, h3⟩ := h
  refine at_block hg i v ?_
  have hi : i < xs.length := (List.getElem?_eq_some_iff.1 hv).1
  rw [← h3, List.getElem?_take, if_pos hi] at hv
  simpa using hv
theorem Row.free (h : Row w g t cap xs) (i : Nat) : w.frozen? ⟨g, i, none⟩ = false := by
  obtain ⟨cur, hg, _⟩ := h
  exact free_block hg i
theorem Row.below {B : Nat} (h : Row w g t cap xs) (hb : Below B w w') (hg : g < B) : Row w' g t cap xs := by
  obtain ⟨cur, hc, hr⟩ := h
  exact ⟨cur, (hb.block g hg).trans hc, hr⟩
theorem Row.lt (h : Row w g t cap xs) : g < w.heap.size := by
  obtain ⟨cur, hg, _⟩ := h
  exact lt_of_block hg
theorem Row.on (h : Row w g t cap xs) (hb : Below w.heap.size w w') : Row w' g t cap xs := h.below hb h.lt
theorem Row.set (h : Row w g t cap xs) {i : Nat} (_hi : i < xs.length) (v : Value) : Row (w.setCell ⟨g, i, none⟩ v) g t cap (xs.set i v) := by
  obtain ⟨cur, hg, h1, h2, h3⟩ := h
  refine ⟨cur.setIfInBounds i v, block_set hg i v, by simp [h1], by simpa using h2, ?_⟩
  rw [List.length_set, Array.toList_setIfInBounds, List.take_set, h3]
theorem Row.reads (h : Row w g t cap xs) : Reads w w.heap.size (some ⟨g, 0, none⟩) xs.length xs :=
  ⟨rfl, fun _ => ⟨g, 0, rfl, h.lt, fun j u hu => by rw [Nat.zero_add]; exact h.at_ hu⟩⟩
end
theorem Reads.kept {w w' : World} {A : Option Addr} {n : Nat} {xs : List Value} (h : Reads w w.heap.size A n xs) (hs : w.heap.size ≤ w'.heap.size) (hk : ∀ b off, A = some ⟨b, off, none⟩ → b < w.heap.size → w'.heap[b]? = w.heap[b]?) : Reads w' w'.heap.size A n xs := by
  refine ⟨h.1, fun hn => ?_⟩
  obtain ⟨b, off, e, hb, hc⟩ := h.2 hn
  refine ⟨b, off, e, by omega, fun j u hu => ?_⟩
  have h1 := hc j u hu
  simp only [World.cell?, hk b off e hb] at h1 ⊢
  exact h1
end Go.Proofs.YtjapgpmoojfhnaaGreatDoor

namespace Go.Proofs.YtjapgpmoojfhnaaGreatDoor
open Go.RowKit Go.Lib

/-- What Mul holds: its blocks, and the columns' row. -/
structure MulBlk (w : World) (X n n2 c c2 T : Nat) (A B : Option Addr) (s : List Nat) (wx : World) : Prop where
  ba : wx.heap[X]? = some (.cells #[.bool false, .slice A n c] 33 (0, 0))
  bb : wx.heap[X + 1]? = some (.cells #[.bool false, .slice B n2 c2] 33 (0, 0))
  r1 : wx.heap[X + 2]? = some (.cells #[.bool false, .slice none 0 0] 33 (0, 0))
  q : Row wx (X + 3) 3 T (i64s s)
  len : s.length = T
  sz : X + 4 ≤ wx.heap.size
  bel : Below X w wx
section
variable {w wx wy : World} {X n n2 c c2 T : Nat} {A B : Option Addr} {s : List Nat}
theorem MulBlk.on (h : MulBlk w X n n2 c c2 T A B s wx) (hb : Below (X + 4) wx wy) : MulBlk w X n n2 c c2 T A B s wy := by
  obtain ⟨h1, h2, h3, h4, h5, h6, h7⟩ := h
  exact ⟨(hb.block X (by omega)).trans h1, (hb.block (X + 1) (by omega)).trans h2, (hb.block (X + 2) (by omega)).trans h3, h4.below hb (by omega), h5, by have := hb.size; omega, h7.trans (hb.mono (by omega))⟩
end
end Go.Proofs.YtjapgpmoojfhnaaGreatDoor

namespace Go.Proofs.YtjapgpmoojfhnaaGreatDoor
open Go.RowKit Go.Lib

/-- The digits of a number that is not too great are few. -/
theorem few {u N : Nat} (h : u ≤ N) (hN : N < 10 ^ 2000) : (Fl.digL u).length ≤ 2000 := by
  obtain ⟨K, hK⟩ : ∃ K, K = 2000 := ⟨_, rfl⟩
  rw [← hK] at hN ⊢
  by_cases h0 : u = 0
  · rw [h0, Fl.digL_zero]; simp
  · obtain ⟨n, h1, h2, h3⟩ := Fl.dec_bounds h0
    rw [Fl.dec_length h0] at h1
    have := Fl.pow10_lt (Nat.lt_of_le_of_lt h2 (Nat.lt_of_le_of_lt h hN))
    omega
/-- A number's digits, beside the boxes. -/
def RIx (w : World) (A : Option Addr) (m c u X Y : Nat) : Prop := m ≤ c ∧ Reads w w.heap.size A m (u8s (Fl.digL u)) ∧ ∀ b off, A = some ⟨b, off, none⟩ → X < b ∧ b ≠ Y ∧ b ≠ Y + 1
theorem RIx.on {w w' : World} {A : Option Addr} {m c u X Y : Nat} (h : RIx w A m c u X Y) (hb : Below w.heap.size w w') : RIx w' A m c u X Y := ⟨h.1, h.2.1.on hb, h.2.2⟩
theorem RIx.set {w : World} {A : Option Addr} {m c u X Y : Nat} (h : RIx w A m c u X Y) (k i : Nat) (hk : k = X ∨ k = Y ∨ k = Y + 1) (v : Value) : RIx (w.setCell ⟨k, i, none⟩ v) A m c u X Y :=
  ⟨h.1, h.2.1.kept (by simp [World.setCell]) (fun b off he _ => by
    have := h.2.2 b off he
    exact Below.heap_setCell _ _ _ _ (show b ≠ k by omega)), h.2.2⟩
/-- What power holds. -/
structure PowBlk (w : World) (X Y : Nat) (A : Option Addr) (n c u : Nat) (B : Option Addr) (m d v : Nat) (wx : World) : Prop where
  bx : wx.heap[X]? = some (.cells #[.bool false, .slice none 0 0] 33 (0, 0))
  ba : wx.heap[Y]? = some (.cells #[.bool false, .slice A n c] 33 (0, 0))
  bb : wx.heap[Y + 1]? = some (.cells #[.bool false, .slice B m d] 33 (0, 0))
  ra : RIx wx A n c u X Y
  rb : RIx wx B m d v X Y
  lt : X < Y
  bel : Below X w wx
section
variable {w wx wy : World} {X Y n c u m d v : Nat} {A B : Option Addr}
theorem PowBlk.size (h : PowBlk w X Y A n c u B m d v wx) : Y + 2 ≤ wx.heap.size := by
  have := lt_of_block h.bb
  omega
theorem PowBlk.on (h : PowBlk w X Y A n c u B m d v wx) (hb : Below wx.heap.size wx wy) : PowBlk w X Y A n c u B m d v wy := by
  have hs := h.size
  obtain ⟨h1, h2, h3, h4, h5, h6, h7⟩ := h
  exact ⟨(hb.block X (by omega)).trans h1, (hb.block Y (by omega)).trans h2, (hb.block (Y + 1) (by omega)).trans h3, h4.on hb, h5.on hb, h6, h7.trans (hb.mono (by omega))⟩
theorem PowBlk.setB (h : PowBlk w X Y A n c u B m d v wx) {B' : Option Addr} {m' d' v' : Nat} (hb : RIx wx B' m' d' v' X Y) : PowBlk w X Y A n c u B' m' d' v' ((wx.setCell ⟨Y + 1, 0, none⟩ (.bool false)).setCell ⟨Y + 1, 1, none⟩ (.slice B' m' d')) := by
  obtain ⟨h1, h2, h3, h4, h5, h6, h7⟩ := h
  refine ⟨?_, ?_, block_set (block_set h3 0 _) 1 _, (h4.set (Y + 1) 0 (by omega) _).set (Y + 1) 1 (by omega) _, (hb.set (Y + 1) 0 (by omega) _).set (Y + 1) 1 (by omega) _, h6, ?_⟩
  · rw [Below.heap_setCell _ _ _ _ (show X ≠ Y + 1 by omega), Below.heap_setCell _ _ _ _ (show X ≠ Y + 1 by omega)]; exact h1
  · rw [Below.heap_setCell _ _ _ _ (show Y ≠ Y + 1 by omega), Below.heap_setCell _ _ _ _ (show Y ≠ Y + 1 by omega)]; exact h2
  · exact (h7.setCell (p := ⟨Y + 1, 0, none⟩) (by show X ≤ Y + 1; omega) _).setCell (p := ⟨Y + 1, 1, none⟩) (by show X ≤ Y + 1; omega) _
end
end Go.Proofs.YtjapgpmoojfhnaaGreatDoor

namespace Go.Proofs.YtjapgpmoojfhnaaGreatDoor
open Go.RowKit Go.Lib

/-- One block of a number. -/
structure ExBlk (w : World) (X Y : Nat) (A : Option Addr) (n c u : Nat) (wx : World) : Prop where
  bx : wx.heap[X]? = some (.cells #[.bool false, .slice none 0 0] 33 (0, 0))
  ba : wx.heap[Y]? = some (.cells #[.bool false, .slice A n c] 33 (0, 0))
  ra : RIx wx A n c u X Y
  lt : X < Y
  bel : Below X w wx
section
variable {w wx wy : World} {X Y n c u : Nat} {A : Option Addr}
theorem ExBlk.size (h : ExBlk w X Y A n c u wx) : Y + 1 ≤ wx.heap.size := by
  have := lt_of_block h.ba
  omega
theorem ExBlk.on (h : ExBlk w X Y A n c u wx) (hb : Below wx.heap.size wx wy) : ExBlk w X Y A n c u wy := by
  have hs := h.size
  obtain ⟨h1, h2, h4, h6, h7⟩ := h
  exact ⟨(hb.block X (by omega)).trans h1, (hb.block Y (by omega)).trans h2, h4.on hb, h6, h7.trans (hb.mono (by omega))⟩
end
end Go.Proofs.YtjapgpmoojfhnaaGreatDoor

namespace Go.Proofs.YtjapgpmoojfhnaaGreatDoor
open Go.RowKit Go.Lib

end Go.Proofs.YtjapgpmoojfhnaaGreatDoor

namespace Go.Proofs.YtjapgpmoojfhnaaGreatDoor
open Go.RowKit Go.Lib

theorem f6 {A B C D E F G : Prop} (h : A ∧ B ∧ C ∧ D ∧ E ∧ F ∧ G) : G := h.2.2.2.2.2.2
structure D3 (b : Nat) (B : Nat × Nat) (ng g : Bool) (M : Nat) (e x : Int) (SF S D T : ByteArray) (n : Nat) : Prop where
  fb : ∀ W, Calls Tryz.prog 13 #[.int .u64 (b : Int), .int .i64 64] W fun x w' => x = .returned (.agg #[.int .i64 0, .bool ng, .int .u64 (M : Int), .int .i64 e]) ∧ Below W.heap.size W w'
  tx : ∀ W, Calls Tryz.prog 15 #[.agg #[.int .i64 0, .bool ng, .int .u64 (M : Int), .int .i64 e]] W fun x w' => x = .returned (.string SF) ∧ Below W.heap.size W w'
  de : ∀ W, Laid W → Calls Tryz.prog 14 #[.string SF] W fun x w' => x = .returned (.tuple #[.string S, .int .i64 0]) ∧ Below W.heap.size W w'
  ex : ∀ W, Calls Tryz.prog 17 #[.int .u64 (M : Int), .int .i64 e] W fun y w' => (∃ A cc, y = .returned (.tuple #[.agg #[.bool false, .slice A n cc], .int .i64 x]) ∧
    ∀ W', Below w'.heap.size w' W' → Calls Tryz.prog 19 #[.agg #[.bool false, .slice A n cc]] W' fun z w2 => z = .returned (.string D) ∧ Below W'.heap.size W' w2) ∧ Below W.heap.size W w'
  hn : n ≤ 400
  hg : (ng && decide (0 < M)) = g
  ne : ∀ W, Laid2 W B → Calls Tryz.prog 20 #[.string S] W fun x w' => x = .returned (.tuple #[.string T, .bool true, .int .i64 0]) ∧ Below W.heap.size W w'
  dt : ∀ W, Calls Tryz.prog 21 #[.agg #[.bool g, .string D, .int .i64 x]] W fun x w' => x = .returned (.string S) ∧ Below W.heap.size W w'
  bt : ∀ W, Calls Tryz.prog 15 #[.agg #[.int .i64 0, .bool g, .int .u64 (M : Int), .int .i64 e]] W fun x w' => x = .returned (.string T) ∧ Below W.heap.size W w'
end Go.Proofs.YtjapgpmoojfhnaaGreatDoor

namespace Go.Proofs.YtjapgpmoojfhnaaGreatDoor
open Go.RowKit Go.Lib

theorem readP_exp {c : Nat} {E : Int} (hc : c % 10 ≠ 0) (hl : (decDigits c).length ≤ 400) (h0 : -2000 ≤ E) (h1 : E ≤ 2000) (g : Bool) : (Dc.readP (Fl.expB g c E)).isSome = true := by
  have hc0 : c ≠ 0 := by omega
  obtain ⟨y, l, h4, h5⟩ := Fl.digL_head hc0
  have hne : (Fl.digL c).reverse ≠ [] := by rw [h4]; simp
  have hlen : (Fl.digL c).reverse.length ≤ 400 := by rw [List.length_reverse, ← Fl.dec_length hc0]; exact hl
  have hlast : ∀ u, (Fl.digL c).reverse.getLast? = some u → u ≠ 0 := fun u hu => by
    rw [List.getLast?_reverse, Fl.digL_pos (by omega)] at hu
    simp at hu
    omega
  have hh : Dc.readP (Fl.expB g c E) = some ⟨g, (Fl.digL c).reverse, E⟩ := by
    rw [Dc.readP_iff]
    refine ⟨⟨⟨Fl.digL_digs hc0, fun h => absurd h hne, fun u hu => ?_, hlast⟩, Dc.limit_ok.2 ⟨hlen, h0, h1⟩⟩, ?_⟩
    · have hu' : (Fl.digL c).reverse.head? = some u := hu
      rw [h4] at hu'
      simp at hu'
      omega
    · unfold Dc.showB Dc.coefB Fl.expB
      simp only
      rw [if_neg hne, Fl.dec_is hc0]
      rfl
  rw [hh]
  rfl
theorem readP_nought : (Dc.readP [48, 101, 48]).isSome = true := by
  have hh : Dc.readP [48, 101, 48] = some ⟨false, [], 0⟩ := by
    rw [Dc.readP_iff]
    refine ⟨⟨⟨fun x hx => by (cases hx), fun _ => ⟨rfl, rfl⟩, fun u hu => by (cases hu), fun u hu => by (cases hu)⟩, Dc.limit_ok.2 ⟨by decide, by decide, by decide⟩⟩, ?_⟩
    unfold Dc.showB Dc.coefB
    rw [if_pos rfl, show itoa 0 = [48] by kernel_rfl]
    rfl
  rw [hh]
  rfl
/-- The text of a number's digits. -/
theorem digits_text (A : Option Addr) (n cc c : Nat) (hc : c ≠ 0) (hn : n ≤ 100000) (w : World) (hr : Reads w w.heap.size A n (u8s (Fl.digL c))) :
    Calls Tryz.prog 19 #[.agg #[.bool false, .slice A n cc]] w fun x w' => x = .returned (.string ⟨(decDigits c).toArray⟩) ∧ Below w.heap.size w w' := by
  obtain ⟨a1, a2, a3, _, _⟩ := Fl.digL_facts hc
  have hl := hr.1
  rw [u8s_len] at hl
  have h := inttext_any false A n cc (Fl.digL c) w hr a3 hn (by omega)
  rw [Fl.intN_is hc] at h
  exact h
end Go.Proofs.YtjapgpmoojfhnaaGreatDoor
