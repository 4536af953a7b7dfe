/- The contract of the feeder's Feed. -/
import Derived.Test.YtdbbacmnlmkilaaDoorWalkG
import Derived.Test.YtdbbacmnlmkilaaDoorWalkH
import Derived.Lib.BufferWrite
import Derived.Laws.CopyOwn
namespace Go.Proofs.YtdbbacmnlmkilaaDoor
open Go.RowKit Go.Lib

/-- A feeder that holds some bytes. -/
def fdv (h : List UInt8) (i : Nat) : Value := .int .u8 ((h.getD i 0).toNat : Int)
def fd (h : List UInt8) : Value := .agg #[fdv h 0, fdv h 1, fdv h 2, .int .i64 (h.length : Int)]
def Cp.rest (l : List UInt8) : List UInt8 := l.drop (Cp.used l)
/-- The bytes may be extended to a valid string. -/
def Cp.extensible (l : List UInt8) : Bool := (Cp.rest l).isEmpty || (decide ((Cp.rest l).length ≤ 3) && Cp.ext (Cp.rest l))

theorem info5 : (Tryd.prog.info? 5).map (fun i => (i.zero, i.size, i.bytes)) = some (some (.int .u8 0), 1, 1) := by kernel_rfl
theorem size5 : (Tryd.prog.info? 5).map (·.size) = some 1 := by kernel_rfl

theorem three_G (w : World) (A A0 : Obj) (Z : Array Value) (T : TypeId) : (((w.alloc A).alloc A0).alloc (.cells Z T)).heap[w.heap.size + 1 + 1]? = some (.cells Z.toList.toArray T (0, 0)) := by
  show (((w.heap.push A).push A0).push _)[w.heap.size + 1 + 1]? = _
  rw [Array.getElem?_push, if_pos (by simp)]
theorem three_cell (w : World) (cs : Array Value) (t : TypeId) (A0 B : Obj) (j : Nat) : (((w.alloc (.cells cs t)).alloc A0).alloc B).cell? ⟨w.heap.size, j, none⟩ = cs[j]? := by
  rw [World.cell?_alloc_lt _ _ _ (by simp; omega), World.cell?_alloc_lt _ _ _ (by simp)]
  simp only [World.cell?, heap_alloc_new]
  rfl
theorem three_below (w : World) (A A0 B : Obj) : Below w.heap.size w (((w.alloc A).alloc A0).alloc B) := (((Below.refl _ _).alloc (Nat.le_refl _) _).alloc (by simp) _).alloc (by simp; omega) _
theorem held_cells (h : List UInt8) (hh : h.length ≤ 3) : [fdv h 0, fdv h 1, fdv h 2].take h.length = byteCells h := by
  match h, hh with
  | [], _ => rfl
  | [a], _ => rfl
  | [a, b], _ => rfl
  | [a, b, c], _ => rfl
theorem byteCells_append (a b : List UInt8) : byteCells (a ++ b) = byteCells a ++ byteCells b := by simp [byteCells]
/-- 'copy(b[i:], s)', s a string that fits, b a row that the call itself has made: one law for the empty string and every other. -/
theorem wpList_copy_string {P : Program} {w : World} {ops : Array Oper} {rest : List Oper} {o : Oper} {a : Act} {Q : Exit → Act → World → Prop} (hgd : o.guard = none) (d x : Operand) (dT sT : TypeId)
    (ho : o.op = .call { callee := .builtin .copy, args := #[d, x], argTypes := #[dT, sT] }) (elem : TypeId) (hu : P.underlying dT = some (.slice elem)) (hsz : (P.info? elem).map (·.size) = some 1)
    (dp : Option Addr) (dLen dCap : Nat) (s : ByteArray) (hd : a.eval d = .slice dp dLen dCap) (hs : a.eval x = .string s) (hle : s.size ≤ dLen)
    (g off : Nat) (cur : List Value) (t : TypeId) (hg : w.heap[g]? = some (.cells cur.toArray t (0, 0))) (hpos : 0 < s.size → dp = some ⟨g, off, none⟩) (hfit : off + s.size ≤ cur.length)
    (B : Nat) (w0 : World) (hb : Below B w0 w) (hBg : B ≤ g)
    (h : ∀ w', Hid (w'.heap[g]? = some (.cells (splice cur off (byteCells s.data.toList)).toArray t (0, 0))) → Below B w0 w' → (∀ k, k ≠ g → w'.heap[k]? = w.heap[k]?) → wpList P ops Q rest (a.put o.dst (goInt s.size)) w') :
    wpList P ops Q (o :: rest) a w := by
  have hl : (byteCells s.data.toList).length = s.size := by rw [byteCells_length, ← size_eq]
  by_cases h0 : s.size = 0
  · refine wpList_plain hgd fun K hK => ?_
    have hrun := run_copy_empty_string (P := P) w dT sT o.type elem dp dLen dCap s hu (by cases hq : P.info? elem <;> simp_all) h0
    unfold Oper.wp
    simp [execOp, ho, resolve, invoke, builtin, hd, hs, hrun, Result.andThen]
    have e0 : byteCells s.data.toList = [] := List.eq_nil_of_length_eq_zero (by omega)
    have := h w (show _ = _ by rw [e0]; simpa [splice] using hg) hb (fun _ _ => rfl)
    rw [h0] at this
    exact hK _ _ this
  · obtain rfl := hpos (by omega)
    refine wpList_plain hgd fun K hK => ?_
    have hrun := run_copy_row_string (P := P) w dT sT o.type elem g off dLen dCap s cur.toArray t hu hsz hg hle (by simpa using hfit)
    unfold Oper.wp
    simp [execOp, ho, resolve, invoke, builtin, hd, hs, hrun, Result.andThen]
    refine hK _ _ ?_
    have := h (w.setRow g (splice cur off (byteCells s.data.toList)).toArray) (setRow_heap w g _ _ t _ hg) (below_setRow hb hBg _) (fun k hk => setRow_other w g k _ hk)
    simpa [splice, hl] using this

theorem two_splices (Z hc bs : List Value) (hZ : Z.length = hc.length + bs.length) : splice (splice Z 0 hc) hc.length bs = hc ++ bs := by
  have h1 : splice Z 0 hc = hc ++ Z.drop hc.length := by simp [splice]
  rw [h1]
  simp [splice, hZ]

theorem one_at (w : World) (x : Value) : ∀ (j : Nat) (u : Value), [x][j]? = some u → (w.alloc (.cells #[x] 21)).cell? ((⟨w.heap.size, 0, none⟩ : Addr).add j) = some u := by
  intro j u hj
  match j, hj with
  | 0, hj => simp at hj; subst hj; simp [Addr.add]
theorem one_cell (r : Int) : ∀ u ∈ [Value.int .i32 r], u.oneCell' = true := by intro u hu; simp at hu; subst hu; rfl
theorem src_cells {w W : World} {G p : Nat} {r : List UInt8} (h : ∀ j d, r[j]? = some d → w.cell? ⟨G, p + j, none⟩ = some (.int .u8 (UInt8.toNat d : Int))) (hG : G < w.heap.size) (hW : Below w.heap.size w W) :
    ∃ ad, (some ⟨G, p, none⟩ : Option Addr) = some ad ∧ ad.block < W.heap.size ∧ ∀ j v, (byteCells r)[j]? = some v → W.cell? (ad.add j) = some v := by
  refine ⟨_, rfl, Nat.lt_of_lt_of_le hG hW.size, fun j v hj => ?_⟩
  obtain ⟨d, hd, rfl⟩ := byte_at hj
  have e : (⟨G, p, none⟩ : Addr).add j = ⟨G, p + j, none⟩ := by unfold Addr.add; split <;> simp_all
  rw [e, hW.cell (by exact hG)]
  exact h j d hd
theorem four_set {w : World} {g : Nat} {a b c d : Value} {t : TypeId} (h : w.heap[g]? = some (.cells #[a, b, c, d] t (0, 0))) (y0 y1 y2 y3 : Value) :
    ((((w.setCell ⟨g, 0, none⟩ y0).setCell ⟨g, 1, none⟩ y1).setCell ⟨g, 2, none⟩ y2).setCell ⟨g, 3, none⟩ y3).heap[g]? = some (.cells #[y0, y1, y2, y3] t (0, 0)) ∧
    Below g w ((((w.setCell ⟨g, 0, none⟩ y0).setCell ⟨g, 1, none⟩ y1).setCell ⟨g, 2, none⟩ y2).setCell ⟨g, 3, none⟩ y3) := by
  refine ⟨?_, ((((Below.refl g w).setCell (p := ⟨g, 0, none⟩) (Nat.le_refl g) _).setCell (p := ⟨g, 1, none⟩) (Nat.le_refl g) _).setCell (p := ⟨g, 2, none⟩) (Nat.le_refl g) _).setCell (p := ⟨g, 3, none⟩) (Nat.le_refl g) _⟩
  simp [World.setCell, Array.getElem?_modify, h]
/-- What Feed hands back. -/
def FeedPost (l : List UInt8) (w : World) (e : Ending) (w' : World) : Prop :=
  (Cp.extensible l = true ∧ ∃ v, e = .returned (.tuple #[fd (Cp.rest l), v, .int .i64 0]) ∧ Hands w' v (Cp.runes (Cp.sc l)) ∧ Below w.heap.size w w') ∨
  (Cp.extensible l = false ∧ e = .returned (.tuple #[fd [], .slice none 0 0, .int .i64 11]) ∧ Below w.heap.size w w')
theorem splice_head (r : List UInt8) (m : Nat) (hr : r.length = m) (hm : m ≤ 3) : ∃ y0 y1 y2 : Nat, fd r = .agg #[.int .u8 (y0 : Int), .int .u8 (y1 : Int), .int .u8 (y2 : Int), .int .i64 (m : Int)] ∧
    splice [Value.int .u8 0, .int .u8 0, .int .u8 0, .int .i64 (m : Int)] 0 (byteCells r) = [.int .u8 (y0 : Int), .int .u8 (y1 : Int), .int .u8 (y2 : Int), .int .i64 (m : Int)] := by
  subst hr
  refine ⟨(r.getD 0 0).toNat, (r.getD 1 0).toNat, (r.getD 2 0).toNat, rfl, ?_⟩
  match r, hm with
  | [], _ => rfl
  | [a], _ => rfl
  | [a, b], _ => rfl
  | [a, b, c], _ => rfl
theorem at_block {w : World} {g : Nat} {cs : Array Value} {t : TypeId} {fr : Nat × Nat} (h : w.heap[g]? = some (.cells cs t fr)) (i : Nat) (v : Value) (hv : cs[i]? = some v) : w.cell? ⟨g, i, none⟩ = some v := by
  simp only [World.cell?, h]; simpa using hv
theorem free_block {w : World} {g : Nat} {cs : Array Value} {t : TypeId} (h : w.heap[g]? = some (.cells cs t (0, 0))) (i : Nat) : w.frozen? ⟨g, i, none⟩ = false := by
  simp [World.frozen?, h]
theorem src_alloc {w : World} {A : Option Addr} {cs : List Value} (h : ∃ ad, A = some ad ∧ ad.block < w.heap.size ∧ ∀ j v, cs[j]? = some v → w.cell? (ad.add j) = some v) (o : Obj) :
    ∃ ad, A = some ad ∧ ∀ j v, cs[j]? = some v → (w.alloc o).cell? (ad.add j) = some v := by
  obtain ⟨ad, h1, h2, h3⟩ := h
  exact ⟨ad, h1, fun j v hj => by rw [World.cell?_alloc_lt _ _ _ (by rw [block_of_add]; exact h2)]; exact h3 j v hj⟩

theorem len36 : Tryd.prog.arrayLen 36 = 3 := by kernel_rfl
theorem elem36 : Tryd.prog.elem 36 = 5 := by kernel_rfl
theorem sizeOf5 (W : World) : (sizeOf 5).run Tryd.prog W = .ok 1 W := by kernel_rfl
theorem und36 : Tryd.prog.underlying 36 = some (.array (Tryd.prog.arrayLen 36) (Tryd.prog.elem 36)) := by kernel_rfl
theorem slice_head (W : World) (b n : Nat) (hn : n ≤ 3) : (Instr.sliceAt 36 (.pointer (some ⟨b, 0, none⟩)) none (some (.int .i64 (n : Int))) none).run Tryd.prog W = .ok (.slice (some ⟨b, 0, none⟩) n 3) W := by
  rw [run_sliceAt_array_h W 36 _ und36 .i64 n (by omega) (by rw [len36]; omega), elem36, sizeOf5, len36]
  simp [Result.andThen, slicedAt, Addr.add]
theorem slice_whole (W : World) (b : Nat) : (Instr.sliceAt 36 (.pointer (some ⟨b, 0, none⟩)) none none none).run Tryd.prog W = .ok (.slice (some ⟨b, 0, none⟩) 3 3) W := by
  rw [run_sliceAt_array_all W 36 _ und36, elem36, sizeOf5, len36]
  simp [Result.andThen, slicedAt, Addr.add]

set_option maxHeartbeats 1000000 in
set_option maxRecDepth 100000 in
theorem feed_any (h : List UInt8) (s : ByteArray) (w : World) (hh : h.length ≤ 3) (hs : s.size ≤ 1073741824) (hT : Utf8Tabs 0 1 w) :
    Calls Tryd.prog 15 #[fd h, .string s] w fun e w' => FeedPost (h ++ s.data.toList) w e w' := by
  obtain ⟨L, hL0⟩ : ∃ L, h ++ s.data.toList = L := ⟨_, rfl⟩
  rw [hL0]
  have HL0 := Lib.hid hL0
  clear hL0
  obtain ⟨i5, hi, hz0, hz1, hz2⟩ := info_parts info5
  obtain ⟨n, hN⟩ : ∃ n, h.length = n := ⟨_, rfl⟩
  obtain ⟨x0, hx0⟩ : ∃ x, fdv h 0 = x := ⟨_, rfl⟩
  obtain ⟨x1, hx1⟩ : ∃ x, fdv h 1 = x := ⟨_, rfl⟩
  obtain ⟨x2, hx2⟩ : ∃ x, fdv h 2 = x := ⟨_, rfl⟩
  unfold fd
  rw [hN, hx0, hx1, hx2]
  rw [hN] at hh
  have HX := Lib.hid (And.intro hN (And.intro hx0 (And.intro hx1 hx2)))
  clear hN hx0 hx1 hx2
  obtain ⟨Z, hZ⟩ : ∃ Z, madeCells (Value.int .u8 0).cells (n + s.size) = Z := ⟨_, rfl⟩
  have hmk : ∀ W : World, (Instr.makeSlice 54 (.int .i64 ((n : Int) + s.size)) (.int .i64 ((n : Int) + s.size))).run Tryd.prog W =
      .ok (.slice (some ⟨W.heap.size, 0, none⟩) (n + s.size) (n + s.size)) (W.alloc (.cells Z 5)) := fun W => by
    have h1 := run_make (P := Tryd.prog) W 54 5 i5 (.int .u8 0) Tryd.underlying54 hi hz0 .i64 .i64 ((n : Int) + s.size) ((n : Int) + s.size) (by omega) (by omega) (by rw [hz2]; omega) (by omega)
    rw [h1, hz1, Nat.mul_one, show ((n : Int) + (s.size : Int)).toNat = n + s.size by omega, hZ]
  have hZs : Z.toList.length = n + s.size := by rw [← hZ]; simp [madeCells]
  clear hZ
  have hsl := fun W => slice_head W w.heap.size n hh
  go_enter Tryd.func15, Tryd.ntmps15
  go_wp2_with (with_reducible refine wpList_copy_splice rfl (.tmp 18) (.tmp 22) 54 54 rfl 5 Tryd.underlying54 size5 (some ⟨w.heap.size + 1 + 1, 0, none⟩) (some ⟨w.heap.size, 0, none⟩) (n + s.size) (n + s.size) n 3 rfl rfl (w.heap.size + 1 + 1) 0 Z.toList 5 ?a0 ([x0, x1, x2].take n) ?a1 ?a2 ?a3 ?a4 (w.heap.size + 1 + 1) (((w.alloc (.cells #[x0, x1, x2, .int .i64 (n : Int)] 38)).alloc (.cells #[.int .u8 0, .int .u8 0, .int .u8 0, .int .i64 0] 38)).alloc (.cells Z 5)) (Below.refl _ _) (Nat.le_refl _) ?_)
  case a0 => exact three_G w _ _ _ _
  case a1 => rw [List.length_take]; simp; omega
  case a2 =>
    intro _ j v hj
    rw [List.getElem?_take] at hj
    split at hj
    · match j, hj with
      | 0, hj => exact hj
      | 1, hj => exact hj
      | 2, hj => exact hj
      | j + 3, hj => simp at hj
    · cases hj
  case a3 => rw [List.length_take, hZs]; simp; omega
  case a4 =>
    obtain ⟨hN, h0, h1, h2⟩ := HX.out
    intro v hv
    have := List.mem_of_mem_take hv
    simp only [List.mem_cons, List.not_mem_nil, or_false] at this
    rcases this with rfl | rfl | rfl
    · rw [← h0]; rfl
    · rw [← h1]; rfl
    · rw [← h2]; rfl
  intro w2 hG2 hb2
  obtain ⟨hN, h0, h1, h2⟩ := HX.out
  have hcells : [x0, x1, x2].take n = byteCells h := by
    rw [← hN, ← h0, ← h1, ← h2]; exact held_cells h (by omega)
  rw [hcells] at hG2
  have hx3 : w2.cell? ⟨w.heap.size, 3, none⟩ = some (.int .i64 (n : Int)) := by
    rw [hb2.cell (by show w.heap.size < w.heap.size + 1 + 1; omega), three_cell]; rfl
  have hR2 : w2.heap[w.heap.size + 1]? = some (.cells #[.int .u8 0, .int .u8 0, .int .u8 0, .int .i64 0] 38 (0, 0)) := by
    rw [hb2.block _ (by omega), Below.heap_alloc _ _ _ (by simp)]
    show ((w.heap.push _).push _)[w.heap.size + 1]? = _
    rw [Array.getElem?_push, if_pos (by simp)]
  have hbw2 : Below w.heap.size w w2 := (three_below w _ _ _).trans (hb2.mono (by omega))
  have hz2 : w.heap.size + 3 ≤ w2.heap.size := by have := hb2.size; simp at this; omega
  have hlen2 : (splice Z.toList 0 (byteCells h)).length = n + s.size := by rw [length_splice _ _ _ (by rw [byteCells_length]; omega), hZs]
  have HF := Lib.hid (And.intro hN hZs)
  have HQ : Hid (0 < s.size → (if s = ByteArray.empty then some (⟨w.heap.size + 1 + 1, 0, none⟩ : Addr) else some ⟨w.heap.size + 1 + 1, n, none⟩) = some ⟨w.heap.size + 1 + 1, n, none⟩) := fun hp => if_neg (by rintro rfl; simp at hp)
  clear hb2 hcells hN h0 h1 h2 hmk hsl HX hZs
  go_wp2_with ((with_reducible refine wpList_copy_string rfl (.tmp 27) (.tmp 28) 54 9 rfl 5 Tryd.underlying54 size5 (if s = ByteArray.empty then some ⟨w.heap.size + 1 + 1, 0, none⟩ else some ⟨w.heap.size + 1 + 1, n, none⟩) s.size s.size s rfl rfl (Nat.le_refl _) (w.heap.size + 1 + 1) n _ 5 hG2.out HQ.out (by rw [hlen2]; omega) (w.heap.size + 1 + 1) w2 (Below.refl _ _) (Nat.le_refl _) ?_); intro w3 hG3 hb3 hoth; generalize (if s = ByteArray.empty then some (⟨w.heap.size + 1 + 1, 0, none⟩ : Addr) else some ⟨w.heap.size + 1 + 1, n, none⟩) = dpx)
  -- THE LOOP
  obtain ⟨hN, hZs⟩ := HF.out
  obtain ⟨N, hNN⟩ : ∃ N, n + s.size = N := ⟨_, rfl⟩
  have hL := HL0.out
  have hLN : L.length = N := by rw [← hL, List.length_append, hN, Cp.len_data, hNN]
  have hG3' : w3.heap[w.heap.size + 1 + 1]? = some (.cells (byteCells L).toArray 5 (0, 0)) := by
    rw [hG3.out, ← hL, byteCells_append, ← two_splices Z.toList (byteCells h) (byteCells s.data.toList) (by rw [hZs, byteCells_length, byteCells_length, hN, Cp.len_data])]
    rw [byteCells_length, hN]
  have cellL : ∀ j d, L[j]? = some d → w3.cell? ⟨w.heap.size + 1 + 1, j, none⟩ = some (.int .u8 (UInt8.toNat d : Int)) := by
    intro j d hd
    simp only [World.cell?, hG3']
    simp [byteCells, hd]
  have hR3 := (hoth (w.heap.size + 1) (by omega)).trans hR2
  have hB3 : Below w.heap.size w w3 := hbw2.trans (hb3.mono (by omega))
  have hz3 : w.heap.size + 3 ≤ w3.heap.size := by have := hb3.size; omega
  rw [hNN]
  have hN30 : N ≤ 1073741827 := by omega
  have HC := Lib.hid cellL
  have HR := Lib.hid hR3
  have HP := Lib.hid (And.intro hLN (And.intro hL hNN))
  have hT3 := Cp.tabs_below hT hB3 (Cp.tabs_lt hT)
  clear hN hZs hL hLN hNN hG3' cellL hR3 HF hoth hb3 hG3 HQ hlen2 hG2 hR2 hbw2 hz2 hx3
  obtain ⟨i0, hi1, hz10, hz11, hz12⟩ := info_parts info21
  go_loopg [7, 8] N (fun g b v wx => ∃ (m c : Nat) (A : Option Addr) (xs : List Nat), b = .slice A m c ∧ (0 < m → A = some ⟨w.heap.size + 1 + 1, N - m, none⟩ ∧ c = m) ∧ m ≤ N ∧ m ≤ g ∧ wx.ownsRow (w.heap.size + 3) 21 1 v xs.length (Cp.runes xs) ∧
    Below (w.heap.size + 3) w3 wx ∧ Cp.sc L = xs ++ Cp.sc (L.drop (N - m)) ∧ Cp.used L = (N - m) + Cp.used (L.drop (N - m)) ∧ xs.length + m ≤ N)
  case atStart => exact ⟨N, N, _, [], rfl, fun _ => ⟨by simp, rfl⟩, Nat.le_refl _, Nat.le_refl _, World.ownsRow_nil _ _ _ _, Below.refl _ _, by simp, by simp, by simp⟩
  case round =>
    obtain ⟨m, c, A, xs, rfl, hA, hmN, hmg, hown, hbw, hsc, hu, hxm⟩ := hrel
    by_cases hm : 0 < m
    · obtain ⟨rfl, rfl⟩ := hA hm
      obtain ⟨r, hr⟩ : ∃ r, L.drop (N - c) = r := ⟨_, rfl⟩
      have hrl : r.length = c := by rw [← hr, List.length_drop, HP.out.1]; omega
      have hne : r ≠ [] := by rintro rfl; simp at hrl; omega
      have hcw : ∀ j d, r[j]? = some d → wr.cell? ⟨w.heap.size + 1 + 1, N - c + j, none⟩ = some (.int .u8 (UInt8.toNat d : Int)) := by
        intro j d hd
        rw [hbw.cell (by show w.heap.size + 1 + 1 < _; omega)]
        exact HC.out _ d (by rw [← hr, List.getElem?_drop] at hd; exact hd)
      have hSs : (⟨r.toArray⟩ : ByteArray).size = c := by rw [← hrl]; simp [ByteArray.size]
      have cD := Tryd.utf8_DecodeRune ⟨r.toArray⟩ (w.heap.size + 1 + 1) (N - c) c wr (Cp.tabs_below hT3 hbw (by have := Cp.tabs_lt hT; omega)) (fun j hj => hcw j _ (by
        have hj' : j < r.length := by rw [hrl, ← hSs]; exact hj
        rw [List.getElem?_eq_getElem hj', ← Lib.getD_get!']
        simp [List.getD, hj']))
      have hgo : Lib.decodeGo ⟨r.toArray⟩ = decodeL r := by
        unfold Lib.decodeGo
        rw [if_neg (by rw [hSs]; omega)]; rfl
      rw [hgo, hSs] at cD
      have hle := Lib.decodeL_le r hne
      have hwd := decodeL_width r
      have hr1 := decodeL_rune r
      rw [hrl] at hle
      rw [hr] at hsc hu
      have hnext : Cp.bad r = false → Cp.sc L = (xs ++ [(decodeL r).1]) ++ Cp.sc (L.drop (N - (c - (decodeL r).2))) ∧ Cp.used L = (N - (c - (decodeL r).2)) + Cp.used (L.drop (N - (c - (decodeL r).2))) := by
        intro hb
        have e : L.drop (N - (c - (decodeL r).2)) = r.drop (decodeL r).2 := by rw [← hr, List.drop_drop, hr, show N - c + (decodeL r).2 = N - (c - (decodeL r).2) by omega]
        rw [e, hsc, Cp.sc_ok hne hb, hu, Cp.used_ok hne hb]
        exact ⟨by simp, by omega⟩
      have hend : Cp.bad r = true → Cp.rest L = r ∧ Cp.sc L = xs := by
        intro hb
        rw [Cp.sc_bad hb, List.append_nil] at hsc
        rw [Cp.used_bad hb] at hu
        exact ⟨by unfold Cp.rest; rw [hu, Nat.add_zero]; exact hr, hsc⟩
      have hbadP := Cp.bad_iff r
      have hbadN := Cp.bad_false r
      obtain ⟨R, hR⟩ : ∃ R, (decodeL r).1 = R := ⟨_, rfl⟩
      obtain ⟨K, hK⟩ : ∃ K, (decodeL r).2 = K := ⟨_, rfl⟩
      rw [hR, hK] at cD hnext hbadP hbadN
      rw [hR] at hr1
      rw [hK] at hle hwd
      have CD := Lib.hid cD
      have HNX := Lib.hid hnext
      have HEN := Lib.hid hend
      have HBP := Lib.hid hbadP
      have HBN := Lib.hid hbadN
      have HRL := Lib.hid hrl
      have HCW := Lib.hid hcw
      have HNE := Lib.hid hne
      clear cD hnext hend hbadP hbadN hrl hcw hne hSs hgo hR hK hr hsc hu hA
      have hm' : (0 : Int) < (c : Int) := by omega
      by_cases hRK : R = 65533 ∧ K = 1
      · obtain ⟨hR, hK⟩ := hRK
        have hb := HBP.out.2 ⟨hR, hK⟩
        have hRb : ((R : Int) == 65533) = true := by simp; omega
        have hKb : ((K : Int) == 1) = true := by simp; omega
        obtain ⟨hrest, hxs⟩ := HEN.out hb
        clear hR hK
        by_cases hc3 : c ≤ 3
        · have hc3' : ¬ (3 : Int) < (c : Int) := by omega
          have cE := fun W (hW : Below wr.heap.size wr W) => ext_any r (w.heap.size + 1 + 1) (N - c) c W (fun j d hd => (hW.cell (by show w.heap.size + 1 + 1 < _; have := hbw.size; omega)).trans (HCW.out j d hd)) (by rw [HRL.out]; omega) (by rw [HRL.out]; omega)
          rw [HRL.out] at cE
          have CE := Lib.hid cE
          clear cE
          cases hext : Cp.ext r with
          | true =>
            rw [hext] at CE
            have HE : Hid (Cp.extensible L = true ∧ Cp.rest L = r ∧ Cp.sc L = xs) := ⟨by unfold Cp.extensible; rw [hrest, hext, HRL.out]; simp; right; omega, hrest, hxs⟩
            have hm3 : c ≤ 3 := hc3
            have HSRC : Hid (∀ W, Below wr.heap.size wr W → 0 < c → ∃ ad, (some ⟨w.heap.size + 1 + 1, N - c, none⟩ : Option Addr) = some ad ∧ ad.block < W.heap.size ∧ ∀ j v, (byteCells r)[j]? = some v → W.cell? (ad.add j) = some v) := fun W hW _ => src_cells HCW.out (by have := hbw.size; omega) hW
            clear hrest hxs hext hb
            go_wp2_with (first
              | (go_at_call 25; refine (CD.out).mono ?_; rintro e w4 ⟨rfl, hb4⟩; have hbq : Below (w.heap.size + 3) w3 w4 := hbw.trans (hb4.mono (by have := hbw.size; omega)); have hownq := own_below hown hb4)
              | (go_at_call 26; refine (CE.out w4 hb4).mono ?_; rintro e w' ⟨rfl, rfl⟩; have hsw := fun W => slice_whole W w4.heap.size; have hzq : w.heap.size + 3 ≤ w4.heap.size := (by have := hbq.size; omega); obtain ⟨y0, y1, y2, hfd, hspl⟩ := splice_head r c HRL.out hm3; have HSP := Lib.hid hspl; have HFD := Lib.hid hfd; clear hfd hspl; have hcl : (byteCells r).length = c := (by rw [byteCells_length]; exact HRL.out); have HCL := Lib.hid hcl; clear hcl)
              | (with_reducible refine wpList_copy_splice rfl (.tmp 64) (.tmp 65) 54 54 rfl 5 Tryd.underlying54 size5 (some ⟨w4.heap.size, 0, none⟩) (some ⟨w.heap.size + 1 + 1, N - c, none⟩) 3 3 c c rfl rfl w4.heap.size 0 [.int .u8 0, .int .u8 0, .int .u8 0, .int .i64 (c : Int)] 38 (heap_alloc_new w4 _) (byteCells r) (by rw [HCL.out]; exact (Nat.min_eq_left hm3).symm) (by intro hp; rw [HCL.out] at hp; exact ⟨rfl, src_alloc (HSRC.out w4 hb4 hp) _⟩) (by rw [HCL.out]; simp; omega) (byteCells_one _) w4.heap.size _ (Below.refl _ _) (Nat.le_refl _) ?_; intro w5 hX5 hb5; have hX6 := hX5.out; rw [HSP.out] at hX6; have x0 := at_block hX6 0 _ rfl; have x1 := at_block hX6 1 _ rfl; have x2 := at_block hX6 2 _ rfl; have x3 := at_block hX6 3 _ rfl; have hR5 := ((hb5.block (w.heap.size + 1) (by omega)).trans (Below.heap_alloc w4 _ _ (by omega))).trans ((hbq.block (w.heap.size + 1) (by omega)).trans HR.out); have r0 := at_block hR5 0 _ rfl; have r1 := at_block hR5 1 _ rfl; have r2 := at_block hR5 2 _ rfl; have r3 := at_block hR5 3 _ rfl; have f0 := free_block hR5 0; have f1 := free_block hR5 1; have f2 := free_block hR5 2; have f3 := free_block hR5 3; have HX6 := Lib.hid hX6; have HR5 := Lib.hid hR5; clear hX6 hR5))
            go_wp2
            have hb5w : Below w4.heap.size w4 w5 := ((Below.refl _ _).alloc (Nat.le_refl _) _).trans hb5
            have own5 := own_below hownq hb5w
            obtain ⟨hX, hY⟩ := four_set HR5.out (.int .u8 (y0 : Int)) (.int .u8 (y1 : Int)) (.int .u8 (y2 : Int)) (.int .i64 (c : Int))
            have own6 := ownsRow_setCell_below (a := ⟨w.heap.size + 1, 3, none⟩) (ownsRow_setCell_below (a := ⟨w.heap.size + 1, 2, none⟩) (ownsRow_setCell_below (a := ⟨w.heap.size + 1, 1, none⟩) (ownsRow_setCell_below (a := ⟨w.heap.size + 1, 0, none⟩) own5 (by show w.heap.size + 1 < _; omega) (.int .u8 (y0 : Int))) (by show w.heap.size + 1 < _; omega) (.int .u8 (y1 : Int))) (by show w.heap.size + 1 < _; omega) (.int .u8 (y2 : Int))) (by show w.heap.size + 1 < _; omega) (.int .i64 (c : Int))
            obtain ⟨W6, hW6⟩ : ∃ W6, ((((w5.setCell ⟨w.heap.size + 1, 0, none⟩ (.int .u8 (y0 : Int))).setCell ⟨w.heap.size + 1, 1, none⟩ (.int .u8 (y1 : Int))).setCell ⟨w.heap.size + 1, 2, none⟩ (.int .u8 (y2 : Int))).setCell ⟨w.heap.size + 1, 3, none⟩ (.int .i64 (c : Int))) = W6 := ⟨_, rfl⟩
            rw [hW6] at hX hY own6 ⊢
            have z0 := at_block hX 0 _ rfl
            have z1 := at_block hX 1 _ rfl
            have z2 := at_block hX 2 _ rfl
            have z3 := at_block hX 3 _ rfl
            have hbf : Below w.heap.size w W6 := ((hB3.trans (hbq.mono (by omega))).trans (hb5w.mono (by omega))).trans (hY.mono (by omega))
            obtain ⟨e1, e2, e3⟩ := HE.out
            refine bodyPost_ret (v := .tuple #[.agg #[.int .u8 (y0 : Int), .int .u8 (y1 : Int), .int .u8 (y2 : Int), .int .i64 (c : Int)], u8, .int .i64 0]) (by simp [results, Tryd.results15, go_sem, z0, z1, z2, z3]) rfl ?_
            exact .inl ⟨e1, u8, by rw [e2, HFD.out], by rw [e3]; exact Hands.of_own own6, hbf⟩
          | false =>
            rw [hext] at CE
            have HE : Hid (Cp.extensible L = false) := by unfold Cp.extensible; rw [hrest, hext]; show (_ || (_ && false)) = false; rw [Bool.and_false, Bool.or_false]; exact List.isEmpty_eq_false_iff.2 HNE.out
            clear hrest hxs hext hb
            go_wp2_with (first
              | (go_at_call 25; refine (CD.out).mono ?_; rintro e w4 ⟨rfl, hb4⟩; have hbq : Below (w.heap.size + 3) w3 w4 := hbw.trans (hb4.mono (by have := hbw.size; omega)); have hownq := own_below hown hb4; have hR5 := (hbq.block (w.heap.size + 1) (by omega)).trans HR.out; have r0 := at_block hR5 0 _ rfl; have r1 := at_block hR5 1 _ rfl; have r2 := at_block hR5 2 _ rfl; have r3 := at_block hR5 3 _ rfl; have f0 := free_block hR5 0; have f1 := free_block hR5 1; have f2 := free_block hR5 2; have f3 := free_block hR5 3; have HR5 := Lib.hid hR5; clear hR5)
              | (go_at_call 26; refine (CE.out w4 hb4).mono ?_; rintro e w' ⟨rfl, rfl⟩))
            obtain ⟨hX, hY⟩ := four_set HR5.out (.int .u8 0) (.int .u8 0) (.int .u8 0) (.int .i64 0)
            obtain ⟨W6, hW6⟩ : ∃ W6, ((((w4.setCell ⟨w.heap.size + 1, 0, none⟩ (.int .u8 0)).setCell ⟨w.heap.size + 1, 1, none⟩ (.int .u8 0)).setCell ⟨w.heap.size + 1, 2, none⟩ (.int .u8 0)).setCell ⟨w.heap.size + 1, 3, none⟩ (.int .i64 0)) = W6 := ⟨_, rfl⟩
            rw [hW6] at hX hY ⊢
            have z0 := at_block hX 0 _ rfl
            have z1 := at_block hX 1 _ rfl
            have z2 := at_block hX 2 _ rfl
            have z3 := at_block hX 3 _ rfl
            have hbf : Below w.heap.size w W6 := (hB3.trans (hbq.mono (by omega))).trans (hY.mono (by omega))
            refine bodyPost_ret (v := .tuple #[fd [], .slice none 0 0, .int .i64 11]) (by simp [results, Tryd.results15, go_sem, z0, z1, z2, z3]; rfl) rfl ?_
            exact .inr ⟨HE.out, rfl, hbf⟩
        · have hc3' : (3 : Int) < (c : Int) := by omega
          have HE : Hid (Cp.extensible L = false) := by unfold Cp.extensible; rw [hrest, HRL.out, decide_eq_false (by omega)]; show (_ || (false && _)) = false; rw [Bool.false_and, Bool.or_false]; exact List.isEmpty_eq_false_iff.2 HNE.out
          clear hrest hxs hb
          go_wp2_with (go_at_call 25; refine (CD.out).mono ?_; rintro e w4 ⟨rfl, hb4⟩; have hbq : Below (w.heap.size + 3) w3 w4 := hbw.trans (hb4.mono (by have := hbw.size; omega)); have hownq := own_below hown hb4; have hR5 := (hbq.block (w.heap.size + 1) (by omega)).trans HR.out; have r0 := at_block hR5 0 _ rfl; have r1 := at_block hR5 1 _ rfl; have r2 := at_block hR5 2 _ rfl; have r3 := at_block hR5 3 _ rfl; have f0 := free_block hR5 0; have f1 := free_block hR5 1; have f2 := free_block hR5 2; have f3 := free_block hR5 3; have HR5 := Lib.hid hR5; clear hR5)
          obtain ⟨hX, hY⟩ := four_set HR5.out (.int .u8 0) (.int .u8 0) (.int .u8 0) (.int .i64 0)
          obtain ⟨W6, hW6⟩ : ∃ W6, ((((w4.setCell ⟨w.heap.size + 1, 0, none⟩ (.int .u8 0)).setCell ⟨w.heap.size + 1, 1, none⟩ (.int .u8 0)).setCell ⟨w.heap.size + 1, 2, none⟩ (.int .u8 0)).setCell ⟨w.heap.size + 1, 3, none⟩ (.int .i64 0)) = W6 := ⟨_, rfl⟩
          rw [hW6] at hX hY ⊢
          have z0 := at_block hX 0 _ rfl
          have z1 := at_block hX 1 _ rfl
          have z2 := at_block hX 2 _ rfl
          have z3 := at_block hX 3 _ rfl
          have hbf : Below w.heap.size w W6 := (hB3.trans (hbq.mono (by omega))).trans (hY.mono (by omega))
          refine bodyPost_ret (v := .tuple #[fd [], .slice none 0 0, .int .i64 11]) (by simp [results, Tryd.results15, go_sem, z0, z1, z2, z3]; rfl) rfl ?_
          exact .inr ⟨HE.out, rfl, hbf⟩
      · have hb : Cp.bad r = false := HBN.out.2 hRK
        obtain ⟨hs1, hu1⟩ := HNX.out hb
        have HS1 := Lib.hid hs1
        have HU1 := Lib.hid hu1
        clear hs1 hu1 hb
        obtain ⟨g, rfl⟩ : ∃ g, gk = g + 1 := ⟨gk - 1, by omega⟩
        by_cases hR : R = 65533
        · have hRb : ((R : Int) == 65533) = true := by simp; omega
          have hKb : ((K : Int) == 1) = false := by simp; omega
          clear hR hRK
          by_cases hck : c = K
          · subst hck
            have HS2 : Hid (Cp.sc L = (xs ++ [R]) ++ Cp.sc (L.drop (N - 0)) ∧ Cp.used L = (N - 0) + Cp.used (L.drop (N - 0))) := by have h1 := HS1.out; have h2 := HU1.out; rw [Nat.sub_self] at h1 h2; exact ⟨h1, h2⟩
            clear hle
            go_wp2_with (first
              | (go_at_call 25; refine (CD.out).mono ?_; rintro e w4 ⟨rfl, hb4⟩; have hbq : Below (w.heap.size + 3) w3 w4 := hbw.trans (hb4.mono (by have := hbw.size; omega)); have hownq := own_below hown hb4)
              | (at_builtin; refine wpList_append_own _ rfl _ _ 23 rfl (w.heap.size + 3) 21 i0 (.int .i32 0) 1 4 Tryd.underlying23 hi1 hz10 hz11 hz12 rfl (by decide) _ _ _ rfl (hownq.alloc _) ⟨w4.heap.size, 0, none⟩ 1 1 [.int .i32 (R : Int)] rfl rfl (one_at _ _) (one_cell _) (by unfold maxLen; omega) (by omega) (by have := hbq.size; simp; omega) ?_; intro v' w5 hown5 hgr5 _; have hb5 : Below (w.heap.size + 3) w3 w5 := (hbq.alloc (by have := hbq.size; omega) _).grown hgr5 (by have := hbq.size; simp; omega) (fun k hk => (hownq.lt k hk).1); clear hgr5))
            go_wp2
            go_roundg g
            case measure => omega
            case rel => exact ⟨0, 0, _, xs ++ [R], rfl, fun h => absurd h (by omega), by omega, by omega, by rw [List.length_append, Cp.runes_snoc]; exact hown5, hb5, HS2.out.1, HS2.out.2, by simp; omega⟩
          · have hKc : K < c := by omega
            have HCK := Lib.hid hck
            have hck' : ¬ c = K := hck
            go_wp2_with (first
              | (go_at_call 25; refine (CD.out).mono ?_; rintro e w4 ⟨rfl, hb4⟩; have hbq : Below (w.heap.size + 3) w3 w4 := hbw.trans (hb4.mono (by have := hbw.size; omega)); have hownq := own_below hown hb4)
              | (at_builtin; refine wpList_append_own _ rfl _ _ 23 rfl (w.heap.size + 3) 21 i0 (.int .i32 0) 1 4 Tryd.underlying23 hi1 hz10 hz11 hz12 rfl (by decide) _ _ _ rfl (hownq.alloc _) ⟨w4.heap.size, 0, none⟩ 1 1 [.int .i32 (R : Int)] rfl rfl (one_at _ _) (one_cell _) (by unfold maxLen; omega) (by omega) (by have := hbq.size; simp; omega) ?_; intro v' w5 hown5 hgr5 _; have hb5 : Below (w.heap.size + 3) w3 w5 := (hbq.alloc (by have := hbq.size; omega) _).grown hgr5 (by have := hbq.size; simp; omega) (fun k hk => (hownq.lt k hk).1); clear hgr5))
            go_wp2
            go_roundg g
            case measure => omega
            case rel =>
              refine ⟨c - K, c - K, _, xs ++ [R], rfl, fun _ => ⟨by congr 2; omega, rfl⟩, by omega, by omega, ?_, hb5, HS1.out, HU1.out, by simp; omega⟩
              rw [List.length_append, Cp.runes_snoc]; exact hown5
        · have hRb : ((R : Int) == 65533) = false := by simp; omega
          clear hR hRK
          by_cases hck : c = K
          · subst hck
            have HS2 : Hid (Cp.sc L = (xs ++ [R]) ++ Cp.sc (L.drop (N - 0)) ∧ Cp.used L = (N - 0) + Cp.used (L.drop (N - 0))) := by have h1 := HS1.out; have h2 := HU1.out; rw [Nat.sub_self] at h1 h2; exact ⟨h1, h2⟩
            clear hle
            go_wp2_with (first
              | (go_at_call 25; refine (CD.out).mono ?_; rintro e w4 ⟨rfl, hb4⟩; have hbq : Below (w.heap.size + 3) w3 w4 := hbw.trans (hb4.mono (by have := hbw.size; omega)); have hownq := own_below hown hb4)
              | (at_builtin; refine wpList_append_own _ rfl _ _ 23 rfl (w.heap.size + 3) 21 i0 (.int .i32 0) 1 4 Tryd.underlying23 hi1 hz10 hz11 hz12 rfl (by decide) _ _ _ rfl (hownq.alloc _) ⟨w4.heap.size, 0, none⟩ 1 1 [.int .i32 (R : Int)] rfl rfl (one_at _ _) (one_cell _) (by unfold maxLen; omega) (by omega) (by have := hbq.size; simp; omega) ?_; intro v' w5 hown5 hgr5 _; have hb5 : Below (w.heap.size + 3) w3 w5 := (hbq.alloc (by have := hbq.size; omega) _).grown hgr5 (by have := hbq.size; simp; omega) (fun k hk => (hownq.lt k hk).1); clear hgr5))
            go_wp2
            go_roundg g
            case measure => omega
            case rel => exact ⟨0, 0, _, xs ++ [R], rfl, fun h => absurd h (by omega), by omega, by omega, by rw [List.length_append, Cp.runes_snoc]; exact hown5, hb5, HS2.out.1, HS2.out.2, by simp; omega⟩
          · have hKc : K < c := by omega
            have HCK := Lib.hid hck
            have hck' : ¬ c = K := hck
            go_wp2_with (first
              | (go_at_call 25; refine (CD.out).mono ?_; rintro e w4 ⟨rfl, hb4⟩; have hbq : Below (w.heap.size + 3) w3 w4 := hbw.trans (hb4.mono (by have := hbw.size; omega)); have hownq := own_below hown hb4)
              | (at_builtin; refine wpList_append_own _ rfl _ _ 23 rfl (w.heap.size + 3) 21 i0 (.int .i32 0) 1 4 Tryd.underlying23 hi1 hz10 hz11 hz12 rfl (by decide) _ _ _ rfl (hownq.alloc _) ⟨w4.heap.size, 0, none⟩ 1 1 [.int .i32 (R : Int)] rfl rfl (one_at _ _) (one_cell _) (by unfold maxLen; omega) (by omega) (by have := hbq.size; simp; omega) ?_; intro v' w5 hown5 hgr5 _; have hb5 : Below (w.heap.size + 3) w3 w5 := (hbq.alloc (by have := hbq.size; omega) _).grown hgr5 (by have := hbq.size; simp; omega) (fun k hk => (hownq.lt k hk).1); clear hgr5))
            go_wp2
            go_roundg g
            case measure => omega
            case rel =>
              refine ⟨c - K, c - K, _, xs ++ [R], rfl, fun _ => ⟨by congr 2; omega, rfl⟩, by omega, by omega, ?_, hb5, HS1.out, HU1.out, by simp; omega⟩
              rw [List.length_append, Cp.runes_snoc]; exact hown5
    · have hm0 : ¬ (0 : Int) < (m : Int) := by omega
      have hm3 : m ≤ 3 := by omega
      obtain ⟨r, hr⟩ : ∃ r, L.drop (N - m) = r := ⟨_, rfl⟩
      have HRL : Hid (r.length = m) := by rw [← hr, List.length_drop, HP.out.1]; show _ = _; omega
      have HSRC : Hid (∀ W, Below wr.heap.size wr W → 0 < m → ∃ ad, A = some ad ∧ ad.block < W.heap.size ∧ ∀ j v, (byteCells r)[j]? = some v → W.cell? (ad.add j) = some v) := fun _ _ h => absurd h hm
      rw [hr] at hsc hu
      have hr0 : r = [] := List.eq_nil_of_length_eq_zero (by have := HRL.out; omega)
      have HE : Hid (Cp.extensible L = true ∧ Cp.rest L = r ∧ Cp.sc L = xs) := by
        rw [hr0, Cp.sc_nil, List.append_nil] at hsc
        rw [hr0, Cp.used_nil] at hu
        have hrest : Cp.rest L = r := by unfold Cp.rest; rw [hu, Nat.add_zero]; exact hr
        exact ⟨by unfold Cp.extensible; rw [hrest, hr0]; rfl, hrest, hsc⟩
      clear hsc hu hr hA hr0
      have hsw := fun W => slice_whole W wr.heap.size
      have hzq : w.heap.size + 3 ≤ wr.heap.size := by have := hbw.size; omega
      obtain ⟨y0, y1, y2, hfd, hspl⟩ := splice_head r m HRL.out hm3
      have HSP := Lib.hid hspl
      have HFD := Lib.hid hfd
      clear hfd hspl
      have hcl : (byteCells r).length = m := by rw [byteCells_length]; exact HRL.out
      have HCL := Lib.hid hcl
      clear hcl
      go_wp2_with (with_reducible refine wpList_copy_splice rfl (.tmp 64) (.tmp 65) 54 54 rfl 5 Tryd.underlying54 size5 (some ⟨wr.heap.size, 0, none⟩) A 3 3 m c rfl rfl wr.heap.size 0 [.int .u8 0, .int .u8 0, .int .u8 0, .int .i64 (m : Int)] 38 (heap_alloc_new wr _) (byteCells r) (by rw [HCL.out]; exact (Nat.min_eq_left hm3).symm) (by intro hp; rw [HCL.out] at hp; exact ⟨rfl, src_alloc (HSRC.out wr (Below.refl _ _) hp) _⟩) (by rw [HCL.out]; simp; omega) (byteCells_one _) wr.heap.size _ (Below.refl _ _) (Nat.le_refl _) ?_; intro w5 hX5 hb5; have hX6 := hX5.out; rw [HSP.out] at hX6; have x0 := at_block hX6 0 _ rfl; have x1 := at_block hX6 1 _ rfl; have x2 := at_block hX6 2 _ rfl; have x3 := at_block hX6 3 _ rfl; have hR5 := ((hb5.block (w.heap.size + 1) (by omega)).trans (Below.heap_alloc wr _ _ (by omega))).trans ((hbw.block (w.heap.size + 1) (by omega)).trans HR.out); have r0 := at_block hR5 0 _ rfl; have r1 := at_block hR5 1 _ rfl; have r2 := at_block hR5 2 _ rfl; have r3 := at_block hR5 3 _ rfl; have f0 := free_block hR5 0; have f1 := free_block hR5 1; have f2 := free_block hR5 2; have f3 := free_block hR5 3; have HX6 := Lib.hid hX6; have HR5 := Lib.hid hR5; clear hX6 hR5)
      go_wp2
      have hb5w : Below wr.heap.size wr w5 := ((Below.refl _ _).alloc (Nat.le_refl _) _).trans hb5
      have own5 := own_below hown hb5w
      obtain ⟨hX, hY⟩ := four_set HR5.out (.int .u8 (y0 : Int)) (.int .u8 (y1 : Int)) (.int .u8 (y2 : Int)) (.int .i64 (m : Int))
      have own6 := ownsRow_setCell_below (a := ⟨w.heap.size + 1, 3, none⟩) (ownsRow_setCell_below (a := ⟨w.heap.size + 1, 2, none⟩) (ownsRow_setCell_below (a := ⟨w.heap.size + 1, 1, none⟩) (ownsRow_setCell_below (a := ⟨w.heap.size + 1, 0, none⟩) own5 (by show w.heap.size + 1 < _; omega) (.int .u8 (y0 : Int))) (by show w.heap.size + 1 < _; omega) (.int .u8 (y1 : Int))) (by show w.heap.size + 1 < _; omega) (.int .u8 (y2 : Int))) (by show w.heap.size + 1 < _; omega) (.int .i64 (m : Int))
      obtain ⟨W6, hW6⟩ : ∃ W6, ((((w5.setCell ⟨w.heap.size + 1, 0, none⟩ (.int .u8 (y0 : Int))).setCell ⟨w.heap.size + 1, 1, none⟩ (.int .u8 (y1 : Int))).setCell ⟨w.heap.size + 1, 2, none⟩ (.int .u8 (y2 : Int))).setCell ⟨w.heap.size + 1, 3, none⟩ (.int .i64 (m : Int))) = W6 := ⟨_, rfl⟩
      rw [hW6] at hX hY own6 ⊢
      have z0 := at_block hX 0 _ rfl
      have z1 := at_block hX 1 _ rfl
      have z2 := at_block hX 2 _ rfl
      have z3 := at_block hX 3 _ rfl
      have hbf : Below w.heap.size w W6 := ((hB3.trans (hbw.mono (by omega))).trans (hb5w.mono (by omega))).trans (hY.mono (by omega))
      obtain ⟨e1, e2, e3⟩ := HE.out
      refine bodyPost_ret (v := .tuple #[.agg #[.int .u8 (y0 : Int), .int .u8 (y1 : Int), .int .u8 (y2 : Int), .int .i64 (m : Int)], u8, .int .i64 0]) (by simp [results, Tryd.results15, go_sem, z0, z1, z2, z3]) rfl ?_
      exact .inl ⟨e1, u8, by rw [e2, HFD.out], by rw [e3]; exact Hands.of_own own6, hbf⟩

end Go.Proofs.YtdbbacmnlmkilaaDoor
