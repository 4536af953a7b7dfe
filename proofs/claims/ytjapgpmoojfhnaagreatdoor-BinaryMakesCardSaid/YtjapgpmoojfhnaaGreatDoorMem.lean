/- Words for memory: a slice value that reads as a list of cells; what a call hands back. No function of the program is walked here. -/
import Derived.Test.YtjapgpmoojfhnaaGreatDoorProg
import Derived.Below
import Derived.Laws.OwnMore
import Derived.Deep.AppendLies
import Derived.Deep.Draws
import Derived.OwnWalk
import Derived.Lib.OthersKept
import Derived.OneCell
import Derived.WalkKit
import Derived.WalkLawsBesides
import Derived.Lib.Hide
import Derived.Deep.LoopGhost
import Derived.Deep.DeepFit
import Derived.Laws.DeepStrings4
import Derived.WalkSpells
import Derived.Deep.RegionHeld3
import Derived.Deep.DeepCutAuto
import Derived.Deep.CutBlock
import Derived.Deep.QuietTactic
import Derived.BigQuiet
import Derived.IntWalk
import Derived.Laws.IdiomStrings
import Derived.Laws.CopyOwn
import Derived.Laws.BytesString
import Derived.Laws.MakeOwn
import Derived.Laws.BytesArg
import Derived.Test.YtjapgpmoojfhnaaGreatDoorPlain2
namespace Go.Proofs.YtjapgpmoojfhnaaGreatDoor
open Go.RowKit

theorem block_of_add (a : Addr) (n : Nat) : (a.add n).block = a.block := by unfold Addr.add; split <;> rfl
theorem add_of_add (a : Addr) (i j : Nat) : (a.add i).add j = a.add (i + j) := by
  unfold Addr.add
  by_cases hi : i = 0 <;> by_cases hj : j = 0 <;> simp [hi, hj, Nat.add_assoc]

/-- The slice's address A and length n read as the one-cell elements xs, below block B. -/
def Reads (w : World) (B : Nat) (A : Option Addr) (n : Nat) (xs : List Value) : Prop :=
  xs.length = n ∧ (0 < n → ∃ b off, A = some ⟨b, off, none⟩ ∧ b < B ∧ ∀ j u, xs[j]? = some u → w.cell? ⟨b, off + j, none⟩ = some u)

section
variable {w w' : World} {B B' n : Nat} {A : Option Addr} {xs : List Value}
theorem Reads.none_ : Reads w B A 0 [] := ⟨rfl, fun h => absurd h (by omega)⟩
theorem Reads.len (h : Reads w B A n xs) : xs.length = n := h.1
theorem Reads.at_ {k : Nat} (h : Reads w B A n xs) (hk : k < n) : ∃ b off u, A = some ⟨b, off, none⟩ ∧ b < B ∧ xs[k]? = some u ∧ w.cell? ⟨b, off + k, none⟩ = some u := by
  obtain ⟨b, off, e, hb, hc⟩ := h.2 (by omega)
  have hl : k < xs.length := by have := h.1; omega
  exact ⟨b, off, xs[k], e, hb, List.getElem?_eq_getElem hl, hc k _ (List.getElem?_eq_getElem hl)⟩
theorem Reads.keep (h : Reads w B A n xs) (hk : ∀ p : Addr, p.block < B → w'.cell? p = w.cell? p) : Reads w' B A n xs :=
  ⟨h.1, fun hn => by
    obtain ⟨b, off, e, hb, hc⟩ := h.2 hn
    exact ⟨b, off, e, hb, fun j u hu => (hk ⟨b, off + j, none⟩ hb).trans (hc j u hu)⟩⟩
theorem Reads.more (h : Reads w B A n xs) (hB : B ≤ B') : Reads w B' A n xs :=
  ⟨h.1, fun hn => by
    obtain ⟨b, off, e, hb, hc⟩ := h.2 hn
    exact ⟨b, off, e, by omega, hc⟩⟩
theorem Reads.below (h : Reads w B A n xs) (hb : Below B w w') : Reads w' B A n xs := h.keep fun _ hp => hb.cell hp
theorem Reads.on (h : Reads w w.heap.size A n xs) (hb : Below w.heap.size w w') : Reads w' w'.heap.size A n xs := (h.below hb).more hb.size
theorem Reads.drew (h : Reads w B A n xs) : Reads w.drew B A n xs := h
theorem Reads.drewN (h : Reads w B A n xs) (k : Nat) : Reads (w.drewN k) B A n xs := h
theorem Reads.alloc (h : Reads w B A n xs) (hB : B ≤ w.heap.size) (o : Obj) : Reads (w.alloc o) B A n xs := h.keep fun p hp => World.cell?_alloc_lt w o p (by omega)
theorem Reads.setCell (h : Reads w B A n xs) {p : Addr} (hB : B ≤ p.block) (u : Value) : Reads (w.setCell p u) B A n xs :=
  h.keep fun q hq => World.cell?_setCell_other w p q u (fun e => by subst e; omega)
theorem Reads.grown (h : Reads w B A n xs) {row : Option Nat} (hg : w.grownBy w' row) (hB : B ≤ w.heap.size) (hr : ∀ g, row = some g → B ≤ g) : Reads w' B A n xs :=
  h.keep fun p hp => World.cell?_of_block (hg.block p.block (by omega) (fun e => by have := hr _ e.symm; omega))
/-- From what a call owns. -/
theorem Reads.of_own {base : Nat} {e : TypeId} {c : Nat} (h : w.ownsRow base e 1 (.slice A n c) n xs) : Reads w w.heap.size A n xs := by
  refine ⟨by simpa using h.1, fun hn => ?_⟩
  obtain ⟨g, cap, hv, _, hlt⟩ := h.form hn
  have hA : A = some ⟨g, 0, none⟩ := by injection hv
  subst hA
  refine ⟨g, 0, rfl, hlt, fun j u hu => ?_⟩
  have := h.cells (g := g) rfl j u hu
  simpa [Addr.add] using (by
    rcases Nat.eq_zero_or_pos j with hj | hj
    · subst hj; simpa [Addr.add] using this
    · simpa [Addr.add, Nat.ne_of_gt hj] using this : w.cell? ⟨g, j, none⟩ = some u)
end

/-- What an owned value looks like. -/
theorem own_form {w : World} {base : Nat} {e : TypeId} {v : Value} {n : Nat} {xs : List Value} (h : w.ownsRow base e 1 v n xs) : ∃ A c, v = .slice A n c := by
  rcases h.2 with ⟨rfl, h2⟩ | ⟨g, cap, cur, rfl, _⟩
  · subst h2
    exact ⟨none, 0, rfl⟩
  · exact ⟨_, _, rfl⟩

/-- An owned row is no string's iterator. -/
theorem own_not_iter {w : World} {base : Nat} {e : TypeId} {size : Nat} {v : Value} {n : Nat} {xs : List Value} (h : w.ownsRow base e size v n xs) {k : Nat} {s : ByteArray} {pos : Nat}
    (hk : w.heap[k]? = some (.stringIter s pos)) : some k ≠ v.ownBlock := by
  rcases h.2 with ⟨rfl, _⟩ | ⟨g, cap, cur, rfl, _, hh, _⟩
  · simp [Value.ownBlock]
  · intro he
    have : g = k := by simpa [Value.ownBlock] using he.symm
    subst this
    rw [hh] at hk
    cases hk

theorem own_iterAt {w : World} {base : Nat} {e : TypeId} {size : Nat} {v : Value} {n : Nat} {xs : List Value} (h : w.ownsRow base e size v n xs) {k : Nat} {s : ByteArray} {pos : Nat}
    (hk : w.heap[k]? = some (.stringIter s pos)) (p : Nat) : (w.iterAt k s p).ownsRow base e size v n xs := by
  have hne := own_not_iter h hk
  obtain ⟨h1, h2⟩ := h
  refine ⟨h1, ?_⟩
  rcases h2 with h2 | ⟨g, cap, cur, rfl, b, c, d⟩
  · exact .inl h2
  · refine .inr ⟨g, cap, cur, rfl, b, ?_, d⟩
    rw [Lib.iterAt_other _ _ _ _ _ (fun e => hne (by rw [e]; rfl))]
    exact c

/-- What is owned stays owned where nothing that was there has turned. -/
theorem own_below {w w' : World} {base : Nat} {e : TypeId} {size : Nat} {v : Value} {n : Nat} {xs : List Value} (h : w.ownsRow base e size v n xs) (hb : Below w.heap.size w w') : w'.ownsRow base e size v n xs := by
  have hlt := h.lt
  obtain ⟨h1, h2⟩ := h
  refine ⟨h1, ?_⟩
  rcases h2 with h2 | ⟨g, cap, cur, rfl, b, c, d⟩
  · exact .inl h2
  · exact .inr ⟨g, cap, cur, rfl, b, by rw [hb.block g (hlt g rfl).2]; exact c, d⟩

/-- A value handed back that is a slice and reads as xs. -/
def Hands (w : World) (v : Value) (xs : List Value) : Prop := ∃ A c, v = .slice A xs.length c ∧ Reads w w.heap.size A xs.length xs
theorem Hands.nil (w : World) : Hands w (.slice none 0 0) [] := ⟨none, 0, rfl, Reads.none_⟩
theorem Hands.of_own {w : World} {base : Nat} {e : TypeId} {v : Value} {n : Nat} {xs : List Value} (h : w.ownsRow base e 1 v n xs) : Hands w v xs := by
  obtain ⟨A, c, rfl⟩ := own_form h
  have hl : xs.length = n := by simpa using h.1
  subst hl
  exact ⟨A, c, rfl, Reads.of_own h⟩
theorem Hands.on {w w' : World} {v : Value} {xs : List Value} (h : Hands w v xs) (hb : Below w.heap.size w w') : Hands w' v xs := by
  obtain ⟨A, c, e, hr⟩ := h
  exact ⟨A, c, e, hr.on hb⟩

theorem at_block {w : World} {g : Nat} {cs : Array Value} {t : TypeId} {fr : Nat × Nat} (h : w.heap[g]? = some (.cells cs t fr)) (i : Nat) (v : Value) (hv : cs[i]? = some v) : w.cell? ⟨g, i, none⟩ = some v := by
  simp only [World.cell?, h]; simpa using hv
theorem free_block {w : World} {g : Nat} {cs : Array Value} {t : TypeId} (h : w.heap[g]? = some (.cells cs t (0, 0))) (i : Nat) : w.frozen? ⟨g, i, none⟩ = false := by
  simp [World.frozen?, h]
theorem block_set {w : World} {g : Nat} {cs : Array Value} {t : TypeId} {fr : Nat × Nat} (h : w.heap[g]? = some (.cells cs t fr)) (i : Nat) (v : Value) : (w.setCell ⟨g, i, none⟩ v).heap[g]? = some (.cells (cs.setIfInBounds i v) t fr) := by
  have hlt := lt_of_block h
  have h' : w.heap[g] = .cells cs t fr := by simpa [Array.getElem?_eq_getElem hlt] using h
  show (w.heap.modify g _)[g]? = _
  rw [Array.getElem?_eq_getElem (by simpa using hlt), Array.getElem_modify_self, h']
  rfl
/-- Rows of numbers, as ints and as bytes. -/
def i64s (l : List Nat) : List Value := l.map fun (x : Nat) => Value.int .i64 (x : Int)
def u8s (l : List Nat) : List Value := l.map fun (x : Nat) => Value.int .u8 (x : Int)
theorem i64_at {l : List Nat} {k : Nat} {u : Value} (h : (i64s l)[k]? = some u) : ∃ r : Nat, l[k]? = some r ∧ u = .int .i64 (r : Int) := by
  simp only [i64s, List.getElem?_map, Option.map_eq_some_iff] at h
  obtain ⟨s, h1, rfl⟩ := h
  exact ⟨s, h1, rfl⟩
theorem u8_at {l : List Nat} {k : Nat} {u : Value} (h : (u8s l)[k]? = some u) : ∃ r : Nat, l[k]? = some r ∧ u = .int .u8 (r : Int) := by
  simp only [u8s, List.getElem?_map, Option.map_eq_some_iff] at h
  obtain ⟨s, h1, rfl⟩ := h
  exact ⟨s, h1, rfl⟩
theorem u8s_len (l : List Nat) : (u8s l).length = l.length := by simp [u8s]
theorem i64s_len (l : List Nat) : (i64s l).length = l.length := by simp [i64s]
theorem u8s_get {l : List Nat} {k x : Nat} (h : l[k]? = some x) : (u8s l)[k]? = some (.int .u8 (x : Int)) := by simp [u8s, h]
theorem i64s_get {l : List Nat} {k x : Nat} (h : l[k]? = some x) : (i64s l)[k]? = some (.int .i64 (x : Int)) := by simp [i64s, h]
/-- The rest of a row, and its beginning. -/
theorem Reads.drop {w : World} {B n : Nat} {A : Option Addr} {xs : List Value} (h : Reads w B A n xs) (k : Nat) (hk : k ≤ n) (b off : Nat) (hA : A = some ⟨b, off, none⟩) : Reads w B (some ⟨b, off + k, none⟩) (n - k) (xs.drop k) := by
  refine ⟨by rw [List.length_drop, h.1], fun hn => ?_⟩
  obtain ⟨b', off', e, hb, hc⟩ := h.2 (by omega)
  rw [hA] at e
  cases e
  refine ⟨b, off + k, rfl, hb, fun j u hu => ?_⟩
  rw [List.getElem?_drop] at hu
  rw [Nat.add_assoc]
  exact hc _ _ hu
theorem Reads.take {w : World} {B n : Nat} {A : Option Addr} {xs : List Value} (h : Reads w B A n xs) (k : Nat) (hk : k ≤ n) : Reads w B A k (xs.take k) := by
  refine ⟨by rw [List.length_take, h.1]; omega, fun hn => ?_⟩
  obtain ⟨b, off, e, hb, hc⟩ := h.2 (by omega)
  refine ⟨b, off, e, hb, fun j u hu => ?_⟩
  rw [List.getElem?_take] at hu
  split at hu
  · exact hc _ _ hu
  · cases hu
/-- A block whose cells are a row reads as that row. -/
theorem Reads.of_block {w : World} {g : Nat} {cs : List Value} {t : TypeId} {fr : Nat × Nat} (h : w.heap[g]? = some (.cells cs.toArray t fr)) : Reads w w.heap.size (some ⟨g, 0, none⟩) cs.length cs :=
  ⟨rfl, fun _ => ⟨g, 0, rfl, lt_of_block h, fun j u hu => by
    have := at_block h j u (by simpa using hu)
    simpa using this⟩⟩
theorem size5 : (Tryz.prog.info? 5).map (·.size) = some 1 := by kernel_rfl
theorem size3 : (Tryz.prog.info? 3).map (·.size) = some 1 := by kernel_rfl
theorem info5 : (Tryz.prog.info? 5).map (fun i => (i.zero, i.size, i.bytes)) = some (some (.int .u8 0), 1, 1) := by kernel_rfl
theorem info3 : (Tryz.prog.info? 3).map (fun i => (i.zero, i.size, i.bytes)) = some (some (.int .i64 0), 1, 8) := by kernel_rfl
theorem info_parts {P : Program} {t : TypeId} {z : Value} {sz by_ : Nat} (h : (P.info? t).map (fun i => (i.zero, i.size, i.bytes)) = some (some z, sz, by_)) : ∃ i, P.info? t = some i ∧ i.zero = some z ∧ i.size = sz ∧ i.bytes = by_ := by
  cases hi : P.info? t with
  | none => rw [hi] at h; cases h
  | some i => rw [hi] at h; simp at h; exact ⟨i, rfl, h.1, h.2.1, h.2.2⟩
theorem made_is (z : Value) (hz : z.cells = #[z]) (n : Nat) : madeCells z.cells n = (List.replicate n z).toArray := by
  rw [hz]
  apply Array.ext'
  simp only [madeCells, Array.toList_map, Array.toList_range]
  rw [List.eq_replicate_iff]
  refine ⟨by simp, fun b hb => ?_⟩
  simp only [List.mem_map] at hb
  obtain ⟨a, _, rfl⟩ := hb
  simp [Nat.mod_one]
/-- make([]byte, n). -/
theorem make_bytes (n : Nat) (h : n ≤ 1099511627776) (W : World) : (Instr.makeSlice 31 (.int .i64 (n : Int)) (.int .i64 (n : Int))).run Tryz.prog W =
    .ok (.slice (some ⟨W.heap.size, 0, none⟩) n n) (W.alloc (.cells (u8s (List.replicate n 0)).toArray 5)) := by
  obtain ⟨i, hi, hz0, hz1, hz2⟩ := info_parts info5
  have h1 := run_make (P := Tryz.prog) W 31 5 i (.int .u8 0) Tryz.underlying31 hi hz0 .i64 .i64 n n (by omega) (by omega) (by rw [hz2]; omega) (by omega)
  rw [h1, hz1, Nat.mul_one, Int.toNat_natCast, made_is _ rfl]
  simp [u8s]
theorem make_ints (n : Nat) (h : n ≤ 1099511627776) (W : World) : (Instr.makeSlice 135 (.int .i64 (n : Int)) (.int .i64 (n : Int))).run Tryz.prog W =
    .ok (.slice (some ⟨W.heap.size, 0, none⟩) n n) (W.alloc (.cells (i64s (List.replicate n 0)).toArray 3)) := by
  obtain ⟨i, hi, hz0, hz1, hz2⟩ := info_parts info3
  have h1 := run_make (P := Tryz.prog) W 135 3 i (.int .i64 0) Tryz.underlying135 hi hz0 .i64 .i64 n n (by omega) (by omega) (by rw [hz2]; omega) (by omega)
  rw [h1, hz1, Nat.mul_one, Int.toNat_natCast, made_is _ rfl]
  simp [i64s]
theorem add_plain (b off j : Nat) : (⟨b, off, none⟩ : Addr).add j = ⟨b, off + j, none⟩ := by
  unfold Addr.add
  by_cases h : j = 0
  · subst h; simp
  · simp [h]
/-- A row that is read, as the source of a copy. -/
theorem Reads.src {w : World} {B n : Nat} {A : Option Addr} {xs : List Value} (h : Reads w B A n xs) (hn : 0 < n) : ∃ ad, A = some ad ∧ ad.block < B ∧ ∀ j v, xs[j]? = some v → w.cell? (ad.add j) = some v := by
  obtain ⟨b, off, e, hb, hc⟩ := h.2 hn
  exact ⟨⟨b, off, none⟩, e, hb, fun j v hv => by rw [add_plain]; exact hc j v hv⟩
theorem u8s_one (l : List Nat) : ∀ v ∈ u8s l, v.oneCell' = true := by
  intro v hv
  simp only [u8s, List.mem_map] at hv
  obtain ⟨x, _, rfl⟩ := hv
  rfl
theorem splice_all {α : Type} (Z cs : List α) (h : cs.length = Z.length) : splice Z 0 cs = cs := by
  rw [splice, List.take_zero, List.nil_append, List.drop_eq_nil_of_le (by omega), List.append_nil]
/-- A row that is being filled from the front. -/
def fillL (vs : List Value) (z : Value) (k n : Nat) : List Value := vs.take k ++ List.replicate (n - k) z
theorem fillL_zero (vs : List Value) (z : Value) (n : Nat) : fillL vs z 0 n = List.replicate n z := by simp [fillL]
theorem fillL_all {vs : List Value} {z : Value} {n : Nat} (h : vs.length = n) : fillL vs z n n = vs := by rw [fillL, List.take_of_length_le (by omega)]; simp
theorem fillL_len {vs : List Value} {z : Value} {k n : Nat} (h : vs.length = n) (hk : k ≤ n) : (fillL vs z k n).length = n := by simp [fillL]; omega
theorem fillL_set {vs : List Value} {z v : Value} {k n : Nat} (h : vs.length = n) (hk : k < n) (hv : vs[k]? = some v) : (fillL vs z k n).toArray.setIfInBounds k v = (fillL vs z (k + 1) n).toArray := by
  have e : List.replicate (n - k) z = z :: List.replicate (n - (k + 1)) z := by rw [show n - k = (n - (k + 1)) + 1 by omega, List.replicate_succ]
  rw [fillL, fillL, e, List.setIfInBounds_toArray, List.set_append_right _ _ (by rw [List.length_take]; omega), List.length_take, Nat.min_eq_left (by omega), Nat.sub_self, List.set_cons_zero, List.take_add_one, hv]
  simp
/-- string(b), b a row of bytes. -/
theorem conv_bytes {W : World} {B n c : Nat} {A : Option Addr} {l : List Nat} (hr : Reads W B A n (u8s l)) (hA : n = 0 → ∃ b off, A = some ⟨b, off, none⟩) : (convert 31 9 (.slice A n c)).run Tryz.prog W = .ok (.string ⟨(l.map UInt8.ofNat).toArray⟩) W := by
  have hl : l.length = n := by have := hr.1; rwa [u8s_len] at this
  have e : strOfNums (l.map fun (x : Nat) => (x : Int)) = ⟨(l.map UInt8.ofNat).toArray⟩ := by
    unfold strOfNums
    rw [List.map_map]
    congr 2
  have key : ∃ b off, A = some ⟨b, off, none⟩ ∧ ∀ i, i < n → W.cell? ⟨b, off + i, none⟩ = some (.int .u8 ((l.map fun (x : Nat) => (x : Int)).getD i 0)) := by
    by_cases h0 : n = 0
    · obtain ⟨b, off, e⟩ := hA h0
      exact ⟨b, off, e, fun i hi => by omega⟩
    · obtain ⟨b, off, e, _, hc⟩ := hr.2 (by omega)
      refine ⟨b, off, e, fun i hi => ?_⟩
      have hil : i < l.length := by omega
      rw [hc i (.int .u8 (l[i] : Int)) (u8s_get (List.getElem?_eq_getElem hil))]
      simp [List.getD, List.getElem?_eq_getElem hil]
  obtain ⟨b, off, rfl, hc⟩ := key
  rw [run_convert_bytes_arg W 31 5 Tryz.underlying31 Tryz.underlying5 b off n c _ (by simpa using hl) hc 9 Tryz.underlying9, e]
/-- A number of the program, as a value that reads as x. -/
def NumAt (w : World) (v : Value) (x : Dc.D) : Prop := ∃ A, v = .agg #[.bool x.neg, .slice A x.c.length x.c.length, .int .i64 x.e] ∧ Reads w w.heap.size A x.c.length (u8s x.c)
theorem NumAt.on {w w' : World} {v : Value} {x : Dc.D} (h : NumAt w v x) (hb : Below w.heap.size w w') : NumAt w' v x := by
  obtain ⟨A, e, hr⟩ := h
  exact ⟨A, e, hr.on hb⟩
end Go.Proofs.YtjapgpmoojfhnaaGreatDoor
