/- Words for memory: a slice value that reads as a list of cells; what a call hands back. No function of the program is walked here. -/
import Derived.Test.YtcjhipcjhgicoaaDoorProg
import Derived.Below
import Derived.Laws.OwnMore
import Derived.Deep.AppendLies
import Derived.Deep.Draws
import Derived.OwnWalk
import Derived.Lib.OthersKept
import Derived.OneCell
import Derived.WalkKit
import Derived.WalkLawsBesides
import Derived.Lib.Hide
import Derived.Deep.LoopGhost
import Derived.Deep.DeepFit
import Derived.Laws.DeepStrings4
import Derived.WalkSpells
namespace Go.Proofs.YtcjhipcjhgicoaaDoor
open Go.RowKit

theorem block_of_add (a : Addr) (n : Nat) : (a.add n).block = a.block := by unfold Addr.add; split <;> rfl
theorem add_of_add (a : Addr) (i j : Nat) : (a.add i).add j = a.add (i + j) := by
  unfold Addr.add
  by_cases hi : i = 0 <;> by_cases hj : j = 0 <;> simp [hi, hj, Nat.add_assoc]

/-- The slice's address A and length n read as the one-cell elements xs, below block B. -/
def Reads (w : World) (B : Nat) (A : Option Addr) (n : Nat) (xs : List Value) : Prop :=
  xs.length = n ∧ (0 < n → ∃ b off, A = some ⟨b, off, none⟩ ∧ b < B ∧ ∀ j u, xs[j]? = some u → w.cell? ⟨b, off + j, none⟩ = some u)

section
variable {w w' : World} {B B' n : Nat} {A : Option Addr} {xs : List Value}
theorem Reads.none_ : Reads w B A 0 [] := ⟨rfl, fun h => absurd h (by omega)⟩
theorem Reads.len (h : Reads w B A n xs) : xs.length = n := h.1
theorem Reads.at_ {k : Nat} (h : Reads w B A n xs) (hk : k < n) : ∃ b off u, A = some ⟨b, off, none⟩ ∧ b < B ∧ xs[k]? = some u ∧ w.cell? ⟨b, off + k, none⟩ = some u := by
  obtain ⟨b, off, e, hb, hc⟩ := h.2 (by omega)
  have hl : k < xs.length := by have := h.1; omega
  exact ⟨b, off, xs[k], e, hb, List.getElem?_eq_getElem hl, hc k _ (List.getElem?_eq_getElem hl)⟩
theorem Reads.keep (h : Reads w B A n xs) (hk : ∀ p : Addr, p.block < B → w'.cell? p = w.cell? p) : Reads w' B A n xs :=
  ⟨h.1, fun hn => by
    obtain ⟨b, off, e, hb, hc⟩ := h.2 hn
    exact ⟨b, off, e, hb, fun j u hu => (hk ⟨b, off + j, none⟩ hb).trans (hc j u hu)⟩⟩
theorem Reads.more (h : Reads w B A n xs) (hB : B ≤ B') : Reads w B' A n xs :=
  ⟨h.1, fun hn => by
    obtain ⟨b, off, e, hb, hc⟩ := h.2 hn
    exact ⟨b, off, e, by omega, hc⟩⟩
theorem Reads.below (h : Reads w B A n xs) (hb : Below B w w') : Reads w' B A n xs := h.keep fun _ hp => hb.cell hp
theorem Reads.on (h : Reads w w.heap.size A n xs) (hb : Below w.heap.size w w') : Reads w' w'.heap.size A n xs := (h.below hb).more hb.size
theorem Reads.drew (h : Reads w B A n xs) : Reads w.drew B A n xs := h
theorem Reads.drewN (h : Reads w B A n xs) (k : Nat) : Reads (w.drewN k) B A n xs := h
theorem Reads.alloc (h : Reads w B A n xs) (hB : B ≤ w.heap.size) (o : Obj) : Reads (w.alloc o) B A n xs := h.keep fun p hp => World.cell?_alloc_lt w o p (by omega)
theorem Reads.setCell (h : Reads w B A n xs) {p : Addr} (hB : B ≤ p.block) (u : Value) : Reads (w.setCell p u) B A n xs :=
  h.keep fun q hq => World.cell?_setCell_other w p q u (fun e => by subst e; omega)
theorem Reads.grown (h : Reads w B A n xs) {row : Option Nat} (hg : w.grownBy w' row) (hB : B ≤ w.heap.size) (hr : ∀ g, row = some g → B ≤ g) : Reads w' B A n xs :=
  h.keep fun p hp => World.cell?_of_block (hg.block p.block (by omega) (fun e => by have := hr _ e.symm; omega))
/-- From what a call owns. -/
theorem Reads.of_own {base : Nat} {e : TypeId} {c : Nat} (h : w.ownsRow base e 1 (.slice A n c) n xs) : Reads w w.heap.size A n xs := by
  refine ⟨by simpa using h.1, fun hn => ?_⟩
  obtain ⟨g, cap, hv, _, hlt⟩ := h.form hn
  have hA : A = some ⟨g, 0, none⟩ := by injection hv
  subst hA
  refine ⟨g, 0, rfl, hlt, fun j u hu => ?_⟩
  have := h.cells (g := g) rfl j u hu
  simpa [Addr.add] using (by
    rcases Nat.eq_zero_or_pos j with hj | hj
    · subst hj; simpa [Addr.add] using this
    · simpa [Addr.add, Nat.ne_of_gt hj] using this : w.cell? ⟨g, j, none⟩ = some u)
end

/-- What an owned value looks like. -/
theorem own_form {w : World} {base : Nat} {e : TypeId} {v : Value} {n : Nat} {xs : List Value} (h : w.ownsRow base e 1 v n xs) : ∃ A c, v = .slice A n c := by
  rcases h.2 with ⟨rfl, h2⟩ | ⟨g, cap, cur, rfl, _⟩
  · subst h2
    exact ⟨none, 0, rfl⟩
  · exact ⟨_, _, rfl⟩

/-- An owned row is no string's iterator. -/
theorem own_not_iter {w : World} {base : Nat} {e : TypeId} {size : Nat} {v : Value} {n : Nat} {xs : List Value} (h : w.ownsRow base e size v n xs) {k : Nat} {s : ByteArray} {pos : Nat}
    (hk : w.heap[k]? = some (.stringIter s pos)) : some k ≠ v.ownBlock := by
  rcases h.2 with ⟨rfl, _⟩ | ⟨g, cap, cur, rfl, _, hh, _⟩
  · simp [Value.ownBlock]
  · intro he
    have : g = k := by simpa [Value.ownBlock] using he.symm
    subst this
    rw [hh] at hk
    cases hk

theorem own_iterAt {w : World} {base : Nat} {e : TypeId} {size : Nat} {v : Value} {n : Nat} {xs : List Value} (h : w.ownsRow base e size v n xs) {k : Nat} {s : ByteArray} {pos : Nat}
    (hk : w.heap[k]? = some (.stringIter s pos)) (p : Nat) : (w.iterAt k s p).ownsRow base e size v n xs := by
  have hne := own_not_iter h hk
  obtain ⟨h1, h2⟩ := h
  refine ⟨h1, ?_⟩
  rcases h2 with h2 | ⟨g, cap, cur, rfl, b, c, d⟩
  · exact .inl h2
  · refine .inr ⟨g, cap, cur, rfl, b, ?_, d⟩
    rw [Lib.iterAt_other _ _ _ _ _ (fun e => hne (by rw [e]; rfl))]
    exact c

/-- What is owned stays owned where nothing that was there has turned. -/
theorem own_below {w w' : World} {base : Nat} {e : TypeId} {size : Nat} {v : Value} {n : Nat} {xs : List Value} (h : w.ownsRow base e size v n xs) (hb : Below w.heap.size w w') : w'.ownsRow base e size v n xs := by
  have hlt := h.lt
  obtain ⟨h1, h2⟩ := h
  refine ⟨h1, ?_⟩
  rcases h2 with h2 | ⟨g, cap, cur, rfl, b, c, d⟩
  · exact .inl h2
  · exact .inr ⟨g, cap, cur, rfl, b, by rw [hb.block g (hlt g rfl).2]; exact c, d⟩

/-- A value handed back that is a slice and reads as xs. -/
def Hands (w : World) (v : Value) (xs : List Value) : Prop := ∃ A c, v = .slice A xs.length c ∧ Reads w w.heap.size A xs.length xs
theorem Hands.nil (w : World) : Hands w (.slice none 0 0) [] := ⟨none, 0, rfl, Reads.none_⟩
theorem Hands.of_own {w : World} {base : Nat} {e : TypeId} {v : Value} {n : Nat} {xs : List Value} (h : w.ownsRow base e 1 v n xs) : Hands w v xs := by
  obtain ⟨A, c, rfl⟩ := own_form h
  have hl : xs.length = n := by simpa using h.1
  subst hl
  exact ⟨A, c, rfl, Reads.of_own h⟩
theorem Hands.on {w w' : World} {v : Value} {xs : List Value} (h : Hands w v xs) (hb : Below w.heap.size w w') : Hands w' v xs := by
  obtain ⟨A, c, e, hr⟩ := h
  exact ⟨A, c, e, hr.on hb⟩

theorem at_block {w : World} {g : Nat} {cs : Array Value} {t : TypeId} {fr : Nat × Nat} (h : w.heap[g]? = some (.cells cs t fr)) (i : Nat) (v : Value) (hv : cs[i]? = some v) : w.cell? ⟨g, i, none⟩ = some v := by
  simp only [World.cell?, h]; simpa using hv
theorem free_block {w : World} {g : Nat} {cs : Array Value} {t : TypeId} (h : w.heap[g]? = some (.cells cs t (0, 0))) (i : Nat) : w.frozen? ⟨g, i, none⟩ = false := by
  simp [World.frozen?, h]
theorem block_set {w : World} {g : Nat} {cs : Array Value} {t : TypeId} {fr : Nat × Nat} (h : w.heap[g]? = some (.cells cs t fr)) (i : Nat) (v : Value) : (w.setCell ⟨g, i, none⟩ v).heap[g]? = some (.cells (cs.setIfInBounds i v) t fr) := by
  have hlt := lt_of_block h
  have h' : w.heap[g] = .cells cs t fr := by simpa [Array.getElem?_eq_getElem hlt] using h
  show (w.heap.modify g _)[g]? = _
  rw [Array.getElem?_eq_getElem (by simpa using hlt), Array.getElem_modify_self, h']
  rfl
/-- A slice of ints that reads as a list. -/
def i64s (l : List Nat) : List Value := l.map fun (x : Nat) => Value.int .i64 (x : Int)
theorem i64_at {l : List Nat} {k : Nat} {u : Value} (h : (i64s l)[k]? = some u) : ∃ r : Nat, l[k]? = some r ∧ u = .int .i64 (r : Int) := by
  simp only [i64s, List.getElem?_map, Option.map_eq_some_iff] at h
  obtain ⟨s, h1, rfl⟩ := h
  exact ⟨s, h1, rfl⟩
end Go.Proofs.YtcjhipcjhgicoaaDoor
