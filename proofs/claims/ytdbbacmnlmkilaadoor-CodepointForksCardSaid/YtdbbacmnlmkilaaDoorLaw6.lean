/- CodepointFeeds: the law's walk. -/
import Derived.Test.YtdbbacmnlmkilaaDoorWalkL
import Derived.Test.YtdbbacmnlmkilaaDoorLaw5
import Derived.Deep.RegionHeld3
import Derived.Deep.DeepCutAuto
import Derived.IntWalk
namespace Go.Proofs.YtdbbacmnlmkilaaDoor
open Go.RowKit Go.Lib

def strs (l : List ByteArray) : List Value := l.map Value.string
theorem str_at {l : List ByteArray} {k : Nat} {u : Value} (h : (strs l)[k]? = some u) : ∃ s : ByteArray, l[k]? = some s ∧ u = .string s := by
  simp only [strs, List.getElem?_map, Option.map_eq_some_iff] at h
  obtain ⟨s, h1, rfl⟩ := h
  exact ⟨s, h1, rfl⟩
/-- A feeder that lies in a block of its own. -/
def FeederAt (w : World) (F : Nat) (h : List UInt8) : Prop := ∃ y0 y1 y2 : Nat, fd h = .agg #[.int .u8 (y0 : Int), .int .u8 (y1 : Int), .int .u8 (y2 : Int), .int .i64 (h.length : Int)] ∧
  w.heap[F]? = some (.cells #[.int .u8 (y0 : Int), .int .u8 (y1 : Int), .int .u8 (y2 : Int), .int .i64 (h.length : Int)] 38 (0, 0))
theorem Cp.rest_append (a b : List UInt8) : Cp.rest (a ++ b) = Cp.rest (Cp.rest a ++ b) := Cp.drop_append_rest a b
theorem Cp.extensible_append (a b : List UInt8) : Cp.extensible (a ++ b) = Cp.extensible (Cp.rest a ++ b) := by unfold Cp.extensible; rw [Cp.rest_append]
theorem Cp.ext_short {l : List UInt8} (h : Cp.extensible l = true) : (Cp.rest l).length ≤ 3 := by
  unfold Cp.extensible at h
  simp only [Bool.or_eq_true, Bool.and_eq_true, decide_eq_true_eq] at h
  rcases h with h | h
  · rw [List.isEmpty_iff.1 h]; simp
  · exact h.1
/-- 'l[k:]' of a slice that reads as a list. -/
theorem Reads.cut {w : World} {B n c : Nat} {A : Option Addr} {xs : List Value} (h : Reads w B A n xs) {k : Nat} (hk : k ≤ n) (hc : n ≤ c) :
    Reads w B (if c = k then A else A.map (·.add k)) (n - k) (xs.drop k) := by
  refine ⟨by rw [List.length_drop, h.1], fun hn => ?_⟩
  obtain ⟨b, off, rfl, hb, hcell⟩ := h.2 (by omega)
  rw [if_neg (by omega)]
  refine ⟨b, off + k, ?_, hb, fun j u hu => ?_⟩
  · simp only [Option.map_some, Addr.add]
    split <;> simp_all
  · rw [Nat.add_assoc]
    exact hcell _ u (by rw [← hu, List.getElem?_drop])

/-- What Feed answers where the text goes on, in letters. -/
theorem feed_ok' (h : List UInt8) (s : ByteArray) (y0 y1 y2 : Nat) (k : Nat) (hy : fd h = .agg #[.int .u8 (y0 : Int), .int .u8 (y1 : Int), .int .u8 (y2 : Int), .int .i64 (k : Int)]) (hh : h.length ≤ 3) (hs : s.size ≤ 1073741824)
    (he : Cp.extensible (h ++ s.data.toList) = true) (x0 x1 x2 : Nat) (j m : Nat) (hx : fd (Cp.rest (h ++ s.data.toList)) = .agg #[.int .u8 (x0 : Int), .int .u8 (x1 : Int), .int .u8 (x2 : Int), .int .i64 (j : Int)])
    (l : List Nat) (hl : Cp.sc (h ++ s.data.toList) = l) (hm : l.length = m) (w : World) (hT : Utf8Tabs 0 1 w) :
    Calls Tryd.prog 15 #[.agg #[.int .u8 (y0 : Int), .int .u8 (y1 : Int), .int .u8 (y2 : Int), .int .i64 (k : Int)], .string s] w fun e w' => ∃ A c, e = .returned (.tuple #[.agg #[.int .u8 (x0 : Int), .int .u8 (x1 : Int), .int .u8 (x2 : Int), .int .i64 (j : Int)], .slice A m c, .int .i64 0]) ∧
      Reads w' w'.heap.size A m (i32s (l.map fun (r : Nat) => (r : Int))) ∧ Below w.heap.size w w' := by
  rw [← hy]
  refine (feed_ok h s w hh hs hT he).mono ?_
  rintro e w' ⟨v, rfl, hv, hb⟩
  rw [hl] at hv
  obtain ⟨A, c, rfl, hr⟩ := hands_open hv
  rw [hm] at hr ⊢
  exact ⟨A, c, by rw [hx], hr, hb⟩
theorem alloc_kept {w w2 : World} {o : Obj} (h : Below (w.alloc o).drew.heap.size (w.alloc o).drew w2) : w2.heap[w.heap.size]? = some o := by
  have h1 : w.heap.size < (w.alloc o).drew.heap.size := by show w.heap.size < (w.alloc o).heap.size; simp
  rw [h.block w.heap.size h1]
  exact heap_alloc_new w o

/-- What region 14 holds over its calls. -/
theorem held_over {wr W w2 : World} {F b o k : Nat} {y0 y1 y2 : Nat} {p : ByteArray} (h : W.cell? ⟨F, 0, none⟩ = some (.int .u8 (y0 : Int)) ∧ W.cell? ⟨F, 1, none⟩ = some (.int .u8 (y1 : Int)) ∧ W.cell? ⟨F, 2, none⟩ = some (.int .u8 (y2 : Int)) ∧ W.cell? ⟨F, 3, none⟩ = some (.int .i64 (k : Int)) ∧ W.cell? ⟨b, o, none⟩ = some (.string p) ∧ Below wr.heap.size wr W)
    (hb : Below W.heap.size W w2) (hF : F < wr.heap.size) (hbb : b < wr.heap.size) :
    w2.cell? ⟨F, 0, none⟩ = some (.int .u8 (y0 : Int)) ∧ w2.cell? ⟨F, 1, none⟩ = some (.int .u8 (y1 : Int)) ∧ w2.cell? ⟨F, 2, none⟩ = some (.int .u8 (y2 : Int)) ∧ w2.cell? ⟨F, 3, none⟩ = some (.int .i64 (k : Int)) ∧ w2.cell? ⟨b, o, none⟩ = some (.string p) ∧ Below wr.heap.size wr w2 := by
  obtain ⟨h0, h1, h2, h3, h4, h5⟩ := h
  have hs := h5.size
  refine ⟨?_, ?_, ?_, ?_, ?_, h5.trans (hb.mono hs)⟩
  · rw [hb.cell (p := ⟨F, 0, none⟩) (by show F < _; omega), h0]
  · rw [hb.cell (p := ⟨F, 1, none⟩) (by show F < _; omega), h1]
  · rw [hb.cell (p := ⟨F, 2, none⟩) (by show F < _; omega), h2]
  · rw [hb.cell (p := ⟨F, 3, none⟩) (by show F < _; omega), h3]
  · rw [hb.cell (p := ⟨b, o, none⟩) (by show b < _; omega), h4]
theorem held_alloc {wr W : World} {F b o k : Nat} {y0 y1 y2 : Nat} {p : ByteArray} (x : Obj) (h : W.cell? ⟨F, 0, none⟩ = some (.int .u8 (y0 : Int)) ∧ W.cell? ⟨F, 1, none⟩ = some (.int .u8 (y1 : Int)) ∧ W.cell? ⟨F, 2, none⟩ = some (.int .u8 (y2 : Int)) ∧ W.cell? ⟨F, 3, none⟩ = some (.int .i64 (k : Int)) ∧ W.cell? ⟨b, o, none⟩ = some (.string p) ∧ Below wr.heap.size wr W)
    (hF : F < wr.heap.size) (hbb : b < wr.heap.size) :
    (W.alloc x).cell? ⟨F, 0, none⟩ = some (.int .u8 (y0 : Int)) ∧ (W.alloc x).cell? ⟨F, 1, none⟩ = some (.int .u8 (y1 : Int)) ∧ (W.alloc x).cell? ⟨F, 2, none⟩ = some (.int .u8 (y2 : Int)) ∧ (W.alloc x).cell? ⟨F, 3, none⟩ = some (.int .i64 (k : Int)) ∧ (W.alloc x).cell? ⟨b, o, none⟩ = some (.string p) ∧ Below wr.heap.size wr (W.alloc x) :=
  held_over h ((Below.refl _ _).alloc (Nat.le_refl _) x) hF hbb
theorem held_set {wr W : World} {F b o k X j : Nat} {y0 y1 y2 : Nat} {p : ByteArray} {v : Value} (h : W.cell? ⟨F, 0, none⟩ = some (.int .u8 (y0 : Int)) ∧ W.cell? ⟨F, 1, none⟩ = some (.int .u8 (y1 : Int)) ∧ W.cell? ⟨F, 2, none⟩ = some (.int .u8 (y2 : Int)) ∧ W.cell? ⟨F, 3, none⟩ = some (.int .i64 (k : Int)) ∧ W.cell? ⟨b, o, none⟩ = some (.string p) ∧ Below wr.heap.size wr W)
    (hF : F < wr.heap.size) (hbb : b < wr.heap.size) (hX : wr.heap.size ≤ X) :
    (W.setCell ⟨X, j, none⟩ v).cell? ⟨F, 0, none⟩ = some (.int .u8 (y0 : Int)) ∧ (W.setCell ⟨X, j, none⟩ v).cell? ⟨F, 1, none⟩ = some (.int .u8 (y1 : Int)) ∧ (W.setCell ⟨X, j, none⟩ v).cell? ⟨F, 2, none⟩ = some (.int .u8 (y2 : Int)) ∧ (W.setCell ⟨X, j, none⟩ v).cell? ⟨F, 3, none⟩ = some (.int .i64 (k : Int)) ∧ (W.setCell ⟨X, j, none⟩ v).cell? ⟨b, o, none⟩ = some (.string p) ∧ Below wr.heap.size wr (W.setCell ⟨X, j, none⟩ v) := by
  have hb : Below wr.heap.size W (W.setCell ⟨X, j, none⟩ v) := (Below.refl _ _).setCell (p := ⟨X, j, none⟩) hX v
  obtain ⟨h0, h1, h2, h3, h4, h5⟩ := h
  refine ⟨?_, ?_, ?_, ?_, ?_, h5.trans hb⟩
  · rw [hb.cell (p := ⟨F, 0, none⟩) hF, h0]
  · rw [hb.cell (p := ⟨F, 1, none⟩) hF, h1]
  · rw [hb.cell (p := ⟨F, 2, none⟩) hF, h2]
  · rw [hb.cell (p := ⟨F, 3, none⟩) hF, h3]
  · rw [hb.cell (p := ⟨b, o, none⟩) hbb, h4]

theorem held_drew {wr W : World} {F b o k : Nat} {y0 y1 y2 : Nat} {p : ByteArray} (h : W.cell? ⟨F, 0, none⟩ = some (.int .u8 (y0 : Int)) ∧ W.cell? ⟨F, 1, none⟩ = some (.int .u8 (y1 : Int)) ∧ W.cell? ⟨F, 2, none⟩ = some (.int .u8 (y2 : Int)) ∧ W.cell? ⟨F, 3, none⟩ = some (.int .i64 (k : Int)) ∧ W.cell? ⟨b, o, none⟩ = some (.string p) ∧ Below wr.heap.size wr W) :
    W.drew.cell? ⟨F, 0, none⟩ = some (.int .u8 (y0 : Int)) ∧ W.drew.cell? ⟨F, 1, none⟩ = some (.int .u8 (y1 : Int)) ∧ W.drew.cell? ⟨F, 2, none⟩ = some (.int .u8 (y2 : Int)) ∧ W.drew.cell? ⟨F, 3, none⟩ = some (.int .i64 (k : Int)) ∧ W.drew.cell? ⟨b, o, none⟩ = some (.string p) ∧ Below wr.heap.size wr W.drew :=
  ⟨h.1, h.2.1, h.2.2.1, h.2.2.2.1, h.2.2.2.2.1, h.2.2.2.2.2.drew⟩

theorem Reads.beside {w w' : World} {B : Nat} {A : Option Addr} {n : Nat} {l : List Int} {X : Nat} {t : TypeId} {a b c d : Int} (h : Reads w B A n (i32s l)) (hX : w.heap[X]? = some (.cells #[.int .u8 a, .int .u8 b, .int .u8 c, .int .i64 d] t)) (hk : ∀ k, k ≠ X → w'.heap[k]? = w.heap[k]?) :
    Reads w' B A n (i32s l) := by
  refine ⟨h.1, fun hn => ?_⟩
  obtain ⟨g, off, rfl, hb, hcell⟩ := h.2 hn
  have hne : g ≠ X := by
    rintro rfl
    have hlen := h.1
    cases l with
    | nil => simp [i32s] at hlen; omega
    | cons r rs =>
      have h0 := hcell 0 (.int .i32 r) rfl
      rw [World.cell?, hX] at h0
      match off, h0 with
      | 0, h0 => simp at h0
      | 1, h0 => simp at h0
      | 2, h0 => simp at h0
      | 3, h0 => simp at h0
      | k + 4, h0 => simp at h0
  exact ⟨g, off, rfl, hb, fun j u hj => by rw [← hcell j u hj]; exact World.cell?_of_block (hk g hne)⟩
theorem block_set {w : World} {g : Nat} {cs : Array Value} {t : TypeId} {fr : Nat × Nat} (h : w.heap[g]? = some (.cells cs t fr)) (i : Nat) (v : Value) : (w.setCell ⟨g, i, none⟩ v).heap[g]? = some (.cells (cs.setIfInBounds i v) t fr) := by
  have hlt := lt_of_block h
  have h' : w.heap[g] = .cells cs t fr := by simpa [Array.getElem?_eq_getElem hlt] using h
  show (w.heap.modify g _)[g]? = _
  rw [Array.getElem?_eq_getElem (by simpa using hlt), Array.getElem_modify_self, h']
  rfl
theorem refdec_letters (s : ByteArray) (hs : s.size ≤ 1073741824) (l : List Nat) (M : Nat) (hl : Cp.sc s.data.toList = l) (hM : l.length = M) (w : World) :
    Calls Tryd.prog 11 #[.string s] w fun e w' => ∃ A c, M ≤ c ∧ e = .returned (.tuple #[.slice A M c, .int .i64 (Cp.atI s.data.toList)]) ∧ Reads w' w'.heap.size A M (i32s (l.map fun (r : Nat) => (r : Int))) ∧ Below w.heap.size w w' := by
  refine (refdec_any s w hs).mono ?_
  rintro e w' ⟨v, rfl, hv, hc, hb⟩
  rw [hl] at hv
  obtain ⟨A, c, rfl, hr⟩ := hands_open hv
  rw [hM] at hr hc ⊢
  exact ⟨A, c, hc A M c rfl, rfl, hr, hb⟩

theorem drop_i32s {L a l : List Nat} {t : Nat} (h : L = a ++ l) (ht : a.length = t) : (i32s (L.map fun (r : Nat) => (r : Int))).drop t = i32s (l.map fun (r : Nat) => (r : Int)) := by
  subst h ht
  simp [i32s]
/-- What End answers, in letters. -/
theorem end_letters (h : List UInt8) (v : Value) (hx : fd h = v) (k : Int) (hk : (if h = [] then (0 : Int) else 11) = k) (w : World) : Calls Tryd.prog 17 #[v] w fun e w' => e = .returned (.int .i64 k) ∧ Below w.heap.size w w' := by
  rw [← hx, ← hk]
  exact end_any h w
theorem Cp.rest_ok6 {l : List UInt8} (h : Cp.ok l = true) : Cp.rest l = [] := by rw [Cp.rest, (Cp.ok_iff l).1 h]; simp
theorem Cp.rest_bad6 {l : List UInt8} (h : Cp.ok l = false) : Cp.rest l ≠ [] := by
  intro he
  have h1 := (Cp.ok_false l).1 h
  have h2 := congrArg List.length he
  rw [Cp.rest, List.length_drop] at h2
  simp at h2
  omega

/-- What Feed answers where the text does not go on, in letters. -/
theorem feed_bad' (h : List UInt8) (s : ByteArray) (y0 y1 y2 : Nat) (k : Nat) (hy : fd h = .agg #[.int .u8 (y0 : Int), .int .u8 (y1 : Int), .int .u8 (y2 : Int), .int .i64 (k : Int)]) (hh : h.length ≤ 3) (hs : s.size ≤ 1073741824)
    (he : Cp.extensible (h ++ s.data.toList) = false) (w : World) (hT : Utf8Tabs 0 1 w) :
    Calls Tryd.prog 15 #[.agg #[.int .u8 (y0 : Int), .int .u8 (y1 : Int), .int .u8 (y2 : Int), .int .i64 (k : Int)], .string s] w fun e w' => e = .returned (.tuple #[.agg #[.int .u8 ((0 : Nat) : Int), .int .u8 ((0 : Nat) : Int), .int .u8 ((0 : Nat) : Int), .int .i64 ((0 : Nat) : Int)], .slice none 0 0, .int .i64 11]) ∧ Below w.heap.size w w' := by
  rw [← hy]
  exact feed_bad h s w hh hs hT he
theorem end_nil (w : World) : Calls Tryd.prog 17 #[.agg #[.int .u8 ((0 : Nat) : Int), .int .u8 ((0 : Nat) : Int), .int .u8 ((0 : Nat) : Int), .int .i64 ((0 : Nat) : Int)]] w fun e w' => e = .returned (.int .i64 0) ∧ Below w.heap.size w w' :=
  end_letters [] _ rfl 0 (if_pos rfl) w

set_option maxHeartbeats 4000000 in
set_option maxRecDepth 100000 in
theorem law6 (A : Option Addr) (n c : Nat) (ss : List ByteArray) (w : World) (hr : Reads w w.heap.size A n (strs ss)) (hT : Utf8Tabs 0 1 w) : Calls Tryd.prog 6 #[.slice A n c] w fun e w' => e = .returned (.bool true) ∧ Below w.heap.size w w' := by
  have h2 := Cp.tabs_lt hT
  have AW := Lib.hid (awake_any w hT)
  by_cases hn : 20 < n
  · go_enter Tryd.func6, Tryd.ntmps6
    go_wp2_with (go_at_call 10; refine (AW.out).mono ?_; rintro e w1 ⟨rfl, hb1⟩)
    go_ret
    exact ⟨rfl, hb1⟩
  · go_enter Tryd.func6, Tryd.ntmps6
    go_wp2_with fail
    refine (AW.out).mono ?_
    rintro e w1 ⟨rfl, hb1⟩
    go_wp2
    go_loopg [4, 5, 6] n (fun g s4 s5 s6 wx => ∃ (i : Nat) (I : ByteArray), s6 = .int .i64 i ∧ s4 = .string I ∧ s5 = .int .i64 ((Cp.sc I.data.toList).length : Nat) ∧ i ≤ n ∧ n ≤ i + g ∧ I.size ≤ 100 * i ∧ Cp.extensible I.data.toList = true ∧
      Below w.heap.size w wx ∧ FeederAt wx w1.heap.size (Cp.rest I.data.toList))
    case atStart =>
      refine ⟨0, ByteArray.empty, rfl, rfl, rfl, by omega, by omega, by simp, rfl, hb1.alloc hb1.size _, 0, 0, 0, rfl, ?_⟩
      exact heap_alloc_new w1 _
    case round =>
      obtain ⟨i, I, rfl, rfl, rfl, hi, hg, hIs, hIe, hbw, y0, y1, y2, hfd, hF⟩ := hrel
      have hF1 : w1.heap.size < wr.heap.size := by
        rcases Nat.lt_or_ge w1.heap.size wr.heap.size with h | h
        · exact h
        · rw [Array.getElem?_eq_none h] at hF; cases hF
      have hwF := hb1.size
      by_cases hlt : i < n
      · obtain ⟨b, off, u, rfl, hb, hu, hc⟩ := hr.at_ hlt
        obtain ⟨p, hp, rfl⟩ := str_at hu
        have hcx : wr.cell? ⟨b, off + i, none⟩ = some (.string p) := (hbw.cell (p := ⟨b, off + i, none⟩) hb).trans hc
        obtain ⟨g, rfl⟩ : ∃ g, gk = g + 1 := ⟨gk - 1, by omega⟩
        have hi0 : (0 : Int) ≤ i := by omega
        have hin : (i : Int) < n := by omega
        clear hu hp hc
        by_cases hp100 : 100 < p.size
        · clear hfd hIe
          go_wp2
          go_ret
          exact ⟨rfl, hbw⟩
        · have hadd := add_strings I p (by omega)
          have z0 := at_block hF 0 (Value.int .u8 (y0 : Int)) rfl
          have z1 := at_block hF 1 (Value.int .u8 (y1 : Int)) rfl
          have z2 := at_block hF 2 (Value.int .u8 (y2 : Int)) rfl
          have z3 := at_block hF 3 (Value.int .i64 ((Cp.rest I.data.toList).length : Int)) rfl
          have hrl := Cp.ext_short hIe
          have HE := Lib.hid hIe
          have HFD := Lib.hid hfd
          have HF := Lib.hid hF
          clear hIe hfd hF
          go_wp2
          have hTr := Cp.tabs_below hT hbw h2
          have hrl := Cp.ext_short HE.out
          cases hex : Cp.extensible (Cp.rest I.data.toList ++ p.data.toList) with
          | true =>
            obtain ⟨x0, x1, x2, hx⟩ := fd_eq (Cp.rest (Cp.rest I.data.toList ++ p.data.toList))
            obtain ⟨l, hl⟩ : ∃ l, Cp.sc (Cp.rest I.data.toList ++ p.data.toList) = l := ⟨_, rfl⟩
            obtain ⟨m, hm⟩ : ∃ m, l.length = m := ⟨_, rfl⟩
            obtain ⟨k, hk⟩ : ∃ k, (Cp.rest I.data.toList).length = k := ⟨_, rfl⟩
            obtain ⟨j, hj⟩ : ∃ j, (Cp.rest (Cp.rest I.data.toList ++ p.data.toList)).length = j := ⟨_, rfl⟩
            rw [hj] at hx
            have hfd := HFD.out
            rw [hk] at hfd z3
            have CF := Lib.hid (fun W hW => feed_ok' (Cp.rest I.data.toList) p y0 y1 y2 k hfd hrl (by omega) hex x0 x1 x2 j m hx l hl hm W hW)
            have HX := Lib.hid hx
            have HM := Lib.hid hm
            have HJ := Lib.hid hj
            have HK := Lib.hid hk
            have HL := Lib.hid hl
            have HEX := Lib.hid hex
            have hTr' := Lib.hid hTr
            clear hex hfd hx hl hm hk hj hTr hrl
            have hb1r : b < wr.heap.size := Nat.lt_of_lt_of_le hb hbw.size
            have h2r : 2 ≤ wr.heap.size := Nat.le_trans h2 hbw.size
            have hSr := And.intro z0 (And.intro z1 (And.intro z2 (And.intro z3 (And.intro hcx (Below.refl wr.heap.size wr)))))
            go_upto_region 14 with fail
            go_cut [7, 8, 9] (fun s7 s8 s9 wx => ∃ (X : Nat) (A : Option Addr) (c : Nat), s7 = .pointer (some ⟨X, 0, none⟩) ∧ s8 = .slice A m c ∧ s9 = .int .i64 0 ∧ wr.heap.size ≤ X ∧ Below wr.heap.size wr wx ∧
              wx.heap[X]? = some (.cells #[.int .u8 (x0 : Int), .int .u8 (x1 : Int), .int .u8 (x2 : Int), .int .i64 (j : Int)] 38 (0, 0)) ∧ Reads wx wx.heap.size A m (i32s (l.map fun (r : Nat) => (r : Int))))
            case first =>
              go_region_held3 (fun w' => w'.cell? ⟨w1.heap.size, 0, none⟩ = some (.int .u8 (y0 : Int)) ∧ w'.cell? ⟨w1.heap.size, 1, none⟩ = some (.int .u8 (y1 : Int)) ∧ w'.cell? ⟨w1.heap.size, 2, none⟩ = some (.int .u8 (y2 : Int)) ∧ w'.cell? ⟨w1.heap.size, 3, none⟩ = some (.int .i64 (k : Int)) ∧ w'.cell? ⟨b, off + i, none⟩ = some (.string p) ∧ Below wr.heap.size wr w')
                ((with_reducible first | assumption | ((repeat' (first | exact hF1 | exact hb1r | assumption | refine held_drew ?_ | refine held_alloc _ ?_ ?_ ?_ | refine held_set ?_ ?_ ?_ ?_ | exact Nat.le_refl _)); done)))
                (first | (go_at_call 15; refine (CF.out _ (Cp.tabs_below hTr'.out (by first | assumption | exact (Below.refl _ _).drew | exact ((Below.refl _ _).drew).alloc (Nat.le_refl _) _) h2r)).mono ?_; rintro e w2 ⟨A, c, rfl, hRd, hb2⟩; have hS2 := held_over (by assumption) hb2 hF1 hb1r; have hsz2 := hS2.2.2.2.2.2.size; try (have q := alloc_kept hb2; have q0 : w2.cell? ⟨wr.heap.size, 0, none⟩ = some (.int .u8 0) := at_block q 0 _ rfl; have f0 : w2.frozen? ⟨wr.heap.size, 0, none⟩ = false := free_block q 0; have q1 : w2.cell? ⟨wr.heap.size, 1, none⟩ = some (.int .u8 0) := at_block q 1 _ rfl; have f1 : w2.frozen? ⟨wr.heap.size, 1, none⟩ = false := free_block q 1; have q2 : w2.cell? ⟨wr.heap.size, 2, none⟩ = some (.int .u8 0) := at_block q 2 _ rfl; have f2 : w2.frozen? ⟨wr.heap.size, 2, none⟩ = false := free_block q 2; have q3 : w2.cell? ⟨wr.heap.size, 3, none⟩ = some (.int .i64 0) := at_block q 3 _ rfl; have f3 : w2.frozen? ⟨wr.heap.size, 3, none⟩ = false := free_block q 3; have hq := Lib.hid q; clear q)))
              · have hb2' := hS2.2.2.2.2.2
                go_wp2_with fail
                go_meet
                exact ⟨w2.heap.size, A, c, rfl, rfl, rfl, hsz2, hb2'.alloc hsz2 _, heap_alloc_new w2 _, (hRd.alloc (Nat.le_refl _) _).more (by simp)⟩
              · have hb2' := hS2.2.2.2.2.2
                have q := hq.out
                go_wp2_with fail
                go_meet
                refine ⟨wr.heap.size, A, c, rfl, rfl, rfl, Nat.le_refl _, (((hb2'.setCell (p := ⟨wr.heap.size, 0, none⟩) (Nat.le_refl _) _).setCell (p := ⟨wr.heap.size, 1, none⟩) (Nat.le_refl _) _).setCell (p := ⟨wr.heap.size, 2, none⟩) (Nat.le_refl _) _).setCell (p := ⟨wr.heap.size, 3, none⟩) (Nat.le_refl _) _, ?_, ?_⟩
                · exact block_set (block_set (block_set (block_set q 0 _) 1 _) 2 _) 3 _
                · refine Reads.more (Reads.beside hRd q fun k hk => ?_) (by simp [World.setCell])
                  rw [Below.heap_setCell _ _ _ _ hk, Below.heap_setCell _ _ _ _ hk, Below.heap_setCell _ _ _ _ hk, Below.heap_setCell _ _ _ _ hk]
            case rest =>
              obtain ⟨X, A, c, rfl, rfl, rfl, hX, hbc, hXb, hRc⟩ := hcut
              obtain ⟨L, hL⟩ : ∃ L, Cp.sc (I ++ p).data.toList = L := ⟨_, rfl⟩
              obtain ⟨M, hM⟩ : ∃ M, L.length = M := ⟨_, rfl⟩
              obtain ⟨t, ht⟩ : ∃ t, (Cp.sc I.data.toList).length = t := ⟨_, rfl⟩
              have hLs : L = Cp.sc I.data.toList ++ l := by rw [← hL, ← HL.out, data_append, Cp.sc_append]; rfl
              have hMt : M = t + m := by rw [← hM, hLs, List.length_append, ht, HM.out]
              have hsz : (I ++ p).size ≤ 1073741824 := by rw [ByteArray.size_append]; omega
              have hexI : Cp.extensible (I ++ p).data.toList = true := by rw [data_append, Cp.extensible_append]; exact HEX.out
              have EX := Lib.hid (fun W => (extens_any (I ++ p) W hsz).mono fun e w' h => (by rw [hexI] at h; exact h : e = .returned (.bool true) ∧ Below W.heap.size W w'))
              have RD := Lib.hid (refdec_letters (I ++ p) hsz L M hL hM)
              rw [ht]
              have hm9 : m ≤ 1073741824 := by
                have h3 := Cp.sc_le (I ++ p).data.toList
                have h4 := Cp.used_le (I ++ p).data.toList
                rw [Cp.len_data] at h4
                rw [hL] at h3
                omega
              have HLs := Lib.hid hLs
              have HexI := Lib.hid hexI
              have HL' := Lib.hid hL
              have HM' := Lib.hid hM
              have Ht := Lib.hid ht
              have x0' : wc.cell? ⟨X, 0, none⟩ = some (.int .u8 (x0 : Int)) := at_block hXb 0 _ rfl
              have HXb := Lib.hid hXb
              clear hLs hexI hL hM ht hXb x0'
              go_wp2_with fail
              refine (EX.out _).mono ?_
              rintro e w3 ⟨rfl, hb3⟩
              go_wp2_with fail
              refine (RD.out _).mono ?_
              rintro e w4 ⟨A2, c2, hc2, rfl, hR4, hb4⟩
              have hcr : Reads w4 w4.heap.size (if c2 = t then A2 else A2.map (·.add t)) m (i32s (l.map fun (r : Nat) => (r : Int))) := by
                have h := hR4.cut (k := t) (by omega) hc2
                rw [show M - t = m by omega, drop_i32s HLs.out Ht.out] at h
                exact h
              have hR4' := hRc.on (hb3.trans (hb4.mono hb3.size))
              have SM := Lib.hid (fun A2' c2' (hA : Reads w4 w4.heap.size A2' m (i32s (l.map fun (r : Nat) => (r : Int)))) => same' l m HM.out A A2' c c2' w4 hR4' hA hm9)
              have hXlt : X < wc.heap.size := lt_of_block HXb.out
              have hlen9 : IntKind.i64.wrap ((i : Int) + 1) = (i : Int) + 1 := IntWalk.i64_in _ (by omega)
              by_cases hct : c2 = t
              all_goals
                first | rw [if_pos hct] at hcr | rw [if_neg hct] at hcr
                have hcr' := Lib.hid hcr
                clear hcr
                go_wp2_with fail
                refine (SM.out _ _ hcr'.out).mono ?_
                rintro e w5 ⟨rfl, hb5⟩
                have hb5c : Below wc.heap.size wc w5 := (hb3.trans (hb4.mono hb3.size)).trans (hb5.mono (Nat.le_trans hb3.size hb4.size))
                cases hok : Cp.ok (I ++ p).data.toList
                all_goals
                  first
                    | have hEN : (if Cp.rest (Cp.rest I.data.toList ++ p.data.toList) = [] then (0 : Int) else 11) = 0 := by rw [← Cp.rest_append, ← data_append]; exact if_pos (Cp.rest_ok6 hok)
                    | have hEN : (if Cp.rest (Cp.rest I.data.toList ++ p.data.toList) = [] then (0 : Int) else 11) = 11 := by rw [← Cp.rest_append, ← data_append]; exact if_neg (Cp.rest_bad6 hok)
                  have EN := Lib.hid (end_letters _ _ HX.out _ hEN)
                  have VA := Lib.hid (fun W => (valid_any (I ++ p) W hsz).mono fun e w' h => (by rw [hok] at h; exact h : e = .returned (.bool _) ∧ Below W.heap.size W w'))
                  clear hEN hok
                  go_wp2_with fail
                  refine (VA.out _).mono ?_
                  rintro e w6 ⟨rfl, hb6⟩
                  have hb6c : Below wc.heap.size wc w6 := hb5c.trans (hb6.mono hb5c.size)
                  have hX6 := (hb6c.block X hXlt).trans HXb.out
                  have q0 := at_block hX6 0 (.int .u8 (x0 : Int)) rfl
                  have q1 := at_block hX6 1 (.int .u8 (x1 : Int)) rfl
                  have q2 := at_block hX6 2 (.int .u8 (x2 : Int)) rfl
                  have q3 := at_block hX6 3 (.int .i64 (j : Int)) rfl
                  have HX6 := Lib.hid hX6
                  clear hX6
                  go_wp2_with fail
                  refine (EN.out _).mono ?_
                  rintro e w7 ⟨rfl, hb7⟩
                  clear q0 q1 q2 q3
                  have hb7c : Below wc.heap.size wc w7 := hb6c.trans (hb7.mono hb6c.size)
                  have hX7 := (hb7c.block X hXlt).trans HXb.out
                  have q0 := at_block hX7 0 (.int .u8 (x0 : Int)) rfl
                  have q1 := at_block hX7 1 (.int .u8 (x1 : Int)) rfl
                  have q2 := at_block hX7 2 (.int .u8 (x2 : Int)) rfl
                  have q3 := at_block hX7 3 (.int .i64 (j : Int)) rfl
                  have HX7 := Lib.hid hX7
                  have hb7r : Below wr.heap.size wr w7 := hbc.trans (hb7c.mono hbc.size)
                  have hF7 := (hb7r.block w1.heap.size hF1).trans HF.out
                  have r0 := at_block hF7 0 (.int .u8 (y0 : Int)) rfl
                  have r1 := at_block hF7 1 (.int .u8 (y1 : Int)) rfl
                  have r2 := at_block hF7 2 (.int .u8 (y2 : Int)) rfl
                  have r3 := at_block hF7 3 (.int .i64 ((Cp.rest I.data.toList).length : Int)) rfl
                  have f0 := free_block hF7 0
                  have f1 := free_block hF7 1
                  have f2 := free_block hF7 2
                  have f3 := free_block hF7 3
                  have HF7 := Lib.hid hF7
                  clear hF7 hX7
                  go_wp2_with fail
                  go_roundg g
                  case measure => omega
                  case rel =>
                    have hsz' := ByteArray.size_append (a := I) (b := p)
                    refine ⟨i + 1, I ++ p, by go_num, rfl, ?_, by omega, by omega, by omega, HexI.out, ?_, x0, x1, x2, ?_, ?_⟩
                    · rw [HL'.out, HM'.out, hMt]; simp
                    · exact ((((hbw.trans (hb7r.mono hbw.size)).setCell (p := ⟨w1.heap.size, 0, none⟩) hwF _).setCell (p := ⟨w1.heap.size, 1, none⟩) hwF _).setCell (p := ⟨w1.heap.size, 2, none⟩) hwF _).setCell (p := ⟨w1.heap.size, 3, none⟩) hwF _
                    · have h1 : Cp.rest (I ++ p).data.toList = Cp.rest (Cp.rest I.data.toList ++ p.data.toList) := by rw [data_append, Cp.rest_append]
                      rw [h1, HJ.out]; exact HX.out
                    · have h1 : Cp.rest (I ++ p).data.toList = Cp.rest (Cp.rest I.data.toList ++ p.data.toList) := by rw [data_append, Cp.rest_append]
                      rw [h1, HJ.out]
                      exact block_set (block_set (block_set (block_set HF7.out 0 _) 1 _) 2 _) 3 _
          | false =>
            obtain ⟨k, hk⟩ : ∃ k, (Cp.rest I.data.toList).length = k := ⟨_, rfl⟩
            have hfd := HFD.out
            rw [hk] at hfd z3
            have CF := Lib.hid (fun W hW => feed_bad' (Cp.rest I.data.toList) p y0 y1 y2 k hfd hrl (by omega) hex W hW)
            have hsz : (I ++ p).size ≤ 1073741824 := by rw [ByteArray.size_append]; omega
            have hexI : Cp.extensible (I ++ p).data.toList = false := by rw [data_append, Cp.extensible_append]; exact hex
            have EX := Lib.hid (fun W => (extens_any (I ++ p) W hsz).mono fun e w' h => (by rw [hexI] at h; exact h : e = .returned (.bool false) ∧ Below W.heap.size W w'))
            have HK := Lib.hid hk
            clear hexI
            have hTr' := Lib.hid hTr
            clear hex hfd hk hTr hrl
            have hb1r : b < wr.heap.size := Nat.lt_of_lt_of_le hb hbw.size
            have h2r : 2 ≤ wr.heap.size := Nat.le_trans h2 hbw.size
            have hSr := And.intro z0 (And.intro z1 (And.intro z2 (And.intro z3 (And.intro hcx (Below.refl wr.heap.size wr)))))
            go_upto_region 14 with fail
            go_cut [7, 8, 9] (fun s7 s8 s9 wx => ∃ (X : Nat), s7 = .pointer (some ⟨X, 0, none⟩) ∧ s8 = .slice none 0 0 ∧ s9 = .int .i64 11 ∧ wr.heap.size ≤ X ∧ Below wr.heap.size wr wx ∧
              wx.heap[X]? = some (.cells #[.int .u8 ((0 : Nat) : Int), .int .u8 ((0 : Nat) : Int), .int .u8 ((0 : Nat) : Int), .int .i64 ((0 : Nat) : Int)] 38 (0, 0)))
            case first =>
              go_region_held3 (fun w' => w'.cell? ⟨w1.heap.size, 0, none⟩ = some (.int .u8 (y0 : Int)) ∧ w'.cell? ⟨w1.heap.size, 1, none⟩ = some (.int .u8 (y1 : Int)) ∧ w'.cell? ⟨w1.heap.size, 2, none⟩ = some (.int .u8 (y2 : Int)) ∧ w'.cell? ⟨w1.heap.size, 3, none⟩ = some (.int .i64 (k : Int)) ∧ w'.cell? ⟨b, off + i, none⟩ = some (.string p) ∧ Below wr.heap.size wr w')
                ((with_reducible first | assumption | ((repeat' (first | exact hF1 | exact hb1r | assumption | refine held_drew ?_ | refine held_alloc _ ?_ ?_ ?_ | refine held_set ?_ ?_ ?_ ?_ | exact Nat.le_refl _)); done)))
                (first | (go_at_call 15; refine (CF.out _ (Cp.tabs_below hTr'.out (by first | assumption | exact (Below.refl _ _).drew | exact ((Below.refl _ _).drew).alloc (Nat.le_refl _) _) h2r)).mono ?_; rintro e w2 ⟨rfl, hb2⟩; have hS2 := held_over (by assumption) hb2 hF1 hb1r; have hsz2 := hS2.2.2.2.2.2.size; try (have q := alloc_kept hb2; have q0 : w2.cell? ⟨wr.heap.size, 0, none⟩ = some (.int .u8 0) := at_block q 0 _ rfl; have f0 : w2.frozen? ⟨wr.heap.size, 0, none⟩ = false := free_block q 0; have q1 : w2.cell? ⟨wr.heap.size, 1, none⟩ = some (.int .u8 0) := at_block q 1 _ rfl; have f1 : w2.frozen? ⟨wr.heap.size, 1, none⟩ = false := free_block q 1; have q2 : w2.cell? ⟨wr.heap.size, 2, none⟩ = some (.int .u8 0) := at_block q 2 _ rfl; have f2 : w2.frozen? ⟨wr.heap.size, 2, none⟩ = false := free_block q 2; have q3 : w2.cell? ⟨wr.heap.size, 3, none⟩ = some (.int .i64 0) := at_block q 3 _ rfl; have f3 : w2.frozen? ⟨wr.heap.size, 3, none⟩ = false := free_block q 3; have hq := Lib.hid q; clear q)))
              · have hb2' := hS2.2.2.2.2.2
                go_wp2_with fail
                go_meet
                exact ⟨w2.heap.size, rfl, rfl, rfl, hsz2, hb2'.alloc hsz2 _, heap_alloc_new w2 _⟩
              · have hb2' := hS2.2.2.2.2.2
                have q := hq.out
                go_wp2_with fail
                go_meet
                refine ⟨wr.heap.size, rfl, rfl, rfl, Nat.le_refl _, (((hb2'.setCell (p := ⟨wr.heap.size, 0, none⟩) (Nat.le_refl _) _).setCell (p := ⟨wr.heap.size, 1, none⟩) (Nat.le_refl _) _).setCell (p := ⟨wr.heap.size, 2, none⟩) (Nat.le_refl _) _).setCell (p := ⟨wr.heap.size, 3, none⟩) (Nat.le_refl _) _, ?_⟩
                · exact block_set (block_set (block_set (block_set q 0 _) 1 _) 2 _) 3 _
            case rest =>
              obtain ⟨X, rfl, rfl, rfl, hX, hbc, hXb⟩ := hcut
              have hXlt : X < wc.heap.size := lt_of_block hXb
              have HXb := Lib.hid hXb
              clear hXb
              go_wp2_with fail
              refine (EX.out _).mono ?_
              rintro e w3 ⟨rfl, hb3⟩
              have hX3 := (hb3.block X hXlt).trans HXb.out
              have q0 := at_block hX3 0 (.int .u8 ((0 : Nat) : Int)) rfl
              have q1 := at_block hX3 1 (.int .u8 ((0 : Nat) : Int)) rfl
              have q2 := at_block hX3 2 (.int .u8 ((0 : Nat) : Int)) rfl
              have q3 := at_block hX3 3 (.int .i64 ((0 : Nat) : Int)) rfl
              have HX3 := Lib.hid hX3
              clear hX3
              go_wp2_with fail
              refine (end_nil _).mono ?_
              rintro e w4 ⟨rfl, hb4⟩
              go_wp2_with fail
              go_ret
              exact ⟨rfl, hbw.trans ((hbc.trans ((hb3.trans (hb4.mono hb3.size)).mono hbc.size)).mono hbw.size)⟩
      · have hin : ¬ (i : Int) < n := by omega
        clear hfd hIe
        go_wp2
        go_ret
        exact ⟨rfl, hbw⟩
end Go.Proofs.YtdbbacmnlmkilaaDoor
