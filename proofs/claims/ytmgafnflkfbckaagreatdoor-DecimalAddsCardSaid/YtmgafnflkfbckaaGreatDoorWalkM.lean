/- The contract of sum. -/
import Derived.Test.YtmgafnflkfbckaaGreatDoorWalkL
namespace Go.Proofs.YtmgafnflkfbckaaGreatDoor
open Go.RowKit Go.Lib

namespace Dc
/-- One place of a sum or of a difference. -/
def addStep (same : Bool) (x y : Nat) (c : Int) : Nat × Int :=
  if same = true then ((((x : Int) + c + y) % 10).toNat, ((x : Int) + c + y) / 10)
  else if (x : Int) + c - y < 0 then (((x : Int) + c - y + 10).toNat, -1) else (((x : Int) + c - y).toNat, 0)
def addL (same : Bool) : List Nat → List Nat → List Nat × Int
  | x :: a, y :: b => ((addStep same x y (addL same a b).2).1 :: (addL same a b).1, (addStep same x y (addL same a b).2).2)
  | _, _ => ([], 0)
def okC (same : Bool) (c : Int) : Prop := if same = true then 0 ≤ c ∧ c ≤ 1 else -1 ≤ c ∧ c ≤ 0
theorem addL_ok {same : Bool} : ∀ {a b : List Nat}, Digs a → Digs b → a.length = b.length → okC same (addL same a b).2 ∧ Digs (addL same a b).1 ∧ (addL same a b).1.length = a.length
  | [], b, _, _, h => by
    rw [addL]
    · refine ⟨?_, fun x hx => by simp at hx, rfl⟩
      rw [okC]; split <;> omega
    · intro x a y b h1; cases h1
  | x :: a, [], _, _, h => by simp at h
  | x :: a, y :: b, ha, hb, h => by
    obtain ⟨h1, h2, h3⟩ := addL_ok (same := same) (fun z hz => ha z (by simp [hz])) (fun z hz => hb z (by simp [hz])) (by simpa using h : a.length = b.length)
    have hx := ha x (by simp)
    have hy := hb y (by simp)
    rw [addL]
    generalize (addL same a b).2 = c at h1 ⊢
    cases same with
    | true =>
      rw [okC, if_pos rfl] at h1
      refine ⟨?_, ?_, by simp [h3]⟩
      · rw [okC, if_pos rfl]; simp only [addStep, if_true]; omega
      · intro z hz
        simp only [addStep, if_true, List.mem_cons] at hz
        rcases hz with rfl | hz
        · omega
        · exact h2 z hz
    | false =>
      rw [okC, if_neg (by simp)] at h1
      refine ⟨?_, ?_, by simp [h3]⟩
      · rw [okC, if_neg (by simp)]
        simp only [addStep, Bool.false_eq_true, if_false]
        split <;> simp
      · intro z hz
        simp only [addStep, Bool.false_eq_true, if_false, List.mem_cons] at hz
        rcases hz with hz | hz
        · split at hz <;> simp only at hz <;> omega
        · exact h2 z hz
theorem addL_cons {same : Bool} {a b : List Nat} {x y i : Nat} (ha : a[i]? = some x) (hb : b[i]? = some y) :
    addL same (a.drop i) (b.drop i) = ((addStep same x y (addL same (a.drop (i + 1)) (b.drop (i + 1))).2).1 :: (addL same (a.drop (i + 1)) (b.drop (i + 1))).1, (addStep same x y (addL same (a.drop (i + 1)) (b.drop (i + 1))).2).2) := by
  obtain ⟨h1, e1⟩ := List.getElem?_eq_some_iff.1 ha
  obtain ⟨h2, e2⟩ := List.getElem?_eq_some_iff.1 hb
  rw [List.drop_eq_getElem_cons h1, List.drop_eq_getElem_cons h2, e1, e2, addL]
/-- The sum of two numbers that have been put in order. -/
def sumO (g : Bool) (l : List Nat) (e : Int) (g' : Bool) (l' : List Nat) (e' : Int) : D :=
  norm g (addL (g == g') (al l (e - min e e').toNat (max ((l.length : Int) + e) ((l'.length : Int) + e') - min e e' + 1).toNat) (al l' (e' - min e e').toNat (max ((l.length : Int) + e) ((l'.length : Int) + e') - min e e' + 1).toNat)).1 (min e e')
def sumP (x y : D) : D :=
  if x.c = [] then y else if y.c = [] then x else
  if (x.neg != y.neg && decide (magN x.c x.e y.c y.e < 0)) = true then sumO y.neg y.c y.e x.neg x.c x.e else sumO x.neg x.c x.e y.neg y.c y.e
end Dc

theorem Reads.beside2 {w w' : World} {B : Nat} {A A' A'' : Option Addr} {n : Nat} {l : List Nat} {X Y : Nat} {t t' : TypeId} {a a' : Bool} {m m' m2 m2' : Nat} {c c' : Int} (h : Reads w B A n (u8s l)) (hX : w.heap[X]? = some (.cells #[.bool a, .slice A' m m', .int .i64 c] t))
    (hY : w.heap[Y]? = some (.cells #[.bool a', .slice A'' m2 m2', .int .i64 c'] t')) (hk : ∀ k, k ≠ X → k ≠ Y → w'.heap[k]? = w.heap[k]?) : Reads w' B A n (u8s l) := by
  refine ⟨h.1, fun hn => ?_⟩
  obtain ⟨g, off, rfl, hb, hcell⟩ := h.2 hn
  have hlen := h.1
  cases l with
  | nil => simp [u8s] at hlen; omega
  | cons r rs =>
    have h0 := hcell 0 (.int .u8 r) rfl
    have key : ∀ (Z : Nat) (t : TypeId) (a : Bool) (A' : Option Addr) (m m' : Nat) (c : Int), w.heap[Z]? = some (.cells #[.bool a, .slice A' m m', .int .i64 c] t) → g ≠ Z := by
      intro Z t a A' m m' c hZ e
      subst e
      rw [World.cell?, hZ] at h0
      match off, h0 with
      | 0, h0 => simp at h0
      | 1, h0 => simp at h0
      | 2, h0 => simp at h0
      | k + 3, h0 => simp at h0
    exact ⟨g, off, rfl, hb, fun j u hj => by rw [← hcell j u hj]; exact World.cell?_of_block (hk g (key X _ _ _ _ _ _ hX) (key Y _ _ _ _ _ _ hY))⟩
theorem take_set {a R : List Nat} {q d : Nat} (hq : q < a.length) : (u8s (a.take (q + 1) ++ R)).toArray.setIfInBounds q (.int .u8 (d : Int)) = (u8s (a.take q ++ d :: R)).toArray := by
  rw [← u8s_set]
  congr 2
  have e : a.take (q + 1) = a.take q ++ [a[q]] := List.take_append_getElem hq |>.symm
  rw [e, List.append_assoc, List.set_append_right _ _ (by rw [List.length_take]; omega), List.length_take, Nat.min_eq_left (by omega), Nat.sub_self]
  rfl

set_option maxHeartbeats 1000000 in
set_option maxRecDepth 100000 in
theorem sum_any (g : Bool) (A : Option Addr) (m : Nat) (l : List Nat) (e : Int) (g' : Bool) (A' : Option Addr) (m' : Nat) (l' : List Nat) (e' : Int) (w : World)
    (hr : Reads w w.heap.size A m (u8s l)) (hr' : Reads w w.heap.size A' m' (u8s l')) (hd : Dc.Digs l) (hd' : Dc.Digs l') (hm : m ≤ 10000) (hm' : m' ≤ 10000) (he : -10000 ≤ e ∧ e ≤ 10000) (he' : -10000 ≤ e' ∧ e' ≤ 10000) :
    Calls Tryz.prog 21 #[.agg #[.bool g, .slice A m m, .int .i64 e], .agg #[.bool g', .slice A' m' m', .int .i64 e']] w fun x w' => ∃ v, x = .returned v ∧ NumAt w' v (Dc.sumP ⟨g, l, e⟩ ⟨g', l', e'⟩) ∧ Below w.heap.size w w' := by
  have hlm : l.length = m := by have := hr.1; rwa [u8s_len] at this
  have hlm' : l'.length = m' := by have := hr'.1; rwa [u8s_len] at this
  obtain ⟨w2, X, hw2, hX, hb2, hsz, hX2, hY2⟩ := box_two g A m m e g' A' m' m' e' w
  obtain ⟨w3, hw3⟩ : ∃ w3 : World, w2.alloc (.cells #[.bool false, .slice none 0 0, .int .i64 0] 46) = w3 := ⟨_, rfl⟩
  have hb23 : Below w2.heap.size w2 w3 := by rw [← hw3]; exact (Below.refl _ _).alloc (Nat.le_refl _) _
  have hb3 : Below X w w3 := by rw [← hX]; exact hb2.trans (hb23.mono hb2.size)
  have hX3 := (hb23.block X (by omega)).trans hX2
  have hY3 := (hb23.block (X + 1) (by omega)).trans hY2
  have hZ3 : w3.heap[X + 2]? = some (.cells #[.bool false, .slice none 0 0, .int .i64 0] 46 (0, 0)) := by rw [← hw3, ← hsz]; exact heap_alloc_new w2 _
  have hsz3 : w3.heap.size = X + 3 := by rw [← hw3]; simp [hsz]
  have hR := hr.on (hX ▸ hb3)
  have hR' := hr'.on (hX ▸ hb3)
  have x0 := at_block hX3 0 _ rfl
  have x1 := at_block hX3 1 _ rfl
  have x2 := at_block hX3 2 _ rfl
  have y0 := at_block hY3 0 _ rfl
  have y1 := at_block hY3 1 _ rfl
  have y2 := at_block hY3 2 _ rfl
  have z0 := at_block hZ3 0 _ rfl
  have z1 := at_block hZ3 1 _ rfl
  have z2 := at_block hZ3 2 _ rfl
  have fz0 := free_block hZ3 0
  have fz1 := free_block hZ3 1
  have fz2 := free_block hZ3 2
  have HW2 := Lib.hid hw2
  have HW3 := Lib.hid hw3
  have HXX := Lib.hid hX
  have HX3 := Lib.hid hX3
  have HY3 := Lib.hid hY3
  have HZ3 := Lib.hid hZ3
  have HR := Lib.hid hR
  have HR' := Lib.hid hR'
  have HSZ2 := Lib.hid hsz
  clear hw2 hw3 hX3 hY3 hZ3 hR hR' hX2 hY2 hsz
  by_cases h0 : m = 0
  · have hl : l = [] := List.length_eq_zero_iff.1 (by omega)
    have hv : Dc.sumP ⟨g, l, e⟩ ⟨g', l', e'⟩ = ⟨g', l', e'⟩ := by rw [Dc.sumP, if_pos hl]
    have HV := Lib.hid hv
    have HLM' := Lib.hid hlm'
    clear hv hl hlm hr hr' hX hlm'
    subst h0
    go_enter Tryz.func21, Tryz.ntmps21
    go_upto_region 1 with fail
    rw [HW2.out, HXX.out, HW3.out]
    try rw [HSZ2.out]
    go_wp2_with fail
    refine bodyPost_ret (v := .agg #[.bool g', .slice A' m' m', .int .i64 e']) (by simp [results, Tryz.results21, go_sem, z0, z1, z2]) rfl ?_
    refine ⟨_, rfl, ?_, ?_⟩
    · rw [HV.out]
      refine ⟨A', by rw [HLM'.out], ?_⟩
      simp only [HLM'.out]
      refine Reads.more (Reads.beside HR'.out HZ3.out fun k hk => ?_) (by simp [World.setCell])
      rw [Below.heap_setCell _ _ _ _ hk, Below.heap_setCell _ _ _ _ hk, Below.heap_setCell _ _ _ _ hk]
    · try rw [HXX.out]
      exact ((hb3.setCell (p := ⟨X + 2, 0, none⟩) (by show X ≤ X + 2; omega) _).setCell (p := ⟨X + 2, 1, none⟩) (by show X ≤ X + 2; omega) _).setCell (p := ⟨X + 2, 2, none⟩) (by show X ≤ X + 2; omega) _
  · have hl0 : l ≠ [] := by intro h; rw [h] at hlm; simp at hlm; omega
    by_cases h0' : m' = 0
    · have hl : l' = [] := List.length_eq_zero_iff.1 (by omega)
      have hv : Dc.sumP ⟨g, l, e⟩ ⟨g', l', e'⟩ = ⟨g, l, e⟩ := by rw [Dc.sumP, if_neg hl0, if_pos hl]
      have h0f : ((m : Int) == 0) = false := beq_eq_false_iff_ne.2 (by omega)
      have HV := Lib.hid hv
      have HLM := Lib.hid hlm
      clear hv hl hlm hr hr' hX hlm' hl0 h0
      subst h0'
      go_enter Tryz.func21, Tryz.ntmps21
      go_upto_region 1 with fail
      rw [HW2.out, HXX.out, HW3.out]
      try rw [HSZ2.out]
      go_wp2_with fail
      refine bodyPost_ret (v := .agg #[.bool g, .slice A m m, .int .i64 e]) (by simp [results, Tryz.results21, go_sem, z0, z1, z2]) rfl ?_
      refine ⟨_, rfl, ?_, ?_⟩
      · rw [HV.out]
        refine ⟨A, by rw [HLM.out], ?_⟩
        simp only [HLM.out]
        refine Reads.more (Reads.beside HR.out HZ3.out fun k hk => ?_) (by simp [World.setCell])
        rw [Below.heap_setCell _ _ _ _ hk, Below.heap_setCell _ _ _ _ hk, Below.heap_setCell _ _ _ _ hk]
      · try rw [HXX.out]
        exact ((hb3.setCell (p := ⟨X + 2, 0, none⟩) (by show X ≤ X + 2; omega) _).setCell (p := ⟨X + 2, 1, none⟩) (by show X ≤ X + 2; omega) _).setCell (p := ⟨X + 2, 2, none⟩) (by show X ≤ X + 2; omega) _
    · have hl0' : l' ≠ [] := by intro h; rw [h] at hlm'; simp at hlm'; omega
      have h0f : ((m : Int) == 0) = false := beq_eq_false_iff_ne.2 (by omega)
      have h0g : ((m' : Int) == 0) = false := beq_eq_false_iff_ne.2 (by omega)
      obtain ⟨E, hE⟩ : ∃ E, min e e' = E := ⟨_, rfl⟩
      obtain ⟨N, hN⟩ : ∃ N, (max ((m : Int) + e) ((m' : Int) + e') - E + 1).toNat = N := ⟨_, rfl⟩
      have hNi : max ((m : Int) + e) ((m' : Int) + e') - E + 1 = (N : Int) := by omega
      have hNb : N ≤ 40000 := by omega
      have hEb : -10000 ≤ E ∧ E ≤ 10000 := by omega
      obtain ⟨ng, hng⟩ : ∃ b, (g != g') = b := ⟨_, rfl⟩
      obtain ⟨lt, hlt⟩ : ∃ b, decide (Dc.magN l e l' e' < 0) = b := ⟨_, rfl⟩
      have hsum : Dc.sumP ⟨g, l, e⟩ ⟨g', l', e'⟩ = if (ng && lt) = true then Dc.sumO g' l' e' g l e else Dc.sumO g l e g' l' e' := by
        rw [Dc.sumP, if_neg hl0, if_neg hl0']
        simp only [hng, hlt]
      obtain ⟨sw, hsw⟩ : ∃ sw, (ng && lt) = sw := ⟨_, rfl⟩
      rw [hsw] at hsum
      have MG := Lib.hid (fun W hW hW' => mag_any g A m l e g' A' m' l' e' W hW hW' hd hd' (by omega) (by omega) (by omega) (by omega))
      have HE := Lib.hid hE
      have HN := Lib.hid hNi
      have HNG := Lib.hid hng
      have HLT := Lib.hid hlt
      have HSW := Lib.hid hsw
      have HSUM := Lib.hid hsum
      have HLM := Lib.hid hlm
      have HLM' := Lib.hid hlm'
      clear hE hN hNi hlt hsw hsum hlm hlm' hl0 hl0' h0 h0' hr hr' hX
      go_enter Tryz.func21, Tryz.ntmps21
      go_upto_region 1 with fail
      rw [HW2.out, HXX.out, HW3.out]
      try rw [HSZ2.out]
      go_upto_region 5 with fail
      go_cut [5] (fun a wx => a = .int .i64 E ∧ wx = w3)
      case first =>
        go_wp2_with fail
        go_meet
        exact ⟨congrArg (Value.int .i64) HE.out, rfl⟩
      case rest =>
        obtain ⟨rfl, hwc⟩ := hcut
        subst hwc
        go_upto_region 6 with fail
        go_cut [6] (fun b wx => b = .int .i64 (N : Int) ∧ wx = wc)
        case first =>
          go_wp2_with fail
          go_meet
          refine ⟨congrArg (Value.int .i64) ?_, rfl⟩
          have := HN.out
          omega
        case rest =>
          obtain ⟨rfl, hwc⟩ := hcut
          subst hwc
          obtain ⟨w4, hw4⟩ : ∃ W, W = wc := ⟨_, rfl⟩
          subst hw4
          go_upto_region 7 with fail
          go_cut [53] (fun c wx => c = .bool sw ∧ Below w4.heap.size w4 wx)
          case first =>
            cases g <;> cases g'
            · have hnf : ng = false := by rw [← HNG.out]; rfl
              have hsv : sw = false := by rw [← HSW.out, hnf]; rfl
              have HSV := Lib.hid hsv
              clear hnf hsv hng
              go_wp2_with fail
              go_meet
              exact ⟨by rw [HSV.out], Below.refl _ _⟩
            · have hn : ng = true := by rw [← HNG.out]; rfl
              have HNT := Lib.hid hn
              clear hn hng
              go_wp2_with fail
              refine (MG.out _ HR.out HR'.out).mono ?_
              rintro x w5 ⟨rfl, hb5⟩
              obtain ⟨mg, hmg⟩ : ∃ mg, Dc.magN l e l' e' = mg := ⟨_, rfl⟩
              rw [hmg]
              have HMG := Lib.hid hmg
              clear hmg
              by_cases hneg : mg < 0
              · have hsv : sw = true := by rw [← HSW.out, HNT.out, ← HLT.out, HMG.out]; simp [hneg]
                have HSV := Lib.hid hsv
                clear hsv
                go_wp2_with fail
                go_meet
                exact ⟨by rw [HSV.out], hb5⟩
              · have hsv : sw = false := by rw [← HSW.out, HNT.out, ← HLT.out, HMG.out]; simp [hneg]
                have HSV := Lib.hid hsv
                clear hsv
                go_wp2_with fail
                go_meet
                exact ⟨by rw [HSV.out]; first | rfl | (congr 1; simp; omega), hb5⟩
            · have hn : ng = true := by rw [← HNG.out]; rfl
              have HNT := Lib.hid hn
              clear hn hng
              go_wp2_with fail
              refine (MG.out _ HR.out HR'.out).mono ?_
              rintro x w5 ⟨rfl, hb5⟩
              obtain ⟨mg, hmg⟩ : ∃ mg, Dc.magN l e l' e' = mg := ⟨_, rfl⟩
              rw [hmg]
              have HMG := Lib.hid hmg
              clear hmg
              by_cases hneg : mg < 0
              · have hsv : sw = true := by rw [← HSW.out, HNT.out, ← HLT.out, HMG.out]; simp [hneg]
                have HSV := Lib.hid hsv
                clear hsv
                go_wp2_with fail
                go_meet
                exact ⟨by rw [HSV.out], hb5⟩
              · have hsv : sw = false := by rw [← HSW.out, HNT.out, ← HLT.out, HMG.out]; simp [hneg]
                have HSV := Lib.hid hsv
                clear hsv
                go_wp2_with fail
                go_meet
                exact ⟨by rw [HSV.out]; first | rfl | (congr 1; simp; omega), hb5⟩
            · have hnf : ng = false := by rw [← HNG.out]; rfl
              have hsv : sw = false := by rw [← HSW.out, hnf]; rfl
              have HSV := Lib.hid hsv
              clear hnf hsv hng
              go_wp2_with fail
              go_meet
              exact ⟨by rw [HSV.out], Below.refl _ _⟩
          case rest =>
            obtain ⟨rfl, hbc⟩ := hcut
            obtain ⟨w5, hw5⟩ : ∃ W, W = wc := ⟨_, rfl⟩
            subst hw5
            have hX5 := (hbc.block X (by omega)).trans HX3.out
            have hY5 := (hbc.block (X + 1) (by omega)).trans HY3.out
            have hZ5 := (hbc.block (X + 2) (by omega)).trans HZ3.out
            have hR5 := HR.out.on hbc
            have hR5' := HR'.out.on hbc
            have hb5 : Below X w w5 := hb3.trans (hbc.mono (by omega))
            have hs5 := hbc.size
            clear x0 x1 x2 y0 y1 y2 z0 z1 z2 fz0 fz1 fz2
            have x0 := at_block hX5 0 _ rfl
            have x1 := at_block hX5 1 _ rfl
            have x2 := at_block hX5 2 _ rfl
            have y0 := at_block hY5 0 _ rfl
            have y1 := at_block hY5 1 _ rfl
            have y2 := at_block hY5 2 _ rfl
            have fx0 := free_block hX5 0
            have fx1 := free_block hX5 1
            have fx2 := free_block hX5 2
            have fy0 := free_block hY5 0
            have fy1 := free_block hY5 1
            have fy2 := free_block hY5 2
            have HX5 := Lib.hid hX5
            have HY5 := Lib.hid hY5
            have HZ5 := Lib.hid hZ5
            have HR5 := Lib.hid hR5
            have HR5' := Lib.hid hR5'
            clear hX5 hY5 hZ5 hR5 hR5'
            go_upto_if 53 with fail
            go_cut [4] (fun t4 wx => ∃ (g1 : Bool) (A1 : Option Addr) (l1 : List Nat) (e1 : Int) (g2 : Bool) (A2 : Option Addr) (l2 : List Nat) (e2 : Int), t4 = .pointer (some ⟨X + 1 + 1, 0, none⟩) ∧ wx.heap[X]? = some (.cells #[.bool g1, .slice A1 l1.length l1.length, .int .i64 e1] 46 (0, 0)) ∧
              wx.heap[X + 1]? = some (.cells #[.bool g2, .slice A2 l2.length l2.length, .int .i64 e2] 46 (0, 0)) ∧ wx.heap[X + 2]? = some (.cells #[.bool false, .slice none 0 0, .int .i64 0] 46 (0, 0)) ∧ Reads wx wx.heap.size A1 l1.length (u8s l1) ∧ Reads wx wx.heap.size A2 l2.length (u8s l2) ∧ Below X w wx ∧ X + 3 ≤ wx.heap.size ∧
              Dc.Digs l1 ∧ Dc.Digs l2 ∧ l1.length ≤ 10000 ∧ l2.length ≤ 10000 ∧ (-10000 ≤ e1 ∧ e1 ≤ 10000) ∧ (-10000 ≤ e2 ∧ e2 ≤ 10000) ∧ min e1 e2 = E ∧ max ((l1.length : Int) + e1) ((l2.length : Int) + e2) - E + 1 = (N : Int) ∧ Dc.sumP ⟨g, l, e⟩ ⟨g', l', e'⟩ = Dc.sumO g1 l1 e1 g2 l2 e2)
            case first =>
              cases sw with
              | true =>
                have hfin : Dc.sumP ⟨g, l, e⟩ ⟨g', l', e'⟩ = Dc.sumO g' l' e' g l e := by rw [HSUM.out, if_pos rfl]
                have HF := Lib.hid hfin
                clear hfin
                go_wp2_with fail
                go_meet
                refine ⟨g', A', l', e', g, A, l, e, rfl, ?_, ?_, ?_, ?_, ?_, ?_, ?_, hd', hd, by rw [HLM'.out]; exact hm', by rw [HLM.out]; exact hm, he', he, by rw [← HE.out]; omega, by rw [HLM.out, HLM'.out, ← HN.out]; omega, HF.out⟩
                · rw [HLM'.out]
                  have h1 := block_set (block_set (block_set HX5.out 0 (.bool g')) 1 (.slice A' m' m')) 2 (.int .i64 e')
                  rw [Below.heap_setCell _ _ _ _ (show X ≠ X + 1 by omega), Below.heap_setCell _ _ _ _ (show X ≠ X + 1 by omega), Below.heap_setCell _ _ _ _ (show X ≠ X + 1 by omega)]
                  exact h1
                · rw [HLM.out]
                  refine block_set (block_set (block_set (t := 46) (fr := (0, 0)) (cs := #[.bool g', .slice A' m' m', .int .i64 e']) ?_ 0 _) 1 _) 2 _
                  rw [Below.heap_setCell _ _ _ _ (show X + 1 ≠ X by omega), Below.heap_setCell _ _ _ _ (show X + 1 ≠ X by omega), Below.heap_setCell _ _ _ _ (show X + 1 ≠ X by omega)]
                  exact HY5.out
                · rw [Below.heap_setCell _ _ _ _ (show X + 2 ≠ X + 1 by omega), Below.heap_setCell _ _ _ _ (show X + 2 ≠ X + 1 by omega), Below.heap_setCell _ _ _ _ (show X + 2 ≠ X + 1 by omega), Below.heap_setCell _ _ _ _ (show X + 2 ≠ X by omega), Below.heap_setCell _ _ _ _ (show X + 2 ≠ X by omega), Below.heap_setCell _ _ _ _ (show X + 2 ≠ X by omega)]
                  exact HZ5.out
                · rw [HLM'.out]
                  refine Reads.more (Reads.beside2 HR5'.out HX5.out HY5.out fun k h1 h2 => ?_) (by simp [World.setCell])
                  rw [Below.heap_setCell _ _ _ _ h2, Below.heap_setCell _ _ _ _ h2, Below.heap_setCell _ _ _ _ h2, Below.heap_setCell _ _ _ _ h1, Below.heap_setCell _ _ _ _ h1, Below.heap_setCell _ _ _ _ h1]
                · rw [HLM.out]
                  refine Reads.more (Reads.beside2 HR5.out HX5.out HY5.out fun k h1 h2 => ?_) (by simp [World.setCell])
                  rw [Below.heap_setCell _ _ _ _ h2, Below.heap_setCell _ _ _ _ h2, Below.heap_setCell _ _ _ _ h2, Below.heap_setCell _ _ _ _ h1, Below.heap_setCell _ _ _ _ h1, Below.heap_setCell _ _ _ _ h1]
                · exact (((((hb5.setCell (p := ⟨X, 0, none⟩) (Nat.le_refl _) _).setCell (p := ⟨X, 1, none⟩) (Nat.le_refl _) _).setCell (p := ⟨X, 2, none⟩) (Nat.le_refl _) _).setCell (p := ⟨X + 1, 0, none⟩) (by show X ≤ X + 1; omega) _).setCell (p := ⟨X + 1, 1, none⟩) (by show X ≤ X + 1; omega) _).setCell (p := ⟨X + 1, 2, none⟩) (by show X ≤ X + 1; omega) _
                · simp [World.setCell]; omega
              | false =>
                have hfin : Dc.sumP ⟨g, l, e⟩ ⟨g', l', e'⟩ = Dc.sumO g l e g' l' e' := by rw [HSUM.out, if_neg (by simp)]
                have HF := Lib.hid hfin
                clear hfin
                go_wp2_with fail
                go_meet
                refine ⟨g, A, l, e, g', A', l', e', rfl, ?_, ?_, HZ5.out, ?_, ?_, hb5, by omega, hd, hd', by rw [HLM.out]; exact hm, by rw [HLM'.out]; exact hm', he, he', HE.out, by rw [HLM.out, HLM'.out, ← HN.out], HF.out⟩
                · rw [HLM.out]; exact HX5.out
                · rw [HLM'.out]; exact HY5.out
                · rw [HLM.out]; exact HR5.out
                · rw [HLM'.out]; exact HR5'.out
            case rest =>
              obtain ⟨g1, A1, l1, e1, g2, A2, l2, e2, rfl, hX6, hY6, hZ6, hR1, hR2, hb6, hsz6, hd1, hd2, hm1, hm2, he1, he2, hE6, hN6, hsumf⟩ := hcut
              obtain ⟨w6, hw6⟩ : ∃ W, W = wc := ⟨_, rfl⟩
              subst hw6
              obtain ⟨m1, hlm1⟩ : ∃ z, l1.length = z := ⟨_, rfl⟩
              obtain ⟨m2, hlm2⟩ : ∃ z, l2.length = z := ⟨_, rfl⟩
              rw [hlm1] at hX6 hR1 hm1 hN6
              rw [hlm2] at hY6 hR2 hm2 hN6
              obtain ⟨k1, hk1⟩ : ∃ k1, (e1 - E).toNat = k1 := ⟨_, rfl⟩
              obtain ⟨k2, hk2⟩ : ∃ k2, (e2 - E).toNat = k2 := ⟨_, rfl⟩
              have hk1i : e1 - E = (k1 : Int) := by omega
              have hk2i : e2 - E = (k2 : Int) := by omega
              have hf1 : m1 + k1 ≤ N := by omega
              have hf2 : m2 + k2 ≤ N := by omega
              obtain ⟨a, ha⟩ : ∃ a, Dc.al l1 k1 N = a := ⟨_, rfl⟩
              obtain ⟨b, hb⟩ : ∃ b, Dc.al l2 k2 N = b := ⟨_, rfl⟩
              have hal : a.length = N := by rw [← ha]; exact Dc.al_len (Or.inr (by rw [hlm1]; exact hf1))
              have hbl : b.length = N := by rw [← hb]; exact Dc.al_len (Or.inr (by rw [hlm2]; exact hf2))
              have had : Dc.Digs a := by rw [← ha]; exact Dc.al_digs hd1
              have hbd : Dc.Digs b := by rw [← hb]; exact Dc.al_digs hd2
              obtain ⟨same, hsame⟩ : ∃ same, (g1 == g2) = same := ⟨_, rfl⟩
              have hfin : Dc.sumP ⟨g, l, e⟩ ⟨g', l', e'⟩ = Dc.norm g1 (Dc.addL same a b).1 E := by
                rw [hsumf, Dc.sumO, hE6, hlm1, hlm2, hk1, hk2, hN6, Int.toNat_natCast, ha, hb, hsame]
              have AL1 := Lib.hid (fun W hW => aligned_any g1 A1 m1 l1 e1 E N k1 W hW (Or.inr ⟨hk1i, hf1⟩) (by omega) (by omega) (by omega))
              have AL2 := Lib.hid (fun W hW => aligned_any g2 A2 m2 l2 e2 E N k2 W hW (Or.inr ⟨hk2i, hf2⟩) (by omega) (by omega) (by omega))
              rw [ha] at AL1
              rw [hb] at AL2
              have hcells : ∀ W, Below w6.heap.size w6 W → W.cell? ⟨X, 0, none⟩ = some (.bool g1) ∧ W.cell? ⟨X, 1, none⟩ = some (.slice A1 m1 m1) ∧ W.cell? ⟨X, 2, none⟩ = some (.int .i64 e1) ∧ W.cell? ⟨X + 1, 0, none⟩ = some (.bool g2) ∧ W.cell? ⟨X + 1, 1, none⟩ = some (.slice A2 m2 m2) ∧ W.cell? ⟨X + 1, 2, none⟩ = some (.int .i64 e2) ∧ Below w6.heap.size w6 W := by
                intro W hW
                have h1 := (hW.block X (by omega)).trans hX6
                have h2 := (hW.block (X + 1) (by omega)).trans hY6
                exact ⟨at_block h1 0 _ rfl, at_block h1 1 _ rfl, at_block h1 2 _ rfl, at_block h2 0 _ rfl, at_block h2 1 _ rfl, at_block h2 2 _ rfl, hW⟩
              have HC := Lib.hid hcells
              have HF := Lib.hid hfin
              have HR1 := Lib.hid hR1
              have HR2 := Lib.hid hR2
              have HX6 := Lib.hid hX6
              have HY6 := Lib.hid hY6
              have HZ6 := Lib.hid hZ6
              have HAL := Lib.hid hal
              have HBL := Lib.hid hbl
              have HSM := Lib.hid hsame
              have HD := Lib.hid (And.intro had hbd)
              clear hcells hfin hR1 hR2 hX6 hY6 hZ6 hal hbl hsame had hbd ha hb hk1 hk2 hk1i hk2i hf1 hf2 hsumf hE6 hN6 hlm1 hlm2 hng x0 x1 x2 y0 y1 y2 fx0 fx1 fx2 fy0 fy1 fy2
              go_upto_region 9 with fail
              go_region_held3 (fun W => W.cell? ⟨X, 0, none⟩ = some (.bool g1) ∧ W.cell? ⟨X, 1, none⟩ = some (.slice A1 m1 m1) ∧ W.cell? ⟨X, 2, none⟩ = some (.int .i64 e1) ∧ W.cell? ⟨X + 1, 0, none⟩ = some (.bool g2) ∧ W.cell? ⟨X + 1, 1, none⟩ = some (.slice A2 m2 m2) ∧ W.cell? ⟨X + 1, 2, none⟩ = some (.int .i64 e2) ∧ Below w6.heap.size w6 W)
                ((refine HC.out _ ?_; first | assumption | exact (Below.refl _ _).drew | exact b_drew (by assumption)))
                (first | (with_reducible refine (AL1.out _ (HR1.out.on (p6 (by assumption)))).mono ?_; rintro x w7 ⟨G1, rfl, hG1, hH1, hb7⟩; have hb7' := p6_trans (by assumption) hb7) | (with_reducible refine (AL2.out _ (HR2.out.on (p6 (by assumption)))).mono ?_; rintro x w8 ⟨G2, rfl, hG2, hH2, hb8⟩; have hb8' := p6_trans (by assumption) hb8))
              have hG1lt := lt_of_block hH1
              have hG1s : w6.heap.size ≤ G1 := hG1
              have hG12 : G1 < G2 := by omega
              have hH1' := (hb8.block G1 hG1lt).trans hH1
              have hX8 := (hb8'.block X (by omega)).trans HX6.out
              have hY8 := (hb8'.block (X + 1) (by omega)).trans HY6.out
              have hZ8 := (hb8'.block (X + 2) (by omega)).trans HZ6.out
              have hb8x : Below X w w8 := hb6.trans (hb8'.mono (by omega))
              have HH1 := Lib.hid hH1'
              have HH2 := Lib.hid hH2
              have HX8 := Lib.hid hX8
              have HY8 := Lib.hid hY8
              have HZ8 := Lib.hid hZ8
              clear hH1 hH1' hH2 hX8 hY8 hZ8 hb7 hb7' hb8 hG1
              go_wp2_with fail
              go_loopg [9, 10] (N + 1) (fun f c i wx => ∃ (q : Nat) (cy j : Int), c = .int .i64 cy ∧ i = .int .i64 j ∧ j = (q : Int) - 1 ∧ q ≤ N ∧ q ≤ f ∧ (Dc.addL same (a.drop q) (b.drop q)).2 = cy ∧
                wx.heap[G1]? = some (.cells (u8s (a.take q ++ (Dc.addL same (a.drop q) (b.drop q)).1)).toArray 5 (0, 0)) ∧ wx.heap[G2]? = some (.cells (u8s b).toArray 5 (0, 0)) ∧
                wx.heap[X]? = some (.cells #[.bool g1, .slice A1 m1 m1, .int .i64 e1] 46 (0, 0)) ∧ wx.heap[X + 1]? = some (.cells #[.bool g2, .slice A2 m2 m2, .int .i64 e2] 46 (0, 0)) ∧
                wx.heap[X + 2]? = some (.cells #[.bool false, .slice none 0 0, .int .i64 0] 46 (0, 0)) ∧ Below X w wx)
              case atStart =>
                have e1' : a.drop N = [] := List.drop_eq_nil_of_le (by rw [HAL.out]; exact Nat.le_refl _)
                have e2' : b.drop N = [] := List.drop_eq_nil_of_le (by rw [HBL.out]; exact Nat.le_refl _)
                have e3' : Dc.addL same ([] : List Nat) [] = ([], 0) := by simp [Dc.addL]
                refine ⟨N, 0, (N : Int) - 1, rfl, rfl, rfl, Nat.le_refl _, by omega, by rw [e1', e2', e3'], ?_, HH2.out, HX8.out, HY8.out, HZ8.out, hb8x⟩
                rw [e1', e2', e3', List.append_nil, List.take_of_length_le (by rw [HAL.out]; exact Nat.le_refl _)]
                exact HH1.out
              case round =>
                obtain ⟨q, cy, j, rfl, rfl, hj, hqN, hqf, hcy, hL, hB, hX9, hY9, hZ9, hb9⟩ := hrel
                obtain ⟨RS, hRS⟩ : ∃ RS, (Dc.addL same (a.drop q) (b.drop q)).1 = RS := ⟨_, rfl⟩
                rw [hRS] at hL
                have HCY := Lib.hid hcy
                have HRS := Lib.hid hRS
                have x0 := at_block hX9 0 _ rfl
                have y0 := at_block hY9 0 _ rfl
                have HX9 := Lib.hid hX9
                have HY9 := Lib.hid hY9
                have HZ9 := Lib.hid hZ9
                have HB9 := Lib.hid hB
                have HL9 := Lib.hid hL
                clear hcy hRS hX9 hY9
                cases q with
                | zero =>
                  have hjn : ¬ (0 : Int) ≤ j := by omega
                  have hR1 := Reads.of_block hL
                  have hrl : RS.length = N := by
                    obtain ⟨_, _, h3⟩ := Dc.addL_ok (same := same) (a := a) (b := b) HD.out.1 HD.out.2 (by rw [HAL.out, HBL.out])
                    have := HRS.out
                    rw [List.drop_zero, List.drop_zero] at this
                    rw [← this, h3, HAL.out]
                  rw [List.take_zero, List.nil_append, u8s_len, hrl] at hR1
                  have NO := Lib.hid (norm_any g1 (some ⟨G1, 0, none⟩) N N RS E wr hR1 (Nat.le_refl _) (by omega) (by omega))
                  obtain ⟨y, hy⟩ : ∃ y, Dc.norm g1 RS E = y := ⟨_, rfl⟩
                  rw [hy] at NO
                  have hfy : Dc.sumP ⟨g, l, e⟩ ⟨g', l', e'⟩ = y := by
                    have := HRS.out
                    rw [List.drop_zero, List.drop_zero] at this
                    rw [HF.out, this, hy]
                  have HFY := Lib.hid hfy
                  clear hL hB hZ9 hR1 hrl hy hfy
                  go_wp2_with fail
                  refine (NO.out).mono ?_
                  rintro x w17 ⟨v, rfl, ⟨A9, rfl, hr17⟩, hb17⟩
                  obtain ⟨gy, hgy⟩ : ∃ z, y.neg = z := ⟨_, rfl⟩
                  obtain ⟨ny, hny⟩ : ∃ z, y.c.length = z := ⟨_, rfl⟩
                  obtain ⟨ey, hey⟩ : ∃ z, y.e = z := ⟨_, rfl⟩
                  rw [hgy, hny, hey]
                  rw [hny] at hr17
                  have hq17 := (hb17.block (X + 2) (lt_of_block HZ9.out)).trans HZ9.out
                  have zz0 : w17.cell? ⟨X + 1 + 1, 0, none⟩ = some (.bool false) := at_block hq17 0 _ rfl
                  have zz1 : w17.cell? ⟨X + 1 + 1, 1, none⟩ = some (.slice none 0 0) := at_block hq17 1 _ rfl
                  have zz2 : w17.cell? ⟨X + 1 + 1, 2, none⟩ = some (.int .i64 0) := at_block hq17 2 _ rfl
                  have fz0 : w17.frozen? ⟨X + 1 + 1, 0, none⟩ = false := free_block hq17 0
                  have fz1 : w17.frozen? ⟨X + 1 + 1, 1, none⟩ = false := free_block hq17 1
                  have fz2 : w17.frozen? ⟨X + 1 + 1, 2, none⟩ = false := free_block hq17 2
                  have hs17 := lt_of_block HZ9.out
                  have HQ17 := Lib.hid hq17
                  have HGY := Lib.hid hgy
                  have HNY := Lib.hid hny
                  have HEY := Lib.hid hey
                  have HR17 := Lib.hid hr17
                  clear hq17 hgy hny hey hr17
                  go_wp2_with fail
                  refine bodyPost_ret (v := .agg #[.bool gy, .slice A9 ny ny, .int .i64 ey]) (by simp [results, Tryz.results21, go_sem, zz0, zz1, zz2]) rfl ?_
                  refine ⟨_, rfl, ?_, ?_⟩
                  · rw [HFY.out]
                    refine ⟨A9, by rw [HGY.out, HNY.out, HEY.out], ?_⟩
                    rw [HNY.out]
                    refine Reads.more (Reads.beside HR17.out HQ17.out fun k hk => ?_) (by simp [World.setCell])
                    rw [Below.heap_setCell _ _ _ _ hk, Below.heap_setCell _ _ _ _ hk, Below.heap_setCell _ _ _ _ hk]
                  · try rw [HXX.out]
                    have hb18 : Below X w w17 := hb9.trans (hb17.mono (by omega))
                    exact ((hb18.setCell (p := ⟨X + 1 + 1, 0, none⟩) (by show X ≤ X + 1 + 1; omega) _).setCell (p := ⟨X + 1 + 1, 1, none⟩) (by show X ≤ X + 1 + 1; omega) _).setCell (p := ⟨X + 1 + 1, 2, none⟩) (by show X ≤ X + 1 + 1; omega) _
                | succ r =>
                  obtain ⟨f, rfl⟩ : ∃ f, gk = f + 1 := ⟨gk - 1, by omega⟩
                  obtain rfl : j = (r : Int) := by omega
                  have hr0 : (0 : Int) ≤ (r : Int) := by omega
                  have hrN : (r : Int) < (N : Int) := by omega
                  obtain ⟨x, hx⟩ : ∃ x, a[r]? = some x := ⟨_, List.getElem?_eq_getElem (by rw [HAL.out]; omega)⟩
                  obtain ⟨y, hy⟩ : ∃ y, b[r]? = some y := ⟨_, List.getElem?_eq_getElem (by rw [HBL.out]; omega)⟩
                  have hx10 := HD.out.1 x (List.mem_of_getElem? hx)
                  have hy10 := HD.out.2 y (List.mem_of_getElem? hy)
                  have hokc := (Dc.addL_ok (same := same) (a := a.drop (r + 1)) (b := b.drop (r + 1)) (fun z hz => HD.out.1 z (List.mem_of_mem_drop hz)) (fun z hz => HD.out.2 z (List.mem_of_mem_drop hz)) (by rw [List.length_drop, List.length_drop, HAL.out, HBL.out])).1
                  rw [HCY.out] at hokc
                  have hstep := Dc.addL_cons (same := same) hx hy
                  rw [HCY.out, HRS.out] at hstep
                  have c0 := at_block hL r (.int .u8 (x : Int)) (by
                    have h1 : (a.take (r + 1) ++ RS)[r]? = some x := by rw [List.getElem?_append_left (by rw [List.length_take, HAL.out]; omega), List.getElem?_take_of_lt (by omega)]; exact hx
                    simpa using u8s_get h1)
                  have fc0 := free_block hL r
                  have d0 := at_block hB r (.int .u8 (y : Int)) (by simpa using u8s_get hy)
                  have hwx : IntKind.i64.wrap (x : Int) = (x : Int) := IntWalk.i64_in _ (by omega)
                  have hwy : IntKind.i64.wrap (y : Int) = (y : Int) := IntWalk.i64_in _ (by omega)
                  have HST := Lib.hid hstep
                  have HOK := Lib.hid hokc
                  have HRL : r < a.length := by rw [HAL.out]; omega
                  clear hstep hokc hL hB hZ9 hx hy hj
                  have hcb : -1 ≤ cy ∧ cy ≤ 1 := by
                    have := HOK.out
                    rw [Dc.okC] at this
                    split at this <;> omega
                  go_upto_region 15 with fail
                  go_cut [81] (fun c wx => c = .bool same ∧ wx = wr)
                  case first =>
                    cases g1 <;> cases g2
                    · have hs : same = true := by rw [← HSM.out]; rfl
                      have HS := Lib.hid hs
                      clear hs
                      go_wp2_with fail
                      go_meet
                      exact ⟨by rw [HS.out], rfl⟩
                    · have hs : same = false := by rw [← HSM.out]; rfl
                      have HS := Lib.hid hs
                      clear hs
                      go_wp2_with fail
                      go_meet
                      exact ⟨by rw [HS.out], rfl⟩
                    · have hs : same = false := by rw [← HSM.out]; rfl
                      have HS := Lib.hid hs
                      clear hs
                      go_wp2_with fail
                      go_meet
                      exact ⟨by rw [HS.out], rfl⟩
                    · have hs : same = true := by rw [← HSM.out]; rfl
                      have HS := Lib.hid hs
                      clear hs
                      go_wp2_with fail
                      go_meet
                      exact ⟨by rw [HS.out], rfl⟩
                  case rest =>
                    obtain ⟨rfl, hwc⟩ := hcut
                    subst hwc
                    obtain ⟨w10, hw10⟩ : ∃ W, W = wc := ⟨_, rfl⟩
                    subst hw10
                    cases same with
                    | true =>
                      have hcc : 0 ≤ cy ∧ cy ≤ 1 := by have := HOK.out; rw [Dc.okC, if_pos rfl] at this; exact this
                      have hdv : Int.tdiv ((x : Int) + cy + (y : Int)) 10 = ((x : Int) + cy + (y : Int)) / 10 := Int.tdiv_eq_ediv_of_nonneg (by omega)
                      have hmd : Int.tmod ((x : Int) + cy + (y : Int)) 10 = ((x : Int) + cy + (y : Int)) % 10 := Int.tmod_eq_emod_of_nonneg (by omega)
                      have hw8 : IntKind.u8.wrap (((x : Int) + cy + (y : Int)) % 10) = ((x : Int) + cy + (y : Int)) % 10 := by rw [IntKind.wrap_u8]; omega
                      go_wp2_with fail
                      obtain ⟨d, hdd⟩ : ∃ d : Nat, ((x : Int) + cy + (y : Int)) % 10 = (d : Int) := ⟨_, (Int.toNat_of_nonneg (by omega)).symm⟩
                      have hst : Dc.addStep true x y cy = (d, ((x : Int) + cy + (y : Int)) / 10) := by rw [Dc.addStep, if_pos rfl]; congr 1; omega
                      have h5 := block_set HL9.out r (.int .u8 (d : Int))
                      rw [take_set HRL] at h5
                      have hst2 := HST.out
                      rw [hst] at hst2
                      go_roundg f
                      case measure => omega
                      case rel =>
                        refine ⟨r, ((x : Int) + cy + (y : Int)) / 10, (r : Int) - 1, rfl, rfl, rfl, by omega, by omega, by rw [hst2], ?_, ?_, ?_, ?_, ?_, ?_⟩
                        · rw [hst2, hdd]; exact h5
                        · rw [Below.heap_setCell _ _ _ _ (show G2 ≠ G1 by omega)]; exact HB9.out
                        · rw [Below.heap_setCell _ _ _ _ (show X ≠ G1 by omega)]; exact HX9.out
                        · rw [Below.heap_setCell _ _ _ _ (show X + 1 ≠ G1 by omega)]; exact HY9.out
                        · rw [Below.heap_setCell _ _ _ _ (show X + 2 ≠ G1 by omega)]; exact HZ9.out
                        · exact hb9.setCell (p := ⟨G1, r, none⟩) (by show X ≤ G1; omega) _
                    | false =>
                      have hcc : -1 ≤ cy ∧ cy ≤ 0 := by have := HOK.out; rw [Dc.okC, if_neg (by simp)] at this; exact this
                      by_cases hneg : (x : Int) + cy - (y : Int) < 0
                      · have hneg' : (x : Int) + cy - (y : Int) < 0 := hneg
                        have hw8 : IntKind.u8.wrap ((x : Int) + cy - (y : Int) + 10) = (x : Int) + cy - (y : Int) + 10 := by rw [IntKind.wrap_u8]; omega
                        go_wp2_with fail
                        obtain ⟨d, hdd⟩ : ∃ d : Nat, (x : Int) + cy - (y : Int) + 10 = (d : Int) := ⟨_, (Int.toNat_of_nonneg (by omega)).symm⟩
                        have hst : Dc.addStep false x y cy = (d, -1) := by rw [Dc.addStep, if_neg (by simp), if_pos hneg']; congr 1; omega
                        have h5 := block_set HL9.out r (.int .u8 (d : Int))
                        rw [take_set HRL] at h5
                        have hst2 := HST.out
                        rw [hst] at hst2
                        go_roundg f
                        case measure => omega
                        case rel =>
                          refine ⟨r, -1, (r : Int) - 1, rfl, rfl, rfl, by omega, by omega, by rw [hst2], ?_, ?_, ?_, ?_, ?_, ?_⟩
                          · rw [hst2, hdd]; exact h5
                          · rw [Below.heap_setCell _ _ _ _ (show G2 ≠ G1 by omega)]; exact HB9.out
                          · rw [Below.heap_setCell _ _ _ _ (show X ≠ G1 by omega)]; exact HX9.out
                          · rw [Below.heap_setCell _ _ _ _ (show X + 1 ≠ G1 by omega)]; exact HY9.out
                          · rw [Below.heap_setCell _ _ _ _ (show X + 2 ≠ G1 by omega)]; exact HZ9.out
                          · exact hb9.setCell (p := ⟨G1, r, none⟩) (by show X ≤ G1; omega) _
                      · have hneg' : ¬ (x : Int) + cy - (y : Int) < 0 := hneg
                        have hw8 : IntKind.u8.wrap ((x : Int) + cy - (y : Int)) = (x : Int) + cy - (y : Int) := by rw [IntKind.wrap_u8]; omega
                        go_wp2_with fail
                        obtain ⟨d, hdd⟩ : ∃ d : Nat, (x : Int) + cy - (y : Int) = (d : Int) := ⟨_, (Int.toNat_of_nonneg (by omega)).symm⟩
                        have hst : Dc.addStep false x y cy = (d, 0) := by rw [Dc.addStep, if_neg (by simp), if_neg (by omega)]; congr 1; omega
                        have h5 := block_set HL9.out r (.int .u8 (d : Int))
                        rw [take_set HRL] at h5
                        have hst2 := HST.out
                        rw [hst] at hst2
                        go_roundg f
                        case measure => omega
                        case rel =>
                          refine ⟨r, 0, (r : Int) - 1, rfl, rfl, rfl, by omega, by omega, by rw [hst2], ?_, ?_, ?_, ?_, ?_, ?_⟩
                          · rw [hst2, hdd]; exact h5
                          · rw [Below.heap_setCell _ _ _ _ (show G2 ≠ G1 by omega)]; exact HB9.out
                          · rw [Below.heap_setCell _ _ _ _ (show X ≠ G1 by omega)]; exact HX9.out
                          · rw [Below.heap_setCell _ _ _ _ (show X + 1 ≠ G1 by omega)]; exact HY9.out
                          · rw [Below.heap_setCell _ _ _ _ (show X + 2 ≠ G1 by omega)]; exact HZ9.out
                          · exact hb9.setCell (p := ⟨G1, r, none⟩) (by show X ≤ G1; omega) _
end Go.Proofs.YtmgafnflkfbckaaGreatDoor
