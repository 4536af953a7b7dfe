/- The contract of magnitudes. -/
import Derived.Test.YtmgafnflkfbckaaGreatDoorWalkK
namespace Go.Proofs.YtmgafnflkfbckaaGreatDoor
open Go.RowKit Go.Lib

namespace Dc
/-- The first difference of the digits from place i on, f places. -/
def diffN (a b : List Nat) (i : Nat) : Nat → Int
  | 0 => 0
  | f + 1 => if (a.getD i 0 : Int) - (b.getD i 0 : Int) ≠ 0 then (a.getD i 0 : Int) - (b.getD i 0 : Int) else diffN a b (i + 1) f
/-- The comparison of the absolute values. -/
def magN (a : List Nat) (e : Int) (b : List Nat) (f : Int) : Int :=
  if a.length = 0 ∨ b.length = 0 then (a.length : Int) - b.length
  else if (a.length : Int) + e - b.length - f ≠ 0 then (a.length : Int) + e - b.length - f
  else diffN a b 0 (max a.length b.length)
end Dc

set_option maxHeartbeats 1000000 in
set_option maxRecDepth 100000 in
theorem at_any (g : Bool) (A : Option Addr) (m : Nat) (l : List Nat) (e : Int) (i : Nat) (w : World) (hr : Reads w w.heap.size A m (u8s l)) (hi : i ≤ 1048576) :
    Calls Tryz.prog 62 #[.agg #[.bool g, .slice A m m, .int .i64 e], .int .i64 (i : Int)] w fun x w' => x = .returned (.int .u8 ((l.getD i 0 : Nat) : Int)) ∧ Below w.heap.size w w' := by
  have hlm : l.length = m := by have := hr.1; rwa [u8s_len] at this
  by_cases h : i < m
  · obtain ⟨b, off, u, rfl, hbB, hu, hcell⟩ := hr.at_ (k := i) h
    obtain ⟨x, hx, rfl⟩ := u8_at hu
    have hg : l.getD i 0 = x := by rw [List.getD_eq_getElem?_getD, hx]; rfl
    rw [hg]
    have hii : (i : Int) < (m : Int) := by omega
    have hi0 : (0 : Int) ≤ (i : Int) := by omega
    have HX := Lib.hid hx
    clear hx hu hg hlm
    go_enter Tryz.func62, Tryz.ntmps62
    go_wp2
    go_ret
    exact ⟨rfl, (Below.refl _ _).alloc (Nat.le_refl _) _⟩
  · have hg : l.getD i 0 = 0 := by rw [List.getD_eq_getElem?_getD, List.getElem?_eq_none (by omega)]; rfl
    rw [hg]
    have hii : ¬ (i : Int) < (m : Int) := by omega
    clear hg hlm
    go_enter Tryz.func62, Tryz.ntmps62
    go_wp2
    go_ret
    exact ⟨rfl, (Below.refl _ _).alloc (Nat.le_refl _) _⟩

theorem p6 {A B C D E F : Prop} {a W : World} (h : A ∧ B ∧ C ∧ D ∧ E ∧ F ∧ Below a.heap.size a W) : Below a.heap.size a W := h.2.2.2.2.2.2
theorem p6_trans {A B C D E F : Prop} {a W W' : World} (h : A ∧ B ∧ C ∧ D ∧ E ∧ F ∧ Below a.heap.size a W) (hb : Below W.heap.size W W') : Below a.heap.size a W' := (p6 h).trans (hb.mono (p6 h).size)
/-- Two numbers, boxed. -/
theorem box_two (g : Bool) (A : Option Addr) (n c : Nat) (e : Int) (g' : Bool) (A' : Option Addr) (n' c' : Nat) (e' : Int) (w : World) :
    ∃ (w2 : World) (X : Nat), (w.alloc (.cells #[.bool g, .slice A n c, .int .i64 e] 46)).alloc (.cells #[.bool g', .slice A' n' c', .int .i64 e'] 46) = w2 ∧ w.heap.size = X ∧ Below w.heap.size w w2 ∧ w2.heap.size = X + 2 ∧
    w2.heap[X]? = some (.cells #[.bool g, .slice A n c, .int .i64 e] 46 (0, 0)) ∧ w2.heap[X + 1]? = some (.cells #[.bool g', .slice A' n' c', .int .i64 e'] 46 (0, 0)) := by
  refine ⟨_, _, rfl, rfl, ((Below.refl _ _).alloc (Nat.le_refl _) _).alloc (by simp) _, by simp, ?_, ?_⟩
  · exact (Below.heap_alloc _ _ _ (by simp)).trans (heap_alloc_new w _)
  · have := heap_alloc_new (w.alloc (.cells #[.bool g, .slice A n c, .int .i64 e] 46)) (.cells #[.bool g', .slice A' n' c', .int .i64 e'] 46)
    simpa using this

set_option maxHeartbeats 1000000 in
set_option maxRecDepth 100000 in
theorem mag_any (g : Bool) (A : Option Addr) (m : Nat) (l : List Nat) (e : Int) (g' : Bool) (A' : Option Addr) (m' : Nat) (l' : List Nat) (e' : Int) (w : World)
    (hr : Reads w w.heap.size A m (u8s l)) (hr' : Reads w w.heap.size A' m' (u8s l')) (hd : Dc.Digs l) (hd' : Dc.Digs l') (hm : m ≤ 1048576) (hm' : m' ≤ 1048576) (he : -1048576 ≤ e ∧ e ≤ 1048576) (he' : -1048576 ≤ e' ∧ e' ≤ 1048576) :
    Calls Tryz.prog 39 #[.agg #[.bool g, .slice A m m, .int .i64 e], .agg #[.bool g', .slice A' m' m', .int .i64 e']] w fun x w' => x = .returned (.int .i64 (Dc.magN l e l' e')) ∧ Below w.heap.size w w' := by
  have hlm : l.length = m := by have := hr.1; rwa [u8s_len] at this
  have hlm' : l'.length = m' := by have := hr'.1; rwa [u8s_len] at this
  obtain ⟨w2, X, hw2, hX, hb2, hsz, hX2, hY2⟩ := box_two g A m m e g' A' m' m' e' w
  have hR := hr.on hb2
  have hR' := hr'.on hb2
  have hcells : ∀ W, Below w2.heap.size w2 W → W.cell? ⟨X, 0, none⟩ = some (.bool g) ∧ W.cell? ⟨X, 1, none⟩ = some (.slice A m m) ∧ W.cell? ⟨X, 2, none⟩ = some (.int .i64 e) ∧
      W.cell? ⟨X + 1, 0, none⟩ = some (.bool g') ∧ W.cell? ⟨X + 1, 1, none⟩ = some (.slice A' m' m') ∧ W.cell? ⟨X + 1, 2, none⟩ = some (.int .i64 e') ∧ Below w2.heap.size w2 W := by
    intro W hW
    have h1 := (hW.block X (by omega)).trans hX2
    have h2 := (hW.block (X + 1) (by omega)).trans hY2
    exact ⟨at_block h1 0 _ rfl, at_block h1 1 _ rfl, at_block h1 2 _ rfl, at_block h2 0 _ rfl, at_block h2 1 _ rfl, at_block h2 2 _ rfl, hW⟩
  obtain ⟨p0, p1, p2, q0, q1, q2, hd2⟩ := hcells w2 (Below.refl _ _)
  have HW2 := Lib.hid hw2
  have HXX := Lib.hid hX
  have HC := Lib.hid hcells
  have HR := Lib.hid hR
  have HR' := Lib.hid hR'
  have ATA := Lib.hid (fun i W hW hi => at_any g A m l e i W hW hi)
  have ATB := Lib.hid (fun i W hW hi => at_any g' A' m' l' e' i W hW hi)
  clear hcells hR hR' hr hr' hX2 hY2 hw2 hX
  by_cases h0 : m = 0
  · have hv : Dc.magN l e l' e' = (m : Int) - m' := by rw [Dc.magN, hlm, hlm', if_pos (Or.inl h0)]
    have HV := Lib.hid hv
    clear hv hlm hlm'
    subst h0
    go_enter Tryz.func39, Tryz.ntmps39
    go_upto_region 1 with fail
    rw [HW2.out, HXX.out]
    go_wp2_with fail
    go_ret
    exact ⟨by rw [HV.out]; first | rfl | simp, hb2⟩
  · have h0f : ((m : Int) == 0) = false := beq_eq_false_iff_ne.2 (by omega)
    by_cases h0' : m' = 0
    · have hv : Dc.magN l e l' e' = (m : Int) - m' := by rw [Dc.magN, hlm, hlm', if_pos (Or.inr h0')]
      have HV := Lib.hid hv
      clear hv hlm hlm'
      subst h0'
      go_enter Tryz.func39, Tryz.ntmps39
      go_upto_region 1 with fail
      rw [HW2.out, HXX.out]
      go_wp2_with fail
      go_ret
      exact ⟨by rw [HV.out]; first | rfl | simp, hb2⟩
    · have h0g : ((m' : Int) == 0) = false := beq_eq_false_iff_ne.2 (by omega)
      by_cases hc : (m : Int) + e - m' - e' = 0
      · have hv : Dc.magN l e l' e' = Dc.diffN l l' 0 (max m m') := by rw [Dc.magN, hlm, hlm', if_neg (by omega), if_neg (by omega)]
        have hcf : ((m : Int) + e - m' - e' != 0) = false := by simp [hc]
        obtain ⟨M, hM⟩ : ∃ M, max m m' = M := ⟨_, rfl⟩
        rw [hM] at hv
        have HV := Lib.hid hv
        have HM := Lib.hid hM
        clear hv hlm hlm' hM
        go_enter Tryz.func39, Tryz.ntmps39
        go_upto_region 1 with fail
        rw [HW2.out, HXX.out]
        go_upto_region 7 with fail
        go_cut [48, 49] (fun a b wx => a = .int .i64 (M : Int) ∧ b = .int .i64 0 ∧ wx = w2)
        case first =>
          go_wp2_with fail
          go_meet
          exact ⟨congrArg (Value.int .i64) (by have := HM.out; omega), rfl, rfl⟩
        case rest =>
          obtain ⟨rfl, rfl, hwc⟩ := hcut
          subst hwc
          obtain ⟨w3, hw3⟩ : ∃ W, W = wc := ⟨_, rfl⟩
          subst hw3
          have hMb : M ≤ 1048576 := by have := HM.out; omega
          go_wp2_with fail
          go_loopg [49] M (fun f i wx => ∃ k : Nat, i = .int .i64 k ∧ k ≤ M ∧ M ≤ k + f ∧ Below w3.heap.size w3 wx ∧ Dc.diffN l l' 0 M = Dc.diffN l l' k (M - k))
          case atStart => exact ⟨0, rfl, by omega, by omega, hd2, by simp⟩
          case round =>
            obtain ⟨k, rfl, hk, hf, hdx, hdif⟩ := hrel
            have HDF := Lib.hid hdif
            clear hdif p0 p1 p2 q0 q1 q2
            obtain ⟨p0, p1, p2, q0, q1, q2, _⟩ := HC.out _ hdx
            by_cases hlt : k < M
            · obtain ⟨f, rfl⟩ : ∃ f, gk = f + 1 := ⟨gk - 1, by omega⟩
              have hin : (k : Int) < (M : Int) := by omega
              obtain ⟨a, ha⟩ : ∃ a, l.getD k 0 = a := ⟨_, rfl⟩
              obtain ⟨b, hb⟩ : ∃ b, l'.getD k 0 = b := ⟨_, rfl⟩
              have ha10 : a < 10 := by
                rw [← ha, List.getD_eq_getElem?_getD]
                cases hh : l[k]? with
                | none => simp
                | some z => exact hd z (List.mem_of_getElem? hh)
              have hb10 : b < 10 := by
                rw [← hb, List.getD_eq_getElem?_getD]
                cases hh : l'[k]? with
                | none => simp
                | some z => exact hd' z (List.mem_of_getElem? hh)
              have ATa := Lib.hid (fun W hW => ATA.out k W hW (by omega))
              have ATb := Lib.hid (fun W hW => ATB.out k W hW (by omega))
              rw [ha] at ATa
              rw [hb] at ATb
              have hstep : Dc.diffN l l' k (M - k) = if (a : Int) - (b : Int) ≠ 0 then (a : Int) - (b : Int) else Dc.diffN l l' (k + 1) (M - (k + 1)) := by
                rw [show M - k = (M - (k + 1)) + 1 by omega, Dc.diffN, ha, hb]
              have HST := Lib.hid hstep
              clear ha hb hstep
              have hwa : IntKind.i64.wrap (a : Int) = (a : Int) := IntWalk.i64_in _ (by omega)
              have hwb : IntKind.i64.wrap (b : Int) = (b : Int) := IntWalk.i64_in _ (by omega)
              have hws : IntKind.i64.wrap ((a : Int) - (b : Int)) = (a : Int) - (b : Int) := IntWalk.i64_in _ (by omega)
              go_upto_region 10 with fail
              go_region_held3 (fun W => W.cell? ⟨X, 0, none⟩ = some (.bool g) ∧ W.cell? ⟨X, 1, none⟩ = some (.slice A m m) ∧ W.cell? ⟨X, 2, none⟩ = some (.int .i64 e) ∧
                  W.cell? ⟨X + 1, 0, none⟩ = some (.bool g') ∧ W.cell? ⟨X + 1, 1, none⟩ = some (.slice A' m' m') ∧ W.cell? ⟨X + 1, 2, none⟩ = some (.int .i64 e') ∧ Below w3.heap.size w3 W)
                ((refine HC.out _ ?_; first | assumption | exact b_drew (by assumption)))
                (first | (with_reducible refine (ATa.out _ (HR.out.on (p6 (by assumption)))).mono ?_; rintro x w7 ⟨rfl, hb7⟩; have hb7' := p6_trans (by assumption) hb7) | (with_reducible refine (ATb.out _ (HR'.out.on (p6 (by assumption)))).mono ?_; rintro x w7 ⟨rfl, hb7⟩; have hb7' := p6_trans (by assumption) hb7))
              by_cases hab : (a : Int) - (b : Int) = 0
              · have habf : ((a : Int) - (b : Int) != 0) = false := by simp [hab]
                have HAB := Lib.hid hab
                clear hab
                go_wp2_with fail
                go_roundg f
                case measure => omega
                case rel => exact ⟨k + 1, by go_num, by omega, by omega, hb7', by rw [HDF.out, HST.out, if_neg (by rw [HAB.out]; simp)]⟩
              · have habf : ((a : Int) - (b : Int) != 0) = true := by simp [hab]
                have HAB := Lib.hid hab
                clear hab
                go_wp2_with fail
                go_ret
                exact ⟨by rw [HV.out, HDF.out, HST.out, if_pos HAB.out]; rfl, hb2.trans (hb7'.mono hb2.size)⟩
            · have hin : ¬ (k : Int) < (M : Int) := by omega
              have hz : Dc.diffN l l' 0 M = 0 := by rw [HDF.out, show M - k = 0 by omega]; rfl
              have HZ := Lib.hid hz
              clear hz
              go_wp2_with fail
              go_ret
              exact ⟨by rw [HV.out, HZ.out]; rfl, hb2.trans (hdx.mono hb2.size)⟩
      · have hv : Dc.magN l e l' e' = (m : Int) + e - m' - e' := by rw [Dc.magN, hlm, hlm', if_neg (by omega), if_pos hc]
        have hcf : ((m : Int) + e - m' - e' != 0) = true := by simp [hc]
        have HV := Lib.hid hv
        clear hv hlm hlm'
        go_enter Tryz.func39, Tryz.ntmps39
        go_upto_region 1 with fail
        rw [HW2.out, HXX.out]
        go_wp2_with fail
        go_ret
        exact ⟨by rw [HV.out]; first | rfl | simp, hb2⟩
end Go.Proofs.YtmgafnflkfbckaaGreatDoor
