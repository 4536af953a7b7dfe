/- The reference: inside and plain. The reference's Of at the digits of a number; what its Shortest holds. -/
import Derived.Test.YtjapgpmoojfhnaaGreatDoorB20
import Derived.Test.YtjapgpmoojfhnaaGreatDoorB21
namespace Go.Proofs.YtjapgpmoojfhnaaGreatDoor
open Go.RowKit Go.Lib

def refIn (a b : Int) (cl : Bool) : Bool := (decide (a < 0) && decide (b < 0)) || (cl && decide (a ≤ 0) && decide (b ≤ 0))
theorem refIn_eq (lo n hi : Nat) (cl : Bool) (h : lo < hi) : refIn (cmpN lo n) (cmpN n hi) cl = Fl.insideN n lo hi cl := by
  unfold refIn Fl.insideN
  rcases Nat.lt_trichotomy lo n with h1 | h1 | h1
  · rw [cmpN_lt h1]
    rcases Nat.lt_trichotomy n hi with h2 | h2 | h2
    · rw [cmpN_lt h2, decide_eq_true h1, decide_eq_true h2]; rfl
    · subst h2
      rw [cmpN_eq, decide_eq_true h1, decide_eq_false (by omega : ¬ n < n), decide_eq_false (by omega : ¬ n = lo), decide_eq_true rfl]
      cases cl <;> rfl
    · rw [cmpN_gt h2, decide_eq_true h1, decide_eq_false (by omega : ¬ n < hi), decide_eq_false (by omega : ¬ n = lo), decide_eq_false (by omega : ¬ n = hi)]
      cases cl <;> rfl
  · subst h1
    rw [cmpN_eq, cmpN_lt h, decide_eq_false (by omega : ¬ lo < lo), decide_eq_true (rfl : lo = lo)]
    cases cl <;> rfl
  · rw [cmpN_gt h1, cmpN_lt (by omega : n < hi), decide_eq_false (by omega : ¬ lo < n), decide_eq_false (by omega : ¬ n = lo), decide_eq_false (by omega : ¬ n = hi)]
    cases cl <;> rfl
theorem cmpN_cases (u v : Nat) : cmpN u v = -1 ∨ cmpN u v = 0 ∨ cmpN u v = 1 := by
  unfold cmpN
  split
  · exact .inl rfl
  · split
    · exact .inr (.inl rfl)
    · exact .inr (.inr rfl)
set_option maxHeartbeats 4000000 in
set_option maxRecDepth 100000 in
theorem inside92 (A B C : Option Addr) (n m k c d e u lo hi : Nat) (cl : Bool) (w : World) (hr : Reads w w.heap.size A n (u8s (Fl.digL u))) (h2 : Reads w w.heap.size B m (u8s (Fl.digL lo))) (h3 : Reads w w.heap.size C k (u8s (Fl.digL hi))) (hn : n ≤ 2000) (hm : m ≤ 2000) (hk : k ≤ 2000) (hlt : lo < hi) :
    Calls Tryz.prog 92 #[.agg #[.bool false, .slice A n c], .agg #[.bool false, .slice B m d], .agg #[.bool false, .slice C k e], .bool cl] w fun x w' => x = .returned (.bool (Fl.insideN u lo hi cl)) ∧ Below w.heap.size w w' := by
  rw [← refIn_eq lo u hi cl hlt]
  obtain ⟨w2, hw2⟩ : ∃ w2, ((w.alloc (.cells #[.bool false, .slice A n c] 33)).alloc (.cells #[.bool false, .slice B m d] 33)).alloc (.cells #[.bool false, .slice C k e] 33) = w2 := ⟨_, rfl⟩
  obtain ⟨X, hX⟩ : ∃ X, w.heap.size = X := ⟨_, rfl⟩
  have q1 : w2.heap[X]? = some (.cells #[.bool false, .slice A n c] 33 (0, 0)) := by rw [← hw2]; exact alloc_kp (alloc_kp (new_kp _ _ _ hX.symm))
  have q2 : w2.heap[X + 1]? = some (.cells #[.bool false, .slice B m d] 33 (0, 0)) := by rw [← hw2]; exact alloc_kp (new_kp _ _ _ (by simp; omega))
  have q3 : w2.heap[X + 2]? = some (.cells #[.bool false, .slice C k e] 33 (0, 0)) := by rw [← hw2]; exact new_kp _ _ _ (by simp; omega)
  have hb2 : Below w.heap.size w w2 := by rw [← hw2]; exact (((Below.refl _ _).alloc (Nat.le_refl _) _).alloc (by simp) _).alloc (by simp <;> omega) _
  have hcells : ∀ W, Below w2.heap.size w2 W → W.cell? ⟨X, 0, none⟩ = some (.bool false) ∧ W.cell? ⟨X, 1, none⟩ = some (.slice A n c) ∧ W.cell? ⟨X + 1, 0, none⟩ = some (.bool false) ∧ W.cell? ⟨X + 1, 1, none⟩ = some (.slice B m d) ∧ W.cell? ⟨X + 1 + 1, 0, none⟩ = some (.bool false) ∧ W.cell? ⟨X + 1 + 1, 1, none⟩ = some (.slice C k e) ∧ Below w2.heap.size w2 W := fun W hW => by
    have e1 := (hW.block X (lt_of_block q1)).trans q1
    have e2 := (hW.block (X + 1) (lt_of_block q2)).trans q2
    have e3 := (hW.block (X + 2) (lt_of_block q3)).trans q3
    exact ⟨at_block e1 0 _ rfl, at_block e1 1 _ rfl, at_block e2 0 _ rfl, at_block e2 1 _ rfl, at_block e3 0 _ rfl, at_block e3 1 _ rfl, hW⟩
  have C1 := Lib.hid (fun W (hW : Below w2.heap.size w2 W) => cmp88_ri B A m n d c lo u W (h2.on (b_trans hb2 hW)) (hr.on (b_trans hb2 hW)) hm hn)
  have C2 := Lib.hid (fun W (hW : Below w2.heap.size w2 W) => cmp88_ri A C n k c e u hi W (hr.on (b_trans hb2 hW)) (h3.on (b_trans hb2 hW)) hn hk)
  have hA := cmpN_cases lo u
  have hB := cmpN_cases u hi
  obtain ⟨a, ha⟩ : ∃ a, cmpN lo u = a := ⟨_, rfl⟩
  obtain ⟨b, hb⟩ : ∃ b, cmpN u hi = b := ⟨_, rfl⟩
  rw [ha] at C1 hA ⊢
  rw [hb] at C2 hB ⊢
  have HC := Lib.hid hcells
  have hh := hcells w2 (Below.refl _ _)
  have HW := Lib.hid (And.intro hw2 (And.intro hX hb2))
  clear hr h2 h3 q1 q2 q3 hw2 hX hn hm hk hcells hb2 ha hb hlt
  have hh0 := hh
  obtain ⟨x0, x1, y0, y1, z0, z1, _⟩ := hh0
  go_enter Tryz.func92, Tryz.ntmps92
  go_upto_region 1 with fail
  rw [HW.out.1, HW.out.2.1]
  go_region_held3 (fun W => W.cell? ⟨X, 0, none⟩ = some (.bool false) ∧ W.cell? ⟨X, 1, none⟩ = some (.slice A n c) ∧ W.cell? ⟨X + 1, 0, none⟩ = some (.bool false) ∧ W.cell? ⟨X + 1, 1, none⟩ = some (.slice B m d) ∧ W.cell? ⟨X + 1 + 1, 0, none⟩ = some (.bool false) ∧ W.cell? ⟨X + 1 + 1, 1, none⟩ = some (.slice C k e) ∧ Below w2.heap.size w2 W)
    ((refine HC.out _ ?_; first | assumption | exact f6 hh | exact b_drew (f6 hh) | exact b_drew (by assumption)))
    (first | (go_at_call 88; with_reducible refine (C1.out _ (f6 (by assumption))).mono ?_; rintro x w5 ⟨rfl, hb5⟩; have hb5' := f6_trans (by assumption) hb5) | (go_at_call 88; with_reducible refine (C2.out _ (f6 (by assumption))).mono ?_; rintro x w6 ⟨rfl, hb6⟩; have hb6' := f6_trans (by assumption) hb6))
  have hbz := b_trans HW.out.2.2 hb6'
  clear hb5 hb5' hb6 hb6' x0 x1 y0 y1 z0 z1 hh
  rcases hA with rfl | rfl | rfl
  · rcases hB with rfl | rfl | rfl
    all_goals
      cases cl
      · go_wp2_with fail
        go_ret
        exact ⟨rfl, hbz⟩
      · go_wp2_with fail
        go_ret
        exact ⟨rfl, hbz⟩
  · rcases hB with rfl | rfl | rfl
    all_goals
      cases cl
      · go_wp2_with fail
        go_ret
        exact ⟨rfl, hbz⟩
      · go_wp2_with fail
        go_ret
        exact ⟨rfl, hbz⟩
  · rcases hB with rfl | rfl | rfl
    all_goals
      cases cl
      · go_wp2_with fail
        go_ret
        exact ⟨rfl, hbz⟩
      · go_wp2_with fail
        go_ret
        exact ⟨rfl, hbz⟩
set_option maxHeartbeats 2000000 in
set_option maxRecDepth 100000 in
/-- plain at c times a power of ten. -/
theorem plain93 (g : Bool) (A : Option Addr) (n d c z : Nat) (e : Int) (w : World) (hr : Reads w w.heap.size A n (u8s (Fl.digL (c * 10 ^ z)))) (hn : n ≤ d) (hd : n ≤ 2000) (hc : c % 10 ≠ 0) (he : -100000 ≤ e ∧ e ≤ 100000) :
    Calls Tryz.prog 93 #[.bool g, .agg #[.bool false, .slice A n d], .int .i64 e] w fun x w' => x = .returned (.agg #[.bool g, .string ⟨(decDigits c).toArray⟩, .int .i64 (e + (z : Int))]) ∧ Below w.heap.size w w' := by
  obtain ⟨dz, hdz, hdz0⟩ := place_some (z := z) hc
  have hplace : ∀ i, i < z → (Fl.digL (c * 10 ^ z))[i]? = some 0 := fun i hi => place_zero hc hi
  have hnl := hr.1
  rw [u8s_len] at hnl
  have hzn : z < n := by
    rcases Nat.lt_or_ge z n with h | h
    · exact h
    · rw [List.getElem?_eq_none (by omega)] at hdz; cases hdz
  have hdrop : (u8s (Fl.digL (c * 10 ^ z))).drop z = u8s (Fl.digL c) := by
    rw [digL_zeros (by omega) z]
    simp [u8s]
  obtain ⟨w2, hw2⟩ : ∃ w2, (w.alloc (.cells #[.bool false, .slice A n d] 33)).alloc (.cells #[.bool false, .string ⟨#[]⟩, .int .i64 0] 37) = w2 := ⟨_, rfl⟩
  obtain ⟨X, hX⟩ : ∃ X, w.heap.size = X := ⟨_, rfl⟩
  obtain ⟨q1, q2, q3, q4⟩ := two_blocks w (.cells #[.bool false, .slice A n d] 33) (.cells #[.bool false, .string ⟨#[]⟩, .int .i64 0] 37)
  rw [hw2] at q1 q2 q3 q4
  rw [hX] at q1 q2
  have x1 := at_block q1 1 _ rfl
  have HQ := Lib.hid (fun W (hW : Below w2.heap.size w2 W) => (hW.block (X + 1) (lt_of_block q2)).trans q2)
  have HR := Lib.hid (And.intro (hr.on q3) (And.intro hdrop (And.intro hdz hplace)))
  have HW := Lib.hid (And.intro hw2 (And.intro hX q3))
  clear hr hdrop hdz hplace hnl q1 q2 q3 q4 hw2 hX
  go_enter Tryz.func93, Tryz.ntmps93
  go_upto_region 1 with fail
  rw [HW.out.1, HW.out.2.1]
  go_wp2_with fail
  go_loopg [7] z (fun f t7 wx => ∃ i : Nat, t7 = .int .i64 (i : Int) ∧ i + f = z ∧ wx = w2)
  case atStart => exact ⟨0, rfl, by omega, rfl⟩
  case round =>
    obtain ⟨i, rfl, hif, hww⟩ := hrel
    subst hww
    obtain ⟨b, off, u, rfl, hbB, hu, hcell⟩ := HR.out.1.at_ (k := i) (by omega)
    obtain ⟨x, hx, rfl⟩ := u8_at hu
    have hi0 : (0 : Int) ≤ (i : Int) := by omega
    have hin : (i : Int) < (n : Int) := by omega
    have g9 : IntKind.i64.wrap ((i : Int) + 1) = ((i + 1 : Nat) : Int) := by have := IntWalk.i64_in ((i : Int) + 1) (by omega); rw [this]; omega
    have g9' : wrap64 ((i : Int) + 1) = ((i + 1 : Nat) : Int) := by unfold wrap64; omega
    cases gk with
    | zero =>
      obtain rfl : i = z := by omega
      obtain rfl : x = dz := by have := HR.out.2.2.1; rw [hx] at this; exact Option.some.inj this
      have hx0 : ((x : Int) == 0) = false := by rw [beq_eq_false_iff_ne]; omega
      have hx00 : ((x == 0) : Bool) = false := by rw [beq_eq_false_iff_ne]; exact hdz0
      have hle : (i : Int) ≤ (n : Int) := by omega
      have hle2 : (i : Int) ≤ (d : Int) := by omega
      have hcn : (n : Int) ≤ (d : Int) := by omega
      have hnz : (n : Int) - (i : Int) = ((n - i : Nat) : Int) := by omega
      have hcz : (d : Int) - (i : Int) = ((d - i : Nat) : Int) := by omega
      have g8 : IntKind.i64.wrap (e + (i : Int)) = e + (i : Int) := IntWalk.i64_in _ (by omega)
      have hdr := HR.out.1.drop i (by omega) b off rfl
      rw [HR.out.2.1] at hdr
      have DG := Lib.hid (fun c' => digits91 (some ⟨b, off + i, none⟩) (n - i) c' c (by omega) (by omega) wr hdr)
      clear hu hx hif hdr hdz0
      by_cases hlast : i + 1 < n
      · have d1 : decide (((i + 1 : Nat) : Int) < (n : Int)) = true := decide_eq_true (by omega)
        have d1n : decide (i + 1 < n) = true := decide_eq_true hlast
        have d1i : decide ((i : Int) + 1 < (n : Int)) = true := decide_eq_true (by omega)
        clear hlast
        go_wp2_with fail
        refine (DG.out _).mono ?_
        rintro y w5 ⟨rfl, hb5⟩
        have hq5 := HQ.out w5 hb5
        have r0 := at_block hq5 0 _ rfl
        have r1 := at_block hq5 1 _ rfl
        have r2 := at_block hq5 2 _ rfl
        have s0 := free_block hq5 0
        have s1 := free_block hq5 1
        have s2 := free_block hq5 2
        have HB := Lib.hid (b_trans HW.out.2.2 hb5)
        clear hq5 hb5
        obtain ⟨DS, hDS⟩ : ∃ B : ByteArray, (⟨(decDigits c).toArray⟩ : ByteArray) = B := ⟨_, rfl⟩
        rw [hDS]
        go_wp2_with fail
        refine bodyPost_ret (v := .agg #[.bool g, .string DS, .int .i64 (e + (i : Int))]) (by simp [results, Tryz.results93, go_sem, r0, r1, r2]) rfl ?_
        refine ⟨by rw [hDS], ?_⟩
        have hw1 : w.heap.size ≤ X + 1 := by have := HW.out.2.1; omega
        exact ((HB.out.setCell (p := ⟨X + 1, 0, none⟩) hw1 _).setCell (p := ⟨X + 1, 1, none⟩) hw1 _).setCell (p := ⟨X + 1, 2, none⟩) hw1 _
      · have d1 : decide (((i + 1 : Nat) : Int) < (n : Int)) = false := decide_eq_false (by omega)
        have d1n : decide (i + 1 < n) = false := decide_eq_false hlast
        have d1i : decide ((i : Int) + 1 < (n : Int)) = false := decide_eq_false (by omega)
        clear hlast
        go_wp2_with fail
        refine (DG.out _).mono ?_
        rintro y w5 ⟨rfl, hb5⟩
        have hq5 := HQ.out w5 hb5
        have r0 := at_block hq5 0 _ rfl
        have r1 := at_block hq5 1 _ rfl
        have r2 := at_block hq5 2 _ rfl
        have s0 := free_block hq5 0
        have s1 := free_block hq5 1
        have s2 := free_block hq5 2
        have HB := Lib.hid (b_trans HW.out.2.2 hb5)
        clear hq5 hb5
        obtain ⟨DS, hDS⟩ : ∃ B : ByteArray, (⟨(decDigits c).toArray⟩ : ByteArray) = B := ⟨_, rfl⟩
        rw [hDS]
        go_wp2_with fail
        refine bodyPost_ret (v := .agg #[.bool g, .string DS, .int .i64 (e + (i : Int))]) (by simp [results, Tryz.results93, go_sem, r0, r1, r2]) rfl ?_
        refine ⟨by rw [hDS], ?_⟩
        have hw1 : w.heap.size ≤ X + 1 := by have := HW.out.2.1; omega
        exact ((HB.out.setCell (p := ⟨X + 1, 0, none⟩) hw1 _).setCell (p := ⟨X + 1, 1, none⟩) hw1 _).setCell (p := ⟨X + 1, 2, none⟩) hw1 _
    | succ f =>
      obtain rfl : x = 0 := by have := HR.out.2.2.2 i (by omega); rw [hx] at this; exact Option.some.inj this
      have d1 : decide (((i + 1 : Nat) : Int) < (n : Int)) = true := decide_eq_true (by omega)
      have d1n : decide (i + 1 < n) = true := decide_eq_true (by omega)
      have d1i : decide ((i : Int) + 1 < (n : Int)) = true := decide_eq_true (by omega)
      clear hu hx
      go_wp2_with fail
      go_roundg f
      case measure => omega
      case rel => exact ⟨i + 1, rfl, by omega, rfl⟩
end Go.Proofs.YtjapgpmoojfhnaaGreatDoor

namespace Go.Proofs.YtjapgpmoojfhnaaGreatDoor
open Go.RowKit Go.Lib

theorem ldig_dec {t : Nat} (ht : t ≠ 0) : ldig ⟨(decDigits t).toArray⟩ = Fl.digL t := by
  unfold ldig
  show ((decDigits t).map _).reverse = _
  rw [Fl.dec_is ht]
  have : ((Fl.digB8 (Fl.digL t).reverse).map fun b => b.toNat - 48) = (Fl.digL t).reverse := by
    unfold Fl.digB8
    rw [List.map_map]
    have h : ∀ x ∈ (Fl.digL t).reverse, ((fun b : UInt8 => b.toNat - 48) ∘ fun x => UInt8.ofNat (48 + x)) x = x := fun x hx => by
      have := Fl.digL_digs ht x hx
      simp only [Function.comp]
      rw [Dc.dig_toNat this]
      omega
    rw [List.map_congr_left h, List.map_id']
  rw [this, List.reverse_reverse]
theorem readPre_dec {t : Nat} (ht : t ≠ 0) (hl : (decDigits t).length ≤ 400) : ReadPre ⟨(decDigits t).toArray⟩ ⟨(decDigits t).toArray⟩ false := by
  have hs : (⟨(decDigits t).toArray⟩ : ByteArray).size = (decDigits t).length := str_size _
  have hbyte : ∀ k (h : k < (⟨(decDigits t).toArray⟩ : ByteArray).size), ∃ d ∈ decDigits t, (⟨(decDigits t).toArray⟩ : ByteArray)[k]'h = d := fun k h => by
    refine ⟨(decDigits t)[k]'(by rw [hs] at h; exact h), List.getElem_mem _, ?_⟩
    show (decDigits t).toArray[k]'h = _
    simp
  have hdig : ∀ k (h : k < (⟨(decDigits t).toArray⟩ : ByteArray).size), 48 ≤ ((⟨(decDigits t).toArray⟩ : ByteArray)[k]'h).toNat ∧ ((⟨(decDigits t).toArray⟩ : ByteArray)[k]'h).toNat ≤ 57 := fun k h => by
    obtain ⟨d, h1, h2⟩ := hbyte k h
    rw [h2]
    exact Dc.dec_mem t d h1
  have hpos : 0 < (decDigits t).length := List.length_pos_iff.2 (Dc.dec_ne t)
  refine ⟨fun h => by (cases h), fun h => ?_, fun h => by (cases h), fun _ => rfl, by omega, by omega, hdig, fun h h48 => ?_⟩
  · have := hdig 0 (by omega)
    rw [beq_eq_false_iff_ne]
    omega
  · exfalso
    obtain ⟨x, l, h1, h2⟩ := Fl.digL_head ht
    have hx := Fl.digL_digs ht x (by rw [h1]; simp)
    have e : (⟨(decDigits t).toArray⟩ : ByteArray)[0]'h = UInt8.ofNat (48 + x) := by
      show (decDigits t).toArray[0] = _
      simp only [List.getElem_toArray]
      have : decDigits t = UInt8.ofNat (48 + x) :: Fl.digB8 l := by rw [Fl.dec_is ht, h1]; rfl
      simp [this]
    rw [e, Dc.dig_toNat hx, beq_iff_eq] at h48
    omega
theorem of40_ri (t : Nat) (ht : t ≠ 0) (hl : (decDigits t).length ≤ 400) (w : World) :
    Calls Tryz.prog 40 #[.string ⟨(decDigits t).toArray⟩] w fun x w' => (∃ A m c, m ≤ c ∧ m ≤ 400 ∧ Reads w' w'.heap.size A m (u8s (Fl.digL t)) ∧ x = .returned (.agg #[.bool false, .slice A m c])) ∧ Below w.heap.size w w' := by
  refine (ref03of_any _ _ false (readPre_dec ht hl) w).mono ?_
  rintro x w' ⟨⟨A, m, c, h1, h2, h3, rfl⟩, hb⟩
  have hs : (⟨(decDigits t).toArray⟩ : ByteArray).size = (decDigits t).length := str_size _
  rw [ldig_dec ht] at h1 h3
  have e := digL_trim (by rw [hs, Fl.dec_length ht]) (digL_le9 t) h1
  rw [dv_digL] at e
  rw [e] at h3
  exact ⟨⟨A, m, c, h2, by have := h1.1; omega, h3, rfl⟩, hb⟩
/-- A number's box. -/
structure NBox (w : World) (P : Nat) (A : Option Addr) (n c u : Nat) : Prop where
  cell : w.heap[P]? = some (.cells #[.bool false, .slice A n c] 33 (0, 0))
  rd : Reads w w.heap.size A n (u8s (Fl.digL u))
  cap : n ≤ c
theorem NBox.on {w w' : World} {P : Nat} {A : Option Addr} {n c u : Nat} (h : NBox w P A n c u) (hb : Below w.heap.size w w') : NBox w' P A n c u := ⟨(hb.block P (lt_of_block h.cell)).trans h.cell, h.rd.on hb, h.cap⟩
theorem NBox.c0 {w : World} {P : Nat} {A : Option Addr} {n c u : Nat} (h : NBox w P A n c u) : w.cell? ⟨P, 0, none⟩ = some (.bool false) := at_block h.cell 0 _ rfl
theorem NBox.c1 {w : World} {P : Nat} {A : Option Addr} {n c u : Nat} (h : NBox w P A n c u) : w.cell? ⟨P, 1, none⟩ = some (.slice A n c) := at_block h.cell 1 _ rfl
theorem NBox.len {w : World} {P : Nat} {A : Option Addr} {n c u : Nat} (h : NBox w P A n c u) : n = (Fl.digL u).length := by have := h.rd.1; rw [u8s_len] at this; exact this.symm
/-- A new box. -/
theorem NBox.new {w : World} {A : Option Addr} {n c u : Nat} (hr : Reads w w.heap.size A n (u8s (Fl.digL u))) (hc : n ≤ c) : NBox (w.alloc (.cells #[.bool false, .slice A n c] 33)) w.heap.size A n c u ∧ Below w.heap.size w (w.alloc (.cells #[.bool false, .slice A n c] 33)) :=
  ⟨⟨heap_alloc_new w _, hr.on ((Below.refl _ _).alloc (Nat.le_refl _) _), hc⟩, (Below.refl _ _).alloc (Nat.le_refl _) _⟩
/-- Ten to the power of j, and what goes with it. -/
theorem digL_few {u N : Nat} (h : u < 10 ^ N) : (Fl.digL u).length ≤ N := by
  by_cases h0 : u = 0
  · rw [h0, Fl.digL_zero]; exact Nat.zero_le _
  · rw [← Fl.dec_length h0]; exact Fl.len_le h0 h
end Go.Proofs.YtjapgpmoojfhnaaGreatDoor
