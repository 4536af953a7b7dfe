/- The law BinaryMonotone, plainly: of two decimals the smaller one is not rounded to a greater float. The law BinaryMonotone returns true for every two decimals. -/
import Derived.Test.YtjapgpmoojfhnaaGreatDoorB35
import Derived.Test.YtjapgpmoojfhnaaGreatDoorB36
import Derived.Test.YtjapgpmoojfhnaaGreatDoorB37
namespace Go.Proofs.YtjapgpmoojfhnaaGreatDoor
open Go.RowKit Go.Lib
theorem readP_some_exp {c : Nat} {E : Int} (hc : c % 10 ≠ 0) (hl : (decDigits c).length ≤ 400) (h0 : -2000 ≤ E) (h1 : E ≤ 2000) (g : Bool) : Dc.readP (Fl.expB g c E) = some ⟨g, (Fl.digL c).reverse, E⟩ := by
  have hc0 : c ≠ 0 := by omega
  obtain ⟨y, l, h4, h5⟩ := Fl.digL_head hc0
  have hne : (Fl.digL c).reverse ≠ [] := by rw [h4]; simp
  have hlen : (Fl.digL c).reverse.length ≤ 400 := by rw [List.length_reverse, ← Fl.dec_length hc0]; exact hl
  have hlast : ∀ u, (Fl.digL c).reverse.getLast? = some u → u ≠ 0 := fun u hu => by
    rw [List.getLast?_reverse, Fl.digL_pos (by omega)] at hu
    simp at hu
    omega
  rw [Dc.readP_iff]
  refine ⟨⟨⟨Fl.digL_digs hc0, fun h => absurd h hne, fun u hu => ?_, hlast⟩, Dc.limit_ok.2 ⟨hlen, h0, h1⟩⟩, ?_⟩
  · have hu' : (Fl.digL c).reverse.head? = some u := hu
    rw [h4] at hu'
    simp at hu'
    omega
  · unfold Dc.showB Dc.coefB Fl.expB
    simp only
    rw [if_neg hne, Fl.dec_is hc0]
    rfl
theorem readP_some_nought : Dc.readP [48, 101, 48] = some ⟨false, [], 0⟩ := by
  rw [Dc.readP_iff]
  refine ⟨⟨⟨fun x hx => by (cases hx), fun _ => ⟨rfl, rfl⟩, fun u hu => by (cases hu), fun u hu => by (cases hu)⟩, Dc.limit_ok.2 ⟨by decide, by decide, by decide⟩⟩, ?_⟩
  unfold Dc.showB Dc.coefB
  rw [if_pos rfl, show itoa 0 = [48] by kernel_rfl]
  rfl
theorem num_same (l : List Nat) : Dc.num l = Fl.num l := by
  induction l with
  | nil => rfl
  | cons x l ih => rw [Fl.num_cons, Dc.num, ih]
/-- What is read of a decimal's text. -/
theorem DecT.read {t : List UInt8} {g : Bool} {c : Nat} {E : Int} (h : DecT t g c E) : ∃ l, Dc.readP t = some ⟨g, l, E⟩ ∧ Dc.num l = c ∧ (g = true → 0 < c) := by
  cases h with
  | zero => exact ⟨[], readP_some_nought, rfl, fun h => by cases h⟩
  | num _ _ _ hc hl h0 h1 => exact ⟨_, readP_some_exp hc hl h0 h1 g, by rw [num_same, Fl.num_digL], fun _ => by omega⟩
theorem DecT.size {t : List UInt8} {g : Bool} {c : Nat} {E : Int} (h : DecT t g c E) : (⟨t.toArray⟩ : ByteArray).size ≤ 1000 := by
  cases h with
  | zero => decide
  | num _ _ _ hc hl h0 h1 => exact Fl.expB_size g hl h0 h1
/-- The number at a lower exponent. -/
theorem near_at {c r : Nat} {E f : Int} (h : f ≤ E) : Fl.Near (Fl.vN c E) (Fl.vD E) r → Fl.Near (Fl.vN (c * 10 ^ (E - f).toNat) f) (Fl.vD f) r := fun hn => by
  have e := Fl.v_cross c (E - f).toNat f
  rw [show f + ((E - f).toNat : Int) = E by omega] at e
  exact Fl.near_eq (Fl.vD_pos _) (Fl.vD_pos _) e.symm hn
theorem near_order {a b r s : Nat} {f : Int} (h : Fl.Near (Fl.vN a f) (Fl.vD f) r) (h' : Fl.Near (Fl.vN b f) (Fl.vD f) s) (hle : a ≤ b) : r ≤ s :=
  Fl.near_mono (Fl.vD_pos _) (Fl.vD_pos _) h h' (Nat.mul_le_mul_right _ (Fl.vN_mono hle f))
/-- THE LAW, plainly. -/
theorem mono_key {g g' : Bool} {a b r s : Nat} {f : Int} (h : Fl.Near (Fl.vN a f) (Fl.vD f) r) (h' : Fl.Near (Fl.vN b f) (Fl.vD f) s) (hb : g' = true → 0 < b) (hle : Dc.sgn g (a : Int) ≤ Dc.sgn g' (b : Int)) : Fl.skey g r ≤ Fl.skey g' s := by
  cases g <;> cases g' <;> simp only [Dc.sgn, Fl.skey, if_true, if_false, Bool.false_eq_true] at hle ⊢
  · have := near_order h h' (by omega)
    omega
  · have := hb rfl
    omega
  · omega
  · have := near_order h' h (by omega)
    omega
theorem mono_end {u v d k k' : Int} (hv : d = Dc.cmpI u v) (m1 : u ≤ v → k ≤ k') (m2 : v ≤ u → k' ≤ k) : k = k' ∨ (k < k' ∧ d = -1) ∨ (k' < k ∧ d = 1) := by
  rw [hv]
  rcases Int.lt_trichotomy k k' with h | h | h
  · have h1 : u < v := Int.lt_of_not_ge fun hle => by have := m2 hle; omega
    exact .inr (.inl ⟨h, by rw [Dc.cmpI, if_pos h1]⟩)
  · exact .inl h
  · have h1 : v < u := Int.lt_of_not_ge fun hle => by have := m1 hle; omega
    exact .inr (.inr ⟨h, by rw [Dc.cmpI, if_neg (by omega), if_pos h1]⟩)
theorem mono_cmp {s t : List UInt8} {g g' : Bool} {c c' : Nat} {E E' : Int} {r r' : Nat} (hs : DecT s g c E) (ht : DecT t g' c' E') (near : Fl.Near (Fl.vN c E) (Fl.vD E) r) (near' : Fl.Near (Fl.vN c' E') (Fl.vD E') r') {x y : Dc.D} (hx : Dc.readP s = some x) (hy : Dc.readP t = some y) :
    Fl.skey g r = Fl.skey g' r' ∨ (Fl.skey g r < Fl.skey g' r' ∧ Dc.cmpP x y = -1) ∨ (Fl.skey g' r' < Fl.skey g r ∧ Dc.cmpP x y = 1) := by
  obtain ⟨l, e1, e2, e3⟩ := hs.read
  obtain ⟨l', e1', e2', e3'⟩ := ht.read
  obtain rfl := Option.some.inj (e1.symm.trans hx)
  obtain rfl := Option.some.inj (e1'.symm.trans hy)
  obtain ⟨f, hf⟩ : ∃ f, f = min E E' := ⟨_, rfl⟩
  have n1 := near_at (f := f) (by omega) near
  have n2 := near_at (f := f) (by omega) near'
  have hv := Dc.cmpP_val (f := f) (Dc.readP_some e1).1.1 (Dc.readP_some e1').1.1 (.inr (by show f ≤ E; omega)) (.inr (by show f ≤ E'; omega))
  have v1 : Dc.V ⟨g, l, E⟩ f = Dc.sgn g ((c * 10 ^ (E - f).toNat : Nat) : Int) := by
    show Dc.sgn g (Dc.num l * (10 : Int) ^ (E - f).toNat) = _
    rw [e2]; congr 1
  have v2 : Dc.V ⟨g', l', E'⟩ f = Dc.sgn g' ((c' * 10 ^ (E' - f).toNat : Nat) : Int) := by
    show Dc.sgn g' (Dc.num l' * (10 : Int) ^ (E' - f).toNat) = _
    rw [e2']; congr 1
  have p1 : g = true → 0 < c * 10 ^ (E - f).toNat := fun h => Nat.mul_pos (e3 h) (Nat.pow_pos (by decide))
  have p2 : g' = true → 0 < c' * 10 ^ (E' - f).toNat := fun h => Nat.mul_pos (e3' h) (Nat.pow_pos (by decide))
  rw [v1, v2] at hv
  exact mono_end hv (mono_key n1 n2 p2) (mono_key n2 n1 p1)
end Go.Proofs.YtjapgpmoojfhnaaGreatDoor

namespace Go.Proofs.YtjapgpmoojfhnaaGreatDoor
open Go.RowKit Go.Lib
theorem box_dec2 (g : Bool) (D : ByteArray) (e : Int) (g' : Bool) (D' : ByteArray) (e' : Int) (w : World) :
    ∃ (w2 : World) (X : Nat), (w.alloc (.cells #[.bool g, .string D, .int .i16 e] 43)).alloc (.cells #[.bool g', .string D', .int .i16 e'] 43) = w2 ∧ w.heap.size = X ∧ Below w.heap.size w w2 ∧ w2.heap.size = X + 2 ∧
    w2.heap[X]? = some (.cells #[.bool g, .string D, .int .i16 e] 43 (0, 0)) ∧ w2.heap[X + 1]? = some (.cells #[.bool g', .string D', .int .i16 e'] 43 (0, 0)) := by
  refine ⟨_, _, rfl, rfl, ((Below.refl _ _).alloc (Nat.le_refl _) _).alloc (by simp) _, by simp, ?_, ?_⟩
  · exact (Below.heap_alloc _ _ _ (by simp)).trans (heap_alloc_new w _)
  · have := heap_alloc_new (w.alloc (.cells #[.bool g, .string D, .int .i16 e] 43)) (.cells #[.bool g', .string D', .int .i16 e'] 43)
    simpa using this
theorem cmp_law {g g' : Bool} {r r' : Nat} {d : Int} (hr : r ≤ 9218868437227405312) (hr' : r' ≤ 9218868437227405312) (h : Fl.skey g r = Fl.skey g' r' ∨ (Fl.skey g r < Fl.skey g' r' ∧ d = -1) ∨ (Fl.skey g' r' < Fl.skey g r ∧ d = 1)) :
    Fl.cmpW (Ieee.double.word g r) (Ieee.double.word g' r') = 0 ∨ (Fl.cmpW (Ieee.double.word g r) (Ieee.double.word g' r') ≠ 0 ∧ Fl.cmpW (Ieee.double.word g r) (Ieee.double.word g' r') = d) := by
  unfold Fl.cmpW
  rw [key_word g hr, key_word g' hr']
  rcases h with h | ⟨h, rfl⟩ | ⟨h, rfl⟩
  · left; rw [if_neg (by omega), if_neg (by omega)]
  · right; rw [if_pos h]; exact ⟨by decide, rfl⟩
  · right; rw [if_neg (by omega), if_pos h]; exact ⟨by decide, rfl⟩
set_option maxHeartbeats 4000000 in
set_option maxRecDepth 100000 in
theorem law4 (g : Bool) (D : ByteArray) (e : Int) (g' : Bool) (D' : ByteArray) (e' : Int) (he : -32768 ≤ e ∧ e ≤ 32767) (he' : -32768 ≤ e' ∧ e' ≤ 32767) (w : World) (B0 C0 D0 : Nat × Nat) (hL : Laid4 w B0 C0 D0) :
    Calls Tryz.prog 4 #[.agg #[.bool g, .string D, .int .i16 e], .agg #[.bool g', .string D', .int .i16 e']] w fun x w' => x = .returned (.bool true) ∧ Below w.heap.size w w' := by
  obtain ⟨w2, X, hw2, hX, hb2, hsz, hX2, hY2⟩ := box_dec2 g D e g' D' e' w
  have hcells : ∀ W, Below w2.heap.size w2 W → W.cell? ⟨X, 0, none⟩ = some (.bool g) ∧ W.cell? ⟨X, 1, none⟩ = some (.string D) ∧ W.cell? ⟨X, 2, none⟩ = some (.int .i16 e) ∧
      W.cell? ⟨X + 1, 0, none⟩ = some (.bool g') ∧ W.cell? ⟨X + 1, 1, none⟩ = some (.string D') ∧ W.cell? ⟨X + 1, 2, none⟩ = some (.int .i16 e') ∧ Below w2.heap.size w2 W := by
    intro W hW
    have h1 := (hW.block X (by omega)).trans hX2
    have h2 := (hW.block (X + 1) (by omega)).trans hY2
    exact ⟨at_block h1 0 _ rfl, at_block h1 1 _ rfl, at_block h1 2 _ rfl, at_block h2 0 _ rfl, at_block h2 1 _ rfl, at_block h2 2 _ rfl, hW⟩
  have HW2 := Lib.hid hw2
  have HX := Lib.hid hX
  have HC := Lib.hid hcells
  have HB2 := Lib.hid hb2
  have HL := Lib.hid hL
  have DA := Lib.hid (fun W => dec22_any g D e he W)
  have DB := Lib.hid (fun W => dec22_any g' D' e' he' W)
  have hd2 : Below w2.heap.size w2 w2 := Below.refl _ _
  have AW := Lib.hid (fun W hW => awake_any W hW)
  clear hcells hw2 hX hb2 hX2 hY2 hL hsz he he'
  go_enter Tryz.func4, Tryz.ntmps4
  go_upto_region 1 with fail
  rw [HW2.out, HX.out]
  obtain ⟨p0, p1, p2, q0, q1, q2, _⟩ := HC.out w2 hd2
  go_cut [5, 6] (fun t5 t6 wx => ∃ (s : List UInt8) (gs : Bool) (cs : Nat) (Es : Int) (t : List UInt8) (gt : Bool) (ct : Nat) (Et : Int), t5 = .string ⟨s.toArray⟩ ∧ t6 = .string ⟨t.toArray⟩ ∧ DecT s gs cs Es ∧ DecT t gt ct Et ∧ Below w2.heap.size w2 wx)
  case first =>
    go_region_held3 (fun W => W.cell? ⟨X, 0, none⟩ = some (.bool g) ∧ W.cell? ⟨X, 1, none⟩ = some (.string D) ∧ W.cell? ⟨X, 2, none⟩ = some (.int .i16 e) ∧ W.cell? ⟨X + 1, 0, none⟩ = some (.bool g') ∧ W.cell? ⟨X + 1, 1, none⟩ = some (.string D') ∧ W.cell? ⟨X + 1, 2, none⟩ = some (.int .i16 e') ∧ Below w2.heap.size w2 W)
      ((refine HC.out _ ?_; first | assumption | exact b_drew hd2 | exact b_drew (by assumption)))
      (first | (go_at_call 22; with_reducible refine (DA.out _).mono ?_; rintro x w3 ⟨⟨s, gs, cs, Es, hs, rfl⟩, hb3⟩; have hbA := p6_trans (by assumption) hb3) | (go_at_call 22; with_reducible refine (DB.out _).mono ?_; rintro x w4 ⟨⟨t, gt, ct, Et, ht, rfl⟩, hb4⟩; have hbB := p6_trans (by assumption) hb4))
    all_goals (go_wp2_with fail; go_meet; exact ⟨s, gs, cs, Es, t, gt, ct, Et, rfl, rfl, hs, ht, by first | exact hbB | exact hbA⟩)
  case rest =>
    obtain ⟨s, gs, cs, Es, t, gt, ct, Et, rfl, rfl, hs, ht, hb⟩ := hcut
    obtain ⟨r, near⟩ := Fl.near_exists (Fl.vN cs Es) (Fl.vD Es)
    obtain ⟨r', near'⟩ := Fl.near_exists (Fl.vN ct Et) (Fl.vD Et)
    obtain ⟨x, hx, _⟩ := hs.read
    obtain ⟨y, hy, _⟩ := ht.read
    have law := cmp_law near.1 near'.1 (mono_cmp hs ht near near' hx hy)
    obtain ⟨a1, a2, _⟩ := Fl.word_mod gs near.1
    obtain ⟨b1, b2, _⟩ := Fl.word_mod gt near'.1
    have NA := Lib.hid (fun W hW => nearest_any hs near W B0 C0 D0 hW)
    have NB := Lib.hid (fun W hW => nearest_any ht near' W B0 C0 D0 hW)
    have CB := Lib.hid (fun W hW => bincmp_any (Ieee.double.word gs r) (Ieee.double.word gt r') a2 b2 (by rw [a1]; exact near.1) (by rw [b1]; exact near'.1) W hW)
    have CD := fun W hW => deccmp_some ⟨s.toArray⟩ ⟨t.toArray⟩ W (Nat.le_trans hs.size (by decide)) (Nat.le_trans ht.size (by decide)) hW (x := ⟨gs, x, Es⟩) (y := ⟨gt, y, Et⟩) hx hy
    obtain ⟨d, hd⟩ : ∃ d, Dc.cmpP ⟨gs, x, Es⟩ ⟨gt, y, Et⟩ = d := ⟨_, rfl⟩
    rw [hd] at CD law
    have CD := Lib.hid CD
    obtain ⟨S1, hS1⟩ : ∃ S1 : ByteArray, (⟨s.toArray⟩ : ByteArray) = S1 := ⟨_, rfl⟩
    obtain ⟨S2, hS2⟩ : ∃ S2 : ByteArray, (⟨t.toArray⟩ : ByteArray) = S2 := ⟨_, rfl⟩
    obtain ⟨T1, hT1⟩ : ∃ T1 : ByteArray, (⟨(Fl.txt (Ieee.double.word gs r)).toArray⟩ : ByteArray) = T1 := ⟨_, rfl⟩
    obtain ⟨T2, hT2⟩ : ∃ T2 : ByteArray, (⟨(Fl.txt (Ieee.double.word gt r')).toArray⟩ : ByteArray) = T2 := ⟨_, rfl⟩
    obtain ⟨z, hz⟩ : ∃ z, Fl.cmpW (Ieee.double.word gs r) (Ieee.double.word gt r') = z := ⟨_, rfl⟩
    rw [hS1, hT1] at NA
    rw [hS2, hT2] at NB
    rw [hT1, hT2, hz] at CB
    rw [hS1, hS2] at CD ⊢
    rw [hz] at law
    have HB := Lib.hid (HB2.out.trans (hb.mono HB2.out.size))
    clear hs ht near near' hx hy a1 a2 b1 b2 hd hS1 hS2 hT1 hT2 hz hb p0 p1 p2 q0 q1 q2
    go_wp2_with fail
    refine (NA.out _ (HL.out.on HB.out)).mono ?_
    rintro x1 w3 ⟨⟨k1, rfl⟩, hb3⟩
    have HB3 := Lib.hid (b_trans HB.out hb3)
    clear hb3
    go_wp2_with fail
    refine (NB.out _ (HL.out.on HB3.out)).mono ?_
    rintro x2 w4 ⟨⟨k2, rfl⟩, hb4⟩
    have HB4 := Lib.hid (b_trans HB3.out hb4)
    clear hb4
    go_wp2_with fail
    refine (CB.out _ (HL.out.on HB4.out).l2.laid).mono ?_
    rintro x3 w5 ⟨rfl, hb5⟩
    have HB5 := Lib.hid (b_trans HB4.out hb5)
    clear hb5
    go_wp2_with fail
    refine (CD.out _ (HL.out.on HB5.out).l2.laid).mono ?_
    rintro x4 w6 ⟨rfl, hb6⟩
    have HB6 := Lib.hid (b_trans HB5.out hb6)
    clear hb6
    rcases law with h0 | ⟨h0, h1⟩
    · have e0 : (z == 0) = true := by rw [beq_iff_eq]; exact h0
      clear h0
      go_wp2_with fail
      refine (AW.out _ (HL.out.on HB6.out).l2.laid).mono ?_
      rintro x5 w7 ⟨rfl, hb7⟩
      have HB7 := Lib.hid (b_trans HB6.out hb7)
      clear hb7
      go_wp2_with fail
      go_ret
      exact ⟨rfl, HB7.out⟩
    · have e0 : (z == 0) = false := by rw [beq_eq_false_iff_ne]; exact h0
      have e1 : (z == d) = true := by rw [beq_iff_eq]; exact h1
      clear h0 h1
      go_wp2_with fail
      refine (AW.out _ (HL.out.on HB6.out).l2.laid).mono ?_
      rintro x5 w7 ⟨rfl, hb7⟩
      have HB7 := Lib.hid (b_trans HB6.out hb7)
      clear hb7
      go_wp2_with fail
      go_ret
      exact ⟨rfl, HB7.out⟩
end Go.Proofs.YtjapgpmoojfhnaaGreatDoor
