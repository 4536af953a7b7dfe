/- The reference's Of at every text: canonical or not. -/
import Derived.Test.YtjapgpmoojfhnaaGreatDoorB14
namespace Go.Proofs.YtjapgpmoojfhnaaGreatDoor
open Go.RowKit Go.Lib

theorem Fl.odd_same {a b : Nat} {i j : Int} (h : Fl.Same a i b j) (ha : a % 2 = 1) (hb : b % 2 = 1) : a = b ∧ i = j := by
  rcases h with ⟨d, h1, h2⟩ | ⟨d, h1, h2⟩
  · cases d with
    | zero => simp at h1; exact ⟨h1, by omega⟩
    | succ d => rw [Nat.pow_succ, ← Nat.mul_assoc] at h1; omega
  · cases d with
    | zero => simp at h1; exact ⟨h1.symm, by omega⟩
    | succ d => rw [Nat.pow_succ, ← Nat.mul_assoc] at h1; omega
theorem digits_few : ∀ (k u : Nat), u < 10 ^ (k + 1) → Lib.nDigits u ≤ k + 1
  | 0, u, h => by rw [Lib.nDigits_small (by simpa using h)]; omega
  | k + 1, u, h => by
    by_cases h1 : u < 10
    · rw [Lib.nDigits_small h1]; omega
    · rw [Lib.nDigits_big h1]
      have := digits_few k (u / 10) (by rw [Nat.pow_succ] at h; omega)
      omega
theorem itoa_nat (m : Nat) : itoa (m : Int) = decDigits m := by
  unfold itoa
  rw [if_neg (by omega), Int.toNat_natCast]
theorem itoa_few {v : Int} (h : v < 10000000000000000) (h2 : -10000000000000000 < v) : (itoa v).length ≤ 18 := by
  unfold itoa
  split
  · rw [List.length_cons, Lib.decDigits_length]
    have := digits_few 15 v.natAbs (by have : (10 : Nat) ^ (15 + 1) = 10000000000000000 := by decide
                                       omega)
    omega
  · rw [Lib.decDigits_length]
    have := digits_few 15 v.toNat (by have : (10 : Nat) ^ (15 + 1) = 10000000000000000 := by decide
                                      omega)
    omega
theorem numI_itoa {v : Int} (h : v < 10000000000000000) (h2 : -10000000000000000 < v) : Fl.numI (itoa v) = v := by
  obtain ⟨a1, a2⟩ := Fl.vB_itoa (Fl.itoa_vB v)
  obtain ⟨b1, b2⟩ := a2 (itoa_few h h2)
  have e1 := Dc.atoi_itoa (n := v) (by omega) (by omega)
  have e2 := Dc.atoi_itoa b2 b1
  rw [← a1, e1] at e2
  injection e2 with e3
  exact e3.symm
theorem ba_ext {a b : ByteArray} (h : a.data.toList = b.data.toList) : a = b := by
  rw [← ba_of a, ← ba_of b, h]
theorem of_pre (s : ByteArray) (g : Bool) (X : List UInt8) (h : s.data.toList = (if g = true then [45] else []) ++ X) (hx : g = false → X.head? ≠ some 45) (hs : s.size ≤ 300) (hp : 0 < s.size) : OfPre s ⟨X.toArray⟩ g := by
  refine ⟨hp, hs, fun h0 => ?_, fun hg => ?_, fun hg => ?_⟩
  · have hb := byte_at h0 rfl
    cases g with
    | true =>
      rw [h] at hb
      have : s[0]'h0 = 45 := (Option.some.inj hb).symm
      rw [this]
      rfl
    | false =>
      rw [h] at hb
      refine byte_eq (c := 45) fun he => hx rfl ?_
      rw [he] at hb
      rw [List.head?_eq_getElem?]
      exact hb
  · subst hg
    apply ba_ext
    have h2 : s.data.toList.drop 1 = X := by rw [h]; rfl
    show (s.extract 1 s.size).data.toList = X
    rw [← h2]
    simp
    rw [List.take_of_length_le (by rw [List.length_tail, Array.length_toList]; exact Nat.le_refl _)]
  · subst hg
    apply ba_ext
    rw [h]
    rfl
theorem sgB_if (b : Nat) : Fl.sgB b = if decide (9223372036854775808 ≤ b) = true then [45] else [] := by
  unfold Fl.sgB
  by_cases h : 9223372036854775808 ≤ b
  · rw [if_pos h, decide_eq_true h]; rfl
  · rw [if_neg h, decide_eq_false h]; rfl
theorem txt_few (b : Nat) : (Fl.txt b).length ≤ 300 := by
  have hs : (Fl.sgB b).length ≤ 1 := by unfold Fl.sgB; split <;> simp
  unfold Fl.txt
  split
  · decide
  · rename_i h
    split
    · rw [List.length_append, List.length_cons, List.length_cons, List.length_cons, List.length_nil]; omega
    · rename_i h1
      split
      · rw [List.length_append, List.length_cons, List.length_cons, List.length_cons, List.length_nil]; omega
      · rename_i h0
        obtain ⟨o1, o2, o3, o4⟩ := Fl.om_spec (r := b % 9223372036854775808) (by omega)
        obtain ⟨b1, b2, b3, b4⟩ := Fl.om_bounds (r := b % 9223372036854775808) (by omega) (by omega)
        have l1 := itoa_few (v := (Fl.om (b % 9223372036854775808) : Int)) (by omega) (by omega)
        have l2 := itoa_few (v := Fl.oe (b % 9223372036854775808)) (by omega) (by omega)
        rw [itoa_nat] at l1
        rw [List.length_append, Fl.numB_is, List.length_append, List.length_cons]
        omega
/-- Of at a canonical text. -/
theorem of_canon (b : Nat) : ∃ (K : Int) (n : Bool) (m e : Int), decide (0 < K) = decide (9218868437227405312 ≤ b % 9223372036854775808) ∧ ∀ w, Calls Tryz.prog 33 #[.string ⟨(Fl.txt b).toArray⟩] w fun x w' => x = .returned (.tuple #[.agg #[.int .i64 K, .bool n, .int .u64 m, .int .i64 e], .bool true]) ∧ Below w.heap.size w w' := by
  have hle := txt_few b
  rcases Nat.lt_trichotomy (b % 9223372036854775808) 9218868437227405312 with h | h | h
  · by_cases h0 : b % 9223372036854775808 = 0
    · have ht : Fl.txt b = (if decide (9223372036854775808 ≤ b) = true then [45] else []) ++ [48, 112, 48] := by rw [Fl.txt, if_neg (by omega), if_neg (by omega), if_pos h0, sgB_if]
      refine ⟨0, decide (9223372036854775808 ≤ b), 0, 0, by rw [decide_eq_false (by omega), decide_eq_false (by omega)], fun w => ?_⟩
      obtain ⟨g, hg⟩ : ∃ g, decide (9223372036854775808 ≤ b) = g := ⟨_, rfl⟩
      rw [hg] at ht ⊢
      rw [ht] at hle ⊢
      refine refof_zero _ _ g (of_pre _ g [48, 112, 48] rfl (fun _ => by decide) (by rw [ba_size]; omega) (by rw [ba_size, List.length_append]; simp)) (by decide) ?_ [48] [48] rfl (by decide) 0 0 (by decide) (by decide) (by decide) (by decide) (by decide) (by decide) rfl rfl w
      cases g <;> decide
    · obtain ⟨r, hr⟩ : ∃ r, b % 9223372036854775808 = r := ⟨_, rfl⟩
      have ht : Fl.txt b = (if decide (9223372036854775808 ≤ b) = true then [45] else []) ++ Fl.numB r := by rw [Fl.txt, if_neg (by omega), if_neg (by omega), if_neg h0, sgB_if, hr]
      rw [hr] at h h0
      obtain ⟨o1, o2, o3, o4⟩ := Fl.om_spec (r := r) (by omega)
      obtain ⟨b1, b2, b3, b4⟩ := Fl.om_bounds (r := r) (by omega) h
      refine ⟨0, decide (9223372036854775808 ≤ b), (Fl.om r : Int), Fl.oe r, by rw [hr, decide_eq_false (by omega), decide_eq_false (by omega)], fun w => ?_⟩
      have hnn := num_ne_nan b r
      rw [sgB_if] at hnn
      obtain ⟨g, hg⟩ : ∃ g, decide (9223372036854775808 ≤ b) = g := ⟨_, rfl⟩
      rw [hg] at ht hnn ⊢
      rw [ht] at hle ⊢
      have hbl := Fl.bitLen_log2 (Fl.om r) (by omega) (by omega)
      have hA : itoa (Fl.om r : Int) = decDigits (Fl.om r) := itoa_nat _
      refine refof_num _ _ g (of_pre _ g (Fl.numB r) rfl (fun _ => Fl.not_minus r) (by rw [ba_size]; omega) (by rw [ba_size, List.length_append, Fl.numB_is, List.length_append, List.length_cons]; omega)) (num_ne r) hnn (itoa (Fl.om r : Int)) (itoa (Fl.oe r)) (by rw [hA]; rfl) (fun c hc => ?_) (Fl.om r : Int) (Fl.oe r) (Fl.itoa_vB _) (itoa_few (by omega) (by omega)) (numI_itoa (by omega) (by omega)) (Fl.itoa_vB _) (itoa_few (by omega) (by omega)) (numI_itoa (by omega) (by omega)) (Fl.om r) rfl o3 (by omega) o2 (by omega) b2 b3 (by rw [hbl]; exact b4) w
      rw [hA] at hc
      intro he
      rw [he] at hc
      exact absurd (Dc.dec_mem _ _ hc).2 (by decide)
  · have ht : Fl.txt b = (if decide (9223372036854775808 ≤ b) = true then [45] else []) ++ [105, 110, 102] := by rw [Fl.txt, if_neg (by omega), if_pos h, sgB_if]
    refine ⟨1, decide (9223372036854775808 ≤ b), 0, 0, by rw [decide_eq_true (by omega), decide_eq_true (by omega)], fun w => ?_⟩
    obtain ⟨g, hg⟩ : ∃ g, decide (9223372036854775808 ≤ b) = g := ⟨_, rfl⟩
    rw [hg] at ht ⊢
    rw [ht] at hle ⊢
    exact refof_inf _ _ g (of_pre _ g [105, 110, 102] rfl (fun _ => by decide) (by rw [ba_size]; omega) (by rw [ba_size, List.length_append]; simp)) rfl w
  · have ht : Fl.txt b = [110, 97, 110] := by rw [Fl.txt, if_pos h]
    refine ⟨2, false, 0, 0, by rw [decide_eq_true (by omega), decide_eq_true (by omega)], fun w => ?_⟩
    rw [ht]
    exact refof_nan _ _ false (of_pre ⟨#[110, 97, 110]⟩ false [110, 97, 110] rfl (by decide) (by decide) (by decide)) (by decide) rfl w
set_option maxHeartbeats 4000000 in
set_option maxRecDepth 100000 in
theorem refof_empty (w : World) : Calls Tryz.prog 33 #[.string ⟨#[]⟩] w fun x w' => x = .returned (.tuple #[.agg #[.int .i64 0, .bool false, .int .u64 0, .int .i64 0], .bool false]) ∧ Below w.heap.size w w' := by
  obtain ⟨w2, hw2⟩ : ∃ w2 : World, w.alloc (.cells #[.int .i64 0, .bool false, .int .u64 0, .int .i64 0] 24) = w2 := ⟨_, rfl⟩
  obtain ⟨X, hX⟩ : ∃ X, w.heap.size = X := ⟨_, rfl⟩
  have hXc := heap_alloc_new w (.cells #[.int .i64 0, .bool false, .int .u64 0, .int .i64 0] 24)
  have hb2 : Below X w w2 := by rw [← hw2, ← hX]; exact (Below.refl _ _).alloc (Nat.le_refl _) _
  rw [hw2, hX] at hXc
  have HW2 := Lib.hid hw2
  have HX := Lib.hid hX
  have z0 := at_block hXc 0 _ rfl
  have z1 := at_block hXc 1 _ rfl
  have z2 := at_block hXc 2 _ rfl
  have z3 := at_block hXc 3 _ rfl
  have f0 := free_block hXc 0
  have f1 := free_block hXc 1
  have f2 := free_block hXc 2
  have f3 := free_block hXc 3
  clear hw2 hX hXc
  go_enter Tryz.func33, Tryz.ntmps33
  go_upto_if 20 with fail
  rw [HW2.out, HX.out]
  go_wp2_with fail
  go_loopg [6] 0 (fun g t wx => t = .int .i64 0 ∧ wx = w2)
  case atStart => exact ⟨rfl, rfl⟩
  case round =>
    obtain ⟨rfl, hww⟩ := hrel
    subst hww
    go_wp2_with fail
    refine bodyPost_ret (v := .tuple #[.agg #[.int .i64 0, .bool false, .int .u64 0, .int .i64 0], .bool false]) (by simp [results, Tryz.results33, go_sem, z0, z1, z2, z3]) rfl ?_
    refine ⟨rfl, ?_⟩
    rw [HX.out]
    exact (((hb2.setCell (p := ⟨X, 0, none⟩) (Nat.le_refl _) _).setCell (p := ⟨X, 1, none⟩) (Nat.le_refl _) _).setCell (p := ⟨X, 2, none⟩) (Nat.le_refl _) _).setCell (p := ⟨X, 3, none⟩) (Nat.le_refl _) _
/-- Of at a text that is not canonical. -/
theorem of_not (s : ByteArray) (hs : s.size ≤ 300) (hc : ∀ b, b < 18446744073709551616 → s.data.toList ≠ Fl.txt b) (w : World) : Calls Tryz.prog 33 #[.string s] w fun x w' => x = .returned (.tuple #[.agg #[.int .i64 0, .bool false, .int .u64 0, .int .i64 0], .bool false]) ∧ Below w.heap.size w w' := by
  by_cases hp : 0 < s.size
  · obtain ⟨X, hX⟩ : ∃ X, Lib.trimPrefix s.data.toList [45] = X := ⟨_, rfl⟩
    obtain ⟨g, hg⟩ : ∃ g, Lib.hasPrefix s.data.toList [45] = g := ⟨_, rfl⟩
    have hsX := minus_split s.data.toList
    have hgX : g = false → X.head? ≠ some 45 := fun hf he => by
      rw [hg, hX, if_neg (by rw [hf]; simp), List.nil_append] at hsX
      cases X with
      | nil => simp at he
      | cons c l =>
        simp at he
        rw [hsX, he, (pre_minus l).2] at hg
        rw [← hg] at hf
        cases hf
    rw [hX, hg] at hsX
    have hne : ∀ R, R < 9218868437227405313 → X ≠ Fl.txt R := fun R hR he => by
      obtain ⟨b, hb, ht⟩ := txt_sign g hR
      exact hc b hb (by rw [ht, ← he]; exact hsX)
    have P := of_pre s g X hsX hgX hs hp
    have n1 : (⟨X.toArray⟩ : ByteArray).data.toList ≠ [105, 110, 102] := fun he => hne 9218868437227405312 (by decide) (show X = _ by rw [show X = [105, 110, 102] from he]; kernel_rfl)
    have n2 : s.data.toList ≠ [110, 97, 110] := fun he => hc 9221120237041090561 (by decide) (by rw [he]; kernel_rfl)
    by_cases h112 : (112 : UInt8) ∈ X
    · obtain ⟨A, B, hAB, hA⟩ := List.eq_append_cons_of_mem h112
      have hA' : ∀ b ∈ A, b ≠ 112 := fun b hb he => hA (by rw [← he]; exact hb)
      by_cases hva : Fl.vB A = true ∧ A.length ≤ 18
      · by_cases hvb : Fl.vB B = true ∧ B.length ≤ 18
        · obtain ⟨va, la⟩ := hva
          obtain ⟨vb, lb⟩ := hvb
          obtain ⟨a1, a2⟩ := Fl.vB_itoa va
          obtain ⟨b1, b2⟩ := Fl.vB_itoa vb
          obtain ⟨a3, a4⟩ := a2 la
          obtain ⟨m, hm⟩ : ∃ m, Fl.numI A = m := ⟨_, rfl⟩
          obtain ⟨e, he⟩ : ∃ e, Fl.numI B = e := ⟨_, rfl⟩
          rw [hm] at a1 a3 a4
          rw [he] at b1
          rcases Int.lt_trichotomy m 0 with h | h | h
          · exact refof_neg s _ g P n1 n2 A B hAB hA' m e va la hm vb lb he h w
          · by_cases h2 : e = 0
            · exfalso
              refine hne 0 (by decide) ?_
              rw [hAB, a1, b1, h, h2]
              kernel_rfl
            · exact refof_zexp s _ g P n1 n2 A B hAB hA' m e va la hm vb lb he h h2 w
          · obtain ⟨M, hM⟩ : ∃ M : Nat, m = (M : Int) := ⟨m.toNat, by omega⟩
            have c1 : 0 < M := by omega
            have c9 : M < 1000000000000000000 := by omega
            by_cases c2 : M % 2 = 0
            · exact refof_even s _ g P n1 n2 A B hAB hA' m e va la hm vb lb he M hM c1 c9 c2 w
            · have c2' : M % 2 = 1 := by omega
              by_cases c3 : Lib.bitLen M ≤ 53
              · by_cases c4 : -1074 ≤ e
                · by_cases c5 : e ≤ 1023
                  · by_cases c6 : e + (Lib.bitLen M : Int) ≤ 1024
                    · exfalso
                      obtain ⟨f1, f2, f3, f4, R, r1, r2, r3⟩ := Fl.fits_word ⟨c2', c3, c4, c5, c6⟩ (by omega)
                      obtain ⟨u1, u2⟩ := Fl.odd_same (Fl.same_trans r3 (Fl.same_symm (Fl.om_same r1))) c2' (Fl.om_spec r1).2.1
                      refine hne R (by omega) ?_
                      rw [txt_num r1 r2, Fl.numB_is, hAB, a1, b1, hM, itoa_nat, u1, u2]
                    · exact refof_sum s _ g P n1 n2 A B hAB hA' m e va la hm vb lb he M hM c1 c9 c2' c3 c4 c5 (by omega) w
                  · exact refof_high s _ g P n1 n2 A B hAB hA' m e va la hm vb lb he M hM c1 c9 c2' c3 c4 (by omega) w
                · exact refof_low s _ g P n1 n2 A B hAB hA' m e va la hm vb lb he M hM c1 c9 c2' c3 (by omega) w
              · exact refof_long s _ g P n1 n2 A B hAB hA' m e va la hm vb lb he M hM c1 c9 c2' (by omega) w
        · exact refof_bbad s _ g P n1 n2 A B hAB hA' _ hva.1 hva.2 rfl (bad_or hvb) w
      · exact refof_abad s _ g P n1 n2 A B hAB hA' (bad_or hva) w
    · exact refof_nop s _ g P n1 n2 (fun j b _ hb he => h112 (by rw [← he]; exact List.mem_of_getElem? hb)) w
  · have e : s = ⟨#[]⟩ := ba_ext (by
      have := ba_size s
      exact List.eq_nil_of_length_eq_zero (by omega))
    rw [e]
    exact refof_empty w
end Go.Proofs.YtjapgpmoojfhnaaGreatDoor
