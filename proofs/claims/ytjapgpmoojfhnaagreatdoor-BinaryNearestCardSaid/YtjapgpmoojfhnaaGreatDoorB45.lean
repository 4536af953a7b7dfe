/- ref.Nearest at a decimal. The law BinaryNearest returns true for every decimal and every string. -/
import Derived.Test.YtjapgpmoojfhnaaGreatDoorB38
import Derived.Test.YtjapgpmoojfhnaaGreatDoorB44
set_option maxHeartbeats 16000000
set_option maxRecDepth 100000
set_option linter.unusedSimpArgs false
set_option linter.unusedVariables false
namespace Go.Proofs.YtjapgpmoojfhnaaGreatDoor
open Go.RowKit Go.Lib
theorem far_up {c : Nat} {E : Int} (hc : c ≠ 0) (hE : -2000 ≤ E) (h : 320 < E + ((decDigits c).length : Nat)) : Fl.Near (Fl.vN c E) (Fl.vD E) 9218868437227405312 := by
 obtain ⟨x, l, h1, h2⟩ := Fl.digL_head hc
 have hd := Fl.digL_digs hc
 have hn := Fl.num_digL c
 have hlen : (Fl.digL c).reverse.length = (decDigits c).length := by rw [List.length_reverse, Fl.dec_length hc]
 have hne : (Fl.digL c).reverse ≠ [] := by rw [h1]; simp
 have hpos := List.length_pos_iff.2 hne
 have e0 : ((Fl.digL c).reverse.length : Int) + E - ((Fl.digL c).reverse.length : Nat) = E := by omega
 obtain ⟨z1, _⟩ := Fl.start_size (dp := ((Fl.digL c).reverse.length : Int) + E) (Fl.isNum_text (rest := []) hd) (Fl.num_top hne (fun y hy => by rw [h1] at hy; cases hy; exact h2)) (by omega) hpos
 rw [e0, hn] at z1
 exact Fl.near_far (by omega) (Nat.le_trans ((Fl.sc_le (by omega) (by omega)).2 (by omega)) z1)
theorem far_down {c : Nat} {E : Int} (hc : c ≠ 0) (hE : -2000 ≤ E) (h : E + ((decDigits c).length : Nat) < -330) : Fl.Near (Fl.vN c E) (Fl.vD E) 0 := by
 obtain ⟨x, l, h1, h2⟩ := Fl.digL_head hc
 have hd := Fl.digL_digs hc
 have hn := Fl.num_digL c
 have hlen : (Fl.digL c).reverse.length = (decDigits c).length := by rw [List.length_reverse, Fl.dec_length hc]
 have hne : (Fl.digL c).reverse ≠ [] := by rw [h1]; simp
 have hpos := List.length_pos_iff.2 hne
 have e0 : ((Fl.digL c).reverse.length : Int) + E - ((Fl.digL c).reverse.length : Nat) = E := by omega
 obtain ⟨_, z2⟩ := Fl.start_size (dp := ((Fl.digL c).reverse.length : Int) + E) (Fl.isNum_text (rest := []) hd) (Fl.num_top hne (fun y hy => by rw [h1] at hy; cases hy; exact h2)) (by omega) hpos
 rw [e0, hn] at z2
 exact Fl.near_nought2 (by omega) (Nat.lt_of_lt_of_le z2 ((Fl.sc_le (by omega) (by omega)).2 (by omega)))
def NeQ (g : Bool) (c : Nat) (E : Int) (r : Nat) (x : Ending) : Prop :=
 x = .returned (.tuple #[Fl.refF (Ieee.double.word g r), .bool (decide (r < 9218868437227405312 ∧ Fl.vN c E = Fl.val Ieee.double r * Fl.vD E))])
theorem ne_join {g : Bool} {c r K : Nat} {E k : Int} {x : Ending} (near : Fl.Near (Fl.vN c E) (Fl.vD E) r) (hk : k = (K : Int) - 1074) (hq : Fl.shN (Fl.rnN c E) k / Fl.shD (Fl.rnD E) k < 9007199254740992) (hlo : K = 0 ∨ 4503599627370496 ≤ Fl.shN (Fl.rnN c E) k / Fl.shD (Fl.rnD E) k)
 (h : NeRes g (Fl.shN (Fl.rnN c E) k) (Fl.shD (Fl.rnD E) k) K x) : NeQ g c E r x := by
 obtain ⟨z, hz⟩ : ∃ z, z = 1074 := ⟨_, rfl⟩
 have hk' : k = (K : Int) - (z : Nat) := by rw [hz]; exact hk
 have h1 := Fl.near_ref hz hk' hq hlo
 obtain rfl := Fl.near_unique (Fl.vD_pos _) near h1
 unfold NeQ
 rw [h]
 congr 5
 refine congrArg Value.bool (decide_eq_decide.2 ?_)
 have h2 := Fl.ex_iff hz hk' hq hlo
 by_cases hr : K * 4503599627370496 + Fl.rndQ (Fl.shN (Fl.rnN c E) k) (Fl.shD (Fl.rnD E) k) < 9218868437227405312
 · rw [Nat.min_eq_left (by omega), h2]
 · exact ⟨fun h => absurd h.1 hr, fun h => absurd h.1 (by omega)⟩
theorem box_ne (g : Bool) (S : ByteArray) (E : Int) (w : World) : ∃ w2 X, (w.alloc (.cells #[.bool g, .string S, .int .i64 E] 37)).alloc (.cells #[.int .i64 0, .bool false, .int .u64 0, .int .i64 0] 24) = w2 ∧ w.heap.size = X ∧ NeA w X (X + 1) g S E w2 := by
 obtain ⟨q1, q2, q3, q4⟩ := two_blocks w (.cells #[.bool g, .string S, .int .i64 E] 37) (.cells #[.int .i64 0, .bool false, .int .u64 0, .int .i64 0] 24)
 exact ⟨_, _, rfl, rfl, q1, q2, by omega, q3⟩
theorem refnearest_any {t : List UInt8} {g : Bool} {c : Nat} {E : Int} (h : DecT t g c E) {r : Nat} (near : Fl.Near (Fl.vN c E) (Fl.vD E) r) (w : World) :
 Calls Tryz.prog 42 #[.agg #[.bool g, .string ⟨(decDigits c).toArray⟩, .int .i64 E]] w fun x w' => NeQ g c E r x ∧ Below w.heap.size w w' := by
 obtain ⟨S, hS⟩ : ∃ S : ByteArray, (⟨(decDigits c).toArray⟩ : ByteArray) = S := ⟨_, rfl⟩
 obtain ⟨w2, X, hw2, hX, hN⟩ := box_ne g S E w
 obtain ⟨F, hF⟩ : ∃ F, X + 1 = F := ⟨_, rfl⟩
 rw [hF] at hN
 rw [hS, hX]
 have x0 := at_block hN.bd 0 _ rfl
 have x1 := at_block hN.bd 1 _ rfl
 have x2 := at_block hN.bd 2 _ rfl
 have z0 := at_block hN.bf 0 _ rfl
 have z1 := at_block hN.bf 1 _ rfl
 have z2 := at_block hN.bf 2 _ rfl
 have z3 := at_block hN.bf 3 _ rfl
 have f0 := free_block hN.bf 0
 have f1 := free_block hN.bf 1
 have f2 := free_block hN.bf 2
 have f3 := free_block hN.bf 3
 have hB4 := Lib.hid (fun v0 v1 v2 v3 => below_four hN.bel (Nat.le_of_lt hN.xf) v0 v1 v2 v3)
 have HN := Lib.hid hN
 have HW := Lib.hid (And.intro hw2 (And.intro hX hF))
 have HNEAR := Lib.hid near
 have HS := Lib.hid hS
 clear hN hw2 hX hF
 cases h with
 | zero =>
   have hr0 : r = 0 := Fl.near_unique (Fl.vD_pos _) near (near_nil 0)
   have HR := Lib.hid (show NeQ false 0 0 r (.returned (.tuple #[.agg #[.int .i64 0, .bool false, .int .u64 0, .int .i64 0], .bool true])) from by
    unfold NeQ
    rw [hr0, refW_zero, decide_eq_true ⟨by decide, by rw [vN_nil, Fl.val_zero, Nat.zero_mul]⟩])
   have e1 : (S.toList == [48]) = true := by rw [← hS, Lib.toList_data, decDigits_one (by decide)]; rfl
   clear hr0 near hS
   go_enter Tryz.func42, Tryz.ntmps42
   go_upto_region 1 with fail
   rw [HW.out.1, HW.out.2.1, HW.out.2.2]
   go_wp2_with fail
   refine bodyPost_ret (v := .tuple #[.agg #[.int .i64 0, .bool false, .int .u64 0, .int .i64 0], .bool true]) (by simp [results, Tryz.results42, go_sem, z0, z1, z2, z3]) rfl ?_
   exact ⟨HR.out, hB4.out _ _ _ _⟩
 | num _ _ _ hc hl h0 h1 =>
   have hc0 : c ≠ 0 := by omega
   have e1 : (S.toList == [48]) = false := by
    rw [← hS]
    refine ba_list' ?_
    show decDigits c ≠ [48]
    intro e
    have h3 := Fl.dec_end (c := c)
    rw [e] at h3
    exact hc (Fl.ofNat_48 (Nat.mod_lt c (by decide)) (Option.some.inj h3).symm)
   obtain ⟨L, hL⟩ : ∃ L, (decDigits c).length = L := ⟨_, rfl⟩
   have hSL : S.size = L := by rw [← hS, str_size, hL]
   have g1 : IntKind.i64.wrap (E + (L : Int)) = E + (L : Int) := IntWalk.i64_in _ (by omega)
   by_cases hhi : 320 < E + (L : Int)
   · have hr0 : r = 9218868437227405312 := Fl.near_unique (Fl.vD_pos _) near (far_up hc0 h0 (by rw [hL]; exact hhi))
     have HR := Lib.hid (show NeQ g c E r (.returned (.tuple #[.agg #[.int .i64 1, .bool g, .int .u64 0, .int .i64 0], .bool false])) from by
      unfold NeQ
      rw [hr0, refW_inf, decide_eq_false (fun h => absurd h.1 (by decide))])
     have d1 : decide (320 < E + (L : Int)) = true := decide_eq_true hhi
     clear hr0 near hS hhi hc hl h0 h1 hc0 hL
     go_enter Tryz.func42, Tryz.ntmps42
     go_upto_region 1 with fail
     rw [HW.out.1, HW.out.2.1, HW.out.2.2]
     go_wp2_with fail
     refine bodyPost_ret (v := .tuple #[.agg #[.int .i64 1, .bool g, .int .u64 0, .int .i64 0], .bool false]) (by simp [results, Tryz.results42, go_sem, z0, z1, z2, z3]) rfl ?_
     exact ⟨HR.out, hB4.out _ _ _ _⟩
   · by_cases hlo : E + (L : Int) < -330
     · have hr0 : r = 0 := Fl.near_unique (Fl.vD_pos _) near (far_down hc0 h0 (by rw [hL]; exact hlo))
       have hno : ¬ ((0 : Nat) < 9218868437227405312 ∧ Fl.vN c E = Fl.val Ieee.double 0 * Fl.vD E) := fun h => by
        have h2 := h.2
        rw [Fl.val_zero, Nat.zero_mul, ← vN_nil E] at h2
        exact hc0 (Fl.vN_inj h2)
       have HR := Lib.hid (show NeQ g c E r (.returned (.tuple #[.agg #[.int .i64 0, .bool g, .int .u64 0, .int .i64 0], .bool false])) from by
        unfold NeQ
        rw [hr0, refW_zero, decide_eq_false hno])
       have d1 : decide (320 < E + (L : Int)) = false := decide_eq_false hhi
       have d2 : decide (E + (L : Int) < -330) = true := decide_eq_true hlo
       clear hr0 near hS hhi hc hl h0 h1 hc0 hL hlo hno
       go_enter Tryz.func42, Tryz.ntmps42
       go_upto_region 1 with fail
       rw [HW.out.1, HW.out.2.1, HW.out.2.2]
       go_wp2_with fail
       refine bodyPost_ret (v := .tuple #[.agg #[.int .i64 0, .bool g, .int .u64 0, .int .i64 0], .bool false]) (by simp [results, Tryz.results42, go_sem, z0, z1, z2, z3]) rfl ?_
       exact ⟨HR.out, hB4.out _ _ _ _⟩
     · have d1 : decide (320 < E + (L : Int)) = false := decide_eq_false hhi
       have d2 : decide (E + (L : Int) < -330) = false := decide_eq_false hlo
       have hcl : c < 10 ^ L := by
        obtain ⟨n, n1, n2, n3⟩ := Fl.dec_bounds hc0
        rw [← hL, n1]
        exact n3
       have HO := Lib.hid (show Fl.NeOK c L E from ⟨by omega, hcl, by omega, by omega, by omega⟩)
       have HL := Lib.hid (And.intro hL hl)
       clear near hS hhi hc h0 h1 hc0 hL hlo hl hcl
       go_enter Tryz.func42, Tryz.ntmps42
       go_upto_region 1 with fail
       rw [HW.out.1, HW.out.2.1, HW.out.2.2]
       go_upto_if 36 with fail
       go_cut [3] (fun t wx => t = .bool false ∧ wx = w2)
       case first =>
        go_wp2_with fail
        go_meet
        exact ⟨rfl, rfl⟩
       case rest =>
        obtain ⟨rfl, hww⟩ := hcut
        obtain rfl := hww.symm
        exact ne_one (Q := fun x w' => NeQ g c E r x ∧ Below X w w') g S E X F c L w _ _ _ _ _ _ _ _ _ _ _ _ _ _ _ _ _ _ _ _ _ _ _ _ _ _ _ _ _ _ _ _ _ _ _ _ _ _ _ _ _ _ _ _ _ _ _ _ _ _ _ _ _ _ _ _ _ _ _ _ _ _ _ _ _ _ _ _ _ _ _ _ _ _ _ _ _ _ _ _ _ _ _ _ _ _ _ _ _ _ _ _ _ _ _ _ _ _ _ _ _ _ _ _ _ _ _ _ _ _ _ _ _ _ _ _ _ _ _ _ _ _ _ _ _ _ _ _ _ _ _ _ _ _ _ _ _ _ _ _ _ _ _ _ _ _ _ _ _ _ _ _ _ _ _ _ _ _ _ _ _ _ _ _ _ _ (by assumption) (fun K k x w' h1 h2 h3 h4 => ⟨ne_join HNEAR.out h1 h2 h3 h4.1, h4.2⟩) HS.out.symm HL.out.1 HL.out.2 HO.out HN.out
theorem refW_form (b : Nat) : ∃ (k : Int) (n : Bool) (m e : Int), Fl.refF b = .agg #[.int .i64 k, .bool n, .int .u64 m, .int .i64 e] := by
 unfold Fl.refF
 split
 · exact ⟨_, _, _, _, rfl⟩
 · split
   · exact ⟨_, _, _, _, rfl⟩
   · split <;> exact ⟨_, _, _, _, rfl⟩
theorem nearest_bad (s : ByteArray) (hs : s.size ≤ 300) (h : ¬ ∃ g c E, DecT s.data.toList g c E) (w : World) (hL : Laid w) :
 Calls Tryz.prog 20 #[.string s] w fun x w' => x = .returned (.tuple #[.string ⟨#[]⟩, .bool false, .int .i64 3]) ∧ Below w.heap.size w w' := by
 have VA := valid_any s w (by omega) hL
 rw [readP_not h] at VA
 have VA := Lib.hid VA
 clear h hs hL
 go_enter Tryz.func20, Tryz.ntmps20
 go_wp2_with fail
 refine (VA.out).mono ?_
 rintro x w1 ⟨rfl, hb1⟩
 go_wp2_with fail
 refine bodyPost_ret (v := .tuple #[.string ⟨#[]⟩, .bool false, .int .i64 3]) (by simp [results, Tryz.results20, go_sem]) rfl ?_
 exact ⟨rfl, hb1⟩
theorem law11 (g : Bool) (D : ByteArray) (e : Int) (s : ByteArray) (he : -32768 ≤ e ∧ e ≤ 32767) (w : World) (B0 C0 D0 : Nat × Nat) (hL : Laid4 w B0 C0 D0) :
 Calls Tryz.prog 11 #[.agg #[.bool g, .string D, .int .i16 e], .string s] w fun x w' => x = .returned (.bool true) ∧ Below w.heap.size w w' := by
 obtain ⟨w2, X, hw2, hX, hb2, hX2⟩ : ∃ (w2 : World) (X : Nat), w.alloc (.cells #[.bool g, .string D, .int .i16 e] 43) = w2 ∧ w.heap.size = X ∧ Below w.heap.size w w2 ∧ w2.heap[X]? = some (.cells #[.bool g, .string D, .int .i16 e] 43 (0, 0)) :=
  ⟨_, _, rfl, rfl, (Below.refl _ _).alloc (Nat.le_refl _) _, heap_alloc_new w _⟩
 have a0 := at_block hX2 0 _ rfl
 have a1 := at_block hX2 1 _ rfl
 have a2 := at_block hX2 2 _ rfl
 have HW2 := Lib.hid hw2
 have HX := Lib.hid hX
 have HB2 := Lib.hid hb2
 have HL := Lib.hid hL
 have DA := Lib.hid (fun W => dec22_any g D e he W)
 have AW := Lib.hid (fun W hW => awake_any W hW)
 clear hw2 hX hb2 hX2 hL he
 by_cases h300 : 300 < s.size
 · have c1 : decide (300 < s.size) = true := decide_eq_true h300
   have c2 : decide ((300 : Int) < (s.size : Int)) = true := decide_eq_true (by omega)
   clear h300
   go_enter Tryz.func11, Tryz.ntmps11
   go_upto_region 1 with fail
   rw [HW2.out, HX.out]
   go_wp2_with fail
   refine (AW.out _ (HL.out.on HB2.out).l2.laid).mono ?_
   rintro x w3 ⟨rfl, hb3⟩
   go_wp2_with fail
   go_ret
   exact ⟨rfl, b_trans HB2.out hb3⟩
 · have c1 : decide (300 < s.size) = false := decide_eq_false h300
   have c2 : decide ((300 : Int) < (s.size : Int)) = false := decide_eq_false (by omega)
   have hs : s.size ≤ 300 := by omega
   clear h300
   go_enter Tryz.func11, Tryz.ntmps11
   go_upto_region 1 with fail
   rw [HW2.out, HX.out]
   go_wp2_with fail
   refine (DA.out _).mono ?_
   rintro x w3 ⟨⟨t, gt, c, E, ht, rfl⟩, hb3⟩
   have hb3 := b_trans HB2.out hb3
   obtain ⟨r, near⟩ := Fl.near_exists (Fl.vN c E) (Fl.vD E)
   have OG := fun W => ofdec_good ht W
   have RN := fun W => refnearest_any ht near W
   have NX := fun W hW => nearest_ex ht near W B0 C0 D0 hW
   have TX := fun W => reftext_any (Ieee.double.word gt r) W
   obtain ⟨k1, n1, m1, e1, hF⟩ := refW_form (Ieee.double.word gt r)
   unfold NeQ at RN
   rw [hF] at TX
   simp only [hF] at RN
   obtain ⟨S1, hS1⟩ : ∃ S1 : ByteArray, (⟨t.toArray⟩ : ByteArray) = S1 := ⟨_, rfl⟩
   obtain ⟨S2, hS2⟩ : ∃ S2 : ByteArray, (⟨(decDigits c).toArray⟩ : ByteArray) = S2 := ⟨_, rfl⟩
   obtain ⟨T1, hT1⟩ : ∃ T1 : ByteArray, (⟨(Fl.txt (Ieee.double.word gt r)).toArray⟩ : ByteArray) = T1 := ⟨_, rfl⟩
   obtain ⟨q, hq⟩ : ∃ q, decide (r < 9218868437227405312 ∧ Fl.vN c E = Fl.val Ieee.double r * Fl.vD E) = q := ⟨_, rfl⟩
   rw [hS1, hS2] at OG
   rw [hS2] at RN
   simp only [hq] at RN
   rw [hS1, hT1, hq] at NX
   rw [hT1] at TX
   rw [hS1]
   have OG := Lib.hid OG
   have RN := Lib.hid RN
   have NX := Lib.hid NX
   have TX := Lib.hid TX
   have HB3 := Lib.hid hb3
   clear ht near hF hS1 hS2 hT1 hq hb3 a0 a1 a2 DA
   go_wp2_with fail
   refine (OG.out _).mono ?_
   rintro x w4 ⟨rfl, hb4⟩
   have HB4 := Lib.hid (b_trans HB3.out hb4)
   clear hb4
   go_wp2_with fail
   refine (RN.out _).mono ?_
   rintro x w5 ⟨rfl, hb5⟩
   have HB5 := Lib.hid (b_trans (HB4.out.alloc HB4.out.size _) hb5)
   clear hb5
   go_upto_region 6 with fail
   obtain ⟨Z, hZ⟩ : ∃ Z, w5.heap.size = Z := ⟨_, rfl⟩
   have hz := heap_alloc_new w5 (.cells #[.int .i64 k1, .bool n1, .int .u64 m1, .int .i64 e1] 24)
   have hb6 := HB5.out.alloc HB5.out.size (.cells #[.int .i64 k1, .bool n1, .int .u64 m1, .int .i64 e1] 24)
   rw [hZ] at hz ⊢
   generalize w5.alloc (.cells #[.int .i64 k1, .bool n1, .int .u64 m1, .int .i64 e1] 24) = w6 at hz hb6 ⊢
   have HB6 := Lib.hid hb6
   have HZ := Lib.hid hz
   clear hb6 hz hZ
   go_wp2_with fail
   refine (NX.out _ (HL.out.on HB6.out)).mono ?_
   rintro x w7 ⟨rfl, hb7⟩
   have hz7 := (hb7.block Z (lt_of_block HZ.out)).trans HZ.out
   have x0 := at_block hz7 0 _ rfl
   have x1 := at_block hz7 1 _ rfl
   have x2 := at_block hz7 2 _ rfl
   have x3 := at_block hz7 3 _ rfl
   have HB7 := Lib.hid (b_trans HB6.out hb7)
   clear hb7 hz7
   go_wp2_with fail
   refine (TX.out _).mono ?_
   rintro x w8 ⟨rfl, hb8⟩
   have HB8 := Lib.hid (b_trans HB7.out hb8)
   clear hb8 x0 x1 x2 x3
   by_cases hD : ∃ g c E, DecT s.data.toList g c E
   · obtain ⟨gs, cs, Es, hd⟩ := hD
     obtain ⟨rs, nears⟩ := Fl.near_exists (Fl.vN cs Es) (Fl.vD Es)
     have e0 : (⟨s.data.toList.toArray⟩ : ByteArray) = s := rfl
     have NS := fun W hW => nearest_ex hd nears W B0 C0 D0 hW
     have OS := fun W => ofdec_good hd W
     rw [e0] at NS OS
     obtain ⟨S3, hS3⟩ : ∃ S3 : ByteArray, (⟨(decDigits cs).toArray⟩ : ByteArray) = S3 := ⟨_, rfl⟩
     obtain ⟨T3, hT3⟩ : ∃ T3 : ByteArray, (⟨(Fl.txt (Ieee.double.word gs rs)).toArray⟩ : ByteArray) = T3 := ⟨_, rfl⟩
     obtain ⟨q3, hq3⟩ : ∃ q, decide (rs < 9218868437227405312 ∧ Fl.vN cs Es = Fl.val Ieee.double rs * Fl.vD Es) = q := ⟨_, rfl⟩
     rw [hT3, hq3] at NS
     rw [hS3] at OS
     have NS := Lib.hid NS
     have OS := Lib.hid OS
     clear hd nears e0 hS3 hT3 hq3 hs
     go_wp2_with fail
     refine (NS.out _ (HL.out.on HB8.out)).mono ?_
     rintro x w9 ⟨rfl, hb9⟩
     have HB9 := Lib.hid (b_trans HB8.out hb9)
     clear hb9
     go_wp2_with fail
     refine (OS.out _).mono ?_
     rintro x w10 ⟨rfl, hb10⟩
     have HB10 := Lib.hid (b_trans HB9.out hb10)
     clear hb10
     go_wp2_with fail
     refine (AW.out _ (HL.out.on (HB10.out.alloc HB10.out.size _)).l2.laid).mono ?_
     rintro x w11 ⟨rfl, hb11⟩
     have HB11 := Lib.hid (b_trans (HB10.out.alloc HB10.out.size _) hb11)
     clear hb11
     go_wp2_with fail
     go_ret
     exact ⟨rfl, HB11.out⟩
   · have NS := Lib.hid (fun W hW => nearest_bad s hs hD W hW)
     have OS := Lib.hid (fun W => ofdec_bad s hs hD W)
     clear hD hs
     go_wp2_with fail
     refine (NS.out _ (HL.out.on HB8.out).l2.laid).mono ?_
     rintro x w9 ⟨rfl, hb9⟩
     have HB9 := Lib.hid (b_trans HB8.out hb9)
     clear hb9
     go_wp2_with fail
     refine (OS.out _).mono ?_
     rintro x w10 ⟨rfl, hb10⟩
     have HB10 := Lib.hid (b_trans HB9.out hb10)
     clear hb10
     go_wp2_with fail
     refine (AW.out _ (HL.out.on (HB10.out.alloc HB10.out.size _)).l2.laid).mono ?_
     rintro x w11 ⟨rfl, hb11⟩
     have HB11 := Lib.hid (b_trans (HB10.out.alloc HB10.out.size _) hb11)
     clear hb11
     go_wp2_with fail
     go_ret
     exact ⟨rfl, HB11.out⟩
end Go.Proofs.YtjapgpmoojfhnaaGreatDoor
