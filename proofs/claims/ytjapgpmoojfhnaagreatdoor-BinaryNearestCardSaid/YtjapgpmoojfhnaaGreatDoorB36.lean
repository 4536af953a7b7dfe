/- atof64: the slow road. atof64 and ParseFloat at every decimal. Nearest at every decimal. -/
import Derived.Test.YtjapgpmoojfhnaaGreatDoorB09
import Derived.Test.YtjapgpmoojfhnaaGreatDoorB26
import Derived.Test.YtjapgpmoojfhnaaGreatDoorB28
import Derived.Test.YtjapgpmoojfhnaaGreatDoorB33
import Derived.Test.YtjapgpmoojfhnaaGreatDoorB35
set_option maxHeartbeats 16000000
set_option maxRecDepth 100000
set_option linter.unusedSimpArgs false
set_option linter.unusedVariables false
namespace Go.Proofs.YtjapgpmoojfhnaaGreatDoor
open Go.RowKit Go.Lib
structure SlowTab (w : World) (B C : Nat × Nat) : Prop where
 info : Inf64 w
 ch : ChTab w B
 pw : PowTab w C
 s18 : 18 ≤ w.heap.size
 sb : B.1 < w.heap.size
 sc : C.1 < w.heap.size
theorem SlowTab.on {w w' : World} {B C : Nat × Nat} (h : SlowTab w B C) (hb : Below w.heap.size w w') : SlowTab w' B C :=
 ⟨h.info.on hb (by have := h.s18; omega), h.ch.on hb (by have := h.s18; omega) h.sb, ⟨(hb.cell (by have := h.s18; show 11 < _; omega)).trans h.pw.ptr, fun k hk => (hb.cell h.sc).trans (h.pw.row k hk)⟩, Nat.le_trans h.s18 hb.size, Nat.lt_of_lt_of_le h.sb hb.size, Nat.lt_of_lt_of_le h.sc hb.size⟩
theorem SlowTab.fb {w w' : World} {B C : Nat × Nat} (h : SlowTab w B C) (hb : Below w.heap.size w w') : FbT w' B C w.heap.size :=
 ⟨⟨(h.on hb).info, (h.on hb).ch, h.s18, h.sb⟩, (h.on hb).pw, h.sc⟩
def AtEnd (g : Bool) (M : Nat) (E : Int) (n : Nat) (w : World) (x : Ending) (w' : World) : Prop :=
 ∃ r v, Fl.Near (Fl.vN M E) (Fl.vD E) r ∧ ErrV r v ∧ x = .returned (.tuple #[.float .f64 (Ieee.double.word g r), .int .i64 (n : Int), v]) ∧ Below w.heap.size w w'
noncomputable def suf165 : Code := fromR 28 (Tryz.f165.body.getD .skip)
theorem word_g2 (g : Bool) (r : Nat) : Ieee.double.word g r = g2 g + r := by
 rw [word_sum]
 cases g <;> rfl
theorem zero235 : Tryz.zeroCells235 = (dcCells (List.replicate 800 0) 0 0 false false).toArray := by kernel_rfl
theorem cut_all (s : ByteArray) : s.extract 0 s.size = s := by
 apply ByteArray.ext
 simp
theorem slow_tail (s : ByteArray) (g : Bool) (l : List Nat) (E : Int) (h : Fl.DecTxt s g l E) (hlast : Fl.num l % 10 ≠ 0) (hlo : -330 ≤ (l.length : Int) + E) (hhi : (l.length : Int) + E ≤ 400) (B C : Nat × Nat) (w w0 : World) (u1 u2 u5 u6 u7 u8 u9 u10 u11 u12 u13 u14 u15 u16 u17 u18 u19 u20 u21 u22 u23 u24 u25 u26 u27 u28 u29 u30 u31 u32 u33 u34 u35 u36 u37 u38 u39 u40 u41 u42 u43 u44 u45 u46 u47 u48 u49 u50 u51 u52 u53 u54 u55 u56 u57 u58 u59 u60 u61 u62 u63 u64 u65 u66 u67 u68 u69 u70 u71 u72 u73 u74 u75 u76 u77 u78 u79 u80 u81 u82 u83 u84 u85 u86 u87 u88 u89 u90 u91 u92 u93 u94 u95 u96 u97 u98 u99 u100 u101 u102 u103 u104 u105 u106 u107 u108 u109 u110 u111 u112 u113 u114 u115 u116 u117 u118 u119 u120 u121 u122 u123 u124 u125 u126 u127 u128 u129 u130 u131 u132 u133 u134 u135 u136 u137 u138 u139 u140 u141 u142 : Value) {K : Act → World → Prop}
 (hK : ∀ a' w', Code.wp Tryz.prog suf165 (bodyPost Tryz.prog Tryz.f165 (AtEnd g (Fl.num l) E s.size w)) a' w' → K a' w') (hT : SlowTab w0 B C) (hb : Below w.heap.size w w0) :
 K ⟨#[.string s, u1, u2, .int .i64 (s.size : Int), .nilIface, u5, u6, u7, u8, u9, u10, u11, u12, u13, u14, u15, u16, u17, u18, u19, u20, u21, u22, u23, u24, u25, u26, u27, u28, u29, u30, u31, u32, u33, u34, u35, u36, u37, u38, u39, u40, u41, u42, u43, u44, u45, u46, u47, u48, u49, u50, u51, u52, u53, u54, u55, u56, u57, u58, u59, u60, u61, u62, u63, u64, u65, u66, u67, u68, u69, u70, u71, u72, u73, u74, u75, u76, u77, u78, u79, u80, u81, u82, u83, u84, u85, u86, u87, u88, u89, u90, u91, u92, u93, u94, u95, u96, u97, u98, u99, u100, u101, u102, u103, u104, u105, u106, u107, u108, u109, u110, u111, u112, u113, u114, u115, u116, u117, u118, u119, u120, u121, u122, u123, u124, u125, u126, u127, u128, u129, u130, u131, u132, u133, u134, u135, u136, u137, u138, u139, u140, u141, u142], []⟩ w0 := by
 refine hK _ _ ?_
 conv => arg 4; zeta
 conv => arg 2; whnf
 have hsl : s.extract 0 s.size = s := cut_all s
 have HH := Lib.hid (And.intro hT (And.intro hb h))
 have HC := Lib.hid (And.intro hlast (And.intro hlo hhi))
 obtain ⟨n, hn⟩ : ∃ n, s.size = n := ⟨_, rfl⟩
 have i0 : (0 : Int) ≤ (n : Int) := Int.natCast_nonneg n
 have hnn : (n : Int) ≤ (s.size : Int) := by rw [hn]; exact Int.le_refl _
 rw [hn] at hsl ⊢
 have HN := Lib.hid hn
 clear hT hb h hlast hlo hhi hK hn
 go_wp2_with fail
 obtain ⟨X, hX⟩ : ∃ X, w0.heap.size = X := ⟨_, rfl⟩
 have hnew := heap_alloc_new w0 (.cells Tryz.zeroCells235 235)
 have hbn : Below X w0 (w0.alloc (.cells Tryz.zeroCells235 235)) := by rw [← hX]; exact (Below.refl _ _).alloc (Nat.le_refl _) _
 rw [hX] at hnew ⊢
 generalize w0.alloc (.cells Tryz.zeroCells235 235) = w1 at hnew hbn ⊢
 have hD : DcAt w1 X (List.replicate 800 0) 0 0 false false := ⟨hnew.trans (by rw [zero235]), by rw [List.length_replicate]⟩
 refine (set_any X s g l E HH.out.2.2 w1 hD).mono ?_
 rintro x w2 ⟨rfl, a1, a2⟩
 have hb2 := hbn.trans a2
 have FB := fb_any (Fl.num l) ((l.length : Int) + E) X (Dk l l.length) l.length g B C w2 (by rw [dk_all]; exact Fl.isNum_text HH.out.2.2.digs) HC.out.1 (Fl.num_top HH.out.2.2.ne HH.out.2.2.head) HH.out.2.2.len HC.out.2.1 HC.out.2.2 (by have h := HH.out.1.fb (w' := w2) (by rw [hX]; exact hb2); rwa [hX] at h) a1
 rw [show (l.length : Int) + E - l.length = E by omega] at FB
 have FB := Lib.hid FB
 have HB := Lib.hid (HH.out.2.1.trans (hb2.mono (by rw [← hX]; exact HH.out.2.1.size)))
 have HXS := Lib.hid (show w.heap.size ≤ X by rw [← hX]; exact HH.out.2.1.size)
 clear a1 a2 hD hnew hbn hb2 hsl hnn hX
 go_wp2_with fail
 refine FB.out.mono ?_
 rintro x w3 ⟨r, near, rfl, hb3⟩
 have HB3 := Lib.hid (And.intro near (HB.out.trans (hb3.mono HXS.out)))
 clear near hb3
 have RF1 := fun W => run_frombits2 (g2 g + r) W
 have HW := Lib.hid (word_g2 g r)
 obtain ⟨Y, hY⟩ : ∃ Y, g2 g + r = Y := ⟨_, rfl⟩
 have HYY := Lib.hid hY
 rw [hY] at RF1 ⊢
 clear hY
 obtain ⟨o, ho⟩ : ∃ o, decide (r = 9218868437227405312) = o := ⟨_, rfl⟩
 rw [ho]
 have HO := Lib.hid ho
 clear ho
 cases o with
 | false =>
   go_wp2_with fail
   refine bodyPost_ret (v := .tuple #[.float .f64 Y, .int .i64 (n : Int), .nilIface]) (by simp [results, Tryz.results165, go_sem]) rfl ?_
   exact ⟨r, _, HB3.out.1, .inl rfl, by rw [HW.out, HYY.out], HB3.out.2⟩
 | true =>
   go_wp2_with fail
   refine bodyPost_ret (v := .tuple #[.float .f64 Y, .int .i64 (n : Int), .iface 173 (.int .i64 1)]) (by simp [results, Tryz.results165, go_sem]) rfl ?_
   exact ⟨r, _, HB3.out.1, .inr ⟨of_decide_eq_true HO.out, rfl⟩, by rw [HW.out, HYY.out], HB3.out.2⟩
theorem order_ne (g : Bool) {r0 r1 : Nat} (h0 : r0 ≤ 9218868437227405312) (h1 : r1 ≤ 9218868437227405312) (hne : r0 ≠ r1) : (FloatKind.f64.format.order (Ieee.double.word g r0) (Ieee.double.word g r1) == some Ordering.eq) = false := by
 obtain ⟨a0, b0⟩ := word_lt g h0
 obtain ⟨a1, b1⟩ := word_lt g h1
 rw [order_key a0 a1 b0 b1, key_word g h0, key_word g h1]
 have hk : compare (Fl.skey g r0) (Fl.skey g r1) ≠ .eq := fun e => hne (by
  have := Int.compare_eq_eq.1 e
  cases g <;> simp only [Fl.skey] at this <;> simp at this <;> omega)
 rw [beq_eq_false_iff_ne]
 exact fun e => hk (Option.some.inj e)
theorem atof_slow (s : ByteArray) (g : Bool) (l : List Nat) (E : Int) (d r0 r1 : Nat) (p : Int) (h : Fl.DecTxt s g l E) (hlast : Fl.num l % 10 ≠ 0) (hlo : -330 ≤ (l.length : Int) + E) (hhi : (l.length : Int) + E ≤ 400) (h0 : 0 < d) (hd : d + 1 < 18446744073709551616) (hp0 : -345 ≤ p) (hp1 : p ≤ 310) (near0 : Fl.Near (Fl.vN d p) (Fl.vD p) r0) (near1 : Fl.Near (Fl.vN (d + 1) p) (Fl.vD p) r1) (hne : r0 ≠ r1) (w : World) (hO : w.cell? ⟨8, 0, none⟩ = some (.bool true)) (hTab : TenTab w) (hw : 18 ≤ w.heap.size) (B C : Nat × Nat) (hT : SlowTab w B C)
 (SP : ∀ W, Calls Tryz.prog 188 #[.string s] W fun x w' => x = .returned (.tuple #[.float .f64 0, .int .i64 0, .bool false]) ∧ w' = W)
 (RF : ∀ W, Calls Tryz.prog 189 #[.string s] W fun x w' => x = .returned (.tuple #[.int .u64 (d : Int), .int .i64 p, .bool g, .bool true, .bool false, .int .i64 s.size, .bool true]) ∧ w' = W) :
 Calls Tryz.prog 165 #[.string s] w (AtEnd g (Fl.num l) E s.size w) := by
 have SP := Lib.hid SP
 have RF := Lib.hid RF
 have k0 : ((d : Int) == 0) = false := by rw [beq_eq_false_iff_ne]; omega
 have k1 : decide (310 < p) = false := decide_eq_false (by omega)
 have k2 : decide (p < -345) = false := decide_eq_false (by omega)
 obtain ⟨n, hn⟩ : ∃ n, s.size = n := ⟨_, rfl⟩
 rw [hn] at RF ⊢
 cases g
 · have PF := Lib.hid (pf64_f d p h0 (by omega) hp0 hp1 w hTab hw)
   have PG := Lib.hid (fun W (hb : Below w.heap.size w W) (hs : w.heap.size ≤ W.heap.size) => pf64_f (d + 1) p (by omega) hd hp0 hp1 W (hTab.on hw hb) (by omega))
   have EQ : (FloatKind.f64.format.order (Ieee.double.word false r0) (Ieee.double.word false r1) == some Ordering.eq) = false := order_ne false near0.1 near1.1 hne
   have U1 := Lib.hid (fun r (h : Fl.Near (Fl.vN d p) (Fl.vD p) r) => Fl.near_unique (Fl.vD_pos p) h near0)
   have U2 := Lib.hid (fun r (h : Fl.Near (Fl.vN (d + 1) p) (Fl.vD p) r) => Fl.near_unique (Fl.vD_pos p) h near1)
   obtain ⟨Y, hY⟩ : ∃ Y, Ieee.double.word false r0 = Y := ⟨_, rfl⟩
   obtain ⟨Z, hZ⟩ : ∃ Z, Ieee.double.word false r1 = Z := ⟨_, rfl⟩
   rw [hY, hZ] at EQ
   have HY := Lib.hid hY
   have HZ := Lib.hid hZ
   obtain ⟨q, hq⟩ : ∃ q, d + 1 = q := ⟨_, rfl⟩
   have f1 : IntKind.u64.wrap ((d : Int) + 1) = (q : Int) := by rw [IntKind.wrap_u64]; omega
   rw [hq] at PG U2
   have HD := Lib.hid (And.intro h (And.intro hlast (And.intro hlo hhi)))
   have HT := Lib.hid hT
   have HNN := Lib.hid hn
   clear hTab h0 hd hp0 hp1 hn hw near0 near1 hY hq hZ hne h hlast hlo hhi hT
   go_enter Tryz.func165, Tryz.ntmps165
   go_wp2_with fail
   refine (SP.out _).mono ?_
   rintro x w1 ⟨rfl, rfl⟩
   go_wp2_with fail
   refine (RF.out _).mono ?_
   rintro x w1 ⟨rfl, rfl⟩
   go_wp2_with fail
   refine (bool2u_any false _).mono ?_
   rintro x w1 ⟨rfl, rfl⟩
   go_wp2_with fail
   refine (PF.out).mono ?_
   rintro x w2 ⟨⟨r, v, near, hv, rfl⟩, hb⟩
   obtain rfl := U1.out r near
   rw [HY.out]
   have NR := Lib.hid (And.intro hv hb)
   clear near hv hb
   go_wp2_with fail
   refine (PG.out _ NR.out.2 NR.out.2.size).mono ?_
   rintro x w3 ⟨⟨r', v', near, hv, rfl⟩, hb⟩
   obtain rfl := U2.out r' near
   rw [HZ.out]
   have NR2 := Lib.hid (b_trans NR.out.2 hb)
   clear near hv hb
   go_upto_region 26 with fail
   rename (∀ (a : Act) (w_1 : World), Code.wp Tryz.prog (Code.seq (Code.region 28 _ _) _) _ a w_1 → _) => hr
   have HRR := Lib.hid hr
   clear hr
   go_wp2_with fail
   rw [← HNN.out]
   exact slow_tail s _ l E HD.out.1 HD.out.2.1 HD.out.2.2.1 HD.out.2.2.2 B C _ _ _ _ _ _ _ _ _ _ _ _ _ _ _ _ _ _ _ _ _ _ _ _ _ _ _ _ _ _ _ _ _ _ _ _ _ _ _ _ _ _ _ _ _ _ _ _ _ _ _ _ _ _ _ _ _ _ _ _ _ _ _ _ _ _ _ _ _ _ _ _ _ _ _ _ _ _ _ _ _ _ _ _ _ _ _ _ _ _ _ _ _ _ _ _ _ _ _ _ _ _ _ _ _ _ _ _ _ _ _ _ _ _ _ _ _ _ _ _ _ _ _ _ _ _ _ _ _ _ _ _ _ _ _ _ _ _ _ _ _ _ (by have h := HRR.out; rw [HNN.out]; exact h) (HT.out.on NR2.out) NR2.out
 · have PF := Lib.hid (pf64_t d p h0 (by omega) hp0 hp1 w hTab hw)
   have PG := Lib.hid (fun W (hb : Below w.heap.size w W) (hs : w.heap.size ≤ W.heap.size) => pf64_t (d + 1) p (by omega) hd hp0 hp1 W (hTab.on hw hb) (by omega))
   have EQ : (FloatKind.f64.format.order (Ieee.double.word true r0) (Ieee.double.word true r1) == some Ordering.eq) = false := order_ne true near0.1 near1.1 hne
   have U1 := Lib.hid (fun r (h : Fl.Near (Fl.vN d p) (Fl.vD p) r) => Fl.near_unique (Fl.vD_pos p) h near0)
   have U2 := Lib.hid (fun r (h : Fl.Near (Fl.vN (d + 1) p) (Fl.vD p) r) => Fl.near_unique (Fl.vD_pos p) h near1)
   obtain ⟨Y, hY⟩ : ∃ Y, Ieee.double.word true r0 = Y := ⟨_, rfl⟩
   obtain ⟨Z, hZ⟩ : ∃ Z, Ieee.double.word true r1 = Z := ⟨_, rfl⟩
   rw [hY, hZ] at EQ
   have HY := Lib.hid hY
   have HZ := Lib.hid hZ
   obtain ⟨q, hq⟩ : ∃ q, d + 1 = q := ⟨_, rfl⟩
   have f1 : IntKind.u64.wrap ((d : Int) + 1) = (q : Int) := by rw [IntKind.wrap_u64]; omega
   rw [hq] at PG U2
   have HD := Lib.hid (And.intro h (And.intro hlast (And.intro hlo hhi)))
   have HT := Lib.hid hT
   have HNN := Lib.hid hn
   clear hTab h0 hd hp0 hp1 hn hw near0 near1 hY hq hZ hne h hlast hlo hhi hT
   go_enter Tryz.func165, Tryz.ntmps165
   go_wp2_with fail
   refine (SP.out _).mono ?_
   rintro x w1 ⟨rfl, rfl⟩
   go_wp2_with fail
   refine (RF.out _).mono ?_
   rintro x w1 ⟨rfl, rfl⟩
   go_wp2_with fail
   refine (bool2u_any true _).mono ?_
   rintro x w1 ⟨rfl, rfl⟩
   go_wp2_with fail
   refine (PF.out).mono ?_
   rintro x w2 ⟨⟨r, v, near, hv, rfl⟩, hb⟩
   obtain rfl := U1.out r near
   rw [HY.out]
   have NR := Lib.hid (And.intro hv hb)
   clear near hv hb
   go_wp2_with fail
   refine (PG.out _ NR.out.2 NR.out.2.size).mono ?_
   rintro x w3 ⟨⟨r', v', near, hv, rfl⟩, hb⟩
   obtain rfl := U2.out r' near
   rw [HZ.out]
   have NR2 := Lib.hid (b_trans NR.out.2 hb)
   clear near hv hb
   go_upto_region 26 with fail
   rename (∀ (a : Act) (w_1 : World), Code.wp Tryz.prog (Code.seq (Code.region 28 _ _) _) _ a w_1 → _) => hr
   have HRR := Lib.hid hr
   clear hr
   go_wp2_with fail
   rw [← HNN.out]
   exact slow_tail s _ l E HD.out.1 HD.out.2.1 HD.out.2.2.1 HD.out.2.2.2 B C _ _ _ _ _ _ _ _ _ _ _ _ _ _ _ _ _ _ _ _ _ _ _ _ _ _ _ _ _ _ _ _ _ _ _ _ _ _ _ _ _ _ _ _ _ _ _ _ _ _ _ _ _ _ _ _ _ _ _ _ _ _ _ _ _ _ _ _ _ _ _ _ _ _ _ _ _ _ _ _ _ _ _ _ _ _ _ _ _ _ _ _ _ _ _ _ _ _ _ _ _ _ _ _ _ _ _ _ _ _ _ _ _ _ _ _ _ _ _ _ _ _ _ _ _ _ _ _ _ _ _ _ _ _ _ _ _ _ _ _ _ _ (by have h := HRR.out; rw [HNN.out]; exact h) (HT.out.on NR2.out) NR2.out
theorem fbits (b : Nat) : ∀ W, (callFunc 198 #[.int .u64 (b : Int)]).run Tryz.prog W = .ok (.value (.float .f64 b)) W := fun W => run_frombits2 b W
theorem or_consts : bits .or .u64 0 9218868437227405312 = 9218868437227405312 ∧ bits .or .u64 9223372036854775808 9218868437227405312 = 18442240474082181120 ∧ bits .or .u64 0 0 = 0 ∧ bits .or .u64 9223372036854775808 0 = 9223372036854775808 :=
 ⟨u64_or_nat 0 9218868437227405312 (by decide) (by decide), u64_or_nat 9223372036854775808 9218868437227405312 (by decide) (by decide), u64_or_nat 0 0 (by decide) (by decide), u64_or_nat 9223372036854775808 0 (by decide) (by decide)⟩
theorem atof_big (s : ByteArray) (g tr : Bool) (d : Nat) (p : Int) (h0 : 0 < d) (hp : 310 < p) (w : World) (hO : w.cell? ⟨8, 0, none⟩ = some (.bool true))
 (SP : ∀ W, Calls Tryz.prog 188 #[.string s] W fun x w' => x = .returned (.tuple #[.float .f64 0, .int .i64 0, .bool false]) ∧ w' = W)
 (RF : ∀ W, Calls Tryz.prog 189 #[.string s] W fun x w' => x = .returned (.tuple #[.int .u64 (d : Int), .int .i64 p, .bool g, .bool tr, .bool false, .int .i64 s.size, .bool true]) ∧ w' = W) :
 Calls Tryz.prog 165 #[.string s] w fun x w' => x = .returned (.tuple #[.float .f64 (Ieee.double.word g 9218868437227405312), .int .i64 (s.size : Int), .iface 173 (.int .i64 1)]) ∧ w' = w := by
 have SP := Lib.hid SP
 have RF := Lib.hid RF
 have k0 : ((d : Int) == 0) = false := by rw [beq_eq_false_iff_ne]; omega
 have k1 : decide (310 < p) = true := decide_eq_true hp
 have k2 : True := trivial
 obtain ⟨o1, o2, o3, o4⟩ := or_consts
 obtain ⟨n, hn⟩ : ∃ n, s.size = n := ⟨_, rfl⟩
 rw [hn] at RF ⊢
 clear h0 hp hn
 cases g
 · have EW : Ieee.double.word false 9218868437227405312 = 9218868437227405312 := by rw [word_g2]; rfl
   rw [EW]
   have RB : ∀ W, (callFunc 198 #[.int .u64 9218868437227405312]).run Tryz.prog W = .ok (.value (.float .f64 9218868437227405312)) W := fbits 9218868437227405312
   clear EW
   go_enter Tryz.func165, Tryz.ntmps165
   go_wp2_with fail
   refine (SP.out _).mono ?_
   rintro x w1 ⟨rfl, rfl⟩
   go_wp2_with fail
   refine (RF.out _).mono ?_
   rintro x w1 ⟨rfl, rfl⟩
   go_wp2_with fail
   refine (bool2u_any false _).mono ?_
   rintro x w1 ⟨rfl, rfl⟩
   go_wp2_with fail
   refine bodyPost_ret (v := .tuple #[.float .f64 9218868437227405312, .int .i64 (n : Int), .iface 173 (.int .i64 1)]) (by simp [results, Tryz.results165, go_sem]) rfl ?_
   exact ⟨rfl, rfl⟩
 · have EW : Ieee.double.word true 9218868437227405312 = 18442240474082181120 := by rw [word_g2]; rfl
   rw [EW]
   have RB : ∀ W, (callFunc 198 #[.int .u64 18442240474082181120]).run Tryz.prog W = .ok (.value (.float .f64 18442240474082181120)) W := fbits 18442240474082181120
   clear EW
   go_enter Tryz.func165, Tryz.ntmps165
   go_wp2_with fail
   refine (SP.out _).mono ?_
   rintro x w1 ⟨rfl, rfl⟩
   go_wp2_with fail
   refine (RF.out _).mono ?_
   rintro x w1 ⟨rfl, rfl⟩
   go_wp2_with fail
   refine (bool2u_any true _).mono ?_
   rintro x w1 ⟨rfl, rfl⟩
   go_wp2_with fail
   refine bodyPost_ret (v := .tuple #[.float .f64 18442240474082181120, .int .i64 (n : Int), .iface 173 (.int .i64 1)]) (by simp [results, Tryz.results165, go_sem]) rfl ?_
   exact ⟨rfl, rfl⟩
theorem atof_tiny (s : ByteArray) (g tr : Bool) (d : Nat) (p : Int) (h0 : 0 < d) (hp : p < -345) (w : World) (hO : w.cell? ⟨8, 0, none⟩ = some (.bool true))
 (SP : ∀ W, Calls Tryz.prog 188 #[.string s] W fun x w' => x = .returned (.tuple #[.float .f64 0, .int .i64 0, .bool false]) ∧ w' = W)
 (RF : ∀ W, Calls Tryz.prog 189 #[.string s] W fun x w' => x = .returned (.tuple #[.int .u64 (d : Int), .int .i64 p, .bool g, .bool tr, .bool false, .int .i64 s.size, .bool true]) ∧ w' = W) :
 Calls Tryz.prog 165 #[.string s] w fun x w' => x = .returned (.tuple #[.float .f64 (Ieee.double.word g 0), .int .i64 (s.size : Int), .nilIface]) ∧ w' = w := by
 have SP := Lib.hid SP
 have RF := Lib.hid RF
 have k0 : ((d : Int) == 0) = false := by rw [beq_eq_false_iff_ne]; omega
 have k1 : decide (310 < p) = false := decide_eq_false (by omega)
 have k2 : decide (p < -345) = true := decide_eq_true hp
 obtain ⟨o1, o2, o3, o4⟩ := or_consts
 obtain ⟨n, hn⟩ : ∃ n, s.size = n := ⟨_, rfl⟩
 rw [hn] at RF ⊢
 clear h0 hp hn
 cases g
 · have EW : Ieee.double.word false 0 = 0 := by rw [word_g2]; rfl
   rw [EW]
   have RB : ∀ W, (callFunc 198 #[.int .u64 0]).run Tryz.prog W = .ok (.value (.float .f64 0)) W := fbits 0
   clear EW
   go_enter Tryz.func165, Tryz.ntmps165
   go_wp2_with fail
   refine (SP.out _).mono ?_
   rintro x w1 ⟨rfl, rfl⟩
   go_wp2_with fail
   refine (RF.out _).mono ?_
   rintro x w1 ⟨rfl, rfl⟩
   go_wp2_with fail
   refine (bool2u_any false _).mono ?_
   rintro x w1 ⟨rfl, rfl⟩
   go_wp2_with fail
   refine bodyPost_ret (v := .tuple #[.float .f64 0, .int .i64 (n : Int), .nilIface]) (by simp [results, Tryz.results165, go_sem]) rfl ?_
   exact ⟨rfl, rfl⟩
 · have EW : Ieee.double.word true 0 = 9223372036854775808 := by rw [word_g2]; rfl
   rw [EW]
   have RB : ∀ W, (callFunc 198 #[.int .u64 9223372036854775808]).run Tryz.prog W = .ok (.value (.float .f64 9223372036854775808)) W := fbits 9223372036854775808
   clear EW
   go_enter Tryz.func165, Tryz.ntmps165
   go_wp2_with fail
   refine (SP.out _).mono ?_
   rintro x w1 ⟨rfl, rfl⟩
   go_wp2_with fail
   refine (RF.out _).mono ?_
   rintro x w1 ⟨rfl, rfl⟩
   go_wp2_with fail
   refine (bool2u_any true _).mono ?_
   rintro x w1 ⟨rfl, rfl⟩
   go_wp2_with fail
   refine bodyPost_ret (v := .tuple #[.float .f64 9223372036854775808, .int .i64 (n : Int), .nilIface]) (by simp [results, Tryz.results165, go_sem]) rfl ?_
   exact ⟨rfl, rfl⟩
structure PfTab (w : World) (B : Nat × Nat) (C D : Nat × Nat) : Prop where
 pow : TenPow w B
 opt : w.cell? ⟨8, 0, none⟩ = some (.bool true)
 tab : TenTab w
 slow : SlowTab w C D
theorem atof_any {s : ByteArray} {g : Bool} {l : List Nat} {E : Int} (h : Fl.DecTxt s g l E) (hlast : Fl.num l % 10 ≠ 0) (w : World) (B C D : Nat × Nat) (hT : PfTab w B C D) : Calls Tryz.prog 165 #[.string s] w (AtEnd g (Fl.num l) E s.size w) := by
 obtain ⟨p, hp⟩ : ∃ p, l.length + E - (min l.length 19 : Nat) = p := ⟨_, rfl⟩
 obtain ⟨m0, m1⟩ := mant_64 h
 have SP := special_txt s g l E h
 have RF := fun W => readfloat_any s g l E h W
 rw [hp] at RF
 by_cases h1 : 310 < p
 · refine (atof_big s g _ _ p m0 h1 w hT.opt SP RF).mono ?_
   rintro x w' ⟨rfl, rfl⟩
   exact ⟨_, _, Fl.far_big h.digs h.ne h.head h.lo hp h1, .inr ⟨rfl, rfl⟩, rfl, Below.refl _ _⟩
 by_cases h2 : p < -345
 · refine (atof_tiny s g _ _ p m0 h2 w hT.opt SP RF).mono ?_
   rintro x w' ⟨rfl, rfl⟩
   exact ⟨_, _, Fl.far_small h.digs h.ne h.head h.lo hp h2, .inl rfl, rfl, Below.refl _ _⟩
 cases ht : Fl.truncN l l.length with
 | false =>
   rw [ht] at RF
   refine (atof_walk s g _ p m0 (by omega) (by omega) (by omega) w B hT.pow hT.opt hT.tab hT.slow.s18 SP RF).mono ?_
   rintro x w' ⟨r, v, near, hv, rfl, hb⟩
   exact ⟨r, v, (Fl.mant_all ht hp).1 near, hv, rfl, hb⟩
 | true =>
   rw [ht] at RF
   obtain ⟨r0, n0⟩ := Fl.near_exists (Fl.vN (Fl.mantN l l.length) p) (Fl.vD p)
   obtain ⟨r1, n1⟩ := Fl.near_exists (Fl.vN (Fl.mantN l l.length + 1) p) (Fl.vD p)
   by_cases hr : r0 = r1
   · subst hr
     obtain ⟨r, near⟩ := Fl.near_exists (Fl.vN (Fl.num l) E) (Fl.vD E)
     obtain ⟨a, b⟩ := Fl.mant_between h.digs ht hp n0 n1 near
     obtain rfl : r = r0 := by omega
     refine (atof_trunc s g _ r p m0 m1 (by omega) (by omega) n0 n1 w hT.opt hT.tab hT.slow.s18 SP RF).mono ?_
     rintro x w' ⟨v, hv, rfl, hb⟩
     exact ⟨r, v, near, hv, rfl, hb⟩
   · have hl : 19 ≤ l.length := Nat.le_of_not_lt fun h => by
      rw [Fl.truncN_low (by omega)] at ht
      cases ht
     exact atof_slow s g l E _ r0 r1 p h hlast (by omega) (by omega) m0 m1 (by omega) (by omega) n0 n1 hr w hT.opt hT.tab hT.slow.s18 C D hT.slow SP RF
theorem pprefix_e (s : ByteArray) (n : Nat) (Y : Nat) (V : Value → Prop) (w : World) (Q : World → Prop)
 (A : Calls Tryz.prog 165 #[.string s] w fun x w' => ∃ v, V v ∧ x = .returned (.tuple #[.float .f64 Y, .int .i64 (n : Int), v]) ∧ Q w') :
 Calls Tryz.prog 133 #[.string s, .int .i64 64] w fun x w' => ∃ v, V v ∧ x = .returned (.tuple #[.float .f64 Y, .int .i64 (n : Int), v]) ∧ Q w' := by
 have A := Lib.hid A
 go_enter Tryz.func133, Tryz.ntmps133
 go_wp2_with fail
 refine (A.out).mono ?_
 rintro x w1 ⟨v, hv, rfl, hq⟩
 have HQ := Lib.hid (And.intro hv hq)
 clear hv hq
 go_wp2_with fail
 refine bodyPost_ret (v := .tuple #[.float .f64 Y, .int .i64 (n : Int), v]) (by simp [results, Tryz.results133, go_sem]) rfl ?_
 exact ⟨v, HQ.out.1, rfl, HQ.out.2⟩
theorem pfloat_in_e (s : ByteArray) (Y : Nat) (V : Value → Prop) (w : World) (Q : World → Prop)
 (A : Calls Tryz.prog 165 #[.string s] w fun x w' => ∃ v, V v ∧ x = .returned (.tuple #[.float .f64 Y, .int .i64 (s.size : Int), v]) ∧ Q w') :
 Calls Tryz.prog 98 #[.string s, .int .i64 64] w fun x w' => ∃ v, V v ∧ x = .returned (.tuple #[.float .f64 Y, v]) ∧ Q w' := by
 have A := Lib.hid (pprefix_e s s.size Y V w Q A)
 go_enter Tryz.func98, Tryz.ntmps98
 go_wp2_with fail
 refine (A.out).mono ?_
 rintro x w1 ⟨v, hv, rfl, hq⟩
 have HQ := Lib.hid (And.intro hv hq)
 clear hv hq
 go_wp2_with fail
 refine bodyPost_ret (v := .tuple #[.float .f64 Y, v]) (by simp [results, Tryz.results98, go_sem]) rfl ?_
 exact ⟨v, HQ.out.1, rfl, HQ.out.2⟩
theorem pfloat_e (s : ByteArray) (Y : Nat) (w : World) (hs : s.size ≤ 1000)
 (A : Calls Tryz.prog 165 #[.string s] w fun x w' => ∃ v, (v = .nilIface ∨ v = .iface 173 (.int .i64 1)) ∧ x = .returned (.tuple #[.float .f64 Y, .int .i64 (s.size : Int), v]) ∧ Below w.heap.size w w' ∧ Laid w') :
 Calls Tryz.prog 55 #[.string s, .int .i64 64] w fun x w' => (∃ e, x = .returned (.tuple #[.float .f64 Y, e])) ∧ Below w.heap.size w w' := by
 have A := Lib.hid (pfloat_in_e s Y _ w _ A)
 have HS := Lib.hid hs
 clear hs
 go_enter Tryz.func55, Tryz.ntmps55
 go_wp2_with fail
 refine (A.out).mono ?_
 rintro x w1 ⟨v, hv, rfl, hb, hl⟩
 obtain ⟨ev, he1, he2⟩ := hl.2.2.2.1
 have TE := Lib.hid (show Calls Tryz.prog 99 #[.string ⟨#[80, 97, 114, 115, 101, 70, 108, 111, 97, 116]⟩, .string s, .int .i64 0, .int .i64 64, .iface 173 (.int .i64 1)] w1 fun e w' => ∃ N, e = .returned (.iface 174 (.pointer (some ⟨N, 0, none⟩))) ∧ w1.heap.size ≤ N ∧ w'.heap[N]? = some (.cells #[.string ⟨#[80, 97, 114, 115, 101, 70, 108, 111, 97, 116]⟩, .string s, ev] 201 (0, 0)) ∧ Below w1.heap.size w1 w' from
  Any.strconv_toError_range { Tryz.laysC172 with } ⟨#[80, 97, 114, 115, 101, 70, 108, 111, 97, 116]⟩ s 0 64 ev w1 (by have := HS.out; omega) he1 he2)
 have HB := Lib.hid hb
 clear hb hl he1 he2
 rcases hv with rfl | rfl
 · go_wp2_with fail
   refine bodyPost_ret (v := .tuple #[.float .f64 Y, .nilIface]) (by simp [results, Tryz.results55, go_sem]) rfl ?_
   exact ⟨⟨_, rfl⟩, HB.out⟩
 · go_wp2_with fail
   refine TE.out.mono ?_
   rintro e w2 ⟨N, rfl, h1, h2, h3⟩
   have HB2 := Lib.hid (b_trans HB.out h3)
   clear h1 h2 h3
   go_wp2_with fail
   refine bodyPost_ret (v := .tuple #[.float .f64 Y, .iface 174 (.pointer (some ⟨N, 0, none⟩))]) (by simp [results, Tryz.results55, go_sem]) rfl ?_
   exact ⟨⟨_, rfl⟩, HB2.out⟩
theorem parsefloat_any {s : ByteArray} {g : Bool} {l : List Nat} {E : Int} (h : Fl.DecTxt s g l E) (hlast : Fl.num l % 10 ≠ 0) {r : Nat} (near : Fl.Near (Fl.vN (Fl.num l) E) (Fl.vD E) r) (hs : s.size ≤ 1000) (w : World) (B C D : Nat × Nat) (hT : PfTab w B C D) (hL : Laid w) :
 Calls Tryz.prog 55 #[.string s, .int .i64 64] w fun x w' => (∃ e, x = .returned (.tuple #[.float .f64 (Ieee.double.word g r), e])) ∧ Below w.heap.size w w' := by
 refine pfloat_e s _ w hs ((atof_any h hlast w B C D hT).mono ?_)
 rintro x w' ⟨r', v, n', hv, rfl, hb⟩
 obtain rfl := Fl.near_unique (Fl.vD_pos _) n' near
 exact ⟨v, hv.imp id (·.2), rfl, hb, hL.on hb⟩
structure Laid4 (w : World) (B C D : Nat × Nat) : Prop where
 l2 : Laid2 w B
 slow : SlowTab w C D
theorem Laid4.on {w w' : World} {B C D : Nat × Nat} (h : Laid4 w B C D) (hb : Below w.heap.size w w') : Laid4 w' B C D := ⟨h.l2.on hb, h.slow.on hb⟩
theorem Laid4.pf {w : World} {B C D : Nat × Nat} (h : Laid4 w B C D) : PfTab w B C D := ⟨h.l2.pow, h.l2.opt, h.l2.tab, h.slow⟩
namespace Fl
theorem exp_txt {c : Nat} {E : Int} (g : Bool) (hc : c % 10 ≠ 0) (hl : (decDigits c).length ≤ 400) (h0 : -2000 ≤ E) (h1 : E ≤ 2000) : DecTxt ⟨(expB g c E).toArray⟩ g (digL c).reverse E := by
 have hc0 : c ≠ 0 := by omega
 refine ⟨?_, digL_digs hc0, ?_, ?_, ?_, h0, h1⟩
 · show expB g c E = _
   unfold expB
   rw [dec_is hc0]; rfl
 · intro x hx
   obtain ⟨y, l, h4, h5⟩ := digL_head hc0
   rw [h4] at hx
   simp at hx
   omega
 · intro he
   obtain ⟨y, l, h4, h5⟩ := digL_head hc0
   rw [h4] at he
   cases he
 · rw [List.length_reverse, ← dec_length hc0]; exact hl
theorem word_mod (g : Bool) {r : Nat} (h : r ≤ 9218868437227405312) : Ieee.double.word g r % 9223372036854775808 = r ∧ Ieee.double.word g r < 18446744073709551616 ∧ decide (9223372036854775808 ≤ Ieee.double.word g r) = g := by
 rw [word_sum]
 cases g
 · refine ⟨?_, ?_, decide_eq_false ?_⟩ <;> simp [Bool.toNat] <;> omega
 · refine ⟨?_, ?_, decide_eq_true ?_⟩ <;> simp [Bool.toNat] <;> omega
end Fl
inductive DecT : List UInt8 → Bool → Nat → Int → Prop
 | zero : DecT [48, 101, 48] false 0 0
 | num (g : Bool) (c : Nat) (E : Int) (hc : c % 10 ≠ 0) (hl : (decDigits c).length ≤ 400) (h0 : -2000 ≤ E) (h1 : E ≤ 2000) : DecT (Fl.expB g c E) g c E
theorem Fl.expB_size (g : Bool) {c : Nat} {E : Int} (hl : (decDigits c).length ≤ 400) (h0 : -2000 ≤ E) (h1 : E ≤ 2000) : (⟨(Fl.expB g c E).toArray⟩ : ByteArray).size ≤ 1000 := by
 show (Fl.expB g c E).length ≤ 1000
 have h3 := Dc.itoa_len h0 h1
 have h4 : (Dc.sgnB g).length ≤ 1 := by cases g <;> decide
 unfold Fl.expB
 rw [List.length_append, List.length_append, List.length_cons]
 omega
theorem vN_nil (E : Int) : Fl.vN 0 E = 0 := by
 have h := Fl.vN_lin 0 0 E
 rw [Nat.add_zero] at h
 generalize Fl.vN 0 E = x at h
 omega
theorem near_nil (E : Int) : Fl.Near (Fl.vN 0 E) (Fl.vD E) 0 := Fl.near_self (Fl.vD_pos _) (by decide) (by rw [vN_nil, Fl.val_zero, Nat.zero_mul])
end Go.Proofs.YtjapgpmoojfhnaaGreatDoor
