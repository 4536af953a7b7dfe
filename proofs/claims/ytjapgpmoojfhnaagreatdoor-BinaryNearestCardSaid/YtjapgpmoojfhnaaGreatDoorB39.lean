/- Shortest, plainly: of the decimals between the middles the one with the fewest digits; it has at most seventeen of them, and the float is nearest to it. The shortest decimal of a float: at most seventeen digits, and nearest to the float. Texts of numbers, cut, compared and counted on. next: the digits of the number that is greater by one. next at the digits of a number. The .. -/
import Derived.Test.YtjapgpmoojfhnaaGreatDoorB14
import Derived.Test.YtjapgpmoojfhnaaGreatDoorB15
import Derived.Test.YtjapgpmoojfhnaaGreatDoorB17
import Derived.Test.YtjapgpmoojfhnaaGreatDoorB22
import Derived.Test.YtjapgpmoojfhnaaGreatDoorB23
import Derived.Test.YtjapgpmoojfhnaaGreatDoorB28
set_option maxHeartbeats 16000000
set_option maxRecDepth 100000
set_option linter.unusedSimpArgs false
set_option linter.unusedVariables false
namespace Go.Proofs.YtjapgpmoojfhnaaGreatDoor
open Go.RowKit Go.Lib
theorem cmp88_ri (A B : Option Addr) (n m c d u v : Nat) (w : World) (hr : Reads w w.heap.size A n (u8s (Fl.digL u))) (h2 : Reads w w.heap.size B m (u8s (Fl.digL v))) (hn : n ≤ 2000) (hm : m ≤ 2000) :
 Calls Tryz.prog 88 #[.agg #[.bool false, .slice A n c], .agg #[.bool false, .slice B m d]] w fun x w' => x = .returned (.int .i64 (cmpN u v)) ∧ Below w.heap.size w w' := by
 have SZ : ∀ W, Below w.heap.size w W → Calls Tryz.prog 128 #[.slice A n c, .slice B m d] W fun x w' => x = .returned (.int .i64 (cmpN u v)) ∧ Below W.heap.size W w' := fun W hW => by
  have h := size_any A B n m c d (Fl.digL u) (Fl.digL v) W (hr.on hW) (h2.on hW) (by omega) (by omega) (digL_le9 u) (digL_le9 v) (digL_noLead u) (digL_noLead v)
  rw [dv_digL, dv_digL] at h
  exact h
 obtain ⟨q1, q2, q3, q4⟩ := two_blocks w (.cells #[.bool false, .slice A n c] 33) (.cells #[.bool false, .slice B m d] 33)
 obtain ⟨w2, hw2⟩ : ∃ w2, (w.alloc (.cells #[.bool false, .slice A n c] 33)).alloc (.cells #[.bool false, .slice B m d] 33) = w2 := ⟨_, rfl⟩
 obtain ⟨X, hX⟩ : ∃ X, w.heap.size = X := ⟨_, rfl⟩
 rw [hw2] at q1 q2 q3 q4
 have S2 := Lib.hid (SZ w2 q3)
 rw [hX] at q1 q2
 have x0 := at_block q1 0 _ rfl
 have x1 := at_block q1 1 _ rfl
 have y0 := at_block q2 0 _ rfl
 have y1 := at_block q2 1 _ rfl
 have HW := Lib.hid (And.intro hw2 (And.intro hX q3))
 clear hr h2 SZ q1 q2 q3 q4 hw2 hX hn hm
 go_enter Tryz.func88, Tryz.ntmps88
 go_upto_region 1 with fail
 rw [HW.out.1, HW.out.2.1]
 go_wp2_with fail
 refine (S2.out).mono ?_
 rintro y w3 ⟨rfl, hb3⟩
 go_wp2_with fail
 go_ret
 exact ⟨rfl, b_trans HW.out.2.2 hb3⟩
theorem below_first {a b W : World} (h : Below b.heap.size b W) (hk : Below a.heap.size a b := by first | exact Below.refl _ _ | exact (Below.refl _ _).drew) : Below a.heap.size a W := b_trans hk h
theorem take_past {l : List Nat} {i : Nat} (h : l.length ≤ i) : l.take (i + 1) = l.take i := by rw [List.take_of_length_le (by omega), List.take_of_length_le h]
theorem plus_step {a b lo : List Nat} {i c x y u : Nat} (hx : a[i]? = some x ∨ (a.length ≤ i ∧ x = 0)) (hy : b[i]? = some y ∨ (b.length ≤ i ∧ y = 0)) (ho : lo.length = i) (hu : c + x + y = u) (h : dv lo + 10 ^ i * c = dv (a.take i) + dv (b.take i)) :
 dv (lo ++ [u % 10]) + 10 ^ (i + 1) * (u / 10) = dv (a.take (i + 1)) + dv (b.take (i + 1)) := by
 have e1 : dv (a.take (i + 1)) = dv (a.take i) + 10 ^ i * x := by
  rcases hx with hx | ⟨hx, rfl⟩
  · exact dv_take_succ hx
  · rw [take_past hx]; simp
 have e2 : dv (b.take (i + 1)) = dv (b.take i) + 10 ^ i * y := by
  rcases hy with hy | ⟨hy, rfl⟩
  · exact dv_take_succ hy
  · rw [take_past hy]; simp
 have e3 : dv [u % 10] = u % 10 := by simp [dv]
 have e4 : 10 ^ i * (u % 10) + 10 ^ i * (10 * (u / 10)) = 10 ^ i * c + 10 ^ i * x + 10 ^ i * y := by
  rw [← Nat.mul_add, ← Nat.mul_add, ← Nat.mul_add]
  congr 1
  omega
 rw [e1, e2, dv_append, ho, e3, Nat.pow_succ, Nat.mul_assoc]
 omega
theorem plus_any (A B : Option Addr) (n n2 c c2 : Nat) (la lb : List Nat) (w : World) (hr : Reads w w.heap.size A n (u8s la)) (h2 : Reads w w.heap.size B n2 (u8s lb)) (hn : n ≤ 2000) (hn2 : n2 ≤ 2000) (ha : ∀ x ∈ la, x ≤ 9) (hb : ∀ x ∈ lb, x ≤ 9) :
 Calls Tryz.prog 130 #[.slice A n c, .slice B n2 c2] w fun x' w' => (∃ A' m c' lo, m ≤ c' ∧ m ≤ 2001 ∧ (∀ b off, A' = some ⟨b, off, none⟩ → w.heap.size ≤ b) ∧ lo.length = m ∧ (∀ x ∈ lo, x ≤ 9) ∧ dv lo = dv la + dv lb ∧ Reads w' w'.heap.size A' m (u8s lo) ∧ x' = .returned (.slice A' m c')) ∧ Below w.heap.size w w' := by
 obtain ⟨i0, hi, hz0, hz1, hz2⟩ := info_parts info5
 have hla : la.length = n := by have := hr.1; rwa [u8s_len] at this
 have hlb : lb.length = n2 := by have := h2.1; rwa [u8s_len] at this
 obtain ⟨K, hK⟩ : ∃ K, max n n2 = K := ⟨_, rfl⟩
 have HA := Lib.hid (And.intro hla (And.intro hlb (And.intro ha (And.intro hb hK))))
 have hKb : K ≤ 2000 ∧ n ≤ K ∧ n2 ≤ K := by omega
 clear hla hlb ha hb hK
 go_enter Tryz.func130, Tryz.ntmps130
 go_wp2_with fail
 go_loopg [5, 6, 7] (K + 1) (fun f t5 t6 t7 wx => ∃ (i cy : Nat) (lo : List Nat), t7 = .int .i64 (i : Int) ∧ i + f = K + 1 ∧ t6 = .int .u8 (cy : Int) ∧ cy ≤ 1 ∧ (K < i → cy = 0) ∧ lo.length = i ∧ (∀ x ∈ lo, x ≤ 9) ∧ dv lo + 10 ^ i * cy = dv (la.take i) + dv (lb.take i) ∧ wx.ownsRow w.heap.size 5 1 t5 i (u8s lo) ∧ Below w.heap.size w wx)
 case atStart => exact ⟨0, 0, [], rfl, by omega, rfl, by omega, fun _ => rfl, rfl, by simp, by simp [dv], World.ownsRow_nil _ _ _ _, Below.refl _ _⟩
 case round =>
  obtain ⟨i, cy, lo, rfl, hif, rfl, hcy, hcK, hlo, hlo9, hdv, hown, hbx⟩ := hrel
  by_cases hcond : i < n ∨ i < n2 ∨ 0 < cy
  · obtain ⟨f, rfl⟩ : ∃ f, gk = f + 1 := ⟨gk - 1, by omega⟩
    obtain ⟨A', c', rfl⟩ := own_form hown
    obtain ⟨wq, hwq⟩ : ∃ W, W = wr := ⟨_, rfl⟩
    subst hwq
    go_upto_region 4 with fail
    have HO := Lib.hid hown
    have hii : i + f + 1 = K + 1 := by omega
    go_cut [21] (fun t21 wx => t21 = .bool true ∧ wx = wq)
    case first =>
     by_cases h1 : i < n
     · have d1 : decide ((i : Int) < (n : Int)) = true := decide_eq_true (by omega)
       have d1n : decide (i < n) = true := decide_eq_true h1
       clear hcond
       go_wp2_with fail
       go_meet
       exact ⟨rfl, rfl⟩
     · have d1 : decide ((i : Int) < (n : Int)) = false := decide_eq_false (by omega)
       have d1n : decide (i < n) = false := decide_eq_false h1
       by_cases h3 : i < n2
       · have d2 : decide ((i : Int) < (n2 : Int)) = true := decide_eq_true (by omega)
         have d2n : decide (i < n2) = true := decide_eq_true h3
         clear hcond
         go_wp2_with fail
         go_meet
         exact ⟨rfl, rfl⟩
       · have d2 : decide ((i : Int) < (n2 : Int)) = false := decide_eq_false (by omega)
         have d2n : decide (i < n2) = false := decide_eq_false h3
         obtain rfl : cy = 1 := by omega
         clear hcond
         go_wp2_with fail
         go_meet
         exact ⟨rfl, rfl⟩
    case rest =>
     obtain ⟨rfl, rfl⟩ := hcut
     obtain ⟨wq, hwq⟩ : ∃ W, W = wc := ⟨_, rfl⟩
     subst hwq
     obtain ⟨x, hxx, hx9⟩ : ∃ x, (la[i]? = some x ∨ (la.length ≤ i ∧ x = 0)) ∧ x ≤ 9 := by
      obtain ⟨q1, q2, q3, q4, q5⟩ := HA.out
      rcases Nat.lt_or_ge i la.length with h | h
      · exact ⟨_, .inl (List.getElem?_eq_getElem h), q3 _ (List.getElem_mem h)⟩
      · exact ⟨0, .inr ⟨h, rfl⟩, by omega⟩
     obtain ⟨y, hyy, hy9⟩ : ∃ x, (lb[i]? = some x ∨ (lb.length ≤ i ∧ x = 0)) ∧ x ≤ 9 := by
      obtain ⟨q1, q2, q3, q4, q5⟩ := HA.out
      rcases Nat.lt_or_ge i lb.length with h | h
      · exact ⟨_, .inl (List.getElem?_eq_getElem h), q4 _ (List.getElem_mem h)⟩
      · exact ⟨0, .inr ⟨h, rfl⟩, by omega⟩
     obtain ⟨c1, hc1⟩ : ∃ c1, cy + x = c1 := ⟨_, rfl⟩
     obtain ⟨u, hu⟩ : ∃ u, c1 + y = u := ⟨_, rfl⟩
     have hi0 : (0 : Int) ≤ (i : Int) := by omega
     go_upto_if 27 with fail
     go_cut [6] (fun t6 wx => t6 = .int .u8 (c1 : Int) ∧ wx = wq)
     case first =>
      by_cases h1 : i < n
      · have d1 : decide ((i : Int) < (n : Int)) = true := decide_eq_true (by omega)
        have d1n : decide (i < n) = true := decide_eq_true h1
        have hin : (i : Int) < (n : Int) := by omega
        obtain ⟨b, off, v, rfl, hbA, hu', hcell0⟩ := hr.at_ (k := i) h1
        obtain ⟨x', hx', rfl⟩ := u8_at hu'
        obtain rfl : x' = x := by
         rcases hxx with h | ⟨h, _⟩
         · rw [hx'] at h; exact Option.some.inj h
         · have := HA.out.1; omega
        have hcell := (hbx.cell (p := ⟨b, off + i, none⟩) hbA).trans hcell0
        have g1 : IntKind.u8.wrap ((cy : Int) + (x' : Int)) = (c1 : Int) := by rw [IntKind.wrap_u8]; omega
        clear hcond hxx hyy hdv hlo9 hu'
        go_wp2_with fail
        go_meet
        exact ⟨rfl, rfl⟩
      · have d1 : decide ((i : Int) < (n : Int)) = false := decide_eq_false (by omega)
        have d1n : decide (i < n) = false := decide_eq_false h1
        obtain rfl : x = 0 := by
         rcases hxx with h | ⟨_, h⟩
         · have := (List.getElem?_eq_some_iff.1 h).1
           have := HA.out.1
           omega
         · exact h
        obtain rfl : cy = c1 := by omega
        clear hcond hxx hyy hdv hlo9
        go_wp2_with fail
        go_meet
        exact ⟨rfl, rfl⟩
     case rest =>
      obtain ⟨rfl, rfl⟩ := hcut
      obtain ⟨wq, hwq⟩ : ∃ W, W = wc := ⟨_, rfl⟩
      subst hwq
      go_upto_if 37 with fail
      go_cut [6] (fun t6 wx => t6 = .int .u8 (u : Int) ∧ wx = wq)
      case first =>
       by_cases h1 : i < n2
       · have d1 : decide ((i : Int) < (n2 : Int)) = true := decide_eq_true (by omega)
         have d1n : decide (i < n2) = true := decide_eq_true h1
         have hin : (i : Int) < (n2 : Int) := by omega
         obtain ⟨b, off, v, rfl, hbA, hu', hcell0⟩ := h2.at_ (k := i) h1
         obtain ⟨x', hx', rfl⟩ := u8_at hu'
         obtain rfl : x' = y := by
          rcases hyy with h | ⟨h, _⟩
          · rw [hx'] at h; exact Option.some.inj h
          · have := HA.out.2.1; omega
         have hcell := (hbx.cell (p := ⟨b, off + i, none⟩) hbA).trans hcell0
         have g1 : IntKind.u8.wrap ((c1 : Int) + (x' : Int)) = (u : Int) := by rw [IntKind.wrap_u8]; omega
         clear hcond hxx hyy hdv hlo9 hu'
         go_wp2_with fail
         go_meet
         exact ⟨rfl, rfl⟩
       · have d1 : decide ((i : Int) < (n2 : Int)) = false := decide_eq_false (by omega)
         have d1n : decide (i < n2) = false := decide_eq_false h1
         obtain rfl : y = 0 := by
          rcases hyy with h | ⟨_, h⟩
          · have := (List.getElem?_eq_some_iff.1 h).1
            have := HA.out.2.1
            omega
          · exact h
         obtain rfl : c1 = u := by omega
         clear hcond hxx hyy hdv hlo9
         go_wp2_with fail
         go_meet
         exact ⟨rfl, rfl⟩
      case rest =>
       obtain ⟨rfl, rfl⟩ := hcut
       obtain ⟨wq, hwq⟩ : ∃ W, W = wc := ⟨_, rfl⟩
       subst hwq
       have hown := HO.out
       obtain ⟨d, hd⟩ : ∃ d, u % 10 = d := ⟨_, rfl⟩
       obtain ⟨cc, hcc⟩ : ∃ cc, u / 10 = cc := ⟨_, rfl⟩
       have hm1 : (u : Int) % 10 = (d : Int) := by omega
       have hm2 : Int.tmod (u : Int) 10 = (d : Int) := by rw [Int.tmod_eq_emod_of_nonneg (by omega)]; exact hm1
       have hm3 : (u : Int) / 10 = (cc : Int) := by omega
       have hm4 : Int.tdiv (u : Int) 10 = (cc : Int) := by rw [Int.tdiv_eq_ediv_of_nonneg (by omega)]; exact hm3
       have g4 : IntKind.u8.wrap (d : Int) = (d : Int) := by rw [IntKind.wrap_u8]; omega
       have g5 : IntKind.u8.wrap (cc : Int) = (cc : Int) := by rw [IntKind.wrap_u8]; omega
       have g9 : IntKind.i64.wrap ((i : Int) + 1) = ((i + 1 : Nat) : Int) := by have := IntWalk.i64_in ((i : Int) + 1) (by omega); rw [this]; omega
       have hnew := plus_step hxx hyy hlo (by omega : cy + x + y = u) hdv
       rw [hd, hcc] at hnew
       have hd9 : d ≤ 9 := by omega
       have hcc2 : cc ≤ 1 := by omega
       have hccK : K < i + 1 → cc = 0 := fun h => by
        obtain ⟨q1, q2, q3, q4, q5⟩ := HA.out
        rcases hxx with h1 | ⟨_, rfl⟩
        · have := (List.getElem?_eq_some_iff.1 h1).1; omega
        · rcases hyy with h1 | ⟨_, rfl⟩
          · have := (List.getElem?_eq_some_iff.1 h1).1; omega
          · omega
       obtain ⟨V, hV⟩ : ∃ V, u8s lo = V := ⟨_, rfl⟩
       rw [hV] at hown
       have HV := Lib.hid (And.intro hV (And.intro hnew (And.intro hlo (And.intro hlo9 (And.intro hd9 (And.intro hcc2 hccK))))))
       have hws := hbx.size
       clear hV hnew hlo hlo9 hd9 hdv hxx hyy hc1 hu hd hcc hif hm1 hm3 hcond hccK hcK hcc2
       go_wp2_with (at_builtin; refine wpList_append_own _ rfl _ _ 31 rfl w.heap.size 5 i0 (.int .u8 0) 1 1 Tryz.underlying31 hi hz0 hz1 hz2 rfl (by decide) _ _ _ rfl (hown.alloc _) ⟨wq.heap.size, 0, none⟩ 1 1 [.int .u8 (d : Int)] rfl rfl ?c1 ?c2 ?c3 ?c4 ?c5 ?_)
       case c1 =>
        intro j u' hj
        match j, hj with
        | 0, hj => simp at hj; subst hj; simp [Addr.add]
       case c2 => intro u' hu'; simp at hu'; subst hu'; rfl
       case c3 => unfold maxLen; omega
       case c4 => omega
       case c5 => simp <;> omega
       intro v' w3 hown3 hgr3 _
       have hb3 : Below w.heap.size wq w3 := ((Below.refl _ _).alloc hws _).grown hgr3 (by simp <;> omega) (fun k hk => (hown.lt k hk).1)
       have H3 := Lib.hid (And.intro hown3 (hbx.trans hb3))
       clear hgr3 hown hown3 hb3
       go_wp2_with fail
       go_roundg f
       case measure => omega
       case rel =>
        obtain ⟨k1, k2, k3, k4, k5, k6, k7⟩ := HV.out
        refine ⟨i + 1, cc, lo ++ [d], rfl, by omega, rfl, k6, k7, by rw [List.length_append, k3]; rfl, ?_, k2, ?_, H3.out.2⟩
        · intro z hz
          rcases List.mem_append.1 hz with h | h
          · exact k4 z h
          · rw [List.mem_singleton.1 h]; exact k5
        · have e : u8s (lo ++ [d]) = V ++ [.int .u8 (d : Int)] := by rw [← k1]; simp [u8s]
          rw [e]
          exact H3.out.1
  · have d1 : decide ((i : Int) < (n : Int)) = false := decide_eq_false (by omega)
    have d1n : decide (i < n) = false := decide_eq_false (by omega)
    have d2 : decide ((i : Int) < (n2 : Int)) = false := decide_eq_false (by omega)
    have d2n : decide (i < n2) = false := decide_eq_false (by omega)
    obtain rfl : cy = 0 := by omega
    have hni : n ≤ i ∧ n2 ≤ i ∧ i ≤ 2001 := by omega
    obtain ⟨A', c', rfl, hcc, hrd⟩ := own_slice hown
    have had := own_addr hown
    have HE := Lib.hid (And.intro hrd (And.intro had (And.intro hlo (And.intro hlo9 (And.intro hdv (And.intro hbx (And.intro hcc hni)))))))
    clear hrd had hlo hlo9 hdv hbx hown hcc hcond hni
    go_wp2_with fail
    go_ret
    obtain ⟨e1, e2, e3, e4, e5, e6, e7, e8⟩ := HE.out
    obtain ⟨q1, q2, q3, q4, q5⟩ := HA.out
    refine ⟨⟨A', i, c', e7, e8.2.2, e2, lo, e3, e4, ?_, e1, rfl⟩, e6⟩
    rw [Nat.mul_zero, Nat.add_zero, List.take_of_length_le (by omega), List.take_of_length_le (by omega)] at e5
    exact e5
theorem add_end {w w2 w5 w6 : World} {X m5 m6 c5 s : Nat} {A5 : Option Addr} {lo : List Nat} (hX : w.heap.size = X) (hb2 : Below w.heap.size w w2) (hX2 : X + 3 ≤ w2.heap.size) (hb5 : Below w2.heap.size w2 w5) (hb6 : Below w5.heap.size w5 w6) (hc5 : m5 ≤ c5)
 (ha5 : ∀ b off, A5 = some ⟨b, off, none⟩ → w2.heap.size ≤ b) (hl5 : lo.length = m5) (h95 : ∀ x ∈ lo, x ≤ 9) (hd5 : dv lo = s) (hr5 : Reads w5 w5.heap.size A5 m5 (u8s lo)) (hm6 : Trimmed lo m5 m6) :
 (∃ A' m' c', m' ≤ c' ∧ (∀ b off, A' = some ⟨b, off, none⟩ → w.heap.size < b) ∧ Reads ((w6.setCell ⟨X + 1 + 1, 0, none⟩ (.bool false)).setCell ⟨X + 1 + 1, 1, none⟩ (.slice A5 m6 c5)) ((w6.setCell ⟨X + 1 + 1, 0, none⟩ (.bool false)).setCell ⟨X + 1 + 1, 1, none⟩ (.slice A5 m6 c5)).heap.size A' m' (u8s (Fl.digL s)) ∧
   Ending.returned (.agg #[.bool false, .slice A5 m6 c5]) = .returned (.agg #[.bool false, .slice A' m' c'])) ∧ Below w.heap.size w ((w6.setCell ⟨X + 1 + 1, 0, none⟩ (.bool false)).setCell ⟨X + 1 + 1, 1, none⟩ (.slice A5 m6 c5)) := by
 have e : (u8s lo).take m6 = u8s (Fl.digL s) := by
  rw [← hd5, ← digL_trim hl5 h95 hm6]
  simp [u8s, List.map_take]
 have h3 := (hr5.on hb6).take m6 hm6.1
 rw [e] at h3
 have hm1 := hm6.1
 have hb := b_trans (b_trans hb2 hb5) hb6
 refine ⟨⟨A5, m6, c5, by omega, fun b off he => by have := ha5 b off he; omega, ?_, rfl⟩, ?_⟩
 · refine h3.kept (by simp [World.setCell]) (fun b off he _ => ?_)
   have := ha5 b off he
   rw [Below.heap_setCell _ _ _ _ (show b ≠ X + 1 + 1 by omega), Below.heap_setCell _ _ _ _ (show b ≠ X + 1 + 1 by omega)]
 · exact (hb.setCell (p := ⟨X + 1 + 1, 0, none⟩) (by show w.heap.size ≤ X + 1 + 1; omega) _).setCell (p := ⟨X + 1 + 1, 1, none⟩) (by show w.heap.size ≤ X + 1 + 1; omega) _
theorem add_ri (A B : Option Addr) (n m c d u v : Nat) (w : World) (hr : Reads w w.heap.size A n (u8s (Fl.digL u))) (h2 : Reads w w.heap.size B m (u8s (Fl.digL v))) (hn : n ≤ 2000) (hm : m ≤ 2000) :
 Calls Tryz.prog 89 #[.agg #[.bool false, .slice A n c], .agg #[.bool false, .slice B m d]] w fun x w' => (∃ A' m' c', m' ≤ c' ∧ (∀ b off, A' = some ⟨b, off, none⟩ → w.heap.size < b) ∧ Reads w' w'.heap.size A' m' (u8s (Fl.digL (u + v))) ∧ x = .returned (.agg #[.bool false, .slice A' m' c'])) ∧ Below w.heap.size w w' := by
 have PL : ∀ W, Below w.heap.size w W → Calls Tryz.prog 130 #[.slice A n c, .slice B m d] W fun x' w' => (∃ A' m c' lo, m ≤ c' ∧ m ≤ 2001 ∧ (∀ b off, A' = some ⟨b, off, none⟩ → W.heap.size ≤ b) ∧ lo.length = m ∧ (∀ x ∈ lo, x ≤ 9) ∧ dv lo = u + v ∧ Reads w' w'.heap.size A' m (u8s lo) ∧ x' = .returned (.slice A' m c')) ∧ Below W.heap.size W w' := fun W hW => by
  have h := plus_any A B n m c d (Fl.digL u) (Fl.digL v) W (hr.on hW) (h2.on hW) hn hm (digL_le9 u) (digL_le9 v)
  rw [dv_digL, dv_digL] at h
  exact h
 obtain ⟨w2, hw2⟩ : ∃ w2, ((w.alloc (.cells #[.bool false, .slice A n c] 33)).alloc (.cells #[.bool false, .slice B m d] 33)).alloc (.cells #[.bool false, .slice none 0 0] 33) = w2 := ⟨_, rfl⟩
 obtain ⟨X, hX⟩ : ∃ X, w.heap.size = X := ⟨_, rfl⟩
 have q1 : w2.heap[X]? = some (.cells #[.bool false, .slice A n c] 33 (0, 0)) := by rw [← hw2]; exact alloc_kp (alloc_kp (new_kp _ _ _ hX.symm))
 have q2 : w2.heap[X + 1]? = some (.cells #[.bool false, .slice B m d] 33 (0, 0)) := by rw [← hw2]; exact alloc_kp (new_kp _ _ _ (by simp; omega))
 have q3 : w2.heap[X + 2]? = some (.cells #[.bool false, .slice none 0 0] 33 (0, 0)) := by rw [← hw2]; exact new_kp _ _ _ (by simp; omega)
 have hb2 : Below w.heap.size w w2 := by rw [← hw2]; exact (((Below.refl _ _).alloc (Nat.le_refl _) _).alloc (by simp) _).alloc (by simp <;> omega) _
 have hcells : ∀ W, Below w2.heap.size w2 W → W.heap[X]? = some (.cells #[.bool false, .slice A n c] 33 (0, 0)) ∧ W.heap[X + 1]? = some (.cells #[.bool false, .slice B m d] 33 (0, 0)) ∧ W.heap[X + 2]? = some (.cells #[.bool false, .slice none 0 0] 33 (0, 0)) := fun W hW => ⟨(hW.block X (lt_of_block q1)).trans q1, (hW.block (X + 1) (lt_of_block q2)).trans q2, (hW.block (X + 2) (lt_of_block q3)).trans q3⟩
 have P2 := Lib.hid (fun W (hW : Below w2.heap.size w2 W) => PL W (b_trans hb2 hW))
 have HC := Lib.hid hcells
 have hX2 : X + 3 ≤ w2.heap.size := by have := lt_of_block q3; omega
 have x0 := at_block q1 0 _ rfl
 have x1 := at_block q1 1 _ rfl
 have y0 := at_block q2 0 _ rfl
 have y1 := at_block q2 1 _ rfl
 have HW := Lib.hid (And.intro hw2 (And.intro hX hb2))
 clear hr h2 PL q1 q2 q3 hw2 hX hn hm hcells hb2
 go_enter Tryz.func89, Tryz.ntmps89
 go_upto_region 1 with fail
 rw [HW.out.1, HW.out.2.1]
 go_wp2_with fail
 go_region_with (first
  | (go_at_call 130; refine (P2.out _ (by first | exact Below.refl _ _ | exact (Below.refl _ _).drew)).mono ?_; rintro y w5 ⟨⟨A5, m5, c5, lo, hc5, hm5, ha5, hl5, h95, hd5, hr5, rfl⟩, hb5⟩; have hb5' : Below w2.heap.size w2 w5 := below_first hb5; have qq := HC.out w5 hb5'; have z0 := at_block qq.1 0 _ rfl; have z1 := at_block qq.1 1 _ rfl; have z2 := at_block qq.2.1 0 _ rfl)
  | (go_at_call 97; refine (signed_pos _ _ _ _ _ (by first | exact hr5 | exact hr5.on (Below.refl _ _).drew) hc5 (by omega)).mono ?_; rintro y w6 ⟨⟨m6, hm6, rfl⟩, hb6⟩; have hb6' : Below w5.heap.size w5 w6 := below_first hb6; have qr := HC.out w6 (b_trans hb5' hb6'); have r0 := at_block qr.2.2 0 _ rfl; have r1 := at_block qr.2.2 1 _ rfl; have s0 := free_block qr.2.2 0; have s1 := free_block qr.2.2 1))
 all_goals
  have HE := Lib.hid (add_end HW.out.2.1 HW.out.2.2 hX2 hb5' hb6' hc5 ha5 hl5 h95 hd5 hr5 hm6)
  clear hc5 hm5 ha5 hl5 h95 hd5 hr5 hm6 hb5 hb6 hb5' hb6' qq qr
  go_wp2_with fail
  refine bodyPost_ret (v := .agg #[.bool false, .slice A5 m6 c5]) (by simp [results, Tryz.results89, go_sem, r0, r1]) rfl ?_
  exact HE.out
end Go.Proofs.YtjapgpmoojfhnaaGreatDoor
namespace Go.Proofs.YtjapgpmoojfhnaaGreatDoor
open Go.RowKit Go.Lib
namespace Fl
theorem len_le {x N : Nat} (hx : x ≠ 0) (h : x < 10 ^ N) : (decDigits x).length ≤ N := by
 obtain ⟨n, h1, h2, h3⟩ := dec_bounds hx
 have := pow10_lt (Nat.lt_of_le_of_lt h2 h)
 omega
end Fl
end Go.Proofs.YtjapgpmoojfhnaaGreatDoor
namespace Go.Proofs.YtjapgpmoojfhnaaGreatDoor
open Go.RowKit Go.Lib
theorem ldig_dec {t : Nat} (ht : t ≠ 0) : ldig ⟨(decDigits t).toArray⟩ = Fl.digL t := by
 unfold ldig
 show ((decDigits t).map _).reverse = _
 rw [Fl.dec_is ht]
 have : ((Fl.digB8 (Fl.digL t).reverse).map fun b => b.toNat - 48) = (Fl.digL t).reverse := by
  unfold Fl.digB8
  rw [List.map_map]
  have h : ∀ x ∈ (Fl.digL t).reverse, ((fun b : UInt8 => b.toNat - 48) ∘ fun x => UInt8.ofNat (48 + x)) x = x := fun x hx => by
   have := Fl.digL_digs ht x hx
   simp only [Function.comp]
   rw [Dc.dig_toNat this]
   omega
  rw [List.map_congr_left h, List.map_id']
 rw [this, List.reverse_reverse]
theorem readPre_dec {t : Nat} (ht : t ≠ 0) (hl : (decDigits t).length ≤ 400) : ReadPre ⟨(decDigits t).toArray⟩ ⟨(decDigits t).toArray⟩ false := by
 have hs : (⟨(decDigits t).toArray⟩ : ByteArray).size = (decDigits t).length := str_size _
 have hbyte : ∀ k (h : k < (⟨(decDigits t).toArray⟩ : ByteArray).size), ∃ d ∈ decDigits t, (⟨(decDigits t).toArray⟩ : ByteArray)[k]'h = d := fun k h => by
  refine ⟨(decDigits t)[k]'(by rw [hs] at h; exact h), List.getElem_mem _, ?_⟩
  show (decDigits t).toArray[k]'h = _
  simp
 have hdig : ∀ k (h : k < (⟨(decDigits t).toArray⟩ : ByteArray).size), 48 ≤ ((⟨(decDigits t).toArray⟩ : ByteArray)[k]'h).toNat ∧ ((⟨(decDigits t).toArray⟩ : ByteArray)[k]'h).toNat ≤ 57 := fun k h => by
  obtain ⟨d, h1, h2⟩ := hbyte k h
  rw [h2]
  exact Dc.dec_mem t d h1
 have hpos : 0 < (decDigits t).length := List.length_pos_iff.2 (Dc.dec_ne t)
 refine ⟨fun h => by (cases h), fun h => ?_, fun h => by (cases h), fun _ => rfl, by omega, by omega, hdig, fun h h48 => ?_⟩
 · have := hdig 0 (by omega)
   rw [beq_eq_false_iff_ne]
   omega
 · exfalso
   obtain ⟨x, l, h1, h2⟩ := Fl.digL_head ht
   have hx := Fl.digL_digs ht x (by rw [h1]; simp)
   have e : (⟨(decDigits t).toArray⟩ : ByteArray)[0]'h = UInt8.ofNat (48 + x) := by
    show (decDigits t).toArray[0] = _
    simp only [List.getElem_toArray]
    have : decDigits t = UInt8.ofNat (48 + x) :: Fl.digB8 l := by rw [Fl.dec_is ht, h1]; rfl
    simp [this]
   rw [e, Dc.dig_toNat hx, beq_iff_eq] at h48
   omega
theorem of40_ri (t : Nat) (ht : t ≠ 0) (hl : (decDigits t).length ≤ 400) (w : World) :
 Calls Tryz.prog 40 #[.string ⟨(decDigits t).toArray⟩] w fun x w' => (∃ A m c, m ≤ c ∧ m ≤ 400 ∧ Reads w' w'.heap.size A m (u8s (Fl.digL t)) ∧ x = .returned (.agg #[.bool false, .slice A m c])) ∧ Below w.heap.size w w' := by
 refine (ref03of_any _ _ false (readPre_dec ht hl) w).mono ?_
 rintro x w' ⟨⟨A, m, c, h1, h2, h3, rfl⟩, hb⟩
 have hs : (⟨(decDigits t).toArray⟩ : ByteArray).size = (decDigits t).length := str_size _
 rw [ldig_dec ht] at h1 h3
 have e := digL_trim (by rw [hs, Fl.dec_length ht]) (digL_le9 t) h1
 rw [dv_digL] at e
 rw [e] at h3
 exact ⟨⟨A, m, c, h2, by have := h1.1; omega, h3, rfl⟩, hb⟩
theorem digL_few {u N : Nat} (h : u < 10 ^ N) : (Fl.digL u).length ≤ N := by
 by_cases h0 : u = 0
 · rw [h0, Fl.digL_zero]; exact Nat.zero_le _
 · rw [← Fl.dec_length h0]; exact Fl.len_le h0 h
end Go.Proofs.YtjapgpmoojfhnaaGreatDoor
