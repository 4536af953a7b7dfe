/- ref03's Mul at numbers without a sign. The reference: powers. The reference: the decimal that is equal to a float. The reference: the decimal of nought. The law BinaryDecimals: its walk where the decimal is not too long, over what it calls. The law BinaryDecimals returns true for every word. -/
import Derived.Test.YtjapgpmoojfhnaaGreatDoorB14
import Derived.Test.YtjapgpmoojfhnaaGreatDoorB17
import Derived.StillTailTactics
namespace Go.Proofs.YtjapgpmoojfhnaaGreatDoor
open Go.RowKit Go.Lib

/-- What Mul holds: its blocks, and the columns' row. -/
structure MulBlk (w : World) (X n n2 c c2 T : Nat) (A B : Option Addr) (s : List Nat) (wx : World) : Prop where
  ba : wx.heap[X]? = some (.cells #[.bool false, .slice A n c] 33 (0, 0))
  bb : wx.heap[X + 1]? = some (.cells #[.bool false, .slice B n2 c2] 33 (0, 0))
  r1 : wx.heap[X + 2]? = some (.cells #[.bool false, .slice none 0 0] 33 (0, 0))
  q : Row wx (X + 3) 3 T (i64s s)
  len : s.length = T
  sz : X + 4 ≤ wx.heap.size
  bel : Below X w wx
section
variable {w wx wy : World} {X n n2 c c2 T : Nat} {A B : Option Addr} {s : List Nat}
theorem MulBlk.on (h : MulBlk w X n n2 c c2 T A B s wx) (hb : Below (X + 4) wx wy) : MulBlk w X n n2 c c2 T A B s wy := by
  obtain ⟨h1, h2, h3, h4, h5, h6, h7⟩ := h
  exact ⟨(hb.block X (by omega)).trans h1, (hb.block (X + 1) (by omega)).trans h2, (hb.block (X + 2) (by omega)).trans h3, h4.below hb (by omega), h5, by have := hb.size; omega, h7.trans (hb.mono (by omega))⟩
theorem MulBlk.setq (h : MulBlk w X n n2 c c2 T A B s wx) {k : Nat} (hk : k < T) (x : Nat) : MulBlk w X n n2 c c2 T A B (s.set k x) (wx.setCell ⟨X + 3, k, none⟩ (.int .i64 (x : Int))) := by
  obtain ⟨h1, h2, h3, h4, h5, h6, h7⟩ := h
  refine ⟨?_, ?_, ?_, ?_, by rw [List.length_set]; exact h5, by simp [World.setCell]; omega, h7.setCell (p := ⟨X + 3, k, none⟩) (by show X ≤ X + 3; omega) _⟩
  · rw [Below.heap_setCell _ _ _ _ (show X ≠ X + 3 by omega)]; exact h1
  · rw [Below.heap_setCell _ _ _ _ (show X + 1 ≠ X + 3 by omega)]; exact h2
  · rw [Below.heap_setCell _ _ _ _ (show X + 2 ≠ X + 3 by omega)]; exact h3
  · rw [i64s_set']
    exact h4.set (by rw [i64s_len]; omega) _
end
set_option maxHeartbeats 4000000 in
set_option maxRecDepth 100000 in
theorem mul_any (A B : Option Addr) (n n2 c c2 : Nat) (la lb : List Nat) (w : World) (hr : Reads w w.heap.size A n (u8s la)) (h2 : Reads w w.heap.size B n2 (u8s lb)) (hn : n ≤ 2000) (hn2 : n2 ≤ 2000) (ha : ∀ x ∈ la, x ≤ 9) (hb : ∀ x ∈ lb, x ≤ 9) :
    Calls Tryz.prog 52 #[.agg #[.bool false, .slice A n c], .agg #[.bool false, .slice B n2 c2]] w fun x w' => (∃ A' m c', m ≤ c' ∧ (∀ b off, A' = some ⟨b, off, none⟩ → w.heap.size < b) ∧ Reads w' w'.heap.size A' m (u8s (Fl.digL (dv la * dv lb))) ∧ x = .returned (.agg #[.bool false, .slice A' m c'])) ∧ Below w.heap.size w w' := by
  obtain ⟨i0, hi, hz0, hz1, hz2⟩ := info_parts info5
  have hla : la.length = n := by have := hr.1; rwa [u8s_len] at this
  have hlb : lb.length = n2 := by have := h2.1; rwa [u8s_len] at this
  obtain ⟨T, hT⟩ : ∃ T, n + n2 + 1 = T := ⟨_, rfl⟩
  obtain ⟨S, hS⟩ : ∃ S, n + n2 = S := ⟨_, rfl⟩
  have hmk := fun W => make_ints T (by omega) W
  have g1 : IntKind.i64.wrap ((n : Int) + (n2 : Int)) = (S : Int) := by rw [← hS, Int.natCast_add]; exact IntWalk.i64_in _ (by omega)
  have g2 : IntKind.i64.wrap ((S : Int) + 1) = (T : Int) := by have := IntWalk.i64_in ((S : Int) + 1) (by omega); rw [this]; omega
  obtain ⟨w2, hw2⟩ : ∃ w2, ((((w.alloc (Obj.cells #[.bool false, .slice A n c] 33)).alloc (Obj.cells #[.bool false, .slice B n2 c2] 33)).alloc (Obj.cells #[.bool false, .slice none 0 0] 33)).alloc (Obj.cells (i64s (List.replicate T 0)).toArray 3)) = w2 := ⟨_, rfl⟩
  have hblk : MulBlk w w.heap.size n n2 c c2 T A B (List.replicate T 0) w2 := by
    rw [← hw2]
    refine ⟨?_, ?_, ?_, ?_, by simp, by simp, ?_⟩
    · exact alloc_kp (alloc_kp (alloc_kp (new_kp _ _ _ rfl)))
    · exact alloc_kp (alloc_kp (new_kp _ _ _ (by simp)))
    · exact alloc_kp (new_kp _ _ _ (by simp))
    · exact ⟨_, new_kp _ _ _ (by simp), by simp [i64s_len], by simp [i64s_len], by simp⟩
    · exact ((((Below.refl _ _).alloc (Nat.le_refl _) _).alloc (by simp) _).alloc (by simp <;> omega) _).alloc (by simp <;> omega) _
  have HW2 := Lib.hid hw2
  clear hw2
  go_enter Tryz.func52, Tryz.ntmps52
  go_upto_block 0 with fail
  rw [HW2.out]
  obtain ⟨X, hX⟩ : ∃ X, w.heap.size = X := ⟨_, rfl⟩
  rw [hX] at hr h2 hblk
  rw [hX]
  have HX := Lib.hid hX
  have HLL := Lib.hid (And.intro hla hlb)
  have HD := Lib.hid (And.intro ha hb)
  have HT := Lib.hid hT
  have hTs : T ≤ 4001 := by omega
  have hXs : X + 4 ≤ w2.heap.size := hblk.sz
  clear hX hla hlb ha hb hT hmk g1 g2 hS
  go_cut [6, 7] (fun _ _ wx => ∃ s, MulBlk w X n n2 c c2 T A B s wx ∧ dv s = dv la * dv lb ∧ (∀ x ∈ s, x ≤ 324000000))
  case first =>
    go_wp2_with fail
    go_loopg [6, 7] n (fun f t6 _ wx => ∃ (i : Nat) (s : List Nat), t6 = .int .i64 (i : Int) ∧ i + f = n ∧ MulBlk w X n n2 c c2 T A B s wx ∧ dv s = dv (la.take i) * dv lb ∧ (∀ x ∈ s, x ≤ 162000 * i))
    case atStart => exact ⟨0, List.replicate T 0, rfl, by omega, hblk, by rw [dv_rep, List.take_zero, dv, Nat.zero_mul], fun x hx => by rw [(List.mem_replicate.1 hx).2]; omega⟩
    case round =>
      obtain ⟨i, s, rfl, hif, hbk, hdv, hbd⟩ := hrel
      have p1 := at_block hbk.ba 1 _ rfl
      have q1 := at_block hbk.bb 1 _ rfl
      cases gk with
      | zero =>
        obtain rfl : i = n := by omega
        have hin : decide ((i : Int) < (i : Int)) = false := decide_eq_false (by omega)
        have HE := Lib.hid (And.intro hbk (And.intro hdv hbd))
        clear hblk hbk hdv hbd
        go_wp2_with fail
        go_meet
        obtain ⟨e1, e2, e3⟩ := HE.out
        refine ⟨s, e1, ?_, fun x hx => by have := e3 x hx; omega⟩
        rw [e2, List.take_of_length_le (by rw [HLL.out.1]; exact Nat.le_refl _)]
      | succ f =>
        have hin : decide ((i : Int) < (n : Int)) = true := decide_eq_true (by omega)
        have hin' : (i : Int) < (n : Int) := by omega
        have hi0 : (0 : Int) ≤ (i : Int) := by omega
        obtain ⟨x, hx⟩ : ∃ x, la[i]? = some x := ⟨_, List.getElem?_eq_getElem (by rw [HLL.out.1]; omega)⟩
        have hx9 := HD.out.1 x (List.mem_of_getElem? hx)
        have HX0 := Lib.hid hx
        have HE := Lib.hid (And.intro hbk (And.intro hdv hbd))
        clear hblk hbk hdv hbd hx
        go_wp2_with fail
        clear p1 q1
        go_loopg [7] n2 (fun f t7 wx => ∃ (k : Nat) (s : List Nat), t7 = .int .i64 (k : Int) ∧ k + f = n2 ∧ MulBlk w X n n2 c c2 T A B s wx ∧ dv s = dv (la.take i) * dv lb + 10 ^ i * (x * dv (lb.take k)) ∧ (∀ x ∈ s, x ≤ 162000 * i + 81 * k))
        case atStart => exact ⟨0, s, rfl, by omega, HE.out.1, mul_begin HE.out.2.1, fun x hx => by have := HE.out.2.2 x hx; omega⟩
        case round =>
          obtain ⟨k, s2, rfl, hkf, hbk, hdv, hbd⟩ := hrel
          have p1 := at_block hbk.ba 1 _ rfl
          have q1 := at_block hbk.bb 1 _ rfl
          cases gk with
          | zero =>
            obtain rfl : k = n2 := by omega
            have hkn : decide ((k : Int) < (k : Int)) = false := decide_eq_false (by omega)
            have g9 : IntKind.i64.wrap ((i : Int) + 1) = ((i + 1 : Nat) : Int) := by have := IntWalk.i64_in ((i : Int) + 1) (by omega); rw [this]; omega
            have HE2 := Lib.hid (And.intro hbk (And.intro hdv hbd))
            clear hbk hdv hbd
            go_wp2_with fail
            go_roundg f
            case measure => omega
            case rel =>
              obtain ⟨e1, e2, e3⟩ := HE2.out
              refine ⟨i + 1, s2, rfl, by omega, e1, ?_, fun x hx => by have := e3 x hx; omega⟩
              refine mul_row HX0.out ?_
              rw [HLL.out.2]
              exact e2
          | succ f3 =>
            have hkn : decide ((k : Int) < (n2 : Int)) = true := decide_eq_true (by omega)
            have hkn' : (k : Int) < (n2 : Int) := by omega
            have hk0 : (0 : Int) ≤ (k : Int) := by omega
            obtain ⟨p, hp⟩ : ∃ p, i + k = p := ⟨_, rfl⟩
            have hpT' : p < T := by have := HT.out; omega
            have hp0 : (0 : Int) ≤ (p : Int) := by omega
            have hpT : (p : Int) < (T : Int) := by omega
            obtain ⟨v, hv⟩ : ∃ v, s2[p]? = some v := ⟨_, List.getElem?_eq_getElem (by rw [hbk.len]; exact hpT')⟩
            have hvb := hbd v (List.mem_of_getElem? hv)
            obtain ⟨b1, off1, u1, rfl, hb1, hu1, hcell1⟩ := (hr.below hbk.bel).at_ (k := i) (by omega)
            obtain ⟨x', hx', rfl⟩ := u8_at hu1
            obtain rfl : x' = x := by have := HX0.out; rw [hx'] at this; exact Option.some.inj this
            obtain ⟨b2, off2, u2, rfl, hb2, hu2, hcell2⟩ := (h2.below hbk.bel).at_ (k := k) (by omega)
            obtain ⟨y, hy, rfl⟩ := u8_at hu2
            have hy9 := HD.out.2 y (List.mem_of_getElem? hy)
            have hcv := hbk.q.at_ (i64s_get hv)
            have hfv := hbk.q.free p
            obtain ⟨z, hz⟩ : ∃ z, x' * y = z := ⟨_, rfl⟩
            have hz81 : z ≤ 81 := by rw [← hz]; exact Nat.le_trans (Nat.mul_le_mul_right y hx9) (by omega)
            have hw1 : IntKind.i64.wrap ((i : Int) + (k : Int)) = (p : Int) := by rw [← hp, Int.natCast_add]; exact IntWalk.i64_in _ (by omega)
            have hw3 : IntKind.i64.wrap ((x' : Int) * (y : Int)) = (z : Int) := by rw [← hz, Int.natCast_mul]; exact IntWalk.i64_in _ (by rw [← Int.natCast_mul, hz]; omega)
            have hw4 : IntKind.i64.wrap ((v : Int) + (z : Int)) = ((v + z : Nat) : Int) := IntWalk.i64_in _ (by omega)
            have hw5 : IntKind.i64.wrap (x' : Int) = (x' : Int) := IntWalk.i64_in _ (by omega)
            have hw6 : IntKind.i64.wrap (y : Int) = (y : Int) := IntWalk.i64_in _ (by omega)
            have g9 : IntKind.i64.wrap ((k : Int) + 1) = ((k + 1 : Nat) : Int) := by have := IntWalk.i64_in ((k : Int) + 1) (by omega); rw [this]; omega
            go_wp2_with fail
            go_still_tail 21, (by kernel_rfl)
            change wpList _ _ _ _ _ wr.drew
            have HE2 := Lib.hid (And.intro hbk (And.intro hdv hbd))
            have HXY := Lib.hid (And.intro hy (And.intro hv (And.intro hp hz)))
            clear hbk hdv hbd hy hv hz hp hx' hu1 hu2
            go_wp2_with fail
            go_roundg f3
            case measure => omega
            case rel =>
              obtain ⟨e1, e2, e3⟩ := HE2.out
              obtain ⟨k1, k2, k3, k4⟩ := HXY.out
              have hnew := (e1.on (Below.drew (Below.refl _ _))).setq hpT' (v + z)
              refine ⟨k + 1, s2.set p (v + z), rfl, by omega, hnew, ?_, fun u hu => ?_⟩
              · subst k3 k4
                exact mul_step k1 k2 e2
              · rcases List.mem_or_eq_of_mem_set hu with hu | hu
                · have := e3 u hu; omega
                · rw [hu]; omega
  case rest =>
    obtain ⟨s, hbk, hdv, hbd⟩ := hcut
    obtain ⟨w4, hw4⟩ : ∃ W, W = wc := ⟨_, rfl⟩
    subst hw4
    have hrs : ∀ (W : World), Below w4.heap.size w4 W → Row W (X + 3) 3 T (i64s s) := fun W hW => hbk.q.on hW
    have hslen := hbk.len
    have hsz4 := hbk.sz
    have HBK := Lib.hid (And.intro hbk (And.intro hdv hbd))
    have HROW := Lib.hid hrs
    clear hbk hdv hbd hrs hblk
    go_wp2_with fail
    go_loopg [8, 9, 10] T (fun f t8 t9 t10 wx => ∃ (i cy : Nat) (lo : List Nat), t10 = .int .i64 (i : Int) ∧ i + f = T ∧ t9 = .int .i64 (cy : Int) ∧ cy ≤ 324000000 ∧ lo.length = i ∧ (∀ x ∈ lo, x ≤ 9) ∧ dv lo + 10 ^ i * cy = dv (s.take i) ∧ wx.ownsRow w4.heap.size 5 1 t8 i (u8s lo) ∧ Below w4.heap.size w4 wx)
    case atStart => exact ⟨0, 0, [], rfl, by omega, rfl, by omega, rfl, by simp, by simp [dv], World.ownsRow_nil _ _ _ _, Below.refl _ _⟩
    case round =>
      obtain ⟨i, cy, lo, rfl, hif, rfl, hcy, hlo, hlo9, hdv, hown, hbx⟩ := hrel
      cases gk with
      | zero =>
        obtain rfl : i = T := by omega
        have hin : decide ((i : Int) < (i : Int)) = false := decide_eq_false (by omega)
        obtain ⟨A', c', rfl, hcc, hrd⟩ := own_slice hown
        have had := own_addr hown
        have SG := Lib.hid (fun W (hW : Below wr.heap.size wr W) => signed_pos A' i c' lo W (hrd.on hW) hcc (by omega))
        have hbk := HBK.out.1.on (hbx.mono hsz4)
        have p0 := at_block hbk.ba 0 _ rfl
        have q0 := at_block hbk.bb 0 _ rfl
        have HE := Lib.hid (And.intro hbk (And.intro hrd (And.intro had (And.intro hlo (And.intro hlo9 (And.intro hdv (And.intro hbx hcc)))))))
        clear hbk hrd had hlo hlo9 hdv hbx hown hcc
        go_wp2_with fail
        refine (SG.out _ (Below.refl _ _)).mono ?_
        rintro y w5 ⟨⟨m, hm, rfl⟩, hb5⟩
        have hbk5 := HE.out.1.on (hb5.mono HE.out.1.sz)
        have r20 := at_block hbk5.r1 0 _ rfl
        have r21 := at_block hbk5.r1 1 _ rfl
        have s20 := free_block hbk5.r1 0
        have s21 := free_block hbk5.r1 1
        have HM := Lib.hid (And.intro hm (And.intro hb5 hbk5))
        clear hm hb5 hbk5 p0 q0
        go_wp2_with fail
        refine bodyPost_ret (v := .agg #[.bool false, .slice A' m c']) (by simp [results, Tryz.results52, go_sem, r20, r21]) rfl ?_
        obtain ⟨e1, e2, e3, e4, e5, e6, e7, e8⟩ := HE.out
        obtain ⟨k1, k2, k3⟩ := HM.out
        obtain ⟨b1, b2, b3⟩ := HBK.out
        have hval := carry_end hslen (by rw [HLL.out.1, HLL.out.2]; have := HT.out; omega) HD.out.1 HD.out.2 e6 b2
        have e : (u8s lo).take m = u8s (Fl.digL (dv la * dv lb)) := by
          rw [← hval, ← digL_trim e4 e5 k1]
          simp [u8s, List.map_take]
        have h3 := (e2.on k2).take m k1.1
        rw [e] at h3
        have hs5 := k3.sz
        have hm1 := k1.1
        refine ⟨⟨A', m, c', by omega, ?_, ?_, rfl⟩, ?_⟩
        · intro b off he
          have := e3 b off he
          rw [HX.out]
          omega
        · refine h3.kept (by simp [World.setCell]) (fun b off he _ => ?_)
          have := e3 b off he
          rw [Below.heap_setCell _ _ _ _ (show b ≠ X + 1 + 1 by omega), Below.heap_setCell _ _ _ _ (show b ≠ X + 1 + 1 by omega)]
        · rw [HX.out]
          exact (k3.bel.setCell (p := ⟨X + 1 + 1, 0, none⟩) (by show X ≤ X + 1 + 1; omega) _).setCell (p := ⟨X + 1 + 1, 1, none⟩) (by show X ≤ X + 1 + 1; omega) _
      | succ f =>
        have hin : decide ((i : Int) < (T : Int)) = true := decide_eq_true (by omega)
        have hin' : (i : Int) < (T : Int) := by omega
        have hi0 : (0 : Int) ≤ (i : Int) := by omega
        obtain ⟨x, hx⟩ : ∃ x, s[i]? = some x := ⟨_, List.getElem?_eq_getElem (by rw [hslen]; omega)⟩
        have hxb := HBK.out.2.2 x (List.mem_of_getElem? hx)
        have hcell := (HROW.out wr hbx).at_ (i64s_get hx)
        obtain ⟨u, hu⟩ : ∃ u, cy + x = u := ⟨_, rfl⟩
        obtain ⟨d, hd⟩ : ∃ d, u % 10 = d := ⟨_, rfl⟩
        obtain ⟨cc, hcc⟩ : ∃ cc, u / 10 = cc := ⟨_, rfl⟩
        have g1 : IntKind.i64.wrap ((cy : Int) + (x : Int)) = (u : Int) := by rw [← hu, Int.natCast_add]; exact IntWalk.i64_in _ (by omega)
        have hm1 : (u : Int) % 10 = (d : Int) := by omega
        have hm2 : Int.tmod (u : Int) 10 = (d : Int) := by rw [Int.tmod_eq_emod_of_nonneg (by omega)]; exact hm1
        have hm3 : (u : Int) / 10 = (cc : Int) := by omega
        have hm4 : Int.tdiv (u : Int) 10 = (cc : Int) := by rw [Int.tdiv_eq_ediv_of_nonneg (by omega)]; exact hm3
        have g3 : IntKind.i64.wrap (d : Int) = (d : Int) := IntWalk.i64_in _ (by omega)
        have g4 : IntKind.u8.wrap (d : Int) = (d : Int) := by rw [IntKind.wrap_u8]; omega
        have g5 : IntKind.i64.wrap (cc : Int) = (cc : Int) := IntWalk.i64_in _ (by omega)
        have g9 : IntKind.i64.wrap ((i : Int) + 1) = ((i + 1 : Nat) : Int) := by have := IntWalk.i64_in ((i : Int) + 1) (by omega); rw [this]; omega
        have hnew := carry_step (o := lo) hx hlo hdv
        rw [hu, hd, hcc] at hnew
        have hd9 : d ≤ 9 := by omega
        have hcc2 : cc ≤ 324000000 := by omega
        obtain ⟨A', c', rfl⟩ := own_form hown
        obtain ⟨V, hV⟩ : ∃ V, u8s lo = V := ⟨_, rfl⟩
        rw [hV] at hown
        have HV := Lib.hid (And.intro hV (And.intro hnew (And.intro hlo (And.intro hlo9 hd9))))
        have hii : i + f + 1 = T := by omega
        have hws := hbx.size
        clear hV hnew hlo hlo9 hd9 hdv hx hu hd hcc hif hm1 hm3 hxb
        go_wp2_with (at_builtin; refine wpList_append_own _ rfl _ _ 31 rfl w4.heap.size 5 i0 (.int .u8 0) 1 1 Tryz.underlying31 hi hz0 hz1 hz2 rfl (by decide) _ _ _ rfl (hown.alloc _) ⟨wr.heap.size, 0, none⟩ 1 1 [.int .u8 (d : Int)] rfl rfl ?c1 ?c2 ?c3 ?c4 ?c5 ?_)
        case c1 =>
          intro j u' hj
          match j, hj with
          | 0, hj => simp at hj; subst hj; simp [Addr.add]
        case c2 => intro u' hu'; simp at hu'; subst hu'; rfl
        case c3 => unfold maxLen; omega
        case c4 => omega
        case c5 => simp <;> omega
        intro v' w3 hown3 hgr3 _
        have hb3 : Below w4.heap.size wr w3 := ((Below.refl _ _).alloc hws _).grown hgr3 (by simp <;> omega) (fun k hk => (hown.lt k hk).1)
        have H3 := Lib.hid (And.intro hown3 (hbx.trans hb3))
        clear hgr3 hown hown3 hb3
        go_wp2_with fail
        go_roundg f
        case measure => omega
        case rel =>
          obtain ⟨k1, k2, k3, k4, k5⟩ := HV.out
          refine ⟨i + 1, cc, lo ++ [d], rfl, by omega, rfl, hcc2, by rw [List.length_append, k3]; rfl, ?_, k2, ?_, H3.out.2⟩
          · intro z hz
            rcases List.mem_append.1 hz with h | h
            · exact k4 z h
            · rw [List.mem_singleton.1 h]; exact k5
          · have e : u8s (lo ++ [d]) = V ++ [.int .u8 (d : Int)] := by rw [← k1]; simp [u8s]
            rw [e]
            exact H3.out.1
end Go.Proofs.YtjapgpmoojfhnaaGreatDoor

namespace Go.Proofs.YtjapgpmoojfhnaaGreatDoor
open Go.RowKit Go.Lib

/-- Mul at the digits of two numbers. -/
theorem mul_ri (A B : Option Addr) (n n2 c c2 u v : Nat) (w : World) (hr : Reads w w.heap.size A n (u8s (Fl.digL u))) (h2 : Reads w w.heap.size B n2 (u8s (Fl.digL v))) (hn : n ≤ 2000) (hn2 : n2 ≤ 2000) :
    Calls Tryz.prog 52 #[.agg #[.bool false, .slice A n c], .agg #[.bool false, .slice B n2 c2]] w fun x w' => (∃ A' m c', m ≤ c' ∧ (∀ b off, A' = some ⟨b, off, none⟩ → w.heap.size < b) ∧ Reads w' w'.heap.size A' m (u8s (Fl.digL (u * v))) ∧ x = .returned (.agg #[.bool false, .slice A' m c'])) ∧ Below w.heap.size w w' := by
  have h := mul_any A B n n2 c c2 (Fl.digL u) (Fl.digL v) w hr h2 hn hn2 (digL_le9 u) (digL_le9 v)
  rw [dv_digL, dv_digL] at h
  exact h
/-- The digits of a number that is not too great are few. -/
theorem few {u N : Nat} (h : u ≤ N) (hN : N < 10 ^ 2000) : (Fl.digL u).length ≤ 2000 := by
  obtain ⟨K, hK⟩ : ∃ K, K = 2000 := ⟨_, rfl⟩
  rw [← hK] at hN ⊢
  by_cases h0 : u = 0
  · rw [h0, Fl.digL_zero]; simp
  · obtain ⟨n, h1, h2, h3⟩ := Fl.dec_bounds h0
    rw [Fl.dec_length h0] at h1
    have := Fl.pow10_lt (Nat.lt_of_le_of_lt h2 (Nat.lt_of_le_of_lt h hN))
    omega
/-- A number's digits, beside the boxes. -/
def RIx (w : World) (A : Option Addr) (m c u X Y : Nat) : Prop := m ≤ c ∧ Reads w w.heap.size A m (u8s (Fl.digL u)) ∧ ∀ b off, A = some ⟨b, off, none⟩ → X < b ∧ b ≠ Y ∧ b ≠ Y + 1
theorem RIx.on {w w' : World} {A : Option Addr} {m c u X Y : Nat} (h : RIx w A m c u X Y) (hb : Below w.heap.size w w') : RIx w' A m c u X Y := ⟨h.1, h.2.1.on hb, h.2.2⟩
theorem RIx.set {w : World} {A : Option Addr} {m c u X Y : Nat} (h : RIx w A m c u X Y) (k i : Nat) (hk : k = X ∨ k = Y ∨ k = Y + 1) (v : Value) : RIx (w.setCell ⟨k, i, none⟩ v) A m c u X Y :=
  ⟨h.1, h.2.1.kept (by simp [World.setCell]) (fun b off he _ => by
    have := h.2.2 b off he
    exact Below.heap_setCell _ _ _ _ (show b ≠ k by omega)), h.2.2⟩
/-- What power holds. -/
structure PowBlk (w : World) (X Y : Nat) (A : Option Addr) (n c u : Nat) (B : Option Addr) (m d v : Nat) (wx : World) : Prop where
  bx : wx.heap[X]? = some (.cells #[.bool false, .slice none 0 0] 33 (0, 0))
  ba : wx.heap[Y]? = some (.cells #[.bool false, .slice A n c] 33 (0, 0))
  bb : wx.heap[Y + 1]? = some (.cells #[.bool false, .slice B m d] 33 (0, 0))
  ra : RIx wx A n c u X Y
  rb : RIx wx B m d v X Y
  lt : X < Y
  bel : Below X w wx
section
variable {w wx wy : World} {X Y n c u m d v : Nat} {A B : Option Addr}
theorem PowBlk.size (h : PowBlk w X Y A n c u B m d v wx) : Y + 2 ≤ wx.heap.size := by
  have := lt_of_block h.bb
  omega
theorem PowBlk.on (h : PowBlk w X Y A n c u B m d v wx) (hb : Below wx.heap.size wx wy) : PowBlk w X Y A n c u B m d v wy := by
  have hs := h.size
  obtain ⟨h1, h2, h3, h4, h5, h6, h7⟩ := h
  exact ⟨(hb.block X (by omega)).trans h1, (hb.block Y (by omega)).trans h2, (hb.block (Y + 1) (by omega)).trans h3, h4.on hb, h5.on hb, h6, h7.trans (hb.mono (by omega))⟩
theorem PowBlk.setA (h : PowBlk w X Y A n c u B m d v wx) {A' : Option Addr} {n' c' u' : Nat} (ha : RIx wx A' n' c' u' X Y) : PowBlk w X Y A' n' c' u' B m d v ((wx.setCell ⟨Y, 0, none⟩ (.bool false)).setCell ⟨Y, 1, none⟩ (.slice A' n' c')) := by
  obtain ⟨h1, h2, h3, h4, h5, h6, h7⟩ := h
  refine ⟨?_, block_set (block_set h2 0 _) 1 _, ?_, (ha.set Y 0 (by omega) _).set Y 1 (by omega) _, (h5.set Y 0 (by omega) _).set Y 1 (by omega) _, h6, ?_⟩
  · rw [Below.heap_setCell _ _ _ _ (show X ≠ Y by omega), Below.heap_setCell _ _ _ _ (show X ≠ Y by omega)]; exact h1
  · rw [Below.heap_setCell _ _ _ _ (show Y + 1 ≠ Y by omega), Below.heap_setCell _ _ _ _ (show Y + 1 ≠ Y by omega)]; exact h3
  · exact (h7.setCell (p := ⟨Y, 0, none⟩) (by show X ≤ Y; omega) _).setCell (p := ⟨Y, 1, none⟩) (by show X ≤ Y; omega) _
theorem PowBlk.setB (h : PowBlk w X Y A n c u B m d v wx) {B' : Option Addr} {m' d' v' : Nat} (hb : RIx wx B' m' d' v' X Y) : PowBlk w X Y A n c u B' m' d' v' ((wx.setCell ⟨Y + 1, 0, none⟩ (.bool false)).setCell ⟨Y + 1, 1, none⟩ (.slice B' m' d')) := by
  obtain ⟨h1, h2, h3, h4, h5, h6, h7⟩ := h
  refine ⟨?_, ?_, block_set (block_set h3 0 _) 1 _, (h4.set (Y + 1) 0 (by omega) _).set (Y + 1) 1 (by omega) _, (hb.set (Y + 1) 0 (by omega) _).set (Y + 1) 1 (by omega) _, h6, ?_⟩
  · rw [Below.heap_setCell _ _ _ _ (show X ≠ Y + 1 by omega), Below.heap_setCell _ _ _ _ (show X ≠ Y + 1 by omega)]; exact h1
  · rw [Below.heap_setCell _ _ _ _ (show Y ≠ Y + 1 by omega), Below.heap_setCell _ _ _ _ (show Y ≠ Y + 1 by omega)]; exact h2
  · exact (h7.setCell (p := ⟨Y + 1, 0, none⟩) (by show X ≤ Y + 1; omega) _).setCell (p := ⟨Y + 1, 1, none⟩) (by show X ≤ Y + 1; omega) _
end
/-- The arithmetic of one round. -/
theorem pow_odd_step {u v k N : Nat} (h : u * v ^ k = N) (ho : k % 2 = 1) : (u * v) * (v * v) ^ (k / 2) = N := by
  rw [← h, ← Nat.pow_two, ← Nat.pow_mul, Nat.mul_assoc, ← Nat.pow_succ']
  congr 2
  omega
theorem pow_even_step {u v k N : Nat} (h : u * v ^ k = N) (ho : k % 2 = 0) : u * (v * v) ^ (k / 2) = N := by
  rw [← h, ← Nat.pow_two, ← Nat.pow_mul]
  congr 2
  omega
theorem pow_bounds {u v k N : Nat} (h : u * v ^ k = N) (hN : 0 < N) (hk : 0 < k) : u ≤ N ∧ v ≤ N := by
  have hu : 0 < u := by
    rcases Nat.eq_zero_or_pos u with h0 | h0
    · rw [h0, Nat.zero_mul] at h; omega
    · exact h0
  have hv : 0 < v ^ k := by
    rcases Nat.eq_zero_or_pos (v ^ k) with h0 | h0
    · rw [h0, Nat.mul_zero] at h; omega
    · exact h0
  have hv0 : 0 < v := by
    rcases Nat.eq_zero_or_pos v with h0 | h0
    · rw [h0, Nat.zero_pow hk] at hv; omega
    · exact h0
  have h1 : u * 1 ≤ u * v ^ k := Nat.mul_le_mul_left _ hv
  have h2 : 1 * v ^ k ≤ u * v ^ k := Nat.mul_le_mul_right _ hu
  have h3 : v ^ 1 ≤ v ^ k := Nat.pow_le_pow_right hv0 hk
  rw [Nat.pow_one] at h3
  omega
set_option maxHeartbeats 4000000 in
set_option maxRecDepth 100000 in
theorem power_any (n k : Nat) (w : World) (hn : n < 18446744073709551616) (hn0 : 0 < n) (hk : k ≤ 2000) (hN : n ^ k < 10 ^ 2000) :
    Calls Tryz.prog 53 #[.int .u64 (n : Int), .int .i64 (k : Int)] w fun x w' => (∃ A m c, m ≤ c ∧ (∀ b off, A = some ⟨b, off, none⟩ → w.heap.size < b) ∧ Reads w' w'.heap.size A m (u8s (Fl.digL (n ^ k))) ∧ x = .returned (.agg #[.bool false, .slice A m c])) ∧ Below w.heap.size w w' := by
  obtain ⟨N, hNN⟩ : ∃ N, n ^ k = N := ⟨_, rfl⟩
  rw [hNN] at hN ⊢
  have O1 := fun W => of64_any 1 W (by decide)
  have ON := Lib.hid (fun W => of64_any n W hn)
  have O1 := Lib.hid O1
  obtain ⟨w1, hw1⟩ : ∃ w1 : World, w.alloc (.cells #[.bool false, .slice none 0 0] 33) = w1 := ⟨_, rfl⟩
  obtain ⟨X, hX⟩ : ∃ X, w.heap.size = X := ⟨_, rfl⟩
  have hx1 := heap_alloc_new w (.cells #[.bool false, .slice none 0 0] 33)
  have hb1 : Below w.heap.size w w1 := by rw [← hw1]; exact (Below.refl _ _).alloc (Nat.le_refl _) _
  have hs1 : w1.heap.size = w.heap.size + 1 := by rw [← hw1]; simp
  rw [hw1, hX] at hx1
  rw [hX] at hb1 hs1
  have HW1 := Lib.hid (And.intro hw1 hX)
  clear hw1 hX
  go_enter Tryz.func53, Tryz.ntmps53
  go_upto_region 1 with fail
  rw [HW1.out.1, HW1.out.2]
  go_wp2_with fail
  refine (O1.out _).mono ?_
  rintro x w2 ⟨v1, rfl, ho1, hb2⟩
  obtain ⟨A1, c1, rfl, hc1, hr1⟩ := own_slice ho1
  have ha1 := own_addr ho1
  go_wp2_with fail
  refine (ON.out _).mono ?_
  rintro x w3 ⟨v2, rfl, ho2, hb3⟩
  obtain ⟨A2, c2, rfl, hc2, hr2⟩ := own_slice ho2
  have ha2 := own_addr ho2
  go_upto_region 2 with fail
  obtain ⟨Y, hY⟩ : ∃ Y, w3.heap.size = Y := ⟨_, rfl⟩
  obtain ⟨n1, hn1⟩ : ∃ n1, (Fl.digL 1).length = n1 := ⟨_, rfl⟩
  obtain ⟨n2, hn2'⟩ : ∃ n2, (Fl.digL n).length = n2 := ⟨_, rfl⟩
  have hn1p : 0 < n1 := by rw [← hn1]; exact (Fl.digL_facts (by decide)).1
  have hn2p : 0 < n2 := by rw [← hn2']; exact (Fl.digL_facts (by omega)).1
  have hblk : PowBlk w X Y A1 n1 c1 1 A2 n2 c2 n ((w3.alloc (Obj.cells #[Value.bool false, Value.slice A1 n1 c1] 33)).alloc (Obj.cells #[Value.bool false, Value.slice A2 n2 c2] 33)) := by
    rw [hn1] at hc1 hr1
    rw [hn2'] at hc2 hr2
    have s2 := hb2.size
    have s3 := hb3.size
    have hr1' := hr1.on hb3
    have hb4 : Below w3.heap.size w3 ((w3.alloc (Obj.cells #[Value.bool false, Value.slice A1 n1 c1] 33)).alloc (Obj.cells #[Value.bool false, Value.slice A2 n2 c2] 33)) := ((Below.refl _ _).alloc (Nat.le_refl _) _).alloc (by simp) _
    refine ⟨?_, ?_, ?_, ⟨hc1, hr1'.on hb4, ?_⟩, ⟨hc2, hr2.on hb4, ?_⟩, by omega, ?_⟩
    · exact alloc_kp (alloc_kp ((hb3.block X (by omega)).trans ((hb2.block X (by omega)).trans hx1)))
    · exact alloc_kp (new_kp _ _ _ hY.symm)
    · exact new_kp _ _ _ (by simp <;> omega)
    · intro b off he
      have h1 := ha1 b off he
      obtain ⟨b', off', e, h2, _⟩ := hr1'.2 hn1p
      rw [he] at e
      cases e
      omega
    · intro b off he
      have h1 := ha2 b off he
      obtain ⟨b', off', e, h2, _⟩ := hr2.2 hn2p
      rw [he] at e
      cases e
      omega
    · refine hb1.trans ((hb2.trans ((hb3.trans (hb4.mono hb3.size)).mono hb2.size)).mono ?_)
      omega
  rw [hY, hn1, hn2']
  obtain ⟨w4, hw4⟩ : ∃ w4, (w3.alloc (Obj.cells #[Value.bool false, Value.slice A1 n1 c1] 33)).alloc (Obj.cells #[Value.bool false, Value.slice A2 n2 c2] 33) = w4 := ⟨_, rfl⟩
  rw [hw4] at hblk ⊢
  have hNp : 0 < N := by rw [← hNN]; exact Nat.pow_pos hn0
  have HN := Lib.hid (And.intro hN hNp)
  have HBL := Lib.hid hblk
  have HNN := Lib.hid hNN
  clear hw4 hblk hY hn1 hn2' hn1p hn2p ho1 ho2 hr1 hr2 ha1 ha2 hc1 hc2 hb2 hb3 hx1 hb1 hs1 hN hNp hNN hn hn0
  go_loopg [1] k (fun f t1 wx => ∃ (k' : Nat) (A : Option Addr) (n1 c u : Nat) (B : Option Addr) (m d v : Nat), t1 = .int .i64 (k' : Int) ∧ k' ≤ f ∧ k' ≤ 2000 ∧ u * v ^ k' = N ∧ PowBlk w X Y A n1 c u B m d v wx)
  case atStart => exact ⟨k, A1, n1, c1, 1, A2, n2, c2, n, rfl, Nat.le_refl _, hk, by rw [Nat.one_mul]; exact HNN.out, HBL.out⟩
  case round =>
    obtain ⟨k', A, n1, c, u, B, m, d, v, rfl, hkf, hk2, hN, hblk⟩ := hrel
    by_cases h0 : k' = 0
    · subst h0
      have p0 := at_block hblk.ba 0 _ rfl
      have p1 := at_block hblk.ba 1 _ rfl
      have r0 := at_block hblk.bx 0 _ rfl
      have r1 := at_block hblk.bx 1 _ rfl
      have s0 := free_block hblk.bx 0
      have s1 := free_block hblk.bx 1
      have HB := Lib.hid (And.intro hblk hN)
      clear hblk hN
      go_wp2_with fail
      refine bodyPost_ret (v := .agg #[.bool false, .slice A n1 c]) (by simp [results, Tryz.results53, go_sem, r0, r1]) rfl ?_
      obtain ⟨hb, hN⟩ := HB.out
      rw [Nat.pow_zero, Nat.mul_one] at hN
      subst hN
      have ha := (hb.ra.set X 0 (by omega) (.bool false)).set X 1 (by omega) (.slice A n1 c)
      refine ⟨⟨A, n1, c, ha.1, ?_, ha.2.1, rfl⟩, ?_⟩
      · intro b off he
        have := ha.2.2 b off he
        rw [HW1.out.2]
        omega
      · rw [HW1.out.2]
        exact (hb.bel.setCell (p := ⟨X, 0, none⟩) (Nat.le_refl _) _).setCell (p := ⟨X, 1, none⟩) (Nat.le_refl _) _
    · obtain ⟨f, rfl⟩ : ∃ f, gk = f + 1 := ⟨gk - 1, by omega⟩
      obtain ⟨b1, b2⟩ := pow_bounds hN HN.out.2 (by omega)
      have l1 : n1 ≤ 2000 := by have h := hblk.ra.2.1.1; rw [u8s_len] at h; have := few b1 HN.out.1; omega
      have l2 : m ≤ 2000 := by have h := hblk.rb.2.1.1; rw [u8s_len] at h; have := few b2 HN.out.1; omega
      have c1 : decide ((0 : Int) < (k' : Int)) = true := decide_eq_true (by omega)
      have hkp : 0 < k' := by omega
      have c1n : decide (0 < k') = true := decide_eq_true hkp
      obtain ⟨q, hq⟩ : ∃ q, k' / 2 = q := ⟨_, rfl⟩
      have q1 : (k' : Int) / 2 = (q : Int) := by omega
      have q2 : Int.tdiv (k' : Int) 2 = (q : Int) := by rw [Int.tdiv_eq_ediv_of_nonneg (by omega)]; exact q1
      have q3 : IntKind.i64.wrap (q : Int) = (q : Int) := IntWalk.i64_in _ (by omega)
      have p0 := at_block hblk.ba 0 _ rfl
      have p1 := at_block hblk.ba 1 _ rfl
      have p2 := at_block hblk.bb 0 _ rfl
      have p3 := at_block hblk.bb 1 _ rfl
      have MU := Lib.hid (mul_ri A B n1 m c d u v wr hblk.ra.2.1 hblk.rb.2.1 l1 l2)
      by_cases ho : k' % 2 = 1
      · have d1 : (k' : Int) % 2 = 1 := by omega
        have d2 : Int.tmod (k' : Int) 2 = 1 := by rw [Int.tmod_eq_emod_of_nonneg (by omega)]; exact d1
        have HB := Lib.hid (And.intro hblk (And.intro (pow_odd_step hN ho) (And.intro b2 hq)))
        clear hblk hN b1 b2 h0 hq
        go_wp2_with fail
        refine (MU.out).mono ?_
        rintro y w5 ⟨⟨A', n', c', hc', ha', hr', rfl⟩, hb5⟩
        obtain ⟨e1, e2, e3, e4⟩ := HB.out
        have hsz := e1.size
        have hb6 := e1.on hb5
        have r0 := at_block hb6.ba 0 _ rfl
        have r1 := at_block hb6.ba 1 _ rfl
        have s0 := free_block hb6.ba 0
        have s1 := free_block hb6.ba 1
        have hb7 := hb6.setA ⟨hc', hr', fun b off he => by have := ha' b off he; have := e1.lt; omega⟩
        have HB7 := Lib.hid hb7
        clear hb6 hb7 e1 e2 e3 e4 hr' ha' hc' hb5 p0 p1 p2 p3
        go_upto_region 5 with fail
        obtain ⟨w6, hw6⟩ : ∃ w6, (w5.setCell ⟨Y, 0, none⟩ (.bool false)).setCell ⟨Y, 1, none⟩ (.slice A' n' c') = w6 := ⟨_, rfl⟩
        rw [hw6]
        have hb7 := HB7.out
        rw [hw6] at hb7
        have HBB := Lib.hid hb7
        have p2 := at_block hb7.bb 0 _ rfl
        have p3 := at_block hb7.bb 1 _ rfl
        have MV := Lib.hid (mul_ri B B m m d d v v w6 hb7.rb.2.1 hb7.rb.2.1 l2 l2)
        clear hb7 hw6 HB7 r0 r1 s0 s1
        by_cases hq0 : q = 0
        · subst hq0
          have c2 : decide ((0 : Int) < ((0 : Nat) : Int)) = false := by decide
          go_wp2_with fail
          go_roundg f
          case measure => omega
          case rel =>
            obtain ⟨e1, e2, e3, e4⟩ := HB.out
            rw [e4] at e2
            exact ⟨0, A', n', c', u * v, B, m, d, v, rfl, by omega, by omega, by simpa using e2, HBB.out⟩
        · have c2 : decide ((0 : Int) < (q : Int)) = true := decide_eq_true (by omega)
          have hqp : 0 < q := by omega
          have c2n : decide (0 < q) = true := decide_eq_true hqp
          go_wp2_with fail
          refine (MV.out).mono ?_
          rintro y w7 ⟨⟨B', m', d', hd', hbb', hrr', rfl⟩, hb7⟩
          have e1 := HBB.out
          have hsz7 := e1.size
          have hb8 := e1.on hb7
          have r0 := at_block hb8.bb 0 _ rfl
          have r1 := at_block hb8.bb 1 _ rfl
          have s0 := free_block hb8.bb 0
          have s1 := free_block hb8.bb 1
          have hb9 := hb8.setB ⟨hd', hrr', fun b off he => by have := hbb' b off he; have := e1.lt; omega⟩
          have HB9 := Lib.hid hb9
          clear hb8 hb9 e1 hrr' hbb' hd' hb7 p2 p3
          go_wp2_with fail
          go_roundg f
          case measure => omega
          case rel =>
            obtain ⟨e1, e2, e3, e4⟩ := HB.out
            rw [e4] at e2
            exact ⟨q, A', n', c', u * v, B', m', d', v * v, rfl, by omega, by omega, e2, HB9.out⟩
      · have d1 : (k' : Int) % 2 = 0 := by omega
        have d2 : Int.tmod (k' : Int) 2 = 0 := by rw [Int.tmod_eq_emod_of_nonneg (by omega)]; exact d1
        have hqp : 0 < q := by omega
        have c2n : decide (0 < q) = true := decide_eq_true hqp
        have c2 : decide ((0 : Int) < (q : Int)) = true := decide_eq_true (by omega)
        have MV := Lib.hid (mul_ri B B m m d d v v wr hblk.rb.2.1 hblk.rb.2.1 l2 l2)
        have HB := Lib.hid (And.intro hblk (And.intro (pow_even_step hN (by omega)) (And.intro b2 hq)))
        clear hblk hN b1 b2 h0 hq
        go_wp2_with fail
        refine (MV.out).mono ?_
        rintro y w7 ⟨⟨B', m', d', hd', hbb', hrr', rfl⟩, hb7⟩
        have e1 := HB.out.1
        have hsz7 := e1.size
        have hb8 := e1.on hb7
        have r0 := at_block hb8.bb 0 _ rfl
        have r1 := at_block hb8.bb 1 _ rfl
        have s0 := free_block hb8.bb 0
        have s1 := free_block hb8.bb 1
        have hb9 := hb8.setB ⟨hd', hrr', fun b off he => by have := hbb' b off he; have := e1.lt; omega⟩
        have HB9 := Lib.hid hb9
        clear hb8 hb9 e1 hrr' hbb' hd' hb7 p0 p1 p2 p3
        go_wp2_with fail
        go_roundg f
        case measure => omega
        case rel =>
          obtain ⟨e1, e2, e3, e4⟩ := HB.out
          rw [e4] at e2
          exact ⟨q, A, n1, c, u, B', m', d', v * v, rfl, by omega, by omega, e2, HB9.out⟩
end Go.Proofs.YtjapgpmoojfhnaaGreatDoor

namespace Go.Proofs.YtjapgpmoojfhnaaGreatDoor
open Go.RowKit Go.Lib

/-- Digits with z zeros, least significant first. -/
theorem digL_zeros {c : Nat} (hc : 0 < c) : ∀ z, Fl.digL (c * 10 ^ z) = List.replicate z 0 ++ Fl.digL c
  | 0 => by simp
  | z + 1 => by
    have hp : 0 < c * 10 ^ z := Nat.mul_pos hc (Nat.pow_pos (by decide))
    have e : c * 10 ^ (z + 1) = 10 * (c * 10 ^ z) := by rw [Nat.pow_succ, ← Nat.mul_assoc, Nat.mul_comm]
    rw [e, Fl.digL_pos (by omega), show 10 * (c * 10 ^ z) / 10 = c * 10 ^ z by omega, show 10 * (c * 10 ^ z) % 10 = 0 by omega, digL_zeros hc z, List.replicate_succ]
    rfl
theorem digL_first {c : Nat} (hc : c % 10 ≠ 0) : ∃ d l, Fl.digL c = d :: l ∧ d ≠ 0 := ⟨_, _, Fl.digL_pos (by omega), hc⟩
/-- The places of c * 10^z: noughts up to z, and then none. -/
theorem place_zero {c z i : Nat} (hc : c % 10 ≠ 0) (h : i < z) : (Fl.digL (c * 10 ^ z))[i]? = some 0 := by
  rw [digL_zeros (by omega) z, List.getElem?_append_left (by simp; exact h), List.getElem?_replicate, if_pos h]
theorem place_some {c z : Nat} (hc : c % 10 ≠ 0) : ∃ d, (Fl.digL (c * 10 ^ z))[z]? = some d ∧ d ≠ 0 := by
  obtain ⟨d, l, h1, h2⟩ := digL_first hc
  refine ⟨d, ?_, h2⟩
  rw [digL_zeros (by omega) z, List.getElem?_append_right (by simp), h1]
  simp
/-- One block of a number. -/
structure ExBlk (w : World) (X Y : Nat) (A : Option Addr) (n c u : Nat) (wx : World) : Prop where
  bx : wx.heap[X]? = some (.cells #[.bool false, .slice none 0 0] 33 (0, 0))
  ba : wx.heap[Y]? = some (.cells #[.bool false, .slice A n c] 33 (0, 0))
  ra : RIx wx A n c u X Y
  lt : X < Y
  bel : Below X w wx
section
variable {w wx wy : World} {X Y n c u : Nat} {A : Option Addr}
theorem ExBlk.size (h : ExBlk w X Y A n c u wx) : Y + 1 ≤ wx.heap.size := by
  have := lt_of_block h.ba
  omega
theorem ExBlk.on (h : ExBlk w X Y A n c u wx) (hb : Below wx.heap.size wx wy) : ExBlk w X Y A n c u wy := by
  have hs := h.size
  obtain ⟨h1, h2, h4, h6, h7⟩ := h
  exact ⟨(hb.block X (by omega)).trans h1, (hb.block Y (by omega)).trans h2, h4.on hb, h6, h7.trans (hb.mono (by omega))⟩
theorem ExBlk.setA (h : ExBlk w X Y A n c u wx) {A' : Option Addr} {n' c' u' : Nat} (ha : RIx wx A' n' c' u' X Y) : ExBlk w X Y A' n' c' u' ((wx.setCell ⟨Y, 0, none⟩ (.bool false)).setCell ⟨Y, 1, none⟩ (.slice A' n' c')) := by
  obtain ⟨h1, h2, h4, h6, h7⟩ := h
  refine ⟨?_, block_set (block_set h2 0 _) 1 _, (ha.set Y 0 (by omega) _).set Y 1 (by omega) _, h6, ?_⟩
  · rw [Below.heap_setCell _ _ _ _ (show X ≠ Y by omega), Below.heap_setCell _ _ _ _ (show X ≠ Y by omega)]; exact h1
  · exact (h7.setCell (p := ⟨Y, 0, none⟩) (by show X ≤ Y; omega) _).setCell (p := ⟨Y, 1, none⟩) (by show X ≤ Y; omega) _
end
end Go.Proofs.YtjapgpmoojfhnaaGreatDoor

namespace Go.Proofs.YtjapgpmoojfhnaaGreatDoor
open Go.RowKit Go.Lib

end Go.Proofs.YtjapgpmoojfhnaaGreatDoor

namespace Go.Proofs.YtjapgpmoojfhnaaGreatDoor
open Go.RowKit Go.Lib

theorem f6 {A B C D E F G : Prop} (h : A ∧ B ∧ C ∧ D ∧ E ∧ F ∧ G) : G := h.2.2.2.2.2.2
theorem f6_trans {A B C D E F : Prop} {a W W' : World} (h : A ∧ B ∧ C ∧ D ∧ E ∧ F ∧ Below a.heap.size a W) (hb : Below W.heap.size W W') : Below a.heap.size a W' := (f6 h).trans (hb.mono (f6 h).size)
structure D3 (b : Nat) (B : Nat × Nat) (ng g : Bool) (M : Nat) (e x : Int) (SF S D T : ByteArray) (n : Nat) : Prop where
  fb : ∀ W, Calls Tryz.prog 13 #[.int .u64 (b : Int), .int .i64 64] W fun x w' => x = .returned (.agg #[.int .i64 0, .bool ng, .int .u64 (M : Int), .int .i64 e]) ∧ Below W.heap.size W w'
  tx : ∀ W, Calls Tryz.prog 15 #[.agg #[.int .i64 0, .bool ng, .int .u64 (M : Int), .int .i64 e]] W fun x w' => x = .returned (.string SF) ∧ Below W.heap.size W w'
  de : ∀ W, Laid W → Calls Tryz.prog 14 #[.string SF] W fun x w' => x = .returned (.tuple #[.string S, .int .i64 0]) ∧ Below W.heap.size W w'
  ex : ∀ W, Calls Tryz.prog 17 #[.int .u64 (M : Int), .int .i64 e] W fun y w' => (∃ A cc, y = .returned (.tuple #[.agg #[.bool false, .slice A n cc], .int .i64 x]) ∧
    ∀ W', Below w'.heap.size w' W' → Calls Tryz.prog 19 #[.agg #[.bool false, .slice A n cc]] W' fun z w2 => z = .returned (.string D) ∧ Below W'.heap.size W' w2) ∧ Below W.heap.size W w'
  hn : n ≤ 400
  hg : (ng && decide (0 < M)) = g
  ne : ∀ W, Laid2 W B → Calls Tryz.prog 20 #[.string S] W fun x w' => x = .returned (.tuple #[.string T, .bool true, .int .i64 0]) ∧ Below W.heap.size W w'
  dt : ∀ W, Calls Tryz.prog 21 #[.agg #[.bool g, .string D, .int .i64 x]] W fun x w' => x = .returned (.string S) ∧ Below W.heap.size W w'
  bt : ∀ W, Calls Tryz.prog 15 #[.agg #[.int .i64 0, .bool g, .int .u64 (M : Int), .int .i64 e]] W fun x w' => x = .returned (.string T) ∧ Below W.heap.size W w'
end Go.Proofs.YtjapgpmoojfhnaaGreatDoor

namespace Go.Proofs.YtjapgpmoojfhnaaGreatDoor
open Go.RowKit Go.Lib

theorem readP_exp {c : Nat} {E : Int} (hc : c % 10 ≠ 0) (hl : (decDigits c).length ≤ 400) (h0 : -2000 ≤ E) (h1 : E ≤ 2000) (g : Bool) : (Dc.readP (Fl.expB g c E)).isSome = true := by
  have hc0 : c ≠ 0 := by omega
  obtain ⟨y, l, h4, h5⟩ := Fl.digL_head hc0
  have hne : (Fl.digL c).reverse ≠ [] := by rw [h4]; simp
  have hlen : (Fl.digL c).reverse.length ≤ 400 := by rw [List.length_reverse, ← Fl.dec_length hc0]; exact hl
  have hlast : ∀ u, (Fl.digL c).reverse.getLast? = some u → u ≠ 0 := fun u hu => by
    rw [List.getLast?_reverse, Fl.digL_pos (by omega)] at hu
    simp at hu
    omega
  have hh : Dc.readP (Fl.expB g c E) = some ⟨g, (Fl.digL c).reverse, E⟩ := by
    rw [Dc.readP_iff]
    refine ⟨⟨⟨Fl.digL_digs hc0, fun h => absurd h hne, fun u hu => ?_, hlast⟩, Dc.limit_ok.2 ⟨hlen, h0, h1⟩⟩, ?_⟩
    · have hu' : (Fl.digL c).reverse.head? = some u := hu
      rw [h4] at hu'
      simp at hu'
      omega
    · unfold Dc.showB Dc.coefB Fl.expB
      simp only
      rw [if_neg hne, Fl.dec_is hc0]
      rfl
  rw [hh]
  rfl
theorem readP_nought : (Dc.readP [48, 101, 48]).isSome = true := by
  have hh : Dc.readP [48, 101, 48] = some ⟨false, [], 0⟩ := by
    rw [Dc.readP_iff]
    refine ⟨⟨⟨fun x hx => by (cases hx), fun _ => ⟨rfl, rfl⟩, fun u hu => by (cases hu), fun u hu => by (cases hu)⟩, Dc.limit_ok.2 ⟨by decide, by decide, by decide⟩⟩, ?_⟩
    unfold Dc.showB Dc.coefB
    rw [if_pos rfl, show itoa 0 = [48] by kernel_rfl]
    rfl
  rw [hh]
  rfl
theorem refF_num (b : Nat) (h0 : 0 < b % 9223372036854775808) (hr : b % 9223372036854775808 < 9218868437227405312) : Fl.refF b = .agg #[.int .i64 0, .bool (decide (9223372036854775808 ≤ b)), .int .u64 (Fl.om (b % 9223372036854775808) : Int), .int .i64 (Fl.oe (b % 9223372036854775808))] := by
  unfold Fl.refF
  rw [if_neg (by omega), if_neg (by omega), if_neg (by omega)]
theorem refF_zero (b : Nat) (h0 : b % 9223372036854775808 = 0) : Fl.refF b = .agg #[.int .i64 0, .bool (decide (9223372036854775808 ≤ b)), .int .u64 0, .int .i64 0] := by
  unfold Fl.refF
  rw [if_neg (by omega), if_neg (by omega), if_pos h0]
theorem refF_kind (b : Nat) (hr : 9218868437227405312 ≤ b % 9223372036854775808) : ∃ (k : Int) (n : Bool) (m e : Int), 0 < k ∧ Fl.refF b = .agg #[.int .i64 k, .bool n, .int .u64 m, .int .i64 e] := by
  unfold Fl.refF
  by_cases h1 : 9218868437227405312 < b % 9223372036854775808
  · rw [if_pos h1]; exact ⟨_, _, _, _, by decide, rfl⟩
  · rw [if_neg h1, if_pos (by omega)]; exact ⟨_, _, _, _, by decide, rfl⟩
/-- The text of a number's digits. -/
theorem digits_text (A : Option Addr) (n cc c : Nat) (hc : c ≠ 0) (hn : n ≤ 100000) (w : World) (hr : Reads w w.heap.size A n (u8s (Fl.digL c))) :
    Calls Tryz.prog 19 #[.agg #[.bool false, .slice A n cc]] w fun x w' => x = .returned (.string ⟨(decDigits c).toArray⟩) ∧ Below w.heap.size w w' := by
  obtain ⟨a1, a2, a3, _, _⟩ := Fl.digL_facts hc
  have hl := hr.1
  rw [u8s_len] at hl
  have h := inttext_any false A n cc (Fl.digL c) w hr a3 hn (by omega)
  rw [Fl.intN_is hc] at h
  exact h
end Go.Proofs.YtjapgpmoojfhnaaGreatDoor
