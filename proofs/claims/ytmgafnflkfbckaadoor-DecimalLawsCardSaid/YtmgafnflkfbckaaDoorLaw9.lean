/- DecimalNear: the law's walk. -/
import Derived.Test.YtmgafnflkfbckaaDoorPlain11
import Derived.Test.YtmgafnflkfbckaaDoorWalkH
namespace Go.Proofs.YtmgafnflkfbckaaDoor
open Go.RowKit Go.Lib

theorem bytes_of {l : List UInt8} {n : Nat} (h : l.length ≤ n) : ∃ b : ByteArray, (⟨l.toArray⟩ : ByteArray) = b ∧ b.data.toList = l ∧ b.size ≤ n := ⟨_, rfl, rfl, by rw [← data_len]; exact h⟩
theorem i8_range {o : Int} (h : (Lit.int .i8 o).wf = true) : -128 ≤ o ∧ o ≤ 127 := by
  have h2 : IntKind.i8.min ≤ o ∧ o ≤ IntKind.i8.max := by simpa [Lit.wf] using h
  have e1 : IntKind.i8.min = -128 := by decide
  have e2 : IntKind.i8.max = 127 := by decide
  omega

set_option maxHeartbeats 2000000 in
set_option maxRecDepth 100000 in
theorem law9 (s : ByteArray) (p : Int) (w : World) (hp : (Lit.int .i8 p).wf = true) (hL : Laid w) : Calls Tryd.prog 9 #[.string s, .int .i8 p] w fun x w' => x = .returned (.bool true) ∧ Below w.heap.size w w' := by
  obtain ⟨p1, p2⟩ := i8_range hp
  have hwp : IntKind.i64.wrap p = p := IntWalk.i64_in _ (by omega)
  have hwn : IntKind.i64.wrap (-p) = -p := IntWalk.i64_in _ (by omega)
  have AW := Lib.hid (awake_any w hL)
  have HL := Lib.hid hL
  by_cases h : 200 < s.size
  · clear hL hp
    have hi : (200 : Int) < (s.size : Int) := by omega
    go_enter Tryd.func9, Tryd.ntmps9
    go_wp2_with fail
    refine (AW.out).mono ?_
    rintro x w1 ⟨rfl, hb1⟩
    go_wp2_with fail
    go_ret
    exact ⟨rfl, hb1⟩
  · have hi : ¬ (200 : Int) < (s.size : Int) := by omega
    have VA := fun W hW => valid_any s W (by omega) hW
    cases hr : Dc.readP s.data.toList with
    | none =>
      rw [hr] at VA
      have VA : ∀ W, Laid W → Calls Tryd.prog 27 #[.string s] W fun x w' => x = .returned (.bool false) ∧ Below W.heap.size W w' := VA
      have VA := Lib.hid VA
      clear hL hr hp
      go_enter Tryd.func9, Tryd.ntmps9
      go_wp2_with fail
      refine (AW.out).mono ?_
      rintro x w1 ⟨rfl, hb1⟩
      go_wp2_with fail
      refine (VA.out _ (HL.out.on hb1)).mono ?_
      rintro x w2 ⟨rfl, hb2⟩
      go_wp2_with fail
      go_ret
      exact ⟨rfl, hb1.trans (hb2.mono hb1.size)⟩
    | some y =>
      rw [hr] at VA
      have VA : ∀ W, Laid W → Calls Tryd.prog 27 #[.string s] W fun x w' => x = .returned (.bool true) ∧ Below W.heap.size W w' := VA
      have VA := Lib.hid VA
      obtain ⟨G, r, hG, hGl, hcase⟩ := Dc.near_law hr (by rw [data_len]; omega) p1 p2
      obtain ⟨bG, hbG, hbG2, hbG3⟩ := bytes_of hGl
      have RN : ∀ W, Laid W → Calls Tryd.prog 20 #[.string s, .int .i64 p] W fun x w' => x = .returned (.tuple #[.string bG, .int .i64 (r : Int)]) ∧ Below W.heap.size W w' := by
        intro W hW
        have := round_2 s p W (by omega) (by omega) hW
        rw [hG, val2, hbG] at this
        exact this
      have RN := Lib.hid RN
      rcases hcase with rfl | ⟨rfl, N, hN, hNl, D2, e2, hD2, hDl, T, e3, hT, hTl, U, hU, hUl, M, hM, hMl, hag, hc⟩
      · clear hL hr hp hG hGl hbG hbG2 hbG3
        go_enter Tryd.func9, Tryd.ntmps9
        go_wp2_with fail
        refine (AW.out).mono ?_
        rintro x w1 ⟨rfl, hb1⟩
        go_wp2_with fail
        refine (VA.out _ (HL.out.on hb1)).mono ?_
        rintro x w2 ⟨rfl, hb2⟩
        have hb12 := hb1.trans (hb2.mono hb1.size)
        go_wp2_with fail
        refine (RN.out _ (HL.out.on hb12)).mono ?_
        rintro x w3 ⟨rfl, hb3⟩
        have hb13 := hb12.trans (hb3.mono hb12.size)
        go_wp2_with fail
        go_ret
        exact ⟨rfl, hb13⟩
      · obtain ⟨bN, hbN, hbN2, hbN3⟩ := bytes_of hNl
        obtain ⟨bD, hbD, hbD2, hbD3⟩ := bytes_of hDl
        obtain ⟨bT, hbT, hbT2, hbT3⟩ := bytes_of hTl
        obtain ⟨bU, hbU, hbU2, hbU3⟩ := bytes_of hUl
        obtain ⟨bM, hbM, hbM2, hbM3⟩ := bytes_of hMl
        have MU : ∀ W, Laid W → Calls Tryd.prog 31 #[.string s, .string ⟨#[45, 49, 101, 48]⟩] W fun x w' => x = .returned (.tuple #[.string bN, .int .i64 0]) ∧ Below W.heap.size W w' := by
          intro W hW
          have := mul_2 s ⟨#[45, 49, 101, 48]⟩ W (by omega) (by decide) hW
          rw [show (⟨#[45, 49, 101, 48]⟩ : ByteArray).data.toList = [45, 49, 101, 48] from rfl, hN, val2, hbN] at this
          exact this
        have AD : ∀ W, Laid W → Calls Tryd.prog 30 #[.string bG, .string bN] W fun x w' => x = .returned (.tuple #[.string bD, .int .i64 (e2 : Int)]) ∧ Below W.heap.size W w' := by
          intro W hW
          have := add_2 bG bN W (by omega) (by omega) hW
          rw [hbG2, hbN2, hD2, val2, hbD] at this
          exact this
        have TW : ∀ W, Laid W → Calls Tryd.prog 31 #[.string bD, .string ⟨#[50, 101, 48]⟩] W fun x w' => x = .returned (.tuple #[.string bT, .int .i64 (e3 : Int)]) ∧ Below W.heap.size W w' := by
          intro W hW
          have := mul_2 bD ⟨#[50, 101, 48]⟩ W (by omega) (by decide) hW
          rw [show (⟨#[50, 101, 48]⟩ : ByteArray).data.toList = [50, 101, 48] from rfl, hbD2, hT, val2, hbT] at this
          exact this
        have OU : ∀ W, Laid W → Calls Tryd.prog 15 #[.string ⟨#[49]⟩, .int .i64 (-p)] W fun x w' => x = .returned (.tuple #[.string bU, .int .i64 0]) ∧ Below W.heap.size W w' := by
          intro W hW
          have := of_2 ⟨#[49]⟩ (-p) W (by decide) (by omega) hW
          rw [show (⟨#[49]⟩ : ByteArray).data.toList = [49] from rfl, hU, val2, hbU] at this
          exact this
        have OM : ∀ W, Laid W → Calls Tryd.prog 15 #[.string ⟨#[45, 49]⟩, .int .i64 (-p)] W fun x w' => x = .returned (.tuple #[.string bM, .int .i64 0]) ∧ Below W.heap.size W w' := by
          intro W hW
          have := of_2 ⟨#[45, 49]⟩ (-p) W (by decide) (by omega) hW
          rw [show (⟨#[45, 49]⟩ : ByteArray).data.toList = [45, 49] from rfl, hM, val2, hbM] at this
          exact this
        have AG : ∀ W, Laid W → Calls Tryd.prog 20 #[.string bG, .int .i64 p] W fun x w' => x = .returned (.tuple #[.string bG, .int .i64 0]) ∧ Below W.heap.size W w' := by
          intro W hW
          have := round_2 bG p W (by omega) (by omega) hW
          rw [hbG2, hag, val2, hbG] at this
          exact this
        obtain ⟨c1, hc1⟩ : ∃ c, Dc.cmpS T U = c := ⟨_, rfl⟩
        obtain ⟨c2, hc2⟩ : ∃ c, Dc.cmpS T M = c := ⟨_, rfl⟩
        have C1 : ∀ W, Laid W → Calls Tryd.prog 34 #[.string bT, .string bU] W fun x w' => x = .returned (.int .i64 c1) ∧ Below W.heap.size W w' := by
          intro W hW
          have := cmp_any bT bU W (by omega) (by omega) hW
          rw [hbT2, hbU2, hc1] at this
          exact this
        have C2 : ∀ W, Laid W → Calls Tryd.prog 34 #[.string bT, .string bM] W fun x w' => x = .returned (.int .i64 c2) ∧ Below W.heap.size W w' := by
          intro W hW
          have := cmp_any bT bM W (by omega) (by omega) hW
          rw [hbT2, hbM2, hc2] at this
          exact this
        rw [hc1, hc2] at hc
        have MU := Lib.hid MU
        have AD := Lib.hid AD
        have TW := Lib.hid TW
        have OU := Lib.hid OU
        have OM := Lib.hid OM
        have AG := Lib.hid AG
        have C1 := Lib.hid C1
        have C2 := Lib.hid C2
        clear hL hr hp hG hGl hbG hbG2 hbG3 hN hNl hD2 hDl hT hTl hU hUl hM hMl hag hbN hbN2 hbN3 hbD hbD2 hbD3 hbT hbT2 hbT3 hbU hbU2 hbU3 hbM hbM2 hbM3 hc1 hc2
        have hcs : (¬ (e2 : Int) = 0) ∨ ((e2 : Int) = 0 ∧ ¬ (e3 : Int) = 0) ∨ ((e2 : Int) = 0 ∧ (e3 : Int) = 0 ∧ c1 ≤ 0 ∧ 0 ≤ c2) := by omega
        clear hc
        obtain ⟨E2, hE2⟩ : ∃ E : Int, (e2 : Int) = E := ⟨_, rfl⟩
        obtain ⟨E3, hE3⟩ : ∃ E : Int, (e3 : Int) = E := ⟨_, rfl⟩
        rw [hE2] at AD hcs
        rw [hE3] at TW hcs
        clear hE2 hE3
        rcases hcs with h2 | ⟨h2, h3⟩ | ⟨h2, h3, hle, hge⟩
        all_goals
          try subst h2
          try subst h3
          go_enter Tryd.func9, Tryd.ntmps9
          go_wp2_with fail
          refine (AW.out).mono ?_
          rintro x w1 ⟨rfl, hb1⟩
          go_wp2_with fail
          refine (VA.out _ (HL.out.on hb1)).mono ?_
          rintro x w2 ⟨rfl, hb2⟩
          have hb12 := hb1.trans (hb2.mono hb1.size)
          go_wp2_with fail
          refine (RN.out _ (HL.out.on hb12)).mono ?_
          rintro x w3 ⟨rfl, hb3⟩
          have hb13 := hb12.trans (hb3.mono hb12.size)
          go_wp2_with fail
          refine (MU.out _ (HL.out.on hb13)).mono ?_
          rintro x w4 ⟨rfl, hb4⟩
          have hb14 := hb13.trans (hb4.mono hb13.size)
          go_wp2_with fail
          refine (AD.out _ (HL.out.on hb14)).mono ?_
          rintro x w5 ⟨rfl, hb5⟩
          have hb15 := hb14.trans (hb5.mono hb14.size)
          go_wp2_with fail
          refine (TW.out _ (HL.out.on hb15)).mono ?_
          rintro x w6 ⟨rfl, hb6⟩
          have hb16 := hb15.trans (hb6.mono hb15.size)
          go_wp2_with fail
          refine (OU.out _ (HL.out.on hb16)).mono ?_
          rintro x w7 ⟨rfl, hb7⟩
          have hb17 := hb16.trans (hb7.mono hb16.size)
          go_wp2_with fail
          refine (OM.out _ (HL.out.on hb17)).mono ?_
          rintro x w8 ⟨rfl, hb8⟩
          have hb18 := hb17.trans (hb8.mono hb17.size)
          go_wp2_with fail
          refine (AG.out _ (HL.out.on hb18)).mono ?_
          rintro x w9 ⟨rfl, hb9⟩
          have hb19 := hb18.trans (hb9.mono hb18.size)
          go_wp2_with fail
        · go_ret
          exact ⟨rfl, hb19⟩
        · go_ret
          exact ⟨rfl, hb19⟩
        · refine (C1.out _ (HL.out.on hb19)).mono ?_
          rintro x w10 ⟨rfl, hb10⟩
          have hb110 := hb19.trans (hb10.mono hb19.size)
          go_wp2_with fail
          refine (C2.out _ (HL.out.on hb110)).mono ?_
          rintro x w11 ⟨rfl, hb11⟩
          have hb111 := hb110.trans (hb11.mono hb110.size)
          go_wp2_with fail
          go_ret
          exact ⟨rfl, hb111⟩
end Go.Proofs.YtmgafnflkfbckaaDoor
