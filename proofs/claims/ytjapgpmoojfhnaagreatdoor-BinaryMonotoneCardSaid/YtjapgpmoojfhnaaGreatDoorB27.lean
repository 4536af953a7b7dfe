/- The library's decimal in memory: its block, what a store does to it; trim. shouldRoundUp and prefixIsLessThan. RoundedInteger of the library's decimal. -/
import Derived.Test.YtjapgpmoojfhnaaGreatDoorB02
import Derived.Test.YtjapgpmoojfhnaaGreatDoorB26
import Derived.WalkKit
import Derived.WalkSpells
import Derived.WalkLawsBesides
import Derived.PartsItems
import Derived.Items
import Derived.HeadItems
import Derived.CheckFast
import Derived.KernelRfl
import Derived.Laws.Externs
import Derived.Laws.BitsAllLaws
import Derived.BigQuiet
namespace Go.Proofs.YtjapgpmoojfhnaaGreatDoor
open Go.RowKit Go.Lib

/-- The cells of a decimal: the bytes, how many are used, the point, the sign, whether digits were dropped. -/
def dcCells (D : List Nat) (nd dp : Int) (ng tr : Bool) : List Value := u8s D ++ [.int .i64 nd, .int .i64 dp, .bool ng, .bool tr]
structure DcAt (w : World) (X : Nat) (D : List Nat) (nd dp : Int) (ng tr : Bool) : Prop where
  blk : w.heap[X]? = some (.cells (dcCells D nd dp ng tr).toArray 235 (0, 0))
  len : D.length = 800
namespace DcAt
variable {w : World} {X : Nat} {D : List Nat} {nd dp : Int} {ng tr : Bool}
theorem lt (h : DcAt w X D nd dp ng tr) : X < w.heap.size := lt_of_block h.blk
theorem c0 (h : DcAt w X D nd dp ng tr) : w.cell? ⟨X, 800, none⟩ = some (.int .i64 nd) := at_block h.blk 800 _ (by
  rw [List.getElem?_toArray, dcCells, List.getElem?_append_right (by rw [u8s_len, h.len]; exact Nat.le_refl _), u8s_len, h.len]; rfl)
theorem c1 (h : DcAt w X D nd dp ng tr) : w.cell? ⟨X, 801, none⟩ = some (.int .i64 dp) := at_block h.blk 801 _ (by
  rw [List.getElem?_toArray, dcCells, List.getElem?_append_right (by rw [u8s_len, h.len]; decide), u8s_len, h.len]; rfl)
theorem c2 (h : DcAt w X D nd dp ng tr) : w.cell? ⟨X, 802, none⟩ = some (.bool ng) := at_block h.blk 802 _ (by
  rw [List.getElem?_toArray, dcCells, List.getElem?_append_right (by rw [u8s_len, h.len]; decide), u8s_len, h.len]; rfl)
theorem c3 (h : DcAt w X D nd dp ng tr) : w.cell? ⟨X, 803, none⟩ = some (.bool tr) := at_block h.blk 803 _ (by
  rw [List.getElem?_toArray, dcCells, List.getElem?_append_right (by rw [u8s_len, h.len]; decide), u8s_len, h.len]; rfl)
theorem byte (h : DcAt w X D nd dp ng tr) {i b : Nat} (hb : D[i]? = some b) : w.cell? ⟨X, i, none⟩ = some (.int .u8 (b : Int)) := at_block h.blk i _ (by
  have hi := (List.getElem?_eq_some_iff.1 hb).1
  rw [List.getElem?_toArray, dcCells, List.getElem?_append_left (by rw [u8s_len]; exact hi)]
  exact u8s_get hb)
theorem free (h : DcAt w X D nd dp ng tr) (i : Nat) : w.frozen? ⟨X, i, none⟩ = false := free_block h.blk i
theorem drew (h : DcAt w X D nd dp ng tr) : DcAt w.drew X D nd dp ng tr := ⟨h.blk, h.len⟩
theorem drewN (h : DcAt w X D nd dp ng tr) (k : Nat) : DcAt (w.drewN k) X D nd dp ng tr := ⟨h.blk, h.len⟩
theorem set_tail (h : DcAt w X D nd dp ng tr) (k : Nat) (v : Value) {t : List Value} (ht : [Value.int .i64 nd, .int .i64 dp, .bool ng, .bool tr].set k v = t) :
    (w.setCell ⟨X, 800 + k, none⟩ v).heap[X]? = some (.cells (u8s D ++ t).toArray 235 (0, 0)) := by
  rw [block_set h.blk, List.setIfInBounds_toArray, dcCells, List.set_append, if_neg (by rw [u8s_len, h.len]; omega), u8s_len, h.len, Nat.add_sub_cancel_left, ht]
theorem set0 (h : DcAt w X D nd dp ng tr) (n : Int) : DcAt (w.setCell ⟨X, 800, none⟩ (.int .i64 n)) X D n dp ng tr := ⟨h.set_tail 0 _ rfl, h.len⟩
theorem set1 (h : DcAt w X D nd dp ng tr) (n : Int) : DcAt (w.setCell ⟨X, 801, none⟩ (.int .i64 n)) X D nd n ng tr := ⟨h.set_tail 1 _ rfl, h.len⟩
theorem set2 (h : DcAt w X D nd dp ng tr) (b : Bool) : DcAt (w.setCell ⟨X, 802, none⟩ (.bool b)) X D nd dp b tr := ⟨h.set_tail 2 _ rfl, h.len⟩
theorem set3 (h : DcAt w X D nd dp ng tr) (b : Bool) : DcAt (w.setCell ⟨X, 803, none⟩ (.bool b)) X D nd dp ng b := ⟨h.set_tail 3 _ rfl, h.len⟩
theorem setB (h : DcAt w X D nd dp ng tr) {i : Nat} (hi : i < 800) (b : Nat) : DcAt (w.setCell ⟨X, i, none⟩ (.int .u8 (b : Int))) X (D.set i b) nd dp ng tr := by
  refine ⟨?_, by rw [List.length_set, h.len]⟩
  rw [block_set h.blk, List.setIfInBounds_toArray, dcCells, List.set_append, if_pos (by rw [u8s_len, h.len]; exact hi)]
  congr 2
  unfold dcCells u8s
  rw [List.map_set]
end DcAt
set_option maxHeartbeats 2000000 in
set_option maxRecDepth 100000 in
theorem dctrim_any (X : Nat) (D : List Nat) (nd : Nat) (dp : Int) (ng tr : Bool) (hn : nd ≤ 800) (w : World) (hX : DcAt w X D nd dp ng tr) :
    Calls Tryz.prog 223 #[.pointer (some ⟨X, 0, none⟩)] w fun x w' => x = .returned (.tuple #[]) ∧ DcAt w' X D (trimN D nd) (dpT (trimN D nd) dp) ng tr ∧ Below X w w' := by
  go_enter Tryz.func223, Tryz.ntmps223
  go_wp2_with fail
  go_loopg [] nd (fun f wx => DcAt wx X D f dp ng tr ∧ trimN D f = trimN D nd ∧ f ≤ nd ∧ Below X w wx)
  case atStart => exact ⟨hX, rfl, Nat.le_refl _, Below.refl _ _⟩
  case round =>
    obtain ⟨hW, htr, hle, hbx⟩ := hrel
    have x0 := hW.c0
    have x1 := hW.c1
    have z0 := hW.free 800
    have z1 := hW.free 801
    cases gk with
    | zero =>
      have ht0 : trimN D nd = 0 := by rw [← htr]; rfl
      have HB := Lib.hid (And.intro hW (And.intro hbx ht0))
      clear hX hW htr hbx ht0
      go_upto_region 1 with fail
      go_quiet (fail)
      go_wp2_with fail
      refine ⟨rfl, .tuple #[], results_none rfl _ _ _, rfl, ?_⟩
      obtain ⟨h1, h2, h3⟩ := HB.out
      rw [h3, dpT, if_pos rfl]
      exact ⟨(h1.drewN _).set1 0, (below_drewN h2 _).setCell (Nat.le_refl _) _⟩
    | succ f =>
      obtain ⟨b, hb⟩ : ∃ b, D[f]? = some b := ⟨_, List.getElem?_eq_getElem (by rw [hX.len]; omega)⟩
      have xb := hW.byte hb
      have d0 : decide ((0 : Int) < ((f + 1 : Nat) : Int)) = true := decide_eq_true (by omega)
      have w1 : IntKind.i64.wrap (((f + 1 : Nat) : Int) - 1) = (f : Int) := by have := IntWalk.i64_in (((f + 1 : Nat) : Int) - 1) (by omega); rw [this]; omega
      have w1' : IntKind.i64.wrap ((f : Int) + 1 - 1) = (f : Int) := by have := IntWalk.i64_in ((f : Int) + 1 - 1) (by omega); rw [this]; omega
      have i0 : (0 : Int) ≤ (f : Int) := by omega
      have i1 : (f : Int) < 800 := by omega
      by_cases hb48 : b = 48
      · subst hb48
        have htr' : trimN D f = trimN D nd := by rw [← htr, trimN, if_pos hb]
        have HB := Lib.hid (And.intro hW (And.intro hbx (And.intro htr' (show f ≤ nd by omega))))
        clear hX hW htr hbx htr' hb hle hn
        go_upto_region 1 with fail
        go_quiet (fail)
        go_wp2_with fail
        go_roundg f
        case measure => exact Nat.lt_succ_self _
        case rel =>
          obtain ⟨h1, h2, h3, h4⟩ := HB.out
          exact ⟨(h1.drewN _).set0 _, h3, h4, (below_drewN h2 _).setCell (Nat.le_refl _) _⟩
      · have he : ((b : Int) == 48) = false := by rw [beq_eq_false_iff_ne]; omega
        have htr' : trimN D nd = f + 1 := by rw [← htr, trimN, if_neg (by rw [hb]; simpa using hb48)]
        have HB := Lib.hid (And.intro hW (And.intro hbx htr'))
        have e0 : (((f + 1 : Nat) : Int) == 0) = false := by rw [beq_eq_false_iff_ne]; omega
        have e0' : ((f : Int) + 1 == 0) = false := by rw [beq_eq_false_iff_ne]; omega
        clear hX hW htr hbx htr' hb hle hn
        go_upto_region 1 with fail
        go_quiet (fail)
        go_wp2_with fail
        refine ⟨rfl, .tuple #[], results_none rfl _ _ _, rfl, ?_⟩
        obtain ⟨h1, h2, h3⟩ := HB.out
        rw [h3, dpT, if_neg (Nat.succ_ne_zero _)]
        exact ⟨h1.drewN _, below_drewN h2 _⟩
end Go.Proofs.YtjapgpmoojfhnaaGreatDoor

namespace Go.Proofs.YtjapgpmoojfhnaaGreatDoor
open Go.RowKit Go.Lib

set_option maxHeartbeats 2000000 in
set_option maxRecDepth 100000 in
theorem rup_neg (X : Nat) (D : List Nat) (nd k dp : Int) (ng tr : Bool) (hk : k < 0 ∨ nd ≤ k) (w : World) (hX : DcAt w X D nd dp ng tr) :
    Calls Tryz.prog 221 #[.pointer (some ⟨X, 0, none⟩), .int .i64 k] w fun x w' => x = .returned (.bool false) ∧ w' = w := by
  have x0 := hX.c0
  clear hX
  rcases hk with h | h
  · have d1 : decide (k < 0) = true := decide_eq_true h
    clear h
    go_enter Tryz.func221, Tryz.ntmps221
    go_wp2_with fail
    go_ret
    exact ⟨rfl, rfl⟩
  · by_cases h0 : k < 0
    · have d1 : decide (k < 0) = true := decide_eq_true h0
      clear h h0
      go_enter Tryz.func221, Tryz.ntmps221
      go_wp2_with fail
      go_ret
      exact ⟨rfl, rfl⟩
    · have d1 : decide (k < 0) = false := decide_eq_false h0
      have d2 : decide (nd ≤ k) = true := decide_eq_true h
      clear h h0
      go_enter Tryz.func221, Tryz.ntmps221
      go_wp2_with fail
      go_ret
      exact ⟨rfl, rfl⟩
set_option maxHeartbeats 2000000 in
set_option maxRecDepth 100000 in
theorem rup_any (X : Nat) (D : List Nat) (nd k : Nat) (dp : Int) (ng tr : Bool) (hn : nd ≤ 800) (hD : ∀ i, i < nd → D.getD i 0 < 256) (h48 : ∀ i, i < nd → 48 ≤ D.getD i 0) (w : World) (hX : DcAt w X D nd dp ng tr) :
    Calls Tryz.prog 221 #[.pointer (some ⟨X, 0, none⟩), .int .i64 (k : Int)] w fun x w' => x = .returned (.bool (rupN D nd tr k)) ∧ w' = w := by
  by_cases hk : nd ≤ k
  · have := rup_neg X D nd k dp ng tr (Or.inr (by omega)) w hX
    rw [show rupN D nd tr k = false by unfold rupN; rw [decide_eq_false (by omega)]; rfl]
    exact this
  · obtain ⟨b, hb⟩ : ∃ b, D[k]? = some b := ⟨_, List.getElem?_eq_getElem (by rw [hX.len]; omega)⟩
    have xb := hX.byte hb
    have x0 := hX.c0
    have x4 := hX.c3
    have hbd : D.getD k 0 = b := by rw [List.getD_eq_getElem?_getD, hb]; rfl
    have hb2 := hD k (by omega)
    rw [hbd] at hb2
    have d1 : decide ((k : Int) < 0) = false := decide_eq_false (by omega)
    have d2 : decide ((nd : Int) ≤ (k : Int)) = false := decide_eq_false (by omega)
    have d2n : decide (nd ≤ k) = false := decide_eq_false (by omega)
    have i0 : (0 : Int) ≤ (k : Int) := by omega
    have i1 : (k : Int) < 800 := by omega
    have w1 : IntKind.i64.wrap ((k : Int) + 1) = (k : Int) + 1 := IntWalk.i64_in ((k : Int) + 1) (by omega)
    have hkn : decide (k < nd) = true := decide_eq_true (by omega)
    by_cases h53 : b = 53
    · subst h53
      by_cases hl : k + 1 = nd
      · have e1 : ((k : Int) + 1 == (nd : Int)) = true := by rw [beq_iff_eq]; omega
        have hr : rupN D nd tr k = (tr || (decide (0 < k) && (D.getD (k - 1) 0 - 48) % 2 != 0)) := by
          unfold rupN
          rw [hkn, hbd, show (k + 1 == nd) = true by rw [beq_iff_eq]; exact hl]
          rfl
        cases tr with
        | true =>
          have HR := Lib.hid hr
          clear hr hn hk hX hD h48 hb hbd hb2 hkn hl
          go_enter Tryz.func221, Tryz.ntmps221
          go_wp2_with fail
          go_ret
          exact ⟨by first | (rw [HR.out]; rfl) | rw [HR.out], rfl⟩
        | false =>
          by_cases hk0 : k = 0
          · have d3 : decide ((0 : Int) < (k : Int)) = false := decide_eq_false (by omega)
            have d3n : decide (0 < k) = false := decide_eq_false (by omega)
            rw [d3n] at hr
            have HR := Lib.hid hr
            clear hr hn hk hX hD h48 hb hbd hb2 hkn hl hk0
            go_enter Tryz.func221, Tryz.ntmps221
            go_wp2_with fail
            go_ret
            exact ⟨by first | (rw [HR.out]; rfl) | rw [HR.out], rfl⟩
          · obtain ⟨j, hj⟩ : ∃ j, k = j + 1 := ⟨k - 1, by omega⟩
            obtain ⟨y, hy⟩ : ∃ y, D[j]? = some y := ⟨_, List.getElem?_eq_getElem (by rw [hX.len]; omega)⟩
            have xy := hX.byte hy
            have hyd : D.getD j 0 = y := by rw [List.getD_eq_getElem?_getD, hy]; rfl
            have hy2 := hD j (by omega)
            rw [hyd] at hy2
            have hy3 := h48 j (by omega)
            rw [hyd] at hy3
            have w2 : IntKind.i64.wrap ((k : Int) - 1) = (j : Int) := by have := IntWalk.i64_in ((k : Int) - 1) (by omega); rw [this]; omega
            have j0 : (0 : Int) ≤ (j : Int) := by omega
            have j1 : (j : Int) < 800 := by omega
            have d3 : decide ((0 : Int) < (k : Int)) = true := decide_eq_true (by omega)
            have d3n : decide (0 < k) = true := decide_eq_true (by omega)
            obtain ⟨v, hv⟩ : ∃ v, y - 48 = v := ⟨_, rfl⟩
            obtain ⟨p, hp⟩ : ∃ p, v % 2 = p := ⟨_, rfl⟩
            have w3 : IntKind.u8.wrap ((y : Int) - 48) = (v : Int) := by rw [IntKind.wrap_u8]; omega
            have w4 : Int.tmod (v : Int) 2 = (p : Int) := by rw [Int.tmod_eq_emod_of_nonneg (by omega)]; omega
            have w4' : (v : Int) % 2 = (p : Int) := by omega
            have w5 : IntKind.u8.wrap (p : Int) = (p : Int) := by rw [IntKind.wrap_u8]; omega
            have hr2 : rupN D nd false k = (p != 0) := by
              rw [hr, d3n, show k - 1 = j by omega, hyd, hv, hp]; rfl
            have w6 : ((p : Int) == 0) = (p == 0) := by
              by_cases h : p = 0
              · subst h; rfl
              · rw [show (p == 0) = false by rw [beq_eq_false_iff_ne]; exact h, beq_eq_false_iff_ne]; omega
            have w6' : ((p : Int) != 0) = (p != 0) := by unfold bne; rw [w6]
            have HR := Lib.hid hr2
            clear hr hr2 hn hk hX hD h48 hb hbd hb2 hkn hl hk0 hy hyd hy2 hy3 hv hp hj
            go_enter Tryz.func221, Tryz.ntmps221
            go_wp2_with fail
            go_ret
            exact ⟨by first | (rw [HR.out]; rfl) | rw [HR.out], rfl⟩
      · have e1 : ((k : Int) + 1 == (nd : Int)) = false := by rw [beq_eq_false_iff_ne]; omega
        have hr : rupN D nd tr k = true := by
          unfold rupN
          rw [hkn, hbd, show (k + 1 == nd) = false by rw [beq_eq_false_iff_ne]; exact hl]
          rfl
        have HR := Lib.hid hr
        clear hr hn hk hX hD h48 hb hbd hb2 hkn hl
        go_enter Tryz.func221, Tryz.ntmps221
        go_wp2_with fail
        go_ret
        exact ⟨by first | (rw [HR.out]; rfl) | rw [HR.out], rfl⟩
    · have e1 : ((b : Int) == 53) = false := by rw [beq_eq_false_iff_ne]; omega
      have hr : rupN D nd tr k = decide (53 ≤ b) := by
        unfold rupN
        rw [hkn, hbd, show (b == 53) = false by rw [beq_eq_false_iff_ne]; exact h53]
        rfl
      have e2 : decide ((53 : Int) ≤ (b : Int)) = decide (53 ≤ b) := decide_eq_decide.2 (by omega)
      have HR := Lib.hid hr
      clear hr hn hk hX hD h48 hb hbd hb2 hkn h53
      go_enter Tryz.func221, Tryz.ntmps221
      go_wp2_with fail
      go_ret
      exact ⟨by first | (rw [HR.out]; rfl) | rw [HR.out], rfl⟩
set_option maxHeartbeats 2000000 in
set_option maxRecDepth 100000 in
theorem prefix_less (A : Option Addr) (n c : Nat) (l : List Nat) (s : ByteArray) (hs : s.size ≤ 1000) (hn : n ≤ 1000) (hl : ∀ x ∈ l, x < 256) (w : World) (hr : Reads w w.heap.size A n (u8s l)) :
    Calls Tryz.prog 222 #[.slice A n c, .string s] w fun x w' => x = .returned (.bool (ltP l (s.data.toList.map (·.toNat)))) ∧ Below w.heap.size w w' := by
  have hlen : l.length = n := by have := hr.1; rwa [u8s_len] at this
  have hsl : (s.data.toList.map (·.toNat)).length = s.size := by simp
  obtain ⟨T, hT⟩ : ∃ T, s.data.toList.map (·.toNat) = T := ⟨_, rfl⟩
  have hTi : ∀ i (h : i < s.size), T[i]? = some (s[i]'h).toNat := fun i h => by
    rw [← hT, List.getElem?_map]
    have e : s.data.toList[i]? = some (s[i]'h) := by
      rw [List.getElem?_eq_getElem (by simpa using h)]; rfl
    rw [e]; rfl
  obtain ⟨S, hS⟩ : ∃ S, s.size = S := ⟨_, rfl⟩
  rw [hT] at hsl ⊢
  obtain ⟨R, hR⟩ : ∃ R, ltP l T = R := ⟨_, rfl⟩
  rw [hR]
  have HR := Lib.hid hr
  have HT := Lib.hid (And.intro hTi (And.intro hsl (And.intro hlen (And.intro hl (And.intro hs (And.intro hn hS))))))
  have hS2 : (s.size : Int) = (S : Int) := by omega
  clear hr hTi hT
  go_enter Tryz.func222, Tryz.ntmps222
  go_wp2_with fail
  go_loopg [5] S (fun f t5 wx => ∃ i : Nat, t5 = .int .i64 (i : Int) ∧ i + f = S ∧ ltP (l.drop i) (T.drop i) = R ∧ Below w.heap.size w wx)
  case atStart => exact ⟨0, rfl, by omega, hR, Below.refl _ _⟩
  case round =>
    obtain ⟨i, rfl, hif, hlt, hbx⟩ := hrel
    cases gk with
    | zero =>
      have d1 : decide ((i : Int) < (S : Int)) = false := decide_eq_false (by omega)
      have d1' : decide (i < S) = false := decide_eq_false (by omega)
      have hR0 : R = false := by rw [← hlt, List.drop_eq_nil_of_le (by omega : T.length ≤ i), ltP_nil]
      have HB := Lib.hid (And.intro hbx hR0)
      clear hbx hR0 hlt hR hif hlen hsl
      go_wp2_with fail
      go_ret
      exact ⟨by first | (rw [HB.out.2]; rfl) | rw [HB.out.2], HB.out.1⟩
    | succ f =>
      have hi : i < s.size := by omega
      have d1 : decide ((i : Int) < (S : Int)) = true := decide_eq_true (by omega)
      have d1' : decide (i < S) = true := decide_eq_true (by omega)
      obtain ⟨ty, hty⟩ : ∃ ty, s[i]'hi = ty := ⟨_, rfl⟩
      have hdT : T.drop i = ty.toNat :: T.drop (i + 1) := by
        have h := HT.out.1 i hi
        rw [hty] at h
        exact (List.drop_eq_getElem_cons (i := i) (by omega)).trans (by rw [(List.getElem?_eq_some_iff.1 h).2])
      have hi1 : (i : Int) < s.size := by omega
      have hi0 : (0 : Int) ≤ (i : Int) := by omega
      by_cases hin : n ≤ i
      · have d2 : decide ((n : Int) ≤ (i : Int)) = true := decide_eq_true (by omega)
        have d2' : decide (n ≤ i) = true := decide_eq_true (by omega)
        have hR0 : R = true := by rw [← hlt, hdT, List.drop_eq_nil_of_le (by omega : l.length ≤ i)]; rfl
        have HB := Lib.hid (And.intro hbx hR0)
        clear hbx hR0 hlt hR hif hlen hsl hdT hin
        go_wp2_with fail
        go_ret
        exact ⟨by first | (rw [HB.out.2]; rfl) | rw [HB.out.2], HB.out.1⟩
      · have d2 : decide ((n : Int) ≤ (i : Int)) = false := decide_eq_false (by omega)
        have d2' : decide (n ≤ i) = false := decide_eq_false (by omega)
        have hin' : (i : Int) < (n : Int) := by omega
        obtain ⟨b, off, u, rfl, hbB, hu, xu⟩ := (HR.out.on hbx).at_ (k := i) (by omega)
        obtain ⟨x, hx, rfl⟩ := u8_at hu
        have hdl : l.drop i = x :: l.drop (i + 1) := (List.drop_eq_getElem_cons (i := i) (by omega)).trans (by rw [(List.getElem?_eq_some_iff.1 hx).2])
        rw [hdl, hdT] at hlt
        by_cases hxy : x = ty.toNat
        · have e1 : ((x : Int) == (ty.toNat : Int)) = true := by rw [beq_iff_eq]; omega
          have e1' : ((x : Int) != (ty.toNat : Int)) = false := by unfold bne; rw [e1]; rfl
          have w1 : IntKind.i64.wrap ((i : Int) + 1) = ((i + 1 : Nat) : Int) := by have := IntWalk.i64_in ((i : Int) + 1) (by omega); rw [this]; omega
          have hlt2 : ltP (l.drop (i + 1)) (T.drop (i + 1)) = R := by
            rw [← hlt, ltP, show (x == ty.toNat) = true by rw [beq_iff_eq]; exact hxy]; rfl
          have HB := Lib.hid (And.intro hbx (And.intro hlt2 (show i + 1 + f = S by omega)))
          clear hbx hlt2 hlt hR hif hlen hsl hdl hdT hin hu hx hxy hbB
          go_upto_region 6 with fail
          go_quiet (fail)
          go_wp2_with fail
          go_roundg f
          case measure => exact Nat.lt_succ_self _
          case rel => exact ⟨i + 1, rfl, HB.out.2.2, HB.out.2.1, below_drewN HB.out.1 _⟩
        · have e1 : ((x : Int) == (ty.toNat : Int)) = false := by rw [beq_eq_false_iff_ne]; omega
          have e1' : ((x : Int) != (ty.toNat : Int)) = true := by unfold bne; rw [e1]; rfl
          obtain ⟨v, hv⟩ : ∃ v, decide (x < ty.toNat) = v := ⟨_, rfl⟩
          have e2 : decide ((x : Int) < (ty.toNat : Int)) = v := by rw [← hv]; exact decide_eq_decide.2 (by omega)
          have hlt2 : R = v := by
            rw [← hlt, ltP, show (x == ty.toNat) = false by rw [beq_eq_false_iff_ne]; exact hxy, ← hv]; rfl
          have HB := Lib.hid (And.intro hbx hlt2)
          clear hbx hlt2 hlt hR hif hlen hsl hdl hdT hin hu hx hxy hbB
          go_upto_region 6 with fail
          go_quiet (fail)
          go_upto_region 7 with fail
          go_quiet (fail)
          go_wp2_with fail
          go_ret
          exact ⟨by first | (rw [HB.out.2]; rfl) | rw [HB.out.2], below_drewN (below_drewN HB.out.1 _) _⟩
end Go.Proofs.YtjapgpmoojfhnaaGreatDoor

namespace Go.Proofs.YtjapgpmoojfhnaaGreatDoor
open Go.RowKit Go.Lib
theorem Fl.pre_le {N nd i j : Nat} (h : i ≤ j) : Fl.preN N nd i ≤ Fl.preN N nd j := by
  obtain ⟨z, rfl⟩ : ∃ z, j = i + z := ⟨j - i, by omega⟩
  exact Fl.pre_mono N nd i z
theorem Fl.int_pre (N nd : Nat) (dp : Int) (h : 0 ≤ dp) : Fl.intQ N nd dp = Fl.preN N nd dp.toNat := by
  unfold Fl.intQ Fl.preN
  rw [if_neg (by omega)]
  rcases Nat.lt_trichotomy dp.toNat nd with h1 | h1 | h1
  · rw [if_pos h1, if_pos (Nat.le_of_lt h1)]
  · rw [if_neg (by omega), if_pos (by omega), h1, Nat.sub_self, Nat.pow_zero, Nat.div_one, Nat.mul_one]
  · rw [if_neg (by omega), if_neg (by omega)]
set_option maxHeartbeats 4000000 in
set_option maxRecDepth 100000 in
theorem rint_any (X : Nat) (D : List Nat) (nd N : Nat) (dp : Int) (ng tr : Bool) (hnum : Fl.IsNum D nd N) (hn : nd ≤ 800) (hdp : dp ≤ 16) (hlo : -10000 ≤ dp) (hbig : Fl.rndN D N nd dp tr ≤ 9007199254740992) (w : World) (hX : DcAt w X D nd dp ng tr) :
    Calls Tryz.prog 215 #[.pointer (some ⟨X, 0, none⟩)] w fun x w' => x = .returned (.int .u64 (Fl.rndN D N nd dp tr : Nat)) ∧ w' = w := by
  have x0 := hX.c0
  have x1 := hX.c1
  have h48 : ∀ i, i < nd → 48 ≤ D.getD i 0 := fun i hi => by
    obtain ⟨c, _, hc, _⟩ := hnum.digit hi
    rw [List.getD_eq_getElem?_getD, hc]
    exact Nat.le_add_right _ _
  have hD : ∀ i, i < nd → D.getD i 0 < 256 := fun i hi => by
    obtain ⟨c, hc9, hc, _⟩ := hnum.digit hi
    rw [List.getD_eq_getElem?_getD, hc]
    show 48 + c < 256
    omega
  obtain ⟨d, hd⟩ : ∃ d : Nat, d = dp.toNat := ⟨_, rfl⟩
  obtain ⟨m1, hm1⟩ : ∃ m1 : Nat, m1 = min d nd := ⟨_, rfl⟩
  have hpre : ∀ i, i ≤ d → Fl.preN N nd i ≤ 9007199254740992 := fun i hi => by
    rcases Int.lt_or_le dp 0 with h0 | h0
    · obtain rfl : i = 0 := by omega
      rw [Fl.pre_zero hnum.1]
      exact Nat.zero_le _
    · have h1 := Fl.int_pre N nd dp h0
      rw [← hd] at h1
      have h2 : Fl.intQ N nd dp ≤ 9007199254740992 := Nat.le_trans (Nat.le_add_right _ _) hbig
      exact Nat.le_trans (Fl.pre_le hi) (by omega)
  have d20 : decide (20 < dp) = false := decide_eq_false (by omega)
  have HP := Lib.hid hpre
  have HN := Lib.hid hnum
  have H4 := Lib.hid h48
  have HB := Lib.hid hbig
  have HD := Lib.hid hD
  have HX := Lib.hid hX
  clear hpre hnum h48 hbig hD hX
  go_enter Tryz.func215, Tryz.ntmps215
  go_wp2_with fail
  go_loopg [3, 4] m1 (fun f t3 t4 wx => ∃ i : Nat, t3 = .int .i64 (i : Int) ∧ t4 = .int .u64 ((Fl.preN N nd i : Nat) : Int) ∧ i + f = m1 ∧ wx = w)
  case atStart => exact ⟨0, rfl, by rw [Fl.pre_zero HN.out.1]; rfl, by omega, rfl⟩
  case round =>
    obtain ⟨i, rfl, rfl, hif, rfl⟩ := hrel
    cases gk with
    | zero =>
      obtain ⟨R, hR⟩ : ∃ R, (decide (0 ≤ dp) && rupN D nd tr d) = R := ⟨_, rfl⟩
      have hcall : Calls Tryz.prog 221 #[.pointer (some ⟨X, 0, none⟩), .int .i64 dp] wr fun x w' => x = .returned (.bool R) ∧ w' = wr := by
        rcases Int.lt_or_le dp 0 with h0 | h0
        · rw [← hR, decide_eq_false (by omega : ¬ 0 ≤ dp), Bool.false_and]
          exact rup_neg X D nd dp dp ng tr (.inl h0) wr HX.out
        · have h1 := rup_any X D nd d dp ng tr hn HD.out H4.out wr HX.out
          rw [← hR, decide_eq_true h0, Bool.true_and]
          rwa [show ((d : Nat) : Int) = dp by omega] at h1
      have hfin : Fl.rndN D N nd dp tr = Fl.preN N nd d + (if R = true then 1 else 0) := by
        unfold Fl.rndN
        rcases Int.lt_or_le dp 0 with h0 | h0
        · rw [← hR, decide_eq_false (by omega : ¬ 0 ≤ dp), Bool.false_and, if_neg (fun h => by omega), if_neg (by decide), show d = 0 by omega, Fl.pre_zero HN.out.1]
          unfold Fl.intQ
          rw [if_pos h0]
        · rw [Fl.int_pre N nd dp h0, ← hd, ← hR, decide_eq_true h0, Bool.true_and]
          by_cases hr : rupN D nd tr d = true
          · rw [if_pos hr, if_pos ⟨h0, hr⟩]
          · rw [if_neg hr, if_neg (fun h => hr h.2)]
      have HC := Lib.hid hcall
      have HG := Lib.hid hfin
      have HL := Lib.hid (show (i < d → nd ≤ i) ∧ i ≤ d from ⟨fun h => by omega, by omega⟩)
      have HR := Lib.hid hR
      clear hcall hfin hR
      by_cases c1 : (i : Int) < dp
      · have e1 : decide ((i : Int) < dp) = true := decide_eq_true c1
        have e2 : decide ((i : Int) < (nd : Int)) = false := decide_eq_false (by omega)
        have e2' : decide (i < nd) = false := decide_eq_false (by omega)
        clear c1 hif
        go_wp2_with fail
        go_loopg [3, 4] (d - i) (fun f t3 t4 wx => ∃ y : Nat, t3 = .int .i64 (y : Int) ∧ t4 = .int .u64 ((Fl.preN N nd y : Nat) : Int) ∧ y + f = d ∧ i ≤ y ∧ wx = wr)
        case atStart => exact ⟨i, rfl, rfl, by have := HL.out.2; omega, Nat.le_refl _, rfl⟩
        case round =>
          obtain ⟨y, rfl, rfl, hyf, hiy, rfl⟩ := hrel
          cases gk with
          | zero =>
            have e5 : decide ((y : Int) < dp) = false := decide_eq_false (by omega)
            obtain rfl : y = d := by omega
            clear hyf hiy
            go_wp2_with fail
            refine (HC.out).mono ?_
            rintro e w1 ⟨rfl, rfl⟩
            have hp := HP.out y (Nat.le_refl _)
            obtain ⟨P, hP⟩ : ∃ P, Fl.preN N nd y = P := ⟨_, rfl⟩
            have hG := HG.out
            rw [hP] at hp hG ⊢
            have HG2 := Lib.hid hG
            have w1 : IntKind.u64.wrap ((P : Int) + 1) = ((P + 1 : Nat) : Int) := by rw [IntKind.wrap_u64]; omega
            clear hG hp hP
            cases R with
            | false =>
              go_wp2_with fail
              go_ret
              exact ⟨by rw [HG2.out]; rfl, rfl⟩
            | true =>
              go_wp2_with fail
              go_ret
              exact ⟨by rw [HG2.out]; rfl, rfl⟩
          | succ g =>
            have e5 : decide ((y : Int) < dp) = true := decide_eq_true (by omega)
            have hnx := Fl.pre_high (N := N) (n := nd) (t := y) (by have := HL.out.1; omega)
            have hp := HP.out (y + 1) (by omega)
            obtain ⟨P, hP⟩ : ∃ P, Fl.preN N nd y = P := ⟨_, rfl⟩
            rw [hP] at hnx ⊢
            rw [hnx] at hp
            have w1 : IntKind.i64.wrap ((y : Int) + 1) = ((y + 1 : Nat) : Int) := by have := IntWalk.i64_in ((y : Int) + 1) (by omega); rw [this]; omega
            have w2 : IntKind.u64.wrap ((P : Int) * 10) = ((10 * P : Nat) : Int) := by rw [IntKind.wrap_u64]; omega
            have w2' : IntKind.u64.wrap (10 * (P : Int)) = ((10 * P : Nat) : Int) := by rw [IntKind.wrap_u64]; omega
            have HF := Lib.hid (And.intro hnx (And.intro hyf (And.intro hp hiy)))
            clear hnx hyf hp hP hiy
            go_wp2_with fail
            go_roundg g
            case measure => exact Nat.lt_succ_self _
            case rel => exact ⟨y + 1, by first | rfl | rw [w1], by rw [HF.out.1]; congr 1, by have := HF.out.2.1; omega, by have := HF.out.2.2.2; omega, rfl⟩
      · have e1 : decide ((i : Int) < dp) = false := decide_eq_false c1
        clear c1 hif
        go_wp2_with fail
        go_loopg [3, 4] (d - i) (fun f t3 t4 wx => ∃ y : Nat, t3 = .int .i64 (y : Int) ∧ t4 = .int .u64 ((Fl.preN N nd y : Nat) : Int) ∧ y + f = d ∧ i ≤ y ∧ wx = wr)
        case atStart => exact ⟨i, rfl, rfl, by have := HL.out.2; omega, Nat.le_refl _, rfl⟩
        case round =>
          obtain ⟨y, rfl, rfl, hyf, hiy, rfl⟩ := hrel
          cases gk with
          | zero =>
            have e5 : decide ((y : Int) < dp) = false := decide_eq_false (by omega)
            obtain rfl : y = d := by omega
            clear hyf hiy
            go_wp2_with fail
            refine (HC.out).mono ?_
            rintro e w1 ⟨rfl, rfl⟩
            have hp := HP.out y (Nat.le_refl _)
            obtain ⟨P, hP⟩ : ∃ P, Fl.preN N nd y = P := ⟨_, rfl⟩
            have hG := HG.out
            rw [hP] at hp hG ⊢
            have HG2 := Lib.hid hG
            have w1 : IntKind.u64.wrap ((P : Int) + 1) = ((P + 1 : Nat) : Int) := by rw [IntKind.wrap_u64]; omega
            clear hG hp hP
            cases R with
            | false =>
              go_wp2_with fail
              go_ret
              exact ⟨by rw [HG2.out]; rfl, rfl⟩
            | true =>
              go_wp2_with fail
              go_ret
              exact ⟨by rw [HG2.out]; rfl, rfl⟩
          | succ g =>
            have e5 : decide ((y : Int) < dp) = true := decide_eq_true (by omega)
            have hnx := Fl.pre_high (N := N) (n := nd) (t := y) (by have := HL.out.1; omega)
            have hp := HP.out (y + 1) (by omega)
            obtain ⟨P, hP⟩ : ∃ P, Fl.preN N nd y = P := ⟨_, rfl⟩
            rw [hP] at hnx ⊢
            rw [hnx] at hp
            have w1 : IntKind.i64.wrap ((y : Int) + 1) = ((y + 1 : Nat) : Int) := by have := IntWalk.i64_in ((y : Int) + 1) (by omega); rw [this]; omega
            have w2 : IntKind.u64.wrap ((P : Int) * 10) = ((10 * P : Nat) : Int) := by rw [IntKind.wrap_u64]; omega
            have w2' : IntKind.u64.wrap (10 * (P : Int)) = ((10 * P : Nat) : Int) := by rw [IntKind.wrap_u64]; omega
            have HF := Lib.hid (And.intro hnx (And.intro hyf (And.intro hp hiy)))
            clear hnx hyf hp hP hiy
            go_wp2_with fail
            go_roundg g
            case measure => exact Nat.lt_succ_self _
            case rel => exact ⟨y + 1, by first | rfl | rw [w1], by rw [HF.out.1]; congr 1, by have := HF.out.2.1; omega, by have := HF.out.2.2.2; omega, rfl⟩
    | succ f =>
      have e1 : decide ((i : Int) < dp) = true := decide_eq_true (by omega)
      have e2 : decide ((i : Int) < (nd : Int)) = true := decide_eq_true (by omega)
      have e2' : decide (i < nd) = true := decide_eq_true (by omega)
      obtain ⟨c, hc, hb, hcc⟩ := HN.out.digit (i := i) (by omega)
      have xb := HX.out.byte hb
      have hp := HP.out i (by omega)
      have hnext := Fl.rs_take (N := N) (nd := nd) (r := i) (by omega) hcc
      obtain ⟨P, hP⟩ : ∃ P, Fl.preN N nd i = P := ⟨_, rfl⟩
      rw [hP] at hp hnext ⊢
      have i0 : (0 : Int) ≤ (i : Int) := by omega
      have i1 : (i : Int) < 800 := by omega
      have w1 : IntKind.i64.wrap ((i : Int) + 1) = ((i + 1 : Nat) : Int) := by have := IntWalk.i64_in ((i : Int) + 1) (by omega); rw [this]; omega
      have w2 : IntKind.u64.wrap ((P : Int) * 10) = ((10 * P : Nat) : Int) := by rw [IntKind.wrap_u64]; omega
      have w3 : IntKind.u8.wrap (((48 + c : Nat) : Int) - 48) = (c : Int) := by rw [IntKind.wrap_u8]; omega
      have w4 : IntKind.u64.wrap ((c : Int)) = (c : Int) := by rw [IntKind.wrap_u64]; omega
      have w5 : IntKind.u64.wrap (((10 * P : Nat) : Int) + (c : Int)) = ((10 * P + c : Nat) : Int) := by rw [IntKind.wrap_u64]; omega
      have HF := Lib.hid (And.intro hnext (And.intro hif (And.intro hp hc)))
      clear hnext hif hp hP hcc hb
      go_wp2_with fail
      go_roundg f
      case measure => exact Nat.lt_succ_self _
      case rel => exact ⟨i + 1, rfl, by rw [← HF.out.1]; congr 1; rw [IntKind.wrap_u64]; have := HF.out.2.2; omega, by have := HF.out.2.1; omega, rfl⟩
end Go.Proofs.YtjapgpmoojfhnaaGreatDoor
