/- binary.Of at canonical texts. binary.Of at nought. ref03's Of at canonical texts: the bytes of a text behind its sign. Rows of decimal digits, least significant first: their values and their order. ref03's size: rows of digits compared as numbers. ref03's minus: a row of digits less another. ref03's signed at a row without a sign. ref03's DivMod at numbers without a sign. The reference's Of at the text of an odd number with any exponent. The reference's Make at a number that is not nought. The law BinaryMakes returns true for every description and exponent. -/
import Derived.Test.YtjapgpmoojfhnaaGreatDoorB12
import Derived.Deep.RegionWith
namespace Go.Proofs.YtjapgpmoojfhnaaGreatDoor
open Go.RowKit Go.Lib

theorem ReadPre.sgn {s T : ByteArray} {g : Bool} (h : ReadPre s T g) : ∃ h0 : 0 < s.size, (((s[0]'h0).toNat : Int) == 45) = g := by
  have hp := h.pos
  by_cases h1 : 1 < s.size
  · exact ⟨by omega, h.head h1⟩
  · have hg : g = false := by
      cases g with
      | false => rfl
      | true => exact absurd (h.len rfl) h1
    subst hg
    obtain rfl := h.whole rfl
    refine ⟨hp, ?_⟩
    have h2 := (h.digs 0 hp).1
    rw [beq_eq_false_iff_ne]
    omega
end Go.Proofs.YtjapgpmoojfhnaaGreatDoor

namespace Go.Proofs.YtjapgpmoojfhnaaGreatDoor
open Go.RowKit Go.Lib

theorem readPre_zero : ReadPre ⟨#[48]⟩ ⟨#[48]⟩ false :=
  ⟨fun h => (by cases h), fun h => absurd h (by decide), fun h => (by cases h), fun _ => rfl, by decide, by decide,
    fun k h => by
      obtain rfl : k = 0 := by have : (⟨#[48]⟩ : ByteArray).size = 1 := rfl
                               omega
      exact ⟨by show 48 ≤ (48 : UInt8).toNat; decide, by show (48 : UInt8).toNat ≤ 57; decide⟩,
    fun _ _ => by decide⟩
end Go.Proofs.YtjapgpmoojfhnaaGreatDoor

namespace Go.Proofs.YtjapgpmoojfhnaaGreatDoor
open Go.RowKit Go.Lib

theorem ReadPre.size {s T : ByteArray} {g : Bool} (h : ReadPre s T g) : s.size = T.size + (if g = true then 1 else 0) := by
  cases g with
  | true =>
    have h1 := h.len rfl
    have h2 := h.cut rfl
    rw [← h2, ByteArray.size_extract]
    simp
    omega
  | false =>
    rw [h.whole rfl]
    rfl
theorem ReadPre.at_ {s T : ByteArray} {g : Bool} (h : ReadPre s T g) (j : Nat) (hj : j < T.size) : ∃ hi : s.size - 1 - j < s.size, (ldig T)[j]? = some ((s[s.size - 1 - j]'hi).toNat - 48) ∧ 48 ≤ (s[s.size - 1 - j]'hi).toNat ∧ (s[s.size - 1 - j]'hi).toNat ≤ 57 := by
  have hs := h.size
  have hi : s.size - 1 - j < s.size := by omega
  have ht : T.size - 1 - j < T.size := by omega
  have key : s[s.size - 1 - j]'hi = T[T.size - 1 - j]'ht := by
    have h1 := byte_at hi rfl
    have h2 := byte_at ht rfl
    cases g with
    | false =>
      obtain rfl := h.whole rfl
      rfl
    | true =>
      have h3 : T.data.toList = s.data.toList.drop 1 := by
        rw [← h.cut rfl]
        simp
        rw [List.take_of_length_le (by rw [List.length_tail, Array.length_toList]; exact Nat.le_refl _)]
      rw [h3, List.getElem?_drop, show 1 + (T.size - 1 - j) = s.size - 1 - j by rw [hs]; simp; omega] at h2
      exact Option.some.inj (h1.symm.trans h2)
  refine ⟨hi, ?_, ?_, ?_⟩
  · have hz : T.data.toList.length = T.size := (ba_size T).symm
    rw [ldig, List.getElem?_reverse (by rw [List.length_map, hz]; exact hj), List.length_map, hz, List.getElem?_map, byte_at ht rfl, key]
    rfl
  · rw [key]; exact (h.digs _ ht).1
  · rw [key]; exact (h.digs _ ht).2
theorem ReadPre.minus {s T : ByteArray} (h : ReadPre s T true) (h0 : 0 < s.size) : (s[0]'h0).toNat = 45 := by
  have := h.head (h.len rfl)
  have := eq_of_beq this
  omega
set_option maxHeartbeats 1000000 in
set_option maxRecDepth 100000 in
theorem trim85_any (A : Option Addr) (n c : Nat) (l : List Nat) (w : World) (hr : Reads w w.heap.size A n (u8s l)) (hc : n ≤ c) (hn : n ≤ 1073741824) : Calls Tryz.prog 85 #[.slice A n c] w fun x w' => (∃ m, Trimmed l n m ∧ x = .returned (.slice A m c)) ∧ w' = w := by
  go_enter Tryz.func85, Tryz.ntmps85
  go_wp2_with fail
  go_loopg [3] n (fun f i wx => ∃ m : Nat, i = .int .i64 (m : Int) ∧ m ≤ n ∧ m ≤ f ∧ wx = w ∧ ∀ j, m ≤ j → j < n → l[j]? = some 0)
  case atStart => exact ⟨n, rfl, by omega, by omega, rfl, fun j h1 h2 => by omega⟩
  case round =>
    obtain ⟨m, rfl, hm, hf, hww, hz⟩ := hrel
    subst hww
    have hmc : m ≤ c := by omega
    have hmci : (m : Int) ≤ (c : Int) := by omega
    by_cases h0 : m = 0
    · subst h0
      have HZ := Lib.hid hz
      clear hz
      cases A with
      | none =>
        go_wp2_with fail
        go_ret
        exact ⟨⟨0, ⟨by omega, .inl rfl, HZ.out⟩, rfl⟩, rfl⟩
      | some a =>
        go_wp2_with fail
        go_ret
        exact ⟨⟨0, ⟨by omega, .inl rfl, HZ.out⟩, rfl⟩, rfl⟩
    · obtain ⟨q, rfl⟩ : ∃ q, m = q + 1 := ⟨m - 1, by omega⟩
      obtain ⟨b, off, u, rfl, hbB, hu, hcell⟩ := hr.at_ (k := q) (by omega)
      obtain ⟨x, hx, rfl⟩ := u8_at hu
      have hin : (0 : Int) < ((q + 1 : Nat) : Int) := by omega
      have h2 : IntKind.i64.wrap (((q + 1 : Nat) : Int) - 1) = (q : Int) := by have := IntWalk.i64_in (((q + 1 : Nat) : Int) - 1) (by omega); rw [this]; omega
      have h4 : (0 : Int) ≤ (q : Int) := by omega
      have h5 : (q : Int) < (n : Int) := by omega
      by_cases hx0 : x = 0
      · have hx0f : ((x : Int) == 0) = true := by subst hx0; rfl
        obtain ⟨f, rfl⟩ : ∃ f, gk = f + 1 := ⟨gk - 1, by omega⟩
        have HX := Lib.hid (show ∀ j, q ≤ j → j < n → l[j]? = some 0 from fun j h1 h2 => by
          by_cases hj : j = q
          · rw [hj, hx, hx0]
          · exact hz j (by omega) h2)
        clear hx hu hz hx0
        go_wp2_with fail
        go_roundg f
        case measure => omega
        case rel => exact ⟨q, by go_num, by omega, by omega, rfl, HX.out⟩
      · have hx0f : ((x : Int) == 0) = false := by simp; omega
        have HX := Lib.hid (show Trimmed l n (q + 1) from ⟨hm, .inr ⟨x, hx, hx0⟩, hz⟩)
        clear hx0 hx hu hz
        go_wp2_with fail
        go_ret
        exact ⟨⟨q + 1, HX.out, rfl⟩, rfl⟩
set_option maxHeartbeats 4000000 in
set_option maxRecDepth 100000 in
theorem ref03of_any (s T : ByteArray) (g : Bool) (hp : ReadPre s T g) (w : World) : Calls Tryz.prog 40 #[.string s] w fun x w' => (∃ A m c, Trimmed (ldig T) T.size m ∧ m ≤ c ∧ Reads w' w'.heap.size A m (u8s ((ldig T).take m)) ∧ x = .returned (.agg #[.bool g, .slice A m c])) ∧ Below w.heap.size w w' := by
  obtain ⟨i0, hi, hz0, hz1, hz2⟩ := info_parts info5
  have HP := Lib.hid hp
  have hss := hp.size
  have hTl := hp.le
  have hTp := hp.pos
  obtain ⟨X, hX⟩ : ∃ X, w.heap.size = X := ⟨_, rfl⟩
  obtain ⟨w1, hw1⟩ : ∃ w1 : World, (w.alloc (.cells #[.bool false, .slice none 0 0] 33)).alloc (.cells #[.bool false, .slice none 0 0] 33) = w1 := ⟨_, rfl⟩
  have hb1 : Below X w w1 := by rw [← hw1, ← hX]; exact ((Below.refl _ _).alloc (Nat.le_refl _) _).alloc (by simp) _
  have hX1 : w1.heap[X]? = some (.cells #[.bool false, .slice none 0 0] 33 (0, 0)) := by
    rw [← hw1, ← hX]; exact (Below.heap_alloc _ _ _ (by simp)).trans (heap_alloc_new w _)
  have hY1 : w1.heap[X + 1]? = some (.cells #[.bool false, .slice none 0 0] 33 (0, 0)) := by
    rw [← hw1, ← hX]
    have := heap_alloc_new (w.alloc (.cells #[.bool false, .slice none 0 0] 33)) (.cells #[.bool false, .slice none 0 0] 33)
    simpa using this
  have hsz1 : w1.heap.size = X + 2 := by rw [← hw1, ← hX]; simp
  have HX := Lib.hid hX
  have HW1 := Lib.hid hw1
  have w0 : IntKind.i64.wrap ((s.size : Int) - 1) = (s.size : Int) - 1 := IntWalk.i64_in _ (by split at hss <;> omega)
  have hs1 : 1 ≤ s.size := by split at hss <;> omega
  have hs2 : s.size ≤ 401 := by split at hss <;> omega
  have HSS := Lib.hid hss
  clear hw1 hp hss
  go_enter Tryz.func40, Tryz.ntmps40
  go_upto_block 0 with fail
  rw [HW1.out]
  go_wp2_with fail
  go_loopg [4] s.size (fun f t4 wx => ∃ (j : Nat) (v : Value) (ng : Bool), t4 = .int .i64 ((f : Int) - 1) ∧ f ≤ s.size ∧ ((ng = false ∧ j + f = s.size ∧ j ≤ T.size) ∨ (ng = true ∧ g = true ∧ j = T.size ∧ f = 0)) ∧ wx.heap[X]? = some (.cells #[.bool false, .slice none 0 0] 33 (0, 0)) ∧ wx.heap[X + 1]? = some (.cells #[.bool ng, v] 33 (0, 0)) ∧ wx.ownsRow (X + 2) 5 1 v j (u8s ((ldig T).take j)) ∧ X + 2 ≤ wx.heap.size ∧ Below X w wx)
  case atStart => exact ⟨0, .slice none 0 0, false, rfl, Nat.le_refl _, .inl ⟨rfl, by omega, by omega⟩, hX1, hY1, World.ownsRow_nil _ _ _ _, by omega, hb1⟩
  case round =>
    obtain ⟨j, v, ng, rfl, hfs, hcase, hXx, hYx, hown, hsx, hbx⟩ := hrel
    have HXx := Lib.hid hXx
    have HYx := Lib.hid hYx
    have y0 := at_block hYx 0 _ rfl
    have y1 := at_block hYx 1 _ rfl
    have fy0 := free_block hYx 0
    have fy1 := free_block hYx 1
    have HSZ := HSS.out
    cases gk with
    | zero =>
      have hfin : ng = g ∧ j = T.size := by
        rcases hcase with ⟨h1, h2, h3⟩ | ⟨h1, h2, h3, _⟩
        · refine ⟨?_, ?_⟩
          · cases g with
            | false => exact h1
            | true => simp at HSZ; omega
          · split at HSZ <;> omega
        · exact ⟨by rw [h1, h2], h3⟩
      obtain ⟨rfl, rfl⟩ := hfin
      have c1 : decide ((0 : Int) ≤ ((0 : Nat) : Int) - 1) = false := by decide
      have c1b : decide ((0 : Int) ≤ -1) = false := by decide
      obtain ⟨A, cp, hv, hcp, hrd⟩ := own_slice hown
      have hld : (ldig T).length = T.size := by rw [ldig, List.length_reverse, List.length_map, ba_size]
      rw [List.take_of_length_le (Nat.le_of_eq hld)] at hrd hown
      subst hv
      have TR := Lib.hid (trim85_any A T.size cp (ldig T) wr hrd hcp (by omega))
      have HRD := Lib.hid (And.intro hrd hown)
      have x0 := at_block hXx 0 _ rfl
      have x1 := at_block hXx 1 _ rfl
      have fx0 := free_block hXx 0
      have fx1 := free_block hXx 1
      clear hXx hYx hrd hown hcase HSZ hld
      go_wp2_with fail
      refine (TR.out).mono ?_
      rintro x w7 ⟨⟨m, hm, rfl⟩, rfl⟩
      have HM := Lib.hid hm
      have hmle := hm.1
      clear hm
      go_wp2_with fail
      refine bodyPost_ret (v := .agg #[.bool ng, .slice A m cp]) (by simp [results, Tryz.results40, go_sem, x0, x1]) rfl ?_
      refine ⟨⟨A, m, cp, HM.out, by omega, ?_, rfl⟩, ?_⟩
      · have h1 := own_heap (w' := ((w7.setCell ⟨X + 1, 1, none⟩ (.slice A m cp)).setCell ⟨X, 0, none⟩ (.bool ng)).setCell ⟨X, 1, none⟩ (.slice A m cp)) HRD.out.2 (fun k hk1 _ => by
          rw [Below.heap_setCell _ _ _ _ (show k ≠ X by omega), Below.heap_setCell _ _ _ _ (show k ≠ X by omega), Below.heap_setCell _ _ _ _ (show k ≠ X + 1 by omega)])
        have h3 := (Reads.of_own h1).take m HM.out.1
        have e : (u8s (ldig T)).take m = u8s ((ldig T).take m) := by simp [u8s, List.map_take]
        rw [e] at h3
        exact h3
      · try rw [HX.out]
        exact ((hbx.setCell (p := ⟨X + 1, 1, none⟩) (by show X ≤ X + 1; omega) _).setCell (p := ⟨X, 0, none⟩) (Nat.le_refl _) _).setCell (p := ⟨X, 1, none⟩) (Nat.le_refl _) _
    | succ f =>
      have e8 : (((f + 1 : Nat) : Int) - 1) = (f : Int) := by omega
      rw [e8]
      rcases hcase with ⟨rfl, hjf, hjT⟩ | ⟨_, _, _, h0⟩
      · have c1 : decide ((0 : Int) ≤ (f : Int)) = true := decide_eq_true (by omega)
        have hf0 : (0 : Int) ≤ (f : Int) := by omega
        have hfi : (f : Int) < (s.size : Int) := by omega
        have hfn : f < s.size := by omega
        have g8 : IntKind.i64.wrap ((f : Int) - 1) = (f : Int) - 1 := IntWalk.i64_in _ (by omega)
        obtain ⟨d8, hd8⟩ : ∃ d : UInt8, s[f]'hfn = d := ⟨_, rfl⟩
        by_cases hjl : j < T.size
        · obtain ⟨hi2, a1, a2, a3⟩ := HP.out.at_ j hjl
          have hidx : s.size - 1 - j = f := by omega
          have hsf : s[s.size - 1 - j]'hi2 = d8 := by
            rw [← hd8]
            congr 1
          rw [hsf] at a1 a2 a3
          have d1 : ((d8.toNat : Int) == 45) = false := by rw [beq_eq_false_iff_ne]; omega
          have g6 : IntKind.u8.wrap ((d8.toNat : Int) - 48) = ((d8.toNat - 48 : Nat) : Int) := by rw [IntKind.wrap_u8]; omega
          obtain ⟨x, hx⟩ : ∃ x, d8.toNat - 48 = x := ⟨_, rfl⟩
          rw [hx] at a1 g6
          have HA1 := Lib.hid a1
          obtain ⟨V, hV⟩ : ∃ V, u8s ((ldig T).take j) = V := ⟨_, rfl⟩
          rw [hV] at hown
          have HV := Lib.hid hV
          have hsx2 := hsx
          clear hXx hYx HSZ a1 a2 a3 hx hV hsf hi2 hidx
          go_wp2_with fail
          have ya : ∀ o, (wr.alloc o).cell? ⟨X + 1, 1, none⟩ = some v := fun o => (World.cell?_alloc_lt wr o ⟨X + 1, 1, none⟩ (by show X + 1 < _; omega)).trans y1
          go_region_law
            ((refine step_append_any _ (by rfl) _ _ _ (by rfl) (X + 2) 5 i0 _ 1 Tryz.underlying31 hi hz0 hz1 hz2 rfl v j V (by rfl) ((hown.alloc _).drew)
                _ (some ⟨wr.heap.size, 0, none⟩) 1 1 [.int .u8 (x : Int)] (by rfl) (Reads.of_block (cs := [.int .u8 (x : Int)]) (t := 5) (fr := (0, 0)) (heap_alloc_new wr _)) (by simp [Value.oneCell'])
                (by unfold maxLen; omega) (by omega) (by simp; omega) ?_; intro v' w3 hown3 hgr3; obtain ⟨A', c', rfl⟩ := own_form hown3; have hb3' : Below (X + 2) wr w3 := (((Below.refl _ _).alloc hsx2 _).drew).grown hgr3 (by simp; omega) (fun k hk => (hown.lt k hk).1); have hY3 := (hb3'.block (X + 1) (by omega)).trans HYx.out; have z1 := at_block hY3 1 _ rfl; have g1 := free_block hY3 1; have HY3 := Lib.hid hY3; clear hY3))
          all_goals
            go_wp2_with fail
            go_roundg f
            case measure => omega
            case rel =>
              refine ⟨j + 1, .slice A' (j + 1) c', false, rfl, by omega, .inl ⟨rfl, by omega, by omega⟩, ?_, ?_, ?_, ?_, ?_⟩
              · rw [Below.heap_setCell _ _ _ _ (by show X ≠ X + 1; omega)]
                exact (hb3'.block X (by omega)).trans HXx.out
              · exact block_set HY3.out 1 _
              · have e : u8s ((ldig T).take (j + 1)) = V ++ [.int .u8 (x : Int)] := by
                  rw [List.take_add_one, HA1.out, ← HV.out]
                  simp [u8s]
                rw [e]
                exact own_heap hown3 (fun k hk1 _ => Below.heap_setCell _ _ _ _ (show k ≠ X + 1 by omega))
              · show _ ≤ (World.setCell _ _ _).heap.size
                simp [World.setCell]; exact Nat.le_trans hsx2 hb3'.size
              · exact (hbx.trans (hb3'.mono (by omega))).setCell (p := ⟨X + 1, 1, none⟩) (by show X ≤ X + 1; omega) _
        · have hg : g = true := by
            cases g with
            | true => rfl
            | false => simp at HSZ; omega
          subst hg
          simp at HSZ
          obtain rfl : f = 0 := by omega
          have h45 := HP.out.minus hfn
          rw [hd8] at h45
          have d1 : ((d8.toNat : Int) == 45) = true := by rw [h45]; rfl
          obtain rfl : j = T.size := by omega
          have HOW := Lib.hid hown
          obtain ⟨A, cp, rfl⟩ := own_form hown
          clear hXx hYx hown h45 HSZ hjf
          go_wp2_with fail
          go_roundg 0
          case measure => omega
          case rel =>
            refine ⟨T.size, .slice A T.size cp, true, rfl, by omega, .inr ⟨rfl, by simp, rfl, rfl⟩, ?_, ?_, ?_, ?_, ?_⟩
            · rw [Below.heap_setCell _ _ _ _ (show X ≠ X + 1 by omega)]; exact HXx.out
            · exact block_set HYx.out 0 _
            · exact own_heap HOW.out (fun k hk1 _ => by rw [Below.heap_setCell _ _ _ _ (show k ≠ X + 1 by omega)])
            · simp [World.setCell]; omega
            · exact hbx.setCell (p := ⟨X + 1, 0, none⟩) (by show X ≤ X + 1; omega) _
      · omega
end Go.Proofs.YtjapgpmoojfhnaaGreatDoor

namespace Go.Proofs.YtjapgpmoojfhnaaGreatDoor
open Go.RowKit Go.Lib

theorem digL_dv : ∀ {l : List Nat}, (∀ x ∈ l, x ≤ 9) → NoLead l → Fl.digL (dv l) = l
  | [], _, _ => by rw [dv, Fl.digL_zero]
  | d :: l, h, hn => by
    have h2 := h d (by simp)
    have h1 : ∀ x ∈ l, x ≤ 9 := fun x hx => h x (by simp [hx])
    have h4 := dv_pos hn (by simp)
    rw [Fl.digL_pos (by omega), dv, show (d + 10 * dv l) % 10 = d by omega, show (d + 10 * dv l) / 10 = dv l by omega]
    by_cases h0 : l = []
    · rw [h0, dv, Fl.digL_zero]
    · rw [digL_dv h1]
      right
      rcases hn with hn | ⟨e, h5, h6⟩
      · cases hn
      · refine ⟨e, ?_, h6⟩
        have hl : 0 < l.length := List.length_pos_iff.2 h0
        rw [List.length_cons, show l.length + 1 - 1 = (l.length - 1) + 1 by omega, List.getElem?_cons_succ] at h5
        exact h5
theorem digL_trim {l : List Nat} {n m : Nat} (hn : l.length = n) (hd : ∀ x ∈ l, x ≤ 9) (h : Trimmed l n m) : l.take m = Fl.digL (dv l) := by
  subst hn
  rw [← dv_trim h]
  exact (digL_dv (fun x hx => hd x (List.mem_of_mem_take hx)) (noLead_trim h)).symm
/-- The comparison of two numbers. -/
def cmpN (u v : Nat) : Int := if u < v then -1 else if u = v then 0 else 1
theorem cmpN_lt {u v : Nat} (h : u < v) : cmpN u v = -1 := if_pos h
theorem cmpN_eq (u : Nat) : cmpN u u = 0 := by unfold cmpN; rw [if_neg (by omega), if_pos rfl]
end Go.Proofs.YtjapgpmoojfhnaaGreatDoor

namespace Go.Proofs.YtjapgpmoojfhnaaGreatDoor
open Go.RowKit Go.Lib

end Go.Proofs.YtjapgpmoojfhnaaGreatDoor

namespace Go.Proofs.YtjapgpmoojfhnaaGreatDoor
open Go.RowKit Go.Lib

end Go.Proofs.YtjapgpmoojfhnaaGreatDoor

namespace Go.Proofs.YtjapgpmoojfhnaaGreatDoor
open Go.RowKit Go.Lib

end Go.Proofs.YtjapgpmoojfhnaaGreatDoor

namespace Go.Proofs.YtjapgpmoojfhnaaGreatDoor
open Go.RowKit Go.Lib

/-- What DivMod holds: its blocks and the quotient's row. -/
structure DivBlk (w : World) (X n n2 c c2 : Nat) (A B : Option Addr) (lc : List Nat) (wx : World) : Prop where
  ba : wx.heap[X]? = some (.cells #[.bool false, .slice A n c] 33 (0, 0))
  bb : wx.heap[X + 1]? = some (.cells #[.bool false, .slice B n2 c2] 33 (0, 0))
  r1 : wx.heap[X + 2]? = some (.cells #[.bool false, .slice none 0 0] 33 (0, 0))
  r2 : wx.heap[X + 3]? = some (.cells #[.bool false, .slice none 0 0] 33 (0, 0))
  q : wx.heap[X + 4]? = some (.cells (u8s lc).toArray 5 (0, 0))
  sz : X + 5 ≤ wx.heap.size
  bel : Below X w wx
theorem DivBlk.on {w : World} {X n n2 c c2 : Nat} {A B : Option Addr} {lc : List Nat} {wx wy : World} (h : DivBlk w X n n2 c c2 A B lc wx) (hb : Below wx.heap.size wx wy) : DivBlk w X n n2 c c2 A B lc wy := by
  obtain ⟨h1, h2, h3, h4, h5, h6, h7⟩ := h
  exact ⟨(hb.block X (by omega)).trans h1, (hb.block (X + 1) (by omega)).trans h2, (hb.block (X + 2) (by omega)).trans h3, (hb.block (X + 3) (by omega)).trans h4, (hb.block (X + 4) (by omega)).trans h5, by have := hb.size; omega, h7.trans (hb.mono (by omega))⟩
theorem DivBlk.drewN {w : World} {X n n2 c c2 : Nat} {A B : Option Addr} {lc : List Nat} {wx : World} (h : DivBlk w X n n2 c c2 A B lc wx) (k : Nat) : DivBlk w X n n2 c c2 A B lc (wx.drewN k) := h.on (below_drewN (Below.refl _ _) k)
theorem Reads.heap {w w' : World} {A : Option Addr} {n : Nat} {xs : List Value} (h : Reads w w.heap.size A n xs) (hs : w.heap.size ≤ w'.heap.size) (hk : ∀ b off, A = some ⟨b, off, none⟩ → b < w.heap.size → w'.heap[b]? = w.heap[b]?) : Reads w' w'.heap.size A n xs := by
  refine ⟨h.1, fun hn => ?_⟩
  obtain ⟨b, off, e, hb, hc⟩ := h.2 hn
  refine ⟨b, off, e, by omega, fun j u hu => ?_⟩
  have h1 := hc j u hu
  simp only [World.cell?, hk b off e hb] at h1 ⊢
  exact h1
/-- What has turned since the end's begin: the two results' boxes alone. -/
structure DEnd (wr : World) (X : Nat) (W : World) : Prop where
  sz : wr.heap.size ≤ W.heap.size
  keep : ∀ k, k < wr.heap.size → k ≠ X + 2 → k ≠ X + 3 → W.heap[k]? = wr.heap[k]?
  low : X ≤ wr.heap.size
  bel : Below X wr W
section
variable {wr W W' : World} {X : Nat}
theorem DEnd.on (h : DEnd wr X W) (hb : Below W.heap.size W W') : DEnd wr X W' := by
  obtain ⟨h1, h2, h3, h4⟩ := h
  exact ⟨by have := hb.size; omega, fun k k1 k2 k3 => (hb.block k (by omega)).trans (h2 k k1 k2 k3), h3, h4.trans (hb.mono (by omega))⟩
theorem DEnd.drew (h : DEnd wr X W) : DEnd wr X W.drew := ⟨h.1, h.2, h.3, h.4.drew⟩
theorem DEnd.set (h : DEnd wr X W) (k i : Nat) (hk : k = X + 2 ∨ k = X + 3) (v : Value) : DEnd wr X (W.setCell ⟨k, i, none⟩ v) :=
  ⟨by simp [World.setCell]; exact h.1, fun j h1 h2 h3 => by rw [Below.heap_setCell _ _ _ _ (show j ≠ k by omega)]; exact h.2 j h1 h2 h3, h.3, h.4.setCell (p := ⟨k, i, none⟩) (by show X ≤ k; omega) _⟩
theorem DEnd.set2 {i : Nat} {v : Value} (h : DEnd wr X W) : DEnd wr X (W.setCell ⟨X + 1 + 1, i, none⟩ v) := h.set _ _ (by omega) _
theorem DEnd.set3 {i : Nat} {v : Value} (h : DEnd wr X W) : DEnd wr X (W.setCell ⟨X + 1 + 1 + 1, i, none⟩ v) := h.set _ _ (by omega) _
end
end Go.Proofs.YtjapgpmoojfhnaaGreatDoor

namespace Go.Proofs.YtjapgpmoojfhnaaGreatDoor
open Go.RowKit Go.Lib

end Go.Proofs.YtjapgpmoojfhnaaGreatDoor

namespace Go.Proofs.YtjapgpmoojfhnaaGreatDoor
open Go.RowKit Go.Lib

/-- What Make holds. -/
structure MkBlk (w : World) (X T : Nat) (g : Bool) (A : Option Addr) (n c : Nat) (B : Option Addr) (c2 : Nat) (Ad : Option Addr) (m cd : Nat) (wx : World) : Prop where
  ba : wx.heap[X]? = some (.cells #[.bool g, .slice A n c] 33 (0, 0))
  bf : wx.heap[X + 1]? = some (.cells #[.int .i64 0, .bool false, .int .u64 0, .int .i64 0] 24 (0, 0))
  bd : wx.heap[X + 2]? = some (.cells #[.bool false, .slice Ad m cd] 33 (0, 0))
  bt : wx.heap[T]? = some (.cells #[.bool false, .slice B 1 c2] 33 (0, 0))
  rt : Reads wx wx.heap.size B 1 (u8s [2])
  low : X + 3 ≤ T
  sz : T + 1 ≤ wx.heap.size
  bel : Below X w wx
theorem MkBlk.on {w : World} {X T : Nat} {g : Bool} {A : Option Addr} {n c : Nat} {B : Option Addr} {c2 : Nat} {Ad : Option Addr} {m cd : Nat} {wx wy : World} (h : MkBlk w X T g A n c B c2 Ad m cd wx) (hb : Below wx.heap.size wx wy) : MkBlk w X T g A n c B c2 Ad m cd wy := by
  obtain ⟨h1, h2, h3, h4, h5, h6, h7, h8⟩ := h
  exact ⟨(hb.block X (by omega)).trans h1, (hb.block (X + 1) (by omega)).trans h2, (hb.block (X + 2) (by omega)).trans h3, (hb.block T (by omega)).trans h4, h5.on hb, h6, by have := hb.size; omega, h8.trans (hb.mono (by omega))⟩
theorem MkBlk.set {w : World} {X T : Nat} {g : Bool} {A : Option Addr} {n c : Nat} {B : Option Addr} {c2 : Nat} {Ad : Option Addr} {m cd : Nat} {wx : World} (h : MkBlk w X T g A n c B c2 Ad m cd wx) (hB : ∀ b off, B = some ⟨b, off, none⟩ → b ≠ X + 2) (Q : Option Addr) (mq cq : Nat) :
    MkBlk w X T g A n c B c2 Q mq cq ((wx.setCell ⟨X + 2, 0, none⟩ (.bool false)).setCell ⟨X + 2, 1, none⟩ (.slice Q mq cq)) := by
  obtain ⟨h1, h2, h3, h4, h5, h6, h7, h8⟩ := h
  refine ⟨?_, ?_, block_set (block_set h3 0 _) 1 _, ?_, ?_, h6, by simp [World.setCell]; exact h7, (h8.setCell (p := ⟨X + 2, 0, none⟩) (by show X ≤ X + 2; omega) _).setCell (p := ⟨X + 2, 1, none⟩) (by show X ≤ X + 2; omega) _⟩
  · rw [Below.heap_setCell _ _ _ _ (show X ≠ X + 2 by omega), Below.heap_setCell _ _ _ _ (show X ≠ X + 2 by omega)]; exact h1
  · rw [Below.heap_setCell _ _ _ _ (show X + 1 ≠ X + 2 by omega), Below.heap_setCell _ _ _ _ (show X + 1 ≠ X + 2 by omega)]; exact h2
  · rw [Below.heap_setCell _ _ _ _ (show T ≠ X + 2 by omega), Below.heap_setCell _ _ _ _ (show T ≠ X + 2 by omega)]; exact h4
  · exact ((h5.setOther (p := ⟨X + 2, 0, none⟩) hB _).setOther (p := ⟨X + 2, 1, none⟩) hB _).more (by simp [World.setCell])
end Go.Proofs.YtjapgpmoojfhnaaGreatDoor

namespace Go.Proofs.YtjapgpmoojfhnaaGreatDoor
open Go.RowKit Go.Lib

theorem digT_toNat {T : List Nat} (h : GoodT T) : ∀ x ∈ T, (UInt8.ofNat x).toNat = x := fun x hx => by
  have := h.1 x hx
  simp
  omega
theorem readPre_text {T : List Nat} (hT : GoodT T) (h0 : T ≠ []) (hl : T.length ≤ 400) (g : Bool) : ReadPre (if g = true then ⟨((45 :: T.map UInt8.ofNat) : List UInt8).toArray⟩ else ⟨(T.map UInt8.ofNat).toArray⟩) ⟨(T.map UInt8.ofNat).toArray⟩ g := by
  have hsz : (⟨(T.map UInt8.ofNat).toArray⟩ : ByteArray).size = T.length := by rw [ba_size]; simp
  have hpos : 0 < T.length := List.length_pos_iff.2 h0
  have hget : ∀ k (h : k < (⟨(T.map UInt8.ofNat).toArray⟩ : ByteArray).size), ∃ x, T[k]? = some x ∧ ((⟨(T.map UInt8.ofNat).toArray⟩ : ByteArray)[k]'h).toNat = x := fun k h => by
    have hk : k < T.length := by omega
    refine ⟨T[k], List.getElem?_eq_getElem hk, ?_⟩
    have e : (⟨(T.map UInt8.ofNat).toArray⟩ : ByteArray)[k]'h = UInt8.ofNat T[k] := by
      show (T.map UInt8.ofNat).toArray[k]'_ = _
      simp
    rw [e]
    exact digT_toNat hT _ (List.getElem_mem hk)
  have hdig : ∀ k (h : k < (⟨(T.map UInt8.ofNat).toArray⟩ : ByteArray).size), 48 ≤ ((⟨(T.map UInt8.ofNat).toArray⟩ : ByteArray)[k]'h).toNat ∧ ((⟨(T.map UInt8.ofNat).toArray⟩ : ByteArray)[k]'h).toNat ≤ 57 := fun k h => by
    obtain ⟨x, hx, e⟩ := hget k h
    rw [e]
    exact hT.1 x (List.mem_of_getElem? hx)
  have hone : ∀ h : 0 < (⟨(T.map UInt8.ofNat).toArray⟩ : ByteArray).size, ((((⟨(T.map UInt8.ofNat).toArray⟩ : ByteArray)[0]'h).toNat : Int) == 48) = true → False := fun h he => by
    obtain ⟨x, hx, e⟩ := hget 0 h
    rw [e] at he
    have h48 : (x : Int) = 48 := eq_of_beq he
    refine hT.2 ?_
    cases T with
    | nil => simp at hpos
    | cons t T => simp at hx ⊢; omega
  cases g with
  | true =>
    refine ⟨fun _ => ?_, fun h => ?_, fun _ => ?_, fun h => (by cases h), by omega, by omega, hdig, fun h he => (hone h he).elim⟩
    · show 1 < (⟨((45 :: T.map UInt8.ofNat) : List UInt8).toArray⟩ : ByteArray).size
      rw [ba_size]; simp; omega
    · rfl
    · apply ba_ext
      show ((⟨((45 :: T.map UInt8.ofNat) : List UInt8).toArray⟩ : ByteArray).extract 1 _).data.toList = _
      simp
      exact List.take_of_length_le (by rw [ba_size]; simp)
  | false =>
    refine ⟨fun h => (by cases h), fun h => ?_, fun h => (by cases h), fun _ => rfl, by omega, by omega, hdig, fun h he => (hone h he).elim⟩
    show ((((⟨(T.map UInt8.ofNat).toArray⟩ : ByteArray)[0]'(by omega)).toNat : Int) == 45) = false
    have := (hdig 0 (by omega)).1
    rw [beq_eq_false_iff_ne]
    omega
theorem ldig_text {T : List Nat} (hT : GoodT T) : ldig ⟨(T.map UInt8.ofNat).toArray⟩ = (T.map fun x => x - 48).reverse := by
  unfold ldig
  congr 1
  show ((T.map UInt8.ofNat).toArray.toList).map _ = _
  simp
  intro x hx
  have := digT_toNat hT x hx
  simp at this
  omega
theorem ldig_nine {T : List Nat} (hT : GoodT T) : ∀ x ∈ ldig ⟨(T.map UInt8.ofNat).toArray⟩, x ≤ 9 := fun x hx => by
  rw [ldig_text hT, List.mem_reverse, List.mem_map] at hx
  obtain ⟨y, hy, rfl⟩ := hx
  have := hT.1 y hy
  omega
/-- What the law meets where Of returns a float. -/
structure MkOk (t fs mm : ByteArray) (gg : Bool) (cc : Nat) (e E : Int) : Prop where
  o1 : ∀ W, Laid W → Calls Tryz.prog 38 #[.string t, .int .i64 e] W fun x w' => x = .returned (.tuple #[.string fs, .int .i64 0]) ∧ Below W.heap.size W w'
  o2 : ∀ W, Calls Tryz.prog 40 #[.string t] W fun x w' => ∃ v, x = .returned v ∧ Below W.heap.size W w' ∧ Calls Tryz.prog 39 #[v, .int .i64 e] w' fun y w'' => y = .returned (.tuple #[.agg #[.int .i64 0, .bool gg, .int .u64 (cc : Int), .int .i64 E], .bool true]) ∧ Below w'.heap.size w' w''
  o3 : ∀ W, Laid W → Calls Tryz.prog 35 #[.string fs] W fun x w' => x = .returned (.tuple #[.string mm, .int .i64 E, .int .i64 0]) ∧ Below W.heap.size W w'
  o4 : ∀ W, Calls Tryz.prog 15 #[.agg #[.int .i64 0, .bool gg, .int .u64 (cc : Int), .int .i64 E]] W fun x w' => x = .returned (.string fs) ∧ Below W.heap.size W w'
  o5 : ∀ W, Calls Tryz.prog 15 #[.agg #[.int .i64 0, .bool gg, .int .u64 (cc : Int), .int .i64 0]] W fun x w' => x = .returned (.string (mm ++ ⟨#[112, 48]⟩)) ∧ Below W.heap.size W w'
  o6 : ∀ W, Laid W → Calls Tryz.prog 34 #[.string fs] W fun x w' => x = .returned (.bool true) ∧ Below W.heap.size W w'
  sz : mm.size ≤ 300
/-- .. and where it returns an error. -/
structure MkBad (t : ByteArray) (e : Int) : Prop where
  b1 : ∀ W, Laid W → Calls Tryz.prog 38 #[.string t, .int .i64 e] W fun x w' => x = .returned (.tuple #[.string ⟨#[]⟩, .int .i64 2]) ∧ Below W.heap.size W w'
  b2 : ∀ W, Calls Tryz.prog 40 #[.string t] W fun x w' => ∃ v, x = .returned v ∧ Below W.heap.size W w' ∧ Calls Tryz.prog 39 #[v, .int .i64 e] w' fun y w'' => (∃ (K : Int) (n : Bool) (m E : Int), y = .returned (.tuple #[.agg #[.int .i64 K, .bool n, .int .u64 m, .int .i64 E], .bool false])) ∧ Below w'.heap.size w' w''
end Go.Proofs.YtjapgpmoojfhnaaGreatDoor
