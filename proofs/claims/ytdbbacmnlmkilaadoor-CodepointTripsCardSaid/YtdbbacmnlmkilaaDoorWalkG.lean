/- The contracts of the reference's 'Decode', 'Valid' and 'Extensible'. -/
import Derived.Test.YtdbbacmnlmkilaaDoorWalkF
namespace Go.Proofs.YtdbbacmnlmkilaaDoor
open Go.RowKit Go.Lib

/-- The place that is handed back: -1, or where no sequence begins. -/
def Cp.atI (l : List UInt8) : Int := if Cp.ok l = true then -1 else (Cp.used l : Int)
theorem Cp.atI_ok {l : List UInt8} (h : Cp.ok l = true) : Cp.atI l = -1 := by simp [Cp.atI, h]
theorem Cp.atI_bad {l : List UInt8} (h : Cp.ok l = false) : Cp.atI l = (Cp.used l : Int) := by simp [Cp.atI, h]
/-- The slice's length is at most its capacity. -/
def CapOk (v : Value) : Prop := ∀ A n c, v = .slice A n c → n ≤ c
theorem own_cap {w : World} {base : Nat} {e : TypeId} {v : Value} {n : Nat} {xs : List Value} (h : w.ownsRow base e 1 v n xs) : CapOk v := by
  intro A n' c hv
  rcases h.2 with ⟨rfl, _⟩ | ⟨g, cap, cur, rfl, _, _, hn, _⟩
  · cases hv; exact Nat.le_refl _
  · cases hv; exact hn
def DecPost (l : List UInt8) (w : World) (e : Ending) (w' : World) : Prop := ∃ v, e = .returned (.tuple #[v, .int .i64 (Cp.atI l)]) ∧ Hands w' v (Cp.runes (Cp.sc l)) ∧ CapOk v ∧ Below w.heap.size w w'

set_option maxHeartbeats 1000000 in
set_option maxRecDepth 100000 in
theorem refdec_any (s : ByteArray) (w : World) (hs : s.size ≤ 1073741824) : Calls Tryd.prog 11 #[.string s] w fun e w' => DecPost s.data.toList w e w' := by
  obtain ⟨i0, hi, hz0, hz1, hz2⟩ := info_parts info21
  have hlen : s.data.toList.length = s.size := Cp.len_data s
  have HL := Lib.hid hlen
  clear hlen
  go_enter Tryd.func11, Tryd.ntmps11
  go_wp2
  go_loopg [4, 5] s.size (fun g v i wx => ∃ (pos : Nat) (xs : List Nat), i = .int .i64 pos ∧ Below w.heap.size w wx ∧ wx.ownsRow w.heap.size 21 1 v xs.length (Cp.runes xs) ∧
    Cp.sc s.data.toList = xs ++ Cp.sc (s.data.toList.drop pos) ∧ Cp.used s.data.toList = pos + Cp.used (s.data.toList.drop pos) ∧ xs.length ≤ pos ∧ pos ≤ s.size ∧ s.size ≤ pos + g)
  case atStart => exact ⟨0, [], rfl, Below.refl _ _, World.ownsRow_nil _ _ _ _, by simp, by simp, by simp, by omega, by omega⟩
  case round =>
    obtain ⟨pos, xs, rfl, hbw, hown, hsc, hu, hxp, hps, hfu⟩ := hrel
    by_cases hp : pos < s.size
    · have hp' : (pos : Int) < s.size := by omega
      have hne : s.data.toList.drop pos ≠ [] := by
        intro h; have := congrArg List.length h; rw [List.length_drop, HL.out] at this; simp at this; omega
      have hle := Lib.decodeL_le _ hne
      rw [List.length_drop, HL.out] at hle
      have hr1 := decodeL_rune (s.data.toList.drop pos)
      have hwd := decodeL_width (s.data.toList.drop pos)
      have cA := at_any s pos wr hp hs
      rw [Cp.at1_eq _ hne] at cA
      cases hbd : Cp.bad (s.data.toList.drop pos) with
      | true =>
        rw [hbd, if_pos rfl] at cA
        have HF := Lib.hid (And.intro hsc (And.intro hu (And.intro hbd hne)))
        have CA := Lib.hid cA
        clear hsc hu hbd hne cA hr1 hwd hle
        go_wp2_with (go_at_call 22; go_fit (CA.out); rintro e w' ⟨rfl, hb⟩)
        go_ret2
        obtain ⟨h1, h2, h3, h4⟩ := HF.out
        rw [Cp.sc_bad h3, List.append_nil] at h1
        rw [Cp.used_bad h3] at h2
        have hok : Cp.ok s.data.toList = false := (Cp.ok_false _).2 (by rw [HL.out]; omega)
        refine ⟨u4, ?_, ?_, own_cap hown, hbw.trans (hb.mono hbw.size)⟩
        · rw [Cp.atI_bad hok, h2]; rfl
        · rw [h1]; exact (Hands.of_own hown).on hb
      | false =>
        have hsc2 := Cp.sc_ok hne hbd
        have hu2 := Cp.used_ok hne hbd
        rw [List.drop_drop] at hsc2 hu2
        rw [hbd, if_neg (by simp)] at cA
        obtain ⟨R, hR⟩ : ∃ R, (decodeL (s.data.toList.drop pos)).1 = R := ⟨_, rfl⟩
        obtain ⟨K, hK⟩ : ∃ K, (decodeL (s.data.toList.drop pos)).2 = K := ⟨_, rfl⟩
        rw [hR, hK] at cA
        rw [hR, hK] at hsc2
        rw [hK] at hu2 hle hwd
        rw [hR] at hr1
        have hk0 : ((K : Int) == 0) = false := by simp; omega
        have HF := Lib.hid (And.intro hsc (And.intro hu (And.intro hsc2 hu2)))
        have CA := Lib.hid cA
        clear hsc hu hbd hne cA hsc2 hu2 hR hK
        obtain ⟨g, rfl⟩ : ∃ g, gk = g + 1 := ⟨gk - 1, by omega⟩
        go_wp2_with (first
          | (go_at_call 22; go_fit (CA.out); rintro e w2 ⟨rfl, hb⟩; have hb2 : Below w.heap.size w w2 := hbw.trans (hb.mono hbw.size); have hown2 : w2.ownsRow w.heap.size 21 1 u4 xs.length (Cp.runes xs) := own_below hown hb)
          | (at_builtin; refine wpList_append_own _ rfl _ _ 23 rfl w.heap.size 21 i0 (.int .i32 0) 1 4 Tryd.underlying23 hi hz0 hz1 hz2 rfl (by decide) _ _ _ rfl (hown2.alloc _) ⟨w2.heap.size, 0, none⟩ 1 1 [.int .i32 (R : Int)] rfl rfl ?c1 ?c2 ?c3 ?c4 ?c5 ?_))
        case c1 =>
          intro j u hj
          match j, hj with
          | 0, hj => simp at hj; subst hj; simp [Addr.add]
        case c2 => intro u hu; simp at hu; subst hu; rfl
        case c3 => unfold maxLen; omega
        case c4 => omega
        case c5 => have := hb2.size; simp; omega
        intro v' w3 hown3 hgr3 _
        have hb3 : Below w.heap.size w w3 := (hb2.alloc hb2.size _).grown hgr3 (by have := hb2.size; simp; omega) (fun k hk => (hown2.lt k hk).1)
        clear hgr3 hown2
        go_wp2
        go_roundg g
        case measure => omega
        case rel =>
          obtain ⟨h1, h2, h3, h4⟩ := HF.out
          refine ⟨pos + K, xs ++ [R], by go_num, hb3, ?_, ?_, ?_, ?_, by omega, by omega⟩
          · rw [List.length_append, Cp.runes_snoc]; exact hown3
          · rw [h1, h3, List.append_assoc]; rfl
          · omega
          · simp; omega
    · have hp' : ¬ (pos : Int) < s.size := by omega
      have HF := Lib.hid (And.intro hsc hu)
      clear hsc hu
      go_wp2
      go_ret2
      obtain ⟨hsc, hu⟩ := HF.out
      rw [List.drop_of_length_le (by rw [HL.out]; omega), Cp.sc_nil, List.append_nil] at hsc
      rw [List.drop_of_length_le (by rw [HL.out]; omega), Cp.used_nil] at hu
      have hok : Cp.ok s.data.toList = true := (Cp.ok_iff _).2 (by rw [HL.out]; omega)
      refine ⟨u4, ?_, ?_, own_cap hown, hbw⟩
      · rw [Cp.atI_ok hok]; rfl
      · rw [hsc]; exact Hands.of_own hown

/-- The same, by cases. -/
theorem refdec_ok (s : ByteArray) (w : World) (hs : s.size ≤ 1073741824) (h : Cp.ok s.data.toList = true) :
    Calls Tryd.prog 11 #[.string s] w fun e w' => ∃ v, e = .returned (.tuple #[v, .int .i64 (-1)]) ∧ Hands w' v (Cp.runes (Cp.sc s.data.toList)) ∧ Below w.heap.size w w' :=
  (refdec_any s w hs).mono fun e w' ⟨v, h1, h2, _, h3⟩ => ⟨v, by rw [Cp.atI_ok h] at h1; exact h1, h2, h3⟩
theorem refdec_bad (s : ByteArray) (w : World) (hs : s.size ≤ 1073741824) (h : Cp.ok s.data.toList = false) :
    Calls Tryd.prog 11 #[.string s] w fun e w' => ∃ v, e = .returned (.tuple #[v, .int .i64 (Cp.used s.data.toList : Int)]) ∧ Hands w' v (Cp.runes (Cp.sc s.data.toList)) ∧ Below w.heap.size w w' :=
  (refdec_any s w hs).mono fun e w' ⟨v, h1, h2, _, h3⟩ => ⟨v, by rw [Cp.atI_bad h] at h1; exact h1, h2, h3⟩
theorem check_ok (s : ByteArray) (w : World) (hT : Utf8Tabs 0 1 w) (h : Cp.ok s.data.toList = true) :
    Calls Tryd.prog 12 #[.string s] w fun e w' => e = .returned (.tuple #[.int .i64 (-1), .int .i64 0]) ∧ Below w.heap.size w w' :=
  (check_any s w hT).mono fun e w' ⟨h1, hb⟩ => by
    rcases h1 with ⟨_, h2⟩ | ⟨h2, _⟩
    · exact ⟨h2, hb⟩
    · rw [h] at h2; cases h2
theorem check_bad (s : ByteArray) (w : World) (hT : Utf8Tabs 0 1 w) (h : Cp.ok s.data.toList = false) :
    Calls Tryd.prog 12 #[.string s] w fun e w' => e = .returned (.tuple #[.int .i64 (Cp.used s.data.toList : Int), .int .i64 11]) ∧ Below w.heap.size w w' :=
  (check_any s w hT).mono fun e w' ⟨h1, hb⟩ => by
    rcases h1 with ⟨h2, _⟩ | ⟨_, h2⟩
    · rw [h] at h2; cases h2
    · exact ⟨h2, hb⟩

set_option maxHeartbeats 1000000 in
set_option maxRecDepth 100000 in
theorem valid_any (s : ByteArray) (w : World) (hs : s.size ≤ 1073741824) : Calls Tryd.prog 18 #[.string s] w fun e w' => e = .returned (.bool (Cp.ok s.data.toList)) ∧ Below w.heap.size w w' := by
  cases h : Cp.ok s.data.toList with
  | true =>
    have C := Lib.hid (refdec_ok s w hs h)
    clear h
    go_enter Tryd.func18, Tryd.ntmps18
    go_wp2_with (go_at_call 11; refine (C.out).mono ?_; rintro e w' ⟨v, rfl, _, hb⟩)
    go_ret
    exact ⟨rfl, hb⟩
  | false =>
    have C := Lib.hid (refdec_bad s w hs h)
    clear h
    obtain ⟨u, hu⟩ : ∃ u, Cp.used s.data.toList = u := ⟨_, rfl⟩
    rw [hu] at C
    clear hu
    go_enter Tryd.func18, Tryd.ntmps18
    go_wp2_with (go_at_call 11; refine (C.out).mono ?_; rintro e w' ⟨v, rfl, _, hb⟩)
    go_ret
    exact ⟨rfl, hb⟩
end Go.Proofs.YtdbbacmnlmkilaaDoor
