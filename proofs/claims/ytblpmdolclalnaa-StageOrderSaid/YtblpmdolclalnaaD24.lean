/- Goroutine 0 alone: calls of Map[int,int] and of Chain[int] with the functions function(c) and a list's iterator. Made by gen_laf.py. -/
import Derived.Test.YtblpmdolclalnaaD23
namespace Go.Proofs.Ytblpmdolclalnaa
open Go.Conc
open Go.ConcN (WgLive)

section
variable {Shun : Nat → Prop} {w w₁ : World} {b₀ : Frame} {a₀ : Act} {ops₀ : Array Oper} {i₀ : Nat} {rest₀ : List Nat} {k₀ : List Item} {cs : List Frame} {fa : Option Addr} {cap kb kl K : Nat} {ns : List Int} {c : Int}
theorem boxA_firm {own : Nat → Prop} {Got : Cells} {Rd : Nat → Prop} {Wg : Nat} (h : Rd kb) : Firm own Got Rd Wg (BoxA kb c) := fun _w _w₁ r hb => (r.cell kb 0 (cell_lt hb) (.inr (.inr h))).trans hb
theorem s66_of {S : Nat → Prop} {Wg : Nat} (h66 : S66 Shun w) (ho : Out w.heap.size w (fun b _ => Shun b) w₁) (hl : WgLive 66 Wg w₁) (hs : ∀ b, S b → Shun b ∨ b = Wg) : S66 S w₁ := fun b hb => by
  rcases hs b hb with x | rfl
  · obtain ⟨cs, hc⟩ := h66 b x
    obtain ⟨c', hc', _⟩ := ho.form b cs 66 (0, 0) (h66.lt x) hc
    exact ⟨c', hc'⟩
  · obtain ⟨st, sm, hl⟩ := hl
    exact ⟨_, hl⟩
/-- The data of a call of Map. -/
def mapM (Shun : Nat → Prop) (w : World) (cs : List Frame) (K kb kl : Nat) (c : Int) (ns : List Int) : MpM where
  q := { K := K, n := ns.length, c0 := w.heap.size + 1, Wg := w.heap.size + 3, nfuel := 80, fv := fnV kb, phi := applyP c, Xf := BoxA kb c, Sx := fun b => b = kb }
  cs := cs
  Shun := Shun
  n0 := w.heap.size
  w0 := w
  inV := seqV kl
  xs := ints ns
  e8 := w.heap.size + 2
  e4 := w.heap.size
theorem mapM_ok (hc : 0 ≤ c ∧ c < 256) (hK1 : 0 < K) (hK : K ≤ 16) (hn : ns.length ≤ 900000) (hf : Cel Shun kb (.int .u8 c) w) (hi : Cel Shun kl (.slice fa ns.length cap) w) (hL : Ls Shun fa (ints ns) w) : MpMOK (mapM Shun w cs K kb kl c ns) where
  q := ⟨⟨fun w h b e => by subst e; exact cell_lt h, fun w b o v hb h => (cell?_eq (setCell_ne (fun e : kb = b => hb (show b = kb from e.symm))) 0).trans h⟩, fun own Got Rd hs => boxA_firm (hs _ rfl), fun own Got Rd n hs => call30P (hs _ rfl) hc⟩
  few := hK
  one := hK1
  wg := Nat.le_add_right _ _
  c0 := Nat.le_add_right _ _
  e8 := Nat.le_add_right _ _
  e4 := Nat.le_refl _
  sx b hb := by
    have hb' : b = kb := hb
    subst hb'
    exact ⟨cell_lt hf.2, hf.1⟩
  x0 w' h := (h kb 0 rfl).trans hf.2
  it := ⟨kl, fa, cap, rfl, ⟨cell_lt hi.2, hi.1⟩, by show w.cell? _ = _; rw [hi.2]; simp [mapM], fun i v hv => by
    obtain ⟨bl, o, h1, h2, h3⟩ := hL i v hv
    exact ⟨bl, o, h1, cell_lt h3, h2, h3⟩⟩
  xs := ⟨by simp [mapM], hn, fun v hv => by
    obtain ⟨n, _, rfl⟩ := List.mem_map.1 hv
    exact ⟨n, rfl⟩⟩
/-- A slice that a call made. -/
def Got (w' : World) (v : Value) (ys : List Int) : Prop := ∃ fa cap, v = .slice fa ys.length cap ∧ w'.ownsRow 0 3 1 (.slice fa ys.length cap) ys.length (ints ys)
theorem got_of {w' : World} {v : Value} {ys : List Int} (hr : w'.ownsRow 0 3 1 v ys.length (ints ys)) : Got w' v ys := by
  rcases hr.2 with ⟨e, h0⟩ | ⟨g, c, cur, e, _⟩
  · refine ⟨none, 0, by rw [h0]; exact e, ?_⟩
    rw [e] at hr
    rw [show Value.slice none ys.length 0 = .slice none 0 0 by rw [h0]]
    exact hr
  · exact ⟨_, c, e, by rw [← e]; exact hr⟩
/-- A CALL OF Map, as the laws make it. -/
theorem map_law (h66 : S66 Shun w) (hc : 0 ≤ c ∧ c < 256) (hK1 : 0 < K) (hK : K ≤ 16) (hn : ns.length ≤ 900000) (hf : Cel Shun kb (.int .u8 c) w) (hi : Cel Shun kl (.slice fa ns.length cap) w) (hL : Ls Shun fa (ints ns) w) :
    Lone Try.prog w.heap.size (fun S g w' => Keep Shun w S w' ∧ ∃ v, Got w' v (ns.map (applyP c)) ∧ g = G (b₀.at (a₀.put ((ops₀[i₀]?).bind (·.dst)) (.tuple #[v, .int .i64 0])) (.inRegion ops₀ rest₀ :: k₀)) cs) Shun
      (G ((base 11).at ⟨#[.int .i64 K, fnV kb, seqV kl, undef, undef, undef, undef, undef, undef, undef, undef, undef, undef, undef, undef, undef, undef, undef, undef, undef, undef, undef, undef, undef, undef, undef, undef, undef, undef, undef, undef, undef, undef, undef, undef, undef, undef, undef, undef, undef, undef, undef, undef, undef, undef, undef, undef, undef, undef, undef, undef, undef, undef, undef, undef, undef, undef, undef, undef, undef, undef, undef, undef, undef], []⟩ [.code bodyM]) (b₀.at a₀ (.inRegion ops₀ (i₀ :: rest₀) :: k₀) :: cs)) w := by
  have hm := mapM_ok (cs := (b₀.at a₀ (.inRegion ops₀ (i₀ :: rest₀) :: k₀) :: cs)) hc hK1 hK hn hf hi hL
  refine (map_call hm rfl rfl rfl rfl rfl rfl (fun b hb => h66.lt hb) rfl).imp fun S g w' _ h => ?_
  obtain ⟨hS, v, hR, rfl⟩ := h
  have ho : Out w.heap.size w (fun b _ => Shun b) w' := hR.out
  refine ⟨⟨fun b hb => (hS b hb).imp id fun e => by rw [e]; show w.heap.size ≤ w.heap.size + 3; omega, ho, s66_of h66 ho hR.live hS⟩, v, got_of ?_, rfl⟩
  have hrow := hR.row
  have e1 : (mapM Shun w (b₀.at a₀ (.inRegion ops₀ (i₀ :: rest₀) :: k₀) :: cs) K kb kl c ns).xs.length = (ns.map (applyP c)).length := by simp [mapM]
  have e2 : (mapM Shun w (b₀.at a₀ (.inRegion ops₀ (i₀ :: rest₀) :: k₀) :: cs) K kb kl c ns).xs.map (mapV (mapM Shun w (b₀.at a₀ (.inRegion ops₀ (i₀ :: rest₀) :: k₀) :: cs) K kb kl c ns).q.phi) = ints (ns.map (applyP c)) := by simp [mapM, mapV, Function.comp_def]
  rw [e1, e2] at hrow
  exact hrow
/-- A call of Map that is refused for the number of its workers. -/
theorem map_few (h66 : S66 Shun w) {k : Int} {inV : Value} (hk : k < 1 ∨ 16 < k) :
    Lone Try.prog w.heap.size (fun S g w' => Keep Shun w S w' ∧ g = G (b₀.at (a₀.put ((ops₀[i₀]?).bind (·.dst)) (.tuple #[.slice none 0 0, .int .i64 1])) (.inRegion ops₀ rest₀ :: k₀)) cs) Shun
      (G ((base 11).at ⟨#[.int .i64 k, fnV kb, inV, undef, undef, undef, undef, undef, undef, undef, undef, undef, undef, undef, undef, undef, undef, undef, undef, undef, undef, undef, undef, undef, undef, undef, undef, undef, undef, undef, undef, undef, undef, undef, undef, undef, undef, undef, undef, undef, undef, undef, undef, undef, undef, undef, undef, undef, undef, undef, undef, undef, undef, undef, undef, undef, undef, undef, undef, undef, undef, undef, undef, undef], []⟩ [.code bodyM]) (b₀.at a₀ (.inRegion ops₀ (i₀ :: rest₀) :: k₀) :: cs)) w := by
  have hfr : Fresh w.heap.size w (fun b _ => Shun b) [] w := ⟨Out.refl (Nat.le_refl _), by simp, fun i o h => by simp at h⟩
  refine Lone.goes (n := 60) (mp_size (fun b hb => h66.lt hb) hk hfr fun w' hF => ⟨⟨fun _ => .inl, hF.out, fun b hb => ?_⟩, rfl⟩)
  obtain ⟨cs, hc⟩ := h66 b hb
  obtain ⟨c', hc', _⟩ := hF.out.form b cs 66 (0, 0) (h66.lt hb) hc
  exact ⟨c', hc'⟩

/-! ### Chain -/
variable {codes : List Int} {kf : Nat → Nat} {ff : Option Addr} {capf : Nat}
def chainM (Shun : Nat → Prop) (w : World) (cs : List Frame) (kl : Nat) (kf : Nat → Nat) (codes ns : List Int) (fsV : Value) : ChM where
  q := { nf := codes.length, n := ns.length, c0 := w.heap.size + 1, Wg := w.heap.size, nfuel := 80, fv := fun s => fnV (kf s), phi := fun s => applyP (codes.getD s 0), X := fun _ _ _ s _ w => s < codes.length ∧ BoxA (kf s) (codes.getD s 0) w, need := fun _ _ Rd s => s < codes.length → Rd (kf s) }
  cs := cs
  Shun := Shun
  n0 := w.heap.size
  w0 := w
  inV := seqV kl
  fsV := fsV
  gv := fun _ _ _ => False
  rdx := fun s b => s < codes.length ∧ b = kf s
  xs := ints ns
/-- The functions in their slice. -/
def FnsAt (Shun : Nat → Prop) (ff : Option Addr) (kf : Nat → Nat) (n : Nat) (w : World) : Prop := ∀ s, s < n → ∃ bf o, ff = some ⟨bf, o, none⟩ ∧ ¬ Shun bf ∧ w.cell? ⟨bf, o + s, none⟩ = some (fnV (kf s))
theorem codes_at {codes : List Int} (hc : ∀ c ∈ codes, 0 ≤ c ∧ c < 256) {s : Nat} (hs : s < codes.length) : 0 ≤ codes.getD s 0 ∧ codes.getD s 0 < 256 := by
  rw [List.getD_eq_getElem?_getD, List.getElem?_eq_getElem hs]
  exact hc _ (List.getElem_mem hs)
theorem chainM_ok (hc : ∀ c ∈ codes, 0 ≤ c ∧ c < 256) (hK : codes.length ≤ 16) (hn : ns.length ≤ 900000) (hf : ∀ s, s < codes.length → Cel Shun (kf s) (.int .u8 (codes.getD s 0)) w) (hfs : FnsAt Shun ff kf codes.length w) (hi : Cel Shun kl (.slice fa ns.length cap) w) (hL : Ls Shun fa (ints ns) w) : ChMOK (chainM Shun w cs kl kf codes ns (.slice ff codes.length capf)) where
  q := {
    held := fun _ => .inr ⟨_, _, _, rfl⟩
    small := hn
    firm := fun own Got Rd s xs hneed w w₁ r h => ⟨h.1, boxA_firm (hneed h.1) w w₁ r h.2⟩
    calls := fun own Got Rd s xs x hneed _ b a ops i rest k cs o y z ats w h1 h2 h3 h4 h5 h6 h7 h8 =>
      (call30 (hneed h8.1) (codes_at hc h8.1) b a ops i rest k cs o y z ats w h1 h2 h3 h4 h5 h6 h7 h8.2).imp fun g w' h => ⟨h.1, h.2.1, ⟨h8.1, h.2.2.1⟩, h.2.2.2⟩
    chan := fun own Got Rd s xs d k w hneed hd h => ⟨h.1, by
      have h2 : w.cell? ⟨kf s, 0, none⟩ = _ := h.2
      have hne : kf s ≠ d := fun e => by rw [e] at h2; simp [World.cell?, hd] at h2
      have e : w.setChan d 0 #[] true k k false = w.putObj d (.chan 0 #[] true k k false) := rfl
      show World.cell? _ _ = _
      rw [e]
      exact (cell?_eq (World.putObj_heap_other hne) 0).trans h2⟩ }
  few := hK
  wg := Nat.le_refl _
  c0 := Nat.le_add_right _ _
  gvB _ _ _ h := h.elim
  rdB s b h := by
    obtain ⟨hs, rfl⟩ := h
    exact ⟨cell_lt (hf s hs).2, (hf s hs).1⟩
  apart _ _ _ _ h := h.elim
  apart' _ _ _ _ _ h := h.elim
  need own Got Rd s _ h hs := h _ ⟨hs, rfl⟩
  x0 own Got Rd s w' hs h _ := ⟨hs, (h (kf s) 0 (.inr ⟨hs, rfl⟩)).trans (hf s hs).2⟩
  fs := ⟨ff, capf, rfl, fun s hs => by
    obtain ⟨bf, o, h1, h2, h3⟩ := hfs s hs
    exact ⟨bf, o, h1, cell_lt h3, h2, fun _ _ h => h, h3⟩⟩
  fn s _ := ⟨_, _, _, rfl⟩
  it := ⟨kl, fa, cap, rfl, ⟨cell_lt hi.2, hi.1, fun _ _ h => h⟩, by show w.cell? _ = _; rw [hi.2]; simp [chainM], fun i v hv => by
    obtain ⟨bl, o, h1, h2, h3⟩ := hL i v hv
    exact ⟨bl, o, h1, cell_lt h3, h2, fun _ _ h => h, h3⟩⟩
  xs := ⟨by simp [chainM], fun v hv => by
    obtain ⟨n, _, rfl⟩ := List.mem_map.1 hv
    exact ⟨n, rfl⟩⟩
theorem compI_take (codes : List Int) : ∀ (s : Nat) (ns : List Int), s ≤ codes.length → ns.map (compI (fun s => applyP (codes.getD s 0)) s) = chainL (codes.take s) ns := by
  intro s
  induction s with
  | zero => intro ns _; simp [compI, chainL]
  | succ s ih =>
    intro ns hs
    have hv : codes[s]? = some codes[s] := List.getElem?_eq_getElem (by omega)
    have e : chainL (codes.take (s + 1)) ns = (chainL (codes.take s) ns).map (applyP codes[s]) := by
      unfold chainL
      rw [List.take_add_one, hv, List.foldl_append]
      rfl
    rw [e, ← ih ns (by omega), List.map_map]
    refine List.map_congr_left fun x _ => ?_
    show applyP (codes.getD s 0) _ = _
    rw [List.getD_eq_getElem?_getD, hv]
    rfl
/-- A CALL OF Chain, as the laws make it. -/
theorem chain_law (h66 : S66 Shun w) (hc : ∀ c ∈ codes, 0 ≤ c ∧ c < 256) (hK : codes.length ≤ 16) (hn : ns.length ≤ 900000) (hf : ∀ s, s < codes.length → Cel Shun (kf s) (.int .u8 (codes.getD s 0)) w) (hfs : FnsAt Shun ff kf codes.length w) (hi : Cel Shun kl (.slice fa ns.length cap) w) (hL : Ls Shun fa (ints ns) w) :
    Lone Try.prog w.heap.size (fun S g w' => Keep Shun w S w' ∧ ∃ v, Got w' v (chainL codes ns) ∧ g = G (b₀.at (a₀.put ((ops₀[i₀]?).bind (·.dst)) (.tuple #[v, .int .i64 0])) (.inRegion ops₀ rest₀ :: k₀)) cs) Shun
      (G ((base 16).at ⟨#[seqV kl, .slice ff codes.length capf, undef, undef, undef, undef, undef, undef, undef, undef, undef, undef, undef, undef, undef, undef, undef, undef, undef, undef, undef, undef, undef, undef, undef, undef, undef, undef, undef, undef, undef, undef, undef, undef, undef, undef, undef, undef, undef, undef, undef, undef, undef, undef, undef, undef, undef, undef, undef], []⟩ [.code body16]) (b₀.at a₀ (.inRegion ops₀ (i₀ :: rest₀) :: k₀) :: cs)) w := by
  have hm := chainM_ok (cs := (b₀.at a₀ (.inRegion ops₀ (i₀ :: rest₀) :: k₀) :: cs)) (capf := capf) hc hK hn hf hfs hi hL
  refine (chain_call hm rfl rfl rfl rfl (fun b hb => h66.lt hb) (fun _ _ _ _ h => h) (fun own Got Rd s xs w d ds hd h => ⟨h.1, ?_⟩)).imp fun S g w' _ h => ?_
  · have h2 : w.cell? ⟨kf s, 0, none⟩ = _ := h.2
    have hne : kf s ≠ d := fun e => by rw [e] at h2; simp [World.cell?, hd] at h2
    exact (cell?_eq (World.putObj_heap_other hne) 0).trans h2
  · obtain ⟨hS, v, hR, rfl⟩ := h
    have ho : Out w.heap.size w (fun b _ => Shun b) w' := hR.out.less fun b x _ hx => hx.elim id fun ⟨_, _, h⟩ => h.elim
    refine ⟨⟨fun b hb => (hS b hb).imp id fun e => by rw [e]; exact Nat.le_refl _, ho, s66_of h66 ho hR.live hS⟩, v, got_of ?_, rfl⟩
    have hrow := hR.row
    have e2 : (chainM Shun w (b₀.at a₀ (.inRegion ops₀ (i₀ :: rest₀) :: k₀) :: cs) kl kf codes ns (.slice ff codes.length capf)).xs.map (PP.comp (chainM Shun w (b₀.at a₀ (.inRegion ops₀ (i₀ :: rest₀) :: k₀) :: cs) kl kf codes ns (.slice ff codes.length capf)).q.pp.phi (chainM Shun w (b₀.at a₀ (.inRegion ops₀ (i₀ :: rest₀) :: k₀) :: cs) kl kf codes ns (.slice ff codes.length capf)).q.nf) = ints (chainL codes ns) := by
      have h := compI_take codes codes.length ns (Nat.le_refl _)
      rw [List.take_length] at h
      rw [← h]
      simp only [ints, List.map_map]
      show List.map _ (List.map _ ns) = _
      rw [List.map_map]
      exact List.map_congr_left fun x _ => comp_int _ _ x
    have e1 : (chainM Shun w (b₀.at a₀ (.inRegion ops₀ (i₀ :: rest₀) :: k₀) :: cs) kl kf codes ns (.slice ff codes.length capf)).xs.length = (chainL codes ns).length := by
      have h := compI_take codes codes.length ns (Nat.le_refl _)
      rw [List.take_length] at h
      rw [← h]
      simp [chainM]
    rw [e1, e2] at hrow
    exact hrow
end
end Go.Proofs.Ytblpmdolclalnaa
