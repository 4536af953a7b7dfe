/- A call of Chain[int] with the closures of StageOrder: each stage keeps what it met in its place of the shared row. The law StageOrder, its beginning: the row of met lists is made, of k places. The law StageOrder from its beginning to the head of the loop that makes its functions. The law StageOrder: its loop that makes its functions, a round. The law StageOrder: the walk of a round of its loop that makes its functions. The law StageOrder: pieces of its walk, from its first loop's end on. The law StageOrder: its loop that makes its list, a round. The law StageOrder: the walk of a round of its loop that makes its list. -/
import Derived.Test.YtblpmdolclalnaaD25
import Derived.Test.YtblpmdolclalnaaD26
import Derived.Laws.MakeOwn
namespace Go.Proofs.Ytblpmdolclalnaa
open Go.Conc
open Go.ConcN (WgLive)

section
variable {own : Nat → Prop} {Got : Cells} {Rd : Nat → Prop} {Wg em ei bm s nn : Nat} {xs : List Value} {w w₁ : World}
/-- Blocks of cells stand. -/
theorem OX.same (h : OX own em ei bm s nn xs w) (hb : ∀ (b : Nat) (cs : Array Value) (t : TypeId), w.heap[b]? = some (.cells cs t (0, 0)) → w₁.heap[b]? = w.heap[b]?) : OX own em ei bm s nn xs w₁ := by
  obtain ⟨ce, hce⟩ := h.ec
  obtain ⟨ci, hci⟩ := h.ic
  obtain ⟨cb, hcb⟩ := h.bc
  obtain ⟨v, h1, h2, h3⟩ := h.row
  have e1 := hb _ _ _ hce
  have e2 := hb _ _ _ hci
  have e3 := hb _ _ _ hcb
  exact ⟨(cell?_eq e1 0).trans h.me, ⟨ce, e1.trans hce⟩, (cell?_eq e2 0).trans h.ix, ⟨ci, e2.trans hci⟩, h.lt, ⟨cb, e3.trans hcb⟩, ⟨v, (cell?_eq e3 s).trans h1, ownsRow_of h2 fun g hg => (let ⟨_, hc⟩ := row_typ h2 hg; hb _ _ _ hc), h3⟩, h.ints⟩
end
/-- What a stage reckons. -/
def addK (x : Int) : Int := IntKind.i64.wrap (x + 1000)
section
variable {Shun : Nat → Prop} {w w₁ : World} {b₀ : Frame} {a₀ : Act} {ops₀ : Array Oper} {i₀ : Nat} {rest₀ : List Nat} {k₀ : List Item} {cs : List Frame} {fa ff : Option Addr} {cap capf kl k em bm : Nat} {kei : Nat → Nat} {ns : List Int}
def ordM (Shun : Nat → Prop) (w : World) (cs : List Frame) (kl k em bm : Nat) (kei : Nat → Nat) (ns : List Int) (fsV : Value) : ChM where
  q := { nf := k, n := ns.length, c0 := w.heap.size + 1, Wg := w.heap.size, nfuel := 80, fv := fun s => stV em (kei s), phi := fun _ => addK, X := fun own _ _ s xs w => s < k ∧ OX own em (kei s) bm s k xs w, need := fun _ Got Rd s => s < k → Got bm s ∧ Rd em ∧ Rd (kei s) }
  cs := cs
  Shun := Shun
  n0 := w.heap.size
  w0 := w
  inV := seqV kl
  fsV := fsV
  gv := fun s b x => s < k ∧ b = bm ∧ x = s
  rdx := fun s b => s < k ∧ (b = em ∨ b = kei s)
  xs := ints ns
/-- What must lie ready. -/
structure OrdIn (Shun : Nat → Prop) (w : World) (kl k em bm : Nat) (kei : Nat → Nat) (ns : List Int) (fa ff : Option Addr) (cap capf : Nat) : Prop where
  few : k ≤ 16
  small : ns.length ≤ 900000
  me : w.cell? ⟨em, 0, none⟩ = some (.slice (some ⟨bm, 0, none⟩) k k)
  ec : ∃ cs : Array Value, w.heap[em]? = some (.cells cs 41 (0, 0))
  se : ¬ Shun em
  bc : ∃ cs : Array Value, w.heap[bm]? = some (.cells cs 22 (0, 0))
  sb : ¬ Shun bm
  ix : ∀ s, s < k → w.cell? ⟨kei s, 0, none⟩ = some (.int .i64 s) ∧ ¬ Shun (kei s) ∧ ∃ cs : Array Value, w.heap[kei s]? = some (.cells cs 3 (0, 0))
  row : ∀ s, s < k → w.cell? ⟨bm, s, none⟩ = some (.slice none 0 0)
  fs : ∀ s, s < k → ∃ bf o, ff = some ⟨bf, o, none⟩ ∧ ¬ Shun bf ∧ bf ≠ bm ∧ w.cell? ⟨bf, o + s, none⟩ = some (stV em (kei s))
  it : Cel Shun kl (.slice fa ns.length cap) w ∧ kl ≠ bm
  ls : Ls Shun fa (ints ns) w ∧ ∀ bl o sp, fa = some ⟨bl, o, sp⟩ → bl ≠ bm
theorem ordM_ok (h : OrdIn Shun w kl k em bm kei ns fa ff cap capf) : ChMOK (ordM Shun w cs kl k em bm kei ns (.slice ff k capf)) where
  q := {
    held := fun _ => .inr ⟨_, _, _, rfl⟩
    small := h.small
    firm := fun own Got Rd s xs hneed w w₁ r h => ⟨h.1, h.2.rely (hneed h.1) r⟩
    calls := fun own Got Rd s xs x hneed hlt b a ops i rest k cs o y z ats w h1 h2 h3 h4 h5 h6 h7 h8 =>
      (call18 (hneed h8.1) (by have := h.small; have hlt' : xs.length < ns.length := hlt; omega) b a ops i rest k cs o y z ats w h1 h2 h3 h4 h5 h6 h7 h8.2).imp fun g w' h => ⟨h.1, h.2.1, ⟨h8.1, h.2.2.1⟩, h.2.2.2⟩
    chan := fun own Got Rd s xs d k w _ hd h => ⟨h.1, h.2.same fun b cs t hb => by
      have e : w.setChan d 0 #[] true k k false = w.putObj d (.chan 0 #[] true k k false) := rfl
      rw [e]
      exact World.putObj_heap_other (fun e => by rw [e, hd] at hb; cases hb)⟩ }
  few := h.few
  wg := Nat.le_refl _
  c0 := Nat.le_add_right _ _
  gvB s b x hg := by
    obtain ⟨hs, rfl, rfl⟩ := hg
    exact ⟨cell_lt (h.row _ hs), h.sb⟩
  rdB s b hr := by
    obtain ⟨hs, rfl | rfl⟩ := hr
    · exact ⟨cell_lt h.me, h.se⟩
    · exact ⟨cell_lt (h.ix s hs).1, (h.ix s hs).2.1⟩
  apart s s' b x hg hr := by
    obtain ⟨_, rfl, _⟩ := hg
    obtain ⟨cb, hcb⟩ := h.bc
    obtain ⟨hs', e | e⟩ := hr
    · obtain ⟨ce, hce⟩ := h.ec
      rw [← e, hcb] at hce
      cases hce
    · obtain ⟨ci, hci⟩ := (h.ix s' hs').2.2
      rw [← e, hcb] at hci
      cases hci
  apart' s s' b x hne hg hg' := hne (hg.2.2.symm.trans hg'.2.2)
  need own Got Rd s hg hr hs := ⟨hg bm s ⟨hs, rfl, rfl⟩, hr em ⟨hs, .inl rfl⟩, hr (kei s) ⟨hs, .inr rfl⟩⟩
  x0 own Got Rd s w' hs hc hf := by
    have typ : ∀ (b : Nat) (t : TypeId), (∃ cs : Array Value, w.heap[b]? = some (.cells cs t (0, 0))) → ∃ cs : Array Value, w'.heap[b]? = some (.cells cs t (0, 0)) := fun b t ⟨cs, hb⟩ => by
      obtain ⟨c', h', _⟩ := hf b cs t (0, 0) (Array.getElem?_eq_some_iff.1 hb).1 hb
      exact ⟨c', h'⟩
    refine ⟨hs, (hc em 0 (.inr ⟨hs, .inl rfl⟩)).trans h.me, typ _ _ h.ec, (hc (kei s) 0 (.inr ⟨hs, .inr rfl⟩)).trans (h.ix s hs).1, typ _ _ (h.ix s hs).2.2, hs, typ _ _ h.bc, ⟨_, (hc bm s (.inl ⟨hs, rfl, rfl⟩)).trans (h.row s hs), ⟨rfl, .inl ⟨rfl, rfl⟩⟩, fun g hg => by cases hg⟩, fun x hx => by cases hx⟩
  fs := ⟨ff, capf, rfl, fun s hs => by
    obtain ⟨bf, o, h1, h2, h3, h4⟩ := h.fs s hs
    exact ⟨bf, o, h1, cell_lt h4, h2, fun s' x hg => h3 hg.2.1, h4⟩⟩
  fn s _ := ⟨_, _, _, rfl⟩
  it := ⟨kl, fa, cap, rfl, ⟨cell_lt h.it.1.2, h.it.1.1, fun s x hg => h.it.2 hg.2.1⟩, by show w.cell? _ = _; rw [h.it.1.2]; simp [ordM], fun i v hv => by
    obtain ⟨bl, o, h1, h2, h3⟩ := h.ls.1 i v hv
    exact ⟨bl, o, h1, cell_lt h3, h2, fun s x hg => h.ls.2 bl o none h1 hg.2.1, h3⟩⟩
  xs := ⟨by simp [ordM], fun v hv => by
    obtain ⟨n, _, rfl⟩ := List.mem_map.1 hv
    exact ⟨n, rfl⟩⟩
/-- What stage s has met. -/
def metI (s : Nat) (x : Int) : Int := compI (fun _ => addK) s x
/-- A CALL OF Chain with these closures. -/
theorem order_law (h66 : S66 Shun w) (h : OrdIn Shun w kl k em bm kei ns fa ff cap capf) :
    Lone Try.prog w.heap.size (fun S g w' => (∀ b, S b → Shun b ∨ w.heap.size ≤ b) ∧ Out w.heap.size w (fun b _ => Shun b ∨ b = bm) w' ∧ S66 S w' ∧ ∃ v, Got w' v (ns.map (metI k)) ∧ (∀ s, s < k → ∃ own, OX own em (kei s) bm s k (ints (ns.map (metI s))) w') ∧
      g = G (b₀.at (a₀.put ((ops₀[i₀]?).bind (·.dst)) (.tuple #[v, .int .i64 0])) (.inRegion ops₀ rest₀ :: k₀)) cs) Shun
      (G ((base 16).at ⟨#[seqV kl, .slice ff k capf, undef, undef, undef, undef, undef, undef, undef, undef, undef, undef, undef, undef, undef, undef, undef, undef, undef, undef, undef, undef, undef, undef, undef, undef, undef, undef, undef, undef, undef, undef, undef, undef, undef, undef, undef, undef, undef, undef, undef, undef, undef, undef, undef, undef, undef, undef, undef], []⟩ [.code body16]) (b₀.at a₀ (.inRegion ops₀ (i₀ :: rest₀) :: k₀) :: cs)) w := by
  have hm := ordM_ok (cs := (b₀.at a₀ (.inRegion ops₀ (i₀ :: rest₀) :: k₀) :: cs)) h
  have hval : ∀ s, (ints ns).map (PP.comp (ordM Shun w (b₀.at a₀ (.inRegion ops₀ (i₀ :: rest₀) :: k₀) :: cs) kl k em bm kei ns (.slice ff k capf)).q.pp.phi s) = ints (ns.map (metI s)) := fun s => by
    simp only [ints, List.map_map]
    exact List.map_congr_left fun x _ => comp_int (ordM Shun w (b₀.at a₀ (.inRegion ops₀ (i₀ :: rest₀) :: k₀) :: cs) kl k em bm kei ns (.slice ff k capf)) s x
  refine (chain_call hm rfl rfl rfl rfl (fun b hb => h66.lt hb) (fun b x s hs hg => Nat.lt_irrefl _ (Nat.lt_of_lt_of_le hg.1 hs)) (fun own Got Rd s xs w d ds hd h => ⟨h.1, h.2.same fun b cs t hb => World.putObj_heap_other (fun e => by rw [e, hd] at hb; cases hb)⟩)).imp fun S g w' _ hh => ?_
  obtain ⟨hS, v, hR, rfl⟩ := hh
  have ho : Out w.heap.size w (fun b _ => Shun b ∨ b = bm) w' := hR.out.less fun b x _ hx => hx.imp id fun ⟨_, _, hg⟩ => hg.2.1
  refine ⟨fun b hb => (hS b hb).imp id fun e => by rw [e]; exact Nat.le_refl _, ho, fun b hb => ?_, v, got_of ?_, fun s hs => ?_, rfl⟩
  · rcases hS b hb with x | rfl
    · obtain ⟨cs, hc⟩ := h66 b x
      obtain ⟨c', hc', _⟩ := ho.form b cs 66 (0, 0) (h66.lt x) hc
      exact ⟨c', hc'⟩
    · obtain ⟨st, sm, hl⟩ := hR.live
      exact ⟨_, hl⟩
  · have hrow := hR.row
    have e2 := hval k
    have e1 : (ordM Shun w (b₀.at a₀ (.inRegion ops₀ (i₀ :: rest₀) :: k₀) :: cs) kl k em bm kei ns (.slice ff k capf)).xs.length = (ns.map (metI k)).length := by simp [ordM]
    rw [e1] at hrow
    exact e2 ▸ hrow
  · obtain ⟨own, Go', R, _, hx⟩ := hR.fns s hs
    exact ⟨own, hval s ▸ hx.2⟩
end
end Go.Proofs.Ytblpmdolclalnaa

namespace Go.Proofs.Ytblpmdolclalnaa
open Go.Conc

structure Info22 (i : TypeInfo) (z : Value) : Prop where
  info : Try.prog.info? 22 = some i
  zero : i.zero = some z
  size : i.size = 1
  bytes : i.bytes = 24
  cells : z.cells = #[.slice none 0 0]
theorem info22 : ∃ i z, Info22 i z := by
  have h0 : (Try.prog.info? 22).isSome = true := by kernel_rfl
  have h1 : ((Try.prog.info? 22).get h0).zero.isSome = true := by kernel_rfl
  exact ⟨(Try.prog.info? 22).get h0, ((Try.prog.info? 22).get h0).zero.get h1, by simp, by simp, by kernel_rfl, by kernel_rfl, by kernel_rfl⟩
theorem made22 {k : Nat} {i : TypeInfo} {z : Value} (h : Info22 i z) : madeCells z.cells (k * i.size) = Array.replicate k (.slice none 0 0) := by
  rw [h.cells, h.size, Nat.mul_one]
  refine Array.ext (by simp [madeCells]) fun j h1 h2 => ?_
  simp [madeCells, Nat.mod_one]
section
variable {w : World} {k : Nat} {es : Array Event}
theorem run_mk41 (hk : k ≤ 16) : (Instr.makeSlice 41 (.int .i64 k) (.int .i64 k)).run Try.prog w = .ok (.slice (some ⟨w.heap.size, 0, none⟩) k k) (w.alloc (.cells (Array.replicate k (.slice none 0 0)) 22)) := by
  obtain ⟨i, z, h⟩ := info22
  have := run_make (P := Try.prog) w 41 22 i z Try.underlying41 h.info h.zero .i64 .i64 (k : Int) (k : Int) (by omega) (by omega) (by rw [h.bytes]; omega) (by omega)
  simp only [Int.toNat_natCast] at this
  rw [this, made22 h]
theorem events_mk41 (hk : k ≤ 16) : (Instr.makeSlice 41 (.int .i64 k) (.int .i64 k)).events Try.prog w es = es := by
  obtain ⟨i, z, h⟩ := info22
  have wl : IntKind.i64.wrap (k : Int) = k := by rw [IntKind.wrap_i64]; omega
  have n1 : ¬ (k : Int) < 0 := by omega
  have n2 : ¬ (281474976710656 < (i.bytes : Int) * (k : Int)) := by rw [h.bytes]; omega
  have n5 : ¬ (k * i.bytes > roomBytes) := by rw [h.bytes]; simp only [roomBytes]; omega
  by_cases hn : k * i.size = 0
  · simp [go_sem, Instr.makeSlice, run_underlying Try.underlying41, asInt, asIntOf, typeInfo, h.info, sizeOf, wl, n1, n2, askRoom, n5]
  · simp [go_sem, Instr.makeSlice, run_underlying Try.underlying41, asInt, asIntOf, typeInfo, h.info, sizeOf, zeroValue, h.zero, wl, n1, n2, askRoom, n5]
end
end Go.Proofs.Ytblpmdolclalnaa

namespace Go.Proofs.Ytblpmdolclalnaa
open Go.Conc Go.RowKit Go.Conc.Lib Go.ConcR.Gen Go.ConcN.Gen
noncomputable def body5 : Code := Try.f5.body.getD .skip
noncomputable def tl5 : Nat → Code | 0 => body5 | n + 1 => cS (tl5 n)
noncomputable def lp5a : Code := cI (cI (cS (cF (tl5 4))))
/-- The row of met lists, its box. -/
structure OrdB (Shun : Nat → Prop) (w : World) (em bm k : Nat) (S : Nat → Prop) (w' : World) : Prop where
  keep : Keep Shun w S w'
  me : w'.cell? ⟨em, 0, none⟩ = some (.slice (some ⟨bm, 0, none⟩) k k)
  ec : ∃ cs : Array Value, w'.heap[em]? = some (.cells cs 41 (0, 0))
  bc : w'.heap[bm]? = some (.cells (Array.replicate k (.slice none 0 0)) 22 (0, 0))
  new : w.heap.size ≤ em ∧ w.heap.size ≤ bm
section
variable {Shun S : Nat → Prop} {w w₁ : World} {cs : List Frame} {k em bm : Nat} {b0 b1 : Int}
theorem OrdB.steady : Steady (OrdB Shun w em bm k S) := fun _w d h => ⟨h.keep.at d, h.me, h.ec, h.bc, h.new⟩
set_option maxRecDepth 100000 in
set_option maxHeartbeats 8000000 in
theorem or0 {Stop : Goroutine → World → Prop} (h66 : S66 Shun w) (hF : AtRel w w₁) (hw : IntKind.i64.wrap (k : Int) = (k : Int)) (hk : b1.tmod 6 = (k : Int)) (hk6 : k ≤ 16)
    (hgo : ∀ T em bm w', OrdB Shun w em bm k Shun w' → T.size = 103 → T[0]? = some (.int .u8 b0) → T[5]? = some (.int .i64 k) → T[6]? = some (ptr em) → T[7]? = some (.slice none 0 0) → T[21]? = some (.int .i64 k) → T[22]? = some (.int .i64 0) → Stop (G ((base 5).at ⟨T, []⟩ [.code lp5a, .inLoop lp5a, .inBlock 0, .code (tl5 5)]) cs) w') :
    Goes Try.prog true AtRel (SD Shun) Stop 80 (G ((base 5).at ⟨#[.int .u8 b0, .int .u8 b1, undef, undef, undef, undef, undef, undef, undef, undef, undef, undef, undef, undef, undef, undef, undef, undef, undef, undef, undef, undef, undef, undef, undef, undef, undef, undef, undef, undef, undef, undef, undef, undef, undef, undef, undef, undef, undef, undef, undef, undef, undef, undef, undef, undef, undef, undef, undef, undef, undef, undef, undef, undef, undef, undef, undef, undef, undef, undef, undef, undef, undef, undef, undef, undef, undef, undef, undef, undef, undef, undef, undef, undef, undef, undef, undef, undef, undef, undef, undef, undef, undef, undef, undef, undef, undef, undef, undef, undef, undef, undef, undef, undef, undef, undef, undef, undef, undef, undef, undef, undef, undef], []⟩ [.code body5]) cs) w₁ := by
  have hD : ∀ w, SD Shun w w #[] := sd_idle
  have rl : ∀ {w₁ w₂ : World}, AtRel w w₁ → AtRel w₁ w₂ → AtRel w w₂ := fun h r => AtRel.steady.rel h r
  replace hgo := Hd.mk hgo
  simp only [tl5, body5, lp5a, cS, cF, cI, Try.f5, Option.getD_some] at hgo ⊢
  repeat ((first | ((with_reducible refine g_opG ?_); (first | (refine g_unw hD rfl rfl (fun _ h₁ => ?_); replace hF := rl hF h₁; clear h₁; walk_nrm) | (refine Goes.step rfl (fun _ h₁ => ?_); replace hF := rl hF h₁; clear h₁; refine goes_oper_k rfl rfl (by k_ne) (fun K hK => ?_); go_simp; refine hK _ _ ⟨?_, ?_⟩; (focus (refine g_idle hD ?_; intro e he; have hm := mem_listed he; simp [go_sem, *] at hm; done)); clear hK K; try w_num))) | ((first | (with_reducible first | refine g_k true true hD rfl ?_ | refine g_ret hD ?_ | refine g_end hD ?_) | ((with_reducible refine g_ct hD ?_ ?_); (focus exact rfl)) | ((with_reducible refine g_cf hD ?_ ?_); (focus exact rfl))); intro _ h₁; replace hF := rl hF h₁; clear h₁) | ((with_reducible refine g_reg hD (fun _ h₁ => ?_)); replace hF := rl hF h₁; clear h₁; simp only [regN]) | ((with_reducible refine g_exit hD (k' := ?_) ?_ (fun _ h₁ => ?_)); rotate_left; (focus exact rfl); replace hF := rl hF h₁; clear h₁)))
  -- the row
  refine Goes.step rfl fun w₂ h₂ => ?_
  replace hF := rl hF h₂
  clear h₂
  rw [stepG_value (v := .slice (some ⟨w₂.heap.size, 0, none⟩) k k) (w' := w₂.alloc (.cells (Array.replicate k (.slice none 0 0)) 22)) rfl rfl (by decide) (by simp [execOp, go_sem, run_mk41 hk6])]
  simp only [goes_go]
  refine ⟨sd_new (by simp) (fun e he => ?_), ?_⟩
  · have hm := mem_listed he
    simp [execOp, go_sem, events_mk41 hk6] at hm
  have hge : w.heap.size ≤ w₂.heap.size := by obtain ⟨d, rfl⟩ := hF; exact Nat.le_refl _
  replace hF := And.intro ((keep_refl_at h66 hF).alloc (.cells (Array.replicate k (.slice none 0 0)) 22)) (And.intro (heap_alloc_new w₂ (Obj.cells (Array.replicate k (.slice none 0 0)) 22)) hge)
  clear rl hge
  generalize w₂.alloc (.cells (Array.replicate k (.slice none 0 0)) 22) = w₃ at hF ⊢
  generalize w₂.heap.size = bm at hF ⊢
  clear w₂
  have rl : ∀ {w₁ w₂ : World}, (Keep Shun w Shun w₁ ∧ w₁.heap[bm]? = some (.cells (Array.replicate k (.slice none 0 0)) 22 (0, 0)) ∧ w.heap.size ≤ bm) → AtRel w₁ w₂ → (Keep Shun w Shun w₂ ∧ w₂.heap[bm]? = some (.cells (Array.replicate k (.slice none 0 0)) 22 (0, 0)) ∧ w.heap.size ≤ bm) := fun h r => by obtain ⟨d, rfl⟩ := r; exact ⟨h.1.at d, h.2⟩
  walk_nrm
  -- its box
  refine Goes.step rfl fun w₂ h₂ => ?_
  replace hF := rl hF h₂
  clear h₂
  refine goes_oper_k rfl rfl (by decide) (fun K hK => ?_)
  go_simp
  refine hK _ _ ⟨sd_new (by simp) (fun e he => ?_), ?_⟩
  · have hm := mem_listed he
    simp [go_sem] at hm
  clear hK K
  have hnx := heap_alloc_new w₂ (Obj.cells #[Value.slice none 0 0] 41)
  have hge : w.heap.size ≤ w₂.heap.size := hF.1.out.size
  replace hF := And.intro (hF.1.alloc (.cells #[.slice none 0 0] 41)) (And.intro ((heap_alloc_old w₂ (Obj.cells #[Value.slice none 0 0] 41) bm (Array.getElem?_eq_some_iff.1 hF.2.1).1).trans hF.2.1) (And.intro hF.2.2 (And.intro hnx hge)))
  clear rl hge hnx
  generalize w₂.alloc (.cells #[.slice none 0 0] 41) = w₄ at hF ⊢
  generalize w₂.heap.size = em at hF ⊢
  clear w₂
  have rl : ∀ {w₁ w₂ : World}, (Keep Shun w Shun w₁ ∧ w₁.heap[bm]? = some (.cells (Array.replicate k (.slice none 0 0)) 22 (0, 0)) ∧ w.heap.size ≤ bm ∧ w₁.heap[em]? = some (.cells #[.slice none 0 0] 41 (0, 0)) ∧ w.heap.size ≤ em) → AtRel w₁ w₂ → (Keep Shun w Shun w₂ ∧ w₂.heap[bm]? = some (.cells (Array.replicate k (.slice none 0 0)) 22 (0, 0)) ∧ w.heap.size ≤ bm ∧ w₂.heap[em]? = some (.cells #[.slice none 0 0] 41 (0, 0)) ∧ w.heap.size ≤ em) := fun h r => by obtain ⟨d, rfl⟩ := r; exact ⟨h.1.at d, h.2⟩
  try walk_nrm
  -- the store
  refine Goes.step rfl fun w₂ h₂ => ?_
  replace hF := rl hF h₂
  clear h₂ rl
  obtain ⟨hK2, hbm, hb, hem, he⟩ := hF
  have hse : ¬ Shun em := fun hs => Nat.lt_irrefl _ (Nat.lt_of_lt_of_le (h66.lt hs) he)
  have hc0 : w₂.cell? ⟨em, 0, none⟩ = some (.slice none 0 0) := by simp [World.cell?, hem]
  have hfz := frozen_of hem 0
  refine goes_oper_k rfl rfl (by decide) (fun K hK => ?_)
  go_simp
  try (unfold stored; go_simp)
  refine hK _ _ ⟨sd_set hse (cell_lt hc0) (fun e he => ?_), ?_⟩
  · have hm := mem_listed he
    simp [go_sem, storedEv, hc0, hfz] at hm
    exact hm
  clear hK K
  have hne : bm ≠ em := fun e => by
    rw [e, hem] at hbm
    simp only [Option.some.injEq, Obj.cells.injEq] at hbm
    exact absurd hbm.2.1 (by decide)
  have at' : (w₂.setCell ⟨em, 0, none⟩ (.slice (some ⟨bm, 0, none⟩) k k)).heap[em]? = some (.cells #[.slice (some ⟨bm, 0, none⟩) k k] 41 (0, 0)) := by
    unfold World.setCell
    simp [Array.getElem?_modify, hem]
  have hF : OrdB Shun w em bm k Shun (w₂.setCell ⟨em, 0, none⟩ (.slice (some ⟨bm, 0, none⟩) k k)) := ⟨⟨hK2.shun, hK2.out.set _ he, fun b hb => (by
    obtain ⟨cs, hc⟩ := hK2.s66 b hb
    exact ⟨cs, (setCell_ne (show b ≠ em from fun e => hse (by rw [← e]; exact hb))).trans hc⟩)⟩, by simp [World.cell?, at'], ⟨_, at'⟩, (setCell_ne hne).trans hbm, he, hb⟩
  clear hK2 hbm hb hem he hse hc0 hfz hne at'
  generalize w₂.setCell ⟨em, 0, none⟩ (.slice (some ⟨bm, 0, none⟩) k k) = w₅ at hF ⊢
  have rl : ∀ {w₁ w₂ : World}, OrdB Shun w em bm k Shun w₁ → AtRel w₁ w₂ → OrdB Shun w em bm k Shun w₂ := fun h r => OrdB.steady.rel h r
  try walk_nrm
  repeat ((first | ((with_reducible refine g_opG ?_); (first | (refine g_unw hD rfl rfl (fun _ h₁ => ?_); replace hF := rl hF h₁; clear h₁; walk_nrm) | (refine Goes.step rfl (fun _ h₁ => ?_); replace hF := rl hF h₁; clear h₁; refine goes_oper_k rfl rfl (by k_ne) (fun K hK => ?_); go_simp; refine hK _ _ ⟨?_, ?_⟩; (focus (refine g_idle hD ?_; intro e he; have hm := mem_listed he; simp [go_sem, *] at hm; done)); clear hK K; try w_num))) | ((first | (with_reducible first | refine g_k true false hD rfl ?_ | refine g_ret hD ?_ | refine g_end hD ?_) | ((with_reducible refine g_ct hD ?_ ?_); (focus exact rfl)) | ((with_reducible refine g_cf hD ?_ ?_); (focus exact rfl))); intro _ h₁; replace hF := rl hF h₁; clear h₁) | ((with_reducible refine g_reg hD (fun _ h₁ => ?_)); replace hF := rl hF h₁; clear h₁; simp only [regN]) | ((with_reducible refine g_exit hD (k' := ?_) ?_ (fun _ h₁ => ?_)); rotate_left; (focus exact rfl); replace hF := rl hF h₁; clear h₁)))
  (first | ((with_reducible refine g_opG ?_); (first | (refine g_unw hD rfl rfl (fun _ h₁ => ?_); replace hF := rl hF h₁; clear h₁; walk_nrm) | (refine Goes.step rfl (fun _ h₁ => ?_); replace hF := rl hF h₁; clear h₁; refine goes_oper_k rfl rfl (by k_ne) (fun K hK => ?_); go_simp; refine hK _ _ ⟨?_, ?_⟩; (focus (refine g_idle hD ?_; intro e he; have hm := mem_listed he; simp [go_sem, *] at hm; done)); clear hK K; try w_num))) | ((first | (with_reducible first | refine g_k true true hD rfl ?_ | refine g_ret hD ?_ | refine g_end hD ?_) | ((with_reducible refine g_ct hD ?_ ?_); (focus exact rfl)) | ((with_reducible refine g_cf hD ?_ ?_); (focus exact rfl))); intro _ h₁; replace hF := rl hF h₁; clear h₁) | ((with_reducible refine g_reg hD (fun _ h₁ => ?_)); replace hF := rl hF h₁; clear h₁; simp only [regN]) | ((with_reducible refine g_exit hD (k' := ?_) ?_ (fun _ h₁ => ?_)); rotate_left; (focus exact rfl); replace hF := rl hF h₁; clear h₁))
  exact Goes.stop fun w₃ h₃ => hgo.out _ _ _ _ (rl hF h₃) rfl rfl rfl rfl rfl rfl rfl
end
end Go.Proofs.Ytblpmdolclalnaa

namespace Go.Proofs.Ytblpmdolclalnaa
open Go.Conc Go.RowKit Go.Conc.Lib Go.ConcR.Gen Go.ConcN.Gen
/-- The functions laid so far: the boxes kes of their numbers, their slice vf. -/
structure OF (Shun : Nat → Prop) (w : World) (em bm k : Nat) (kes : List Nat) (vf : Value) (w₁ : World) : Prop where
  b : OrdB Shun w em bm k Shun w₁
  row : w₁.ownsRow 0 28 1 vf kes.length (kes.map (stV em))
  rowO : ∀ g, vf.ownBlock = some g → w.heap.size ≤ g
  box : ∀ (s e : Nat), kes[s]? = some e → w₁.cell? ⟨e, 0, none⟩ = some (.int .i64 s) ∧ w.heap.size ≤ e ∧ ∃ cs : Array Value, w₁.heap[e]? = some (.cells cs 3 (0, 0))
section
variable {Shun : Nat → Prop} {w w₁ w₂ : World} {cs : List Frame} {k em bm i ei bx : Nat} {kes : List Nat} {vf : Value} {b0 : Int}
theorem set_at {b : Nat} {u v : Value} {t : TypeId} (h : w.heap[b]? = some (.cells #[u] t (0, 0))) : (w.setCell ⟨b, 0, none⟩ v).heap[b]? = some (.cells #[v] t (0, 0)) := by
  unfold World.setCell
  simp [Array.getElem?_modify, h]
theorem OF.steady : Steady (OF Shun w em bm k kes vf) := fun w d h => ⟨OrdB.steady w d h.b, h.row, h.rowO, h.box⟩
theorem OrdB.turn (h : OrdB Shun w em bm k Shun w₁) (k2 : Keep Shun w Shun w₂) (hb : ∀ (b : Nat) (cs : Array Value) (t : TypeId), w₁.heap[b]? = some (.cells cs t (0, 0)) → t ≠ 28 → w₂.heap[b]? = w₁.heap[b]?) : OrdB Shun w em bm k Shun w₂ := by
  obtain ⟨ce, hce⟩ := h.ec
  have e1 := hb _ _ _ hce (by decide)
  have e2 := hb _ _ _ h.bc (by decide)
  exact ⟨k2, (cell?_eq e1 0).trans h.me, ⟨ce, e1.trans hce⟩, e2.trans h.bc, h.new⟩
theorem OF.boxes (h : OF Shun w em bm k kes vf w₁) (hb : ∀ (b : Nat) (cs : Array Value) (t : TypeId), w₁.heap[b]? = some (.cells cs t (0, 0)) → t ≠ 28 → w₂.heap[b]? = w₁.heap[b]?) {s e : Nat} (he : kes[s]? = some e) :
    w₂.cell? ⟨e, 0, none⟩ = some (.int .i64 s) ∧ w.heap.size ≤ e ∧ ∃ cs : Array Value, w₂.heap[e]? = some (.cells cs 3 (0, 0)) := by
  obtain ⟨h1, h2, ci, h3⟩ := h.box s e he
  have e1 := hb _ _ _ h3 (by decide)
  exact ⟨(cell?_eq e1 0).trans h1, h2, ci, e1.trans h3⟩
/-- A new block. -/
theorem OF.alloc (h : OF Shun w em bm k kes vf w₁) (o : Obj) : OF Shun w em bm k kes vf (w₁.alloc o) := by
  have hb : ∀ b, b < w₁.heap.size → (w₁.alloc o).heap[b]? = w₁.heap[b]? := fun b hb => heap_alloc_old _ _ b hb
  have hb2 : ∀ (b : Nat) (cs : Array Value) (t : TypeId), w₁.heap[b]? = some (.cells cs t (0, 0)) → t ≠ 28 → (w₁.alloc o).heap[b]? = w₁.heap[b]? := fun b cs t hx _ => hb b (Array.getElem?_eq_some_iff.1 hx).1
  exact ⟨h.b.turn (h.b.keep.alloc o) hb2, ownsRow_of h.row fun g hg => hb g (h.row.lt g hg).2, h.rowO, fun s e he => h.boxes hb2 he⟩
/-- .. and the number's box beside it. -/
structure OFX (Shun : Nat → Prop) (w : World) (em bm k : Nat) (kes : List Nat) (vf : Value) (ei s : Nat) (w₁ : World) : Prop where
  f : OF Shun w em bm k kes vf w₁
  ic : w₁.heap[ei]? = some (.cells #[.int .i64 s] 3 (0, 0))
  new : w.heap.size ≤ ei
  ne : ∀ (j e : Nat), kes[j]? = some e → e ≠ ei
theorem OFX.steady {s : Nat} : Steady (OFX Shun w em bm k kes vf ei s) := fun w d h => ⟨OF.steady w d h.f, h.ic, h.new, h.ne⟩
theorem OF.number (h : OF Shun w em bm k kes vf w₁) : OFX Shun w em bm k kes vf w₁.heap.size 0 (w₁.alloc (.cells #[.int .i64 0] 3)) :=
  ⟨h.alloc _, heap_alloc_new w₁ (Obj.cells #[Value.int .i64 0] 3), h.b.keep.out.size, fun j e he hx => Nat.lt_irrefl _ (hx ▸ cell_lt (h.box j e he).1)⟩
theorem OFX.store {s s' : Nat} (h : OFX Shun w em bm k kes vf ei s w₁) : OFX Shun w em bm k kes vf ei s' (w₁.setCell ⟨ei, 0, none⟩ (.int .i64 s')) := by
  have hs : ¬ Shun ei := fun hs => by
    obtain ⟨cs, hc⟩ := h.f.b.keep.s66 ei hs
    rw [h.ic] at hc
    cases hc
  have hb : ∀ b, b ≠ ei → (w₁.setCell ⟨ei, 0, none⟩ (.int .i64 s')).heap[b]? = w₁.heap[b]? := fun b hb => setCell_ne hb
  have k2 : Keep Shun w Shun (w₁.setCell ⟨ei, 0, none⟩ (.int .i64 s')) := ⟨h.f.b.keep.shun, h.f.b.keep.out.set _ h.new, fun b hx => by
    obtain ⟨cs, hc⟩ := h.f.b.keep.s66 b hx
    exact ⟨cs, (hb b (fun e => hs (e ▸ hx))).trans hc⟩⟩
  have typ : ∀ (b : Nat) (cs : Array Value) (t : TypeId), w₁.heap[b]? = some (.cells cs t (0, 0)) → t ≠ 3 → b ≠ ei := fun b cs t hx ht e => by
    rw [e, h.ic] at hx
    simp only [Option.some.injEq, Obj.cells.injEq] at hx
    exact ht hx.2.1.symm
  obtain ⟨ce, hce⟩ := h.f.b.ec
  have e1 := hb _ (typ _ _ _ hce (by decide))
  have e2 := hb _ (typ _ _ _ h.f.b.bc (by decide))
  refine ⟨⟨⟨k2, (cell?_eq e1 0).trans h.f.b.me, ⟨ce, e1.trans hce⟩, e2.trans h.f.b.bc, h.f.b.new⟩, ownsRow_of h.f.row fun g hg => (let ⟨_, hc⟩ := row_tp h.f.row hg; hb g (typ _ _ _ hc (by decide))), h.f.rowO, fun j e he => ?_⟩, set_at h.ic, h.new, h.ne⟩
  obtain ⟨h1, h2, ci, h3⟩ := h.f.box j e he
  have e3 := hb e (h.ne j e he)
  exact ⟨(cell?_eq e3 0).trans h1, h2, ci, e3.trans h3⟩
/-- .. and the function's own row. -/
theorem OFX.alloc {s : Nat} (h : OFX Shun w em bm k kes vf ei s w₁) (o : Obj) : OFX Shun w em bm k kes vf ei s (w₁.alloc o) :=
  ⟨h.f.alloc o, (heap_alloc_old _ _ ei (Array.getElem?_eq_some_iff.1 h.ic).1).trans h.ic, h.new, h.ne⟩
/-- The append. -/
theorem OFX.appended {s : Nat} {v' : Value} (h : OFX Shun w em bm k kes vf ei s w₁) (hs : kes.length = s) (k2 : Keep Shun w Shun w₂) (hgr : w₁.grownBy w₂ vf.ownBlock) (hrow : w₂.ownsRow 0 28 1 v' (kes.length + 1) (kes.map (stV em) ++ [stV em ei])) (hown : ∀ g, v'.ownBlock = some g → vf.ownBlock = some g ∨ (w₁.heap.size ≤ g ∧ g < w₂.heap.size)) : OF Shun w em bm k (kes ++ [ei]) v' w₂ := by
  have hb2 : ∀ (b : Nat) (cs : Array Value) (t : TypeId), w₁.heap[b]? = some (.cells cs t (0, 0)) → t ≠ 28 → w₂.heap[b]? = w₁.heap[b]? := fun b cs t hx ht => hgr.block b (Array.getElem?_eq_some_iff.1 hx).1 fun e => by
    obtain ⟨c', hc'⟩ := row_tp h.f.row e.symm
    rw [hx] at hc'
    simp only [Option.some.injEq, Obj.cells.injEq] at hc'
    exact ht hc'.2.1
  refine ⟨h.f.b.turn k2 hb2, by simpa using hrow, fun g hg => ?_, fun j e he => ?_⟩
  · rcases hown g hg with x | x
    · exact h.f.rowO g x
    · exact Nat.le_trans h.f.b.keep.out.size x.1
  · rcases Nat.lt_or_ge j kes.length with hj | hj
    · rw [List.getElem?_append_left hj] at he
      exact h.f.boxes hb2 he
    · rw [List.getElem?_append_right hj] at he
      have hj' : j = kes.length := by
        rcases Nat.eq_zero_or_pos (j - kes.length) with x | x
        · omega
        · rw [List.getElem?_eq_none (by simp; omega)] at he; cases he
      subst hj'
      simp only [Nat.sub_self, List.getElem?_cons_zero, Option.some.injEq] at he
      subst he
      have e1 := hb2 _ _ _ h.ic (by decide)
      exact ⟨by rw [cell?_eq e1 0, hs]; simp [World.cell?, h.ic], h.new, _, e1.trans h.ic⟩
end
end Go.Proofs.Ytblpmdolclalnaa

namespace Go.Proofs.Ytblpmdolclalnaa
open Go.Conc Go.RowKit Go.Conc.Lib Go.ConcR.Gen Go.ConcN.Gen
section
variable {Shun : Nat → Prop} {w w₁ w₂ : World} {cs : List Frame} {k em bm i ei bx : Nat} {kes : List Nat} {vf : Value} {b0 : Int}
theorem OF.rowS (h : OF Shun w em bm k kes vf w₁) : ∀ g, vf.ownBlock = some g → ¬ Shun g := fun g hg hs => by
  obtain ⟨cs, hc⟩ := row_tp h.row hg
  obtain ⟨cs', hc'⟩ := h.b.keep.s66 g hs
  rw [hc] at hc'
  cases hc'
set_option maxRecDepth 100000 in
set_option maxHeartbeats 8000000 in
theorem oa_round {Stop : Goroutine → World → Prop} (hik : i < k) (hk : k ≤ 16) (hl : kes.length = i) {T : Array Value} (hs : T.size = 103) (t0 : T[0]? = some (.int .u8 b0)) (t5 : T[5]? = some (.int .i64 k)) (t6 : T[6]? = some (ptr em)) (t7 : T[7]? = some (vf)) (t21 : T[21]? = some (.int .i64 k)) (t22 : T[22]? = some (.int .i64 i)) (hF : OF Shun w em bm k kes vf w₁)
    (hgo : ∀ T ei vf' w₁, OF Shun w em bm k (kes ++ [ei]) vf' w₁ → T.size = 103 → T[0]? = some (.int .u8 b0) → T[5]? = some (.int .i64 k) → T[6]? = some (ptr em) → T[7]? = some (vf') → T[21]? = some (.int .i64 k) → T[22]? = some (.int .i64 (i + 1 : Nat)) → Stop (G ((base 5).at ⟨T, []⟩ [.code lp5a, .inLoop lp5a, .inBlock 0, .code (tl5 5)]) cs) w₁) :
    Goes Try.prog true AtRel (SD Shun) Stop 80 (G ((base 5).at ⟨T, []⟩ [.code lp5a, .inLoop lp5a, .inBlock 0, .code (tl5 5)]) cs) w₁ := by
  have hD : ∀ w, SD Shun w w #[] := sd_idle
  have rl : ∀ {w₁ w₂ : World}, OF Shun w em bm k kes vf w₁ → AtRel w₁ w₂ → OF Shun w em bm k kes vf w₂ := fun h r => OF.steady.rel h r
  obtain ⟨v, rfl⟩ := array103 T hs
  simp only [List.getElem?_toArray, List.getElem?_cons_zero, List.getElem?_cons_succ, Option.some.injEq] at t0 t5 t6 t7 t21 t22
  rw [t0, t5, t6, t7, t21, t22]
  clear hs
  have hlt : decide (i < k) = true := decide_eq_true hik
  have hadd : IntKind.i64.wrap ((i : Int) + 1) = ((i + 1 : Nat) : Int) := by rw [IntKind.wrap_i64]; omega
  replace hik := Hd.mk hik
  replace hk := Hd.mk hk
  replace hl := Hd.mk hl
  replace hgo := Hd.mk hgo
  simp only [tl5, body5, lp5a, cS, cF, cI, Try.f5, Option.getD_some] at hgo ⊢
  repeat ((first | ((with_reducible refine g_opG ?_); (first | (refine g_unw hD rfl rfl (fun _ h₁ => ?_); replace hF := rl hF h₁; clear h₁; walk_nrm) | (refine Goes.step rfl (fun _ h₁ => ?_); replace hF := rl hF h₁; clear h₁; refine goes_oper_k rfl rfl (by k_ne) (fun K hK => ?_); go_simp; refine hK _ _ ⟨?_, ?_⟩; (focus (refine g_idle hD ?_; intro e he; have hm := mem_listed he; simp [go_sem, *] at hm; done)); clear hK K; try w_num))) | ((first | (with_reducible first | refine g_k true true hD rfl ?_ | refine g_ret hD ?_ | refine g_end hD ?_) | ((with_reducible refine g_ct hD ?_ ?_); (focus exact rfl)) | ((with_reducible refine g_cf hD ?_ ?_); (focus exact rfl))); intro _ h₁; replace hF := rl hF h₁; clear h₁) | ((with_reducible refine g_reg hD (fun _ h₁ => ?_)); replace hF := rl hF h₁; clear h₁; simp only [regN]) | ((with_reducible refine g_exit hD (k' := ?_) ?_ (fun _ h₁ => ?_)); rotate_left; (focus exact rfl); replace hF := rl hF h₁; clear h₁)))
  -- the number's box
  refine Goes.step rfl fun w₂ h₂ => ?_
  replace hF := rl hF h₂
  clear h₂
  refine goes_oper_k rfl rfl (by decide) (fun K hK => ?_)
  go_simp
  refine hK _ _ ⟨sd_new (by simp) (fun e he => ?_), ?_⟩
  · have hm := mem_listed he
    simp [go_sem] at hm
  clear hK K rl
  replace hF := hF.number
  generalize w₂.alloc (.cells #[.int .i64 0] 3) = w₃ at hF ⊢
  generalize w₂.heap.size = ei at hF ⊢
  clear w₂
  try walk_nrm
  refine Goes.step rfl fun w₂ h₂ => ?_
  replace hF := OFX.steady.rel hF h₂
  clear h₂
  have hc0 : w₂.cell? ⟨ei, 0, none⟩ = some (.int .i64 0) := by simp [World.cell?, hF.ic]
  have hfz := frozen_of hF.ic 0
  have hse : ¬ Shun ei := fun hs => by
    obtain ⟨cs, hc⟩ := hF.f.b.keep.s66 ei hs
    rw [hF.ic] at hc
    cases hc
  refine goes_oper_k rfl rfl (by decide) (fun K hK => ?_)
  go_simp
  try (unfold stored; go_simp)
  refine hK _ _ ⟨sd_set hse (cell_lt hc0) (fun e he => ?_), ?_⟩
  · have hm := mem_listed he
    simp [go_sem, storedEv, hc0, hfz] at hm
    exact hm
  clear hK K hc0 hfz
  replace hF := hF.store (s' := i)
  generalize w₂.setCell ⟨ei, 0, none⟩ (.int .i64 i) = w₄ at hF ⊢
  clear w₂
  have rl : ∀ {w₁ w₂ : World}, OFX Shun w em bm k kes vf ei i w₁ → AtRel w₁ w₂ → OFX Shun w em bm k kes vf ei i w₂ := fun h r => OFX.steady.rel h r
  try walk_nrm
  repeat ((first | ((with_reducible refine g_opG ?_); (first | (refine g_unw hD rfl rfl (fun _ h₁ => ?_); replace hF := rl hF h₁; clear h₁; walk_nrm) | (refine Goes.step rfl (fun _ h₁ => ?_); replace hF := rl hF h₁; clear h₁; refine goes_oper_k rfl rfl (by k_ne) (fun K hK => ?_); go_simp; refine hK _ _ ⟨?_, ?_⟩; (focus (refine g_idle hD ?_; intro e he; have hm := mem_listed he; simp [go_sem, *] at hm; done)); clear hK K; try w_num))) | ((first | (with_reducible first | refine g_k true true hD rfl ?_ | refine g_ret hD ?_ | refine g_end hD ?_) | ((with_reducible refine g_ct hD ?_ ?_); (focus exact rfl)) | ((with_reducible refine g_cf hD ?_ ?_); (focus exact rfl))); intro _ h₁; replace hF := rl hF h₁; clear h₁) | ((with_reducible refine g_reg hD (fun _ h₁ => ?_)); replace hF := rl hF h₁; clear h₁; simp only [regN]) | ((with_reducible refine g_exit hD (k' := ?_) ?_ (fun _ h₁ => ?_)); rotate_left; (focus exact rfl); replace hF := rl hF h₁; clear h₁)))
  -- the function's row
  refine Goes.step rfl fun w₂ h₂ => ?_
  replace hF := rl hF h₂
  clear h₂ rl
  refine goes_oper_k rfl rfl (by decide) (fun K hK => ?_)
  go_simp
  refine hK _ _ ⟨sd_new (by simp) (fun e he => ?_), ?_⟩
  · have hm := mem_listed he
    simp [go_sem] at hm
  clear hK K
  have hnx := heap_alloc_new w₂ (Obj.cells #[stV em ei] 28)
  have hlow : ¬ Shun w₂.heap.size := fun hs => Nat.lt_irrefl _ (hF.f.b.keep.s66.lt hs)
  replace hF := And.intro (hF.alloc (.cells #[stV em ei] 28)) (And.intro hnx hlow)
  clear hnx hlow
  simp only [stV] at hF
  generalize w₂.alloc (.cells #[.func (.func 18) #[] #[ptr em, ptr ei]] 28) = w₅ at hF ⊢
  generalize w₂.heap.size = bx at hF ⊢
  clear w₂
  try walk_nrm
  refine Goes.step rfl fun w₂ h₂ => ?_
  replace hF : OFX Shun w em bm k kes vf ei i w₂ ∧ w₂.heap[bx]? = some (.cells #[stV em ei] 28 (0, 0)) ∧ ¬ Shun bx := by obtain ⟨d, rfl⟩ := h₂; exact ⟨OFX.steady _ d hF.1, hF.2⟩
  clear h₂
  have hcx : w₂.cell? ⟨bx, 0, none⟩ = some (stV em ei) := by simp [World.cell?, hF.2.1]
  obtain ⟨v', w', hr, hrow', hgr, hb', hsd⟩ := sd_append (P := Try.prog) (ty := 37) (cx := 1) oneT37 hF.1.f.row hcx rfl (by have := hl.out; have := hik.out; have := hk.out; omega) hF.1.f.rowS hF.2.2 (fun b hb => hF.1.f.b.keep.s66.lt hb)
  rw [stepG_value rfl rfl (by decide) (run_append_op _ _ 37 rfl rfl rfl hr)]
  simp only [goes_go]
  refine ⟨?_, ?_⟩
  · unfold listed
    rw [events_append_op _ _ 37 rfl rfl rfl]
    exact hsd _
  have hK2 : Keep Shun w Shun w' := hF.1.f.b.keep.grown hgr hF.1.f.row (by decide) hF.1.f.rowO
  replace hF := hF.1.appended hl.out hK2 hgr hrow' hb'
  clear hsd hr hgr hb' hrow' w₂ hK2 hcx
  have rl : ∀ {w₁ w₂ : World}, OF Shun w em bm k (kes ++ [ei]) v' w₁ → AtRel w₁ w₂ → OF Shun w em bm k (kes ++ [ei]) v' w₂ := fun h r => OF.steady.rel h r
  walk_nrm
  repeat ((first | ((with_reducible refine g_opG ?_); (first | (refine g_unw hD rfl rfl (fun _ h₁ => ?_); replace hF := rl hF h₁; clear h₁; walk_nrm) | (refine Goes.step rfl (fun _ h₁ => ?_); replace hF := rl hF h₁; clear h₁; refine goes_oper_k rfl rfl (by k_ne) (fun K hK => ?_); go_simp; refine hK _ _ ⟨?_, ?_⟩; (focus (refine g_idle hD ?_; intro e he; have hm := mem_listed he; simp [go_sem, *] at hm; done)); clear hK K; try w_num))) | ((first | (with_reducible first | refine g_k false true hD rfl ?_ | refine g_ret hD ?_ | refine g_end hD ?_) | ((with_reducible refine g_ct hD ?_ ?_); (focus exact rfl)) | ((with_reducible refine g_cf hD ?_ ?_); (focus exact rfl))); intro _ h₁; replace hF := rl hF h₁; clear h₁) | ((with_reducible refine g_reg hD (fun _ h₁ => ?_)); replace hF := rl hF h₁; clear h₁; simp only [regN]) | ((with_reducible refine g_exit hD (k' := ?_) ?_ (fun _ h₁ => ?_)); rotate_left; (focus exact rfl); replace hF := rl hF h₁; clear h₁)))
  (first | ((with_reducible refine g_opG ?_); (first | (refine g_unw hD rfl rfl (fun _ h₁ => ?_); replace hF := rl hF h₁; clear h₁; walk_nrm) | (refine Goes.step rfl (fun _ h₁ => ?_); replace hF := rl hF h₁; clear h₁; refine goes_oper_k rfl rfl (by k_ne) (fun K hK => ?_); go_simp; refine hK _ _ ⟨?_, ?_⟩; (focus (refine g_idle hD ?_; intro e he; have hm := mem_listed he; simp [go_sem, *] at hm; done)); clear hK K; try w_num))) | ((first | (with_reducible first | refine g_k true true hD rfl ?_ | refine g_ret hD ?_ | refine g_end hD ?_) | ((with_reducible refine g_ct hD ?_ ?_); (focus exact rfl)) | ((with_reducible refine g_cf hD ?_ ?_); (focus exact rfl))); intro _ h₁; replace hF := rl hF h₁; clear h₁) | ((with_reducible refine g_reg hD (fun _ h₁ => ?_)); replace hF := rl hF h₁; clear h₁; simp only [regN]) | ((with_reducible refine g_exit hD (k' := ?_) ?_ (fun _ h₁ => ?_)); rotate_left; (focus exact rfl); replace hF := rl hF h₁; clear h₁))
  exact Goes.stop fun w₁ h₁ => hgo.out _ _ _ _ (rl hF h₁) rfl rfl rfl rfl rfl rfl rfl
end
end Go.Proofs.Ytblpmdolclalnaa

namespace Go.Proofs.Ytblpmdolclalnaa
open Go.Conc Go.RowKit Go.Conc.Lib Go.ConcR.Gen Go.ConcN.Gen
noncomputable def lp5b : Code := cI (cI (cS (cF (tl5 6))))
section
variable {Shun : Nat → Prop} {w w₁ : World} {cs : List Frame} {k em : Nat} {vf : Value} {b0 : Int}
set_option maxRecDepth 100000 in
set_option maxHeartbeats 8000000 in
theorem ob0 {Stop : Goroutine → World → Prop}  {F0 : World → Prop} (hF : F0 w) (s0 : Steady F0) {T : Array Value} (hs : T.size = 103) (t0 : T[0]? = some (.int .u8 b0)) (t5 : T[5]? = some (.int .i64 k)) (t6 : T[6]? = some (ptr em)) (t7 : T[7]? = some (vf)) (t21 : T[21]? = some (.int .i64 k)) (t22 : T[22]? = some (.int .i64 k)) (_hlt : decide (k < k) = false) (hw : IntKind.i64.wrap b0 = b0)
    (hgo : ∀ T w, F0 w → T.size = 103 → T[5]? = some (.int .i64 k) → T[6]? = some (ptr em) → T[7]? = some (vf) → T[9]? = some (.slice none 0 0) → T[31]? = some (.int .i64 b0) → T[32]? = some (.int .i64 0) → Stop (G ((base 5).at ⟨T, []⟩ [.code lp5b, .inLoop lp5b, .inBlock 2, .code (tl5 7)]) cs) w) :
    Goes Try.prog true AtRel (SD Shun) Stop 60 (G ((base 5).at ⟨T, []⟩ [.code lp5a, .inLoop lp5a, .inBlock 0, .code (tl5 5)]) cs) w := by
  have hD : ∀ w, SD Shun w w #[] := sd_idle
  have rl : ∀ {w w₁ : World}, F0 w → AtRel w w₁ → F0 w₁ := fun h r => s0.rel h r
  replace hgo := Hd.mk hgo
  obtain ⟨v, rfl⟩ := array103 T hs
  simp only [List.getElem?_toArray, List.getElem?_cons_zero, List.getElem?_cons_succ, Option.some.injEq] at t0 t5 t6 t7 t21 t22
  rw [t0, t5, t6, t7, t21, t22]
  clear hs
  simp only [tl5, body5, lp5a, lp5b, cS, cF, cI, Try.f5, Option.getD_some] at hgo ⊢
  try walk_nrm
  repeat ((first | ((with_reducible refine g_opG ?_); (first | (refine g_unw hD rfl rfl (fun _ h₁ => ?_); replace hF := rl hF h₁; clear h₁; walk_nrm) | (refine Goes.step rfl (fun _ h₁ => ?_); replace hF := rl hF h₁; clear h₁; refine goes_oper_k rfl rfl (by k_ne) (fun K hK => ?_); go_simp; refine hK _ _ ⟨?_, ?_⟩; (focus (refine g_idle hD ?_; intro e he; have hm := mem_listed he; simp [go_sem, *] at hm; done)); clear hK K; try w_num))) | ((first | (with_reducible first | refine g_k true false hD rfl ?_ | refine g_ret hD ?_ | refine g_end hD ?_) | ((with_reducible refine g_ct hD ?_ ?_); (focus exact rfl)) | ((with_reducible refine g_cf hD ?_ ?_); (focus exact rfl))); intro _ h₁; replace hF := rl hF h₁; clear h₁) | ((with_reducible refine g_reg hD (fun _ h₁ => ?_)); replace hF := rl hF h₁; clear h₁; simp only [regN]) | ((with_reducible refine g_exit hD (k' := ?_) ?_ (fun _ h₁ => ?_)); rotate_left; (focus exact rfl); replace hF := rl hF h₁; clear h₁)))
  (first | ((with_reducible refine g_opG ?_); (first | (refine g_unw hD rfl rfl (fun _ h₁ => ?_); replace hF := rl hF h₁; clear h₁; walk_nrm) | (refine Goes.step rfl (fun _ h₁ => ?_); replace hF := rl hF h₁; clear h₁; refine goes_oper_k rfl rfl (by k_ne) (fun K hK => ?_); go_simp; refine hK _ _ ⟨?_, ?_⟩; (focus (refine g_idle hD ?_; intro e he; have hm := mem_listed he; simp [go_sem, *] at hm; done)); clear hK K; try w_num))) | ((first | (with_reducible first | refine g_k true true hD rfl ?_ | refine g_ret hD ?_ | refine g_end hD ?_) | ((with_reducible refine g_ct hD ?_ ?_); (focus exact rfl)) | ((with_reducible refine g_cf hD ?_ ?_); (focus exact rfl))); intro _ h₁; replace hF := rl hF h₁; clear h₁) | ((with_reducible refine g_reg hD (fun _ h₁ => ?_)); replace hF := rl hF h₁; clear h₁; simp only [regN]) | ((with_reducible refine g_exit hD (k' := ?_) ?_ (fun _ h₁ => ?_)); rotate_left; (focus exact rfl); replace hF := rl hF h₁; clear h₁))
  exact Goes.stop fun w₃ h₃ => hgo.out _ _ (rl hF h₃) rfl rfl rfl rfl rfl rfl rfl

end
end Go.Proofs.Ytblpmdolclalnaa

namespace Go.Proofs.Ytblpmdolclalnaa
open Go.Conc Go.RowKit Go.Conc.Lib Go.ConcR.Gen Go.ConcN.Gen
/-- The functions, and the list so far: the numbers below i. -/
structure OL (Shun : Nat → Prop) (w : World) (em bm k : Nat) (kes : List Nat) (vf : Value) (ns : List Int) (v9 : Value) (w₁ : World) : Prop where
  f : OF Shun w em bm k kes vf w₁
  row : w₁.ownsRow 0 3 1 v9 ns.length (ints ns)
  rowO : ∀ g, v9.ownBlock = some g → w.heap.size ≤ g
  ne : ∀ g, v9.ownBlock = some g → ∀ (j e : Nat), kes[j]? = some e → e ≠ g
section
variable {Shun : Nat → Prop} {w w₁ w₂ : World} {cs : List Frame} {k em bm i m bx : Nat} {kes : List Nat} {vf v9 : Value} {ns : List Int}
theorem OL.steady : Steady (OL Shun w em bm k kes vf ns v9) := fun w d h => ⟨OF.steady w d h.f, h.row, h.rowO, h.ne⟩
theorem OL.rowS (h : OL Shun w em bm k kes vf ns v9 w₁) : ∀ g, v9.ownBlock = some g → ¬ Shun g := fun g hg hs => by
  obtain ⟨cs, hc⟩ := row_tp h.row hg
  obtain ⟨cs', hc'⟩ := h.f.b.keep.s66 g hs
  rw [hc] at hc'
  cases hc'
theorem OL.alloc (h : OL Shun w em bm k kes vf ns v9 w₁) (o : Obj) : OL Shun w em bm k kes vf ns v9 (w₁.alloc o) :=
  ⟨h.f.alloc o, ownsRow_of h.row fun g hg => heap_alloc_old _ _ g (h.row.lt g hg).2, h.rowO, h.ne⟩
theorem OL.appended {n : Int} {v' : Value} (h : OL Shun w em bm k kes vf ns v9 w₁) (hgr : w₁.grownBy w₂ v9.ownBlock) (hrow : w₂.ownsRow 0 3 1 v' (ns.length + 1) (ints ns ++ [.int .i64 n])) (hown : ∀ g, v'.ownBlock = some g → v9.ownBlock = some g ∨ (w₁.heap.size ≤ g ∧ g < w₂.heap.size)) : OL Shun w em bm k kes vf (ns ++ [n]) v' w₂ := by
  have k2 : Keep Shun w Shun w₂ := h.f.b.keep.grown hgr h.row (by decide) h.rowO
  have hb : ∀ (b : Nat) (cs : Array Value) (t : TypeId), w₁.heap[b]? = some (.cells cs t (0, 0)) → t ≠ 3 → w₂.heap[b]? = w₁.heap[b]? := fun b cs t hx ht => hgr.block b (Array.getElem?_eq_some_iff.1 hx).1 fun e => by
    obtain ⟨c', hc'⟩ := row_tp h.row e.symm
    rw [hx] at hc'
    simp only [Option.some.injEq, Obj.cells.injEq] at hc'
    exact ht hc'.2.1
  obtain ⟨ce, hce⟩ := h.f.b.ec
  have e1 := hb _ _ _ hce (by decide)
  have e2 := hb _ _ _ h.f.b.bc (by decide)
  refine ⟨⟨⟨k2, (cell?_eq e1 0).trans h.f.b.me, ⟨ce, e1.trans hce⟩, e2.trans h.f.b.bc, h.f.b.new⟩, ownsRow_of h.f.row fun g hg => (let ⟨_, hc⟩ := row_tp h.f.row hg; hb g _ _ hc (by decide)), h.f.rowO, fun j e he => ?_⟩, by simpa [ints] using hrow, fun g hg => ?_, fun g hg j e he => ?_⟩
  · obtain ⟨h1, h2, ci, h3⟩ := h.f.box j e he
    have e3 := hgr.block e (cell_lt h1) fun x => h.ne e x.symm j e he rfl
    exact ⟨(cell?_eq e3 0).trans h1, h2, ci, e3.trans h3⟩
  · rcases hown g hg with x | x
    · exact h.rowO g x
    · exact Nat.le_trans h.f.b.keep.out.size x.1
  · rcases hown g hg with x | x
    · exact h.ne g x j e he
    · have := cell_lt (h.f.box j e he).1
      omega
end
end Go.Proofs.Ytblpmdolclalnaa

namespace Go.Proofs.Ytblpmdolclalnaa
open Go.Conc Go.RowKit Go.Conc.Lib Go.ConcR.Gen Go.ConcN.Gen
section
variable {Shun : Nat → Prop} {w w₁ w₂ : World} {cs : List Frame} {k em bm i m bx : Nat} {kes : List Nat} {vf v9 : Value} {ns : List Int}
set_option maxRecDepth 100000 in
set_option maxHeartbeats 8000000 in
theorem ob_round {Stop : Goroutine → World → Prop} (him : i < m) (hm : m ≤ 256) (hl : ns.length = i) {T : Array Value} (hs : T.size = 103) (t5 : T[5]? = some (.int .i64 k)) (t6 : T[6]? = some (ptr em)) (t7 : T[7]? = some (vf)) (t9 : T[9]? = some (v9)) (t31 : T[31]? = some (.int .i64 m)) (t32 : T[32]? = some (.int .i64 i)) (hF : OL Shun w em bm k kes vf ns v9 w₁)
    (hgo : ∀ T v9' w₁, OL Shun w em bm k kes vf (ns ++ [(i : Int)]) v9' w₁ → T.size = 103 → T[5]? = some (.int .i64 k) → T[6]? = some (ptr em) → T[7]? = some (vf) → T[9]? = some (v9') → T[31]? = some (.int .i64 m) → T[32]? = some (.int .i64 (i + 1 : Nat)) → Stop (G ((base 5).at ⟨T, []⟩ [.code lp5b, .inLoop lp5b, .inBlock 2, .code (tl5 7)]) cs) w₁) :
    Goes Try.prog true AtRel (SD Shun) Stop 80 (G ((base 5).at ⟨T, []⟩ [.code lp5b, .inLoop lp5b, .inBlock 2, .code (tl5 7)]) cs) w₁ := by
  have hD : ∀ w, SD Shun w w #[] := sd_idle
  have rl : ∀ {w₁ w₂ : World}, OL Shun w em bm k kes vf ns v9 w₁ → AtRel w₁ w₂ → OL Shun w em bm k kes vf ns v9 w₂ := fun h r => OL.steady.rel h r
  obtain ⟨v, rfl⟩ := array103 T hs
  simp only [List.getElem?_toArray, List.getElem?_cons_zero, List.getElem?_cons_succ, Option.some.injEq] at t5 t6 t7 t9 t31 t32
  rw [t5, t6, t7, t9, t31, t32]
  clear hs
  have hlt : decide (i < m) = true := decide_eq_true him
  have hadd : IntKind.i64.wrap ((i : Int) + 1) = ((i + 1 : Nat) : Int) := by rw [IntKind.wrap_i64]; omega
  replace him := Hd.mk him
  replace hm := Hd.mk hm
  replace hl := Hd.mk hl
  replace hgo := Hd.mk hgo
  simp only [tl5, body5, lp5b, cS, cF, cI, Try.f5, Option.getD_some] at hgo ⊢
  repeat ((first | ((with_reducible refine g_opG ?_); (first | (refine g_unw hD rfl rfl (fun _ h₁ => ?_); replace hF := rl hF h₁; clear h₁; walk_nrm) | (refine Goes.step rfl (fun _ h₁ => ?_); replace hF := rl hF h₁; clear h₁; refine goes_oper_k rfl rfl (by k_ne) (fun K hK => ?_); go_simp; refine hK _ _ ⟨?_, ?_⟩; (focus (refine g_idle hD ?_; intro e he; have hm := mem_listed he; simp [go_sem, *] at hm; done)); clear hK K; try w_num))) | ((first | (with_reducible first | refine g_k true true hD rfl ?_ | refine g_ret hD ?_ | refine g_end hD ?_) | ((with_reducible refine g_ct hD ?_ ?_); (focus exact rfl)) | ((with_reducible refine g_cf hD ?_ ?_); (focus exact rfl))); intro _ h₁; replace hF := rl hF h₁; clear h₁) | ((with_reducible refine g_reg hD (fun _ h₁ => ?_)); replace hF := rl hF h₁; clear h₁; simp only [regN]) | ((with_reducible refine g_exit hD (k' := ?_) ?_ (fun _ h₁ => ?_)); rotate_left; (focus exact rfl); replace hF := rl hF h₁; clear h₁)))
  refine Goes.step rfl fun w₂ h₂ => ?_
  replace hF := rl hF h₂
  clear h₂ rl
  refine goes_oper_k rfl rfl (by decide) (fun K hK => ?_)
  go_simp
  refine hK _ _ ⟨sd_new (by simp) (fun e he => ?_), ?_⟩
  · have hm := mem_listed he
    simp [go_sem] at hm
  clear hK K
  have hnx := heap_alloc_new w₂ (Obj.cells #[Value.int .i64 i] 3)
  have hlow : ¬ Shun w₂.heap.size := fun hs => Nat.lt_irrefl _ (hF.f.b.keep.s66.lt hs)
  replace hF := And.intro (hF.alloc (.cells #[.int .i64 i] 3)) (And.intro hnx hlow)
  clear hnx hlow
  generalize w₂.alloc (.cells #[.int .i64 i] 3) = w₅ at hF ⊢
  generalize w₂.heap.size = bx at hF ⊢
  clear w₂
  try walk_nrm
  refine Goes.step rfl fun w₂ h₂ => ?_
  replace hF : OL Shun w em bm k kes vf ns v9 w₂ ∧ w₂.heap[bx]? = some (.cells #[.int .i64 i] 3 (0, 0)) ∧ ¬ Shun bx := by obtain ⟨d, rfl⟩ := h₂; exact ⟨OL.steady _ d hF.1, hF.2⟩
  clear h₂
  have hcx : w₂.cell? ⟨bx, 0, none⟩ = some (.int .i64 i) := by simp [World.cell?, hF.2.1]
  obtain ⟨v', w', hr, hrow', hgr, hb', hsd⟩ := sd_append (P := Try.prog) (ty := 22) (cx := 1) oneT22 hF.1.row hcx rfl (by have := hl.out; have := him.out; have := hm.out; omega) hF.1.rowS hF.2.2 (fun b hb => hF.1.f.b.keep.s66.lt hb)
  rw [stepG_value rfl rfl (by decide) (run_append_op _ _ 22 rfl rfl rfl hr)]
  simp only [goes_go]
  refine ⟨?_, ?_⟩
  · unfold listed
    rw [events_append_op _ _ 22 rfl rfl rfl]
    exact hsd _
  replace hF := hF.1.appended hgr hrow' hb'
  clear hsd hr hgr hb' hrow' w₂ hcx
  have rl : ∀ {w₁ w₂ : World}, OL Shun w em bm k kes vf (ns ++ [(i : Int)]) v' w₁ → AtRel w₁ w₂ → OL Shun w em bm k kes vf (ns ++ [(i : Int)]) v' w₂ := fun h r => OL.steady.rel h r
  walk_nrm
  repeat ((first | ((with_reducible refine g_opG ?_); (first | (refine g_unw hD rfl rfl (fun _ h₁ => ?_); replace hF := rl hF h₁; clear h₁; walk_nrm) | (refine Goes.step rfl (fun _ h₁ => ?_); replace hF := rl hF h₁; clear h₁; refine goes_oper_k rfl rfl (by k_ne) (fun K hK => ?_); go_simp; refine hK _ _ ⟨?_, ?_⟩; (focus (refine g_idle hD ?_; intro e he; have hm := mem_listed he; simp [go_sem, *] at hm; done)); clear hK K; try w_num))) | ((first | (with_reducible first | refine g_k false true hD rfl ?_ | refine g_ret hD ?_ | refine g_end hD ?_) | ((with_reducible refine g_ct hD ?_ ?_); (focus exact rfl)) | ((with_reducible refine g_cf hD ?_ ?_); (focus exact rfl))); intro _ h₁; replace hF := rl hF h₁; clear h₁) | ((with_reducible refine g_reg hD (fun _ h₁ => ?_)); replace hF := rl hF h₁; clear h₁; simp only [regN]) | ((with_reducible refine g_exit hD (k' := ?_) ?_ (fun _ h₁ => ?_)); rotate_left; (focus exact rfl); replace hF := rl hF h₁; clear h₁)))
  (first | ((with_reducible refine g_opG ?_); (first | (refine g_unw hD rfl rfl (fun _ h₁ => ?_); replace hF := rl hF h₁; clear h₁; walk_nrm) | (refine Goes.step rfl (fun _ h₁ => ?_); replace hF := rl hF h₁; clear h₁; refine goes_oper_k rfl rfl (by k_ne) (fun K hK => ?_); go_simp; refine hK _ _ ⟨?_, ?_⟩; (focus (refine g_idle hD ?_; intro e he; have hm := mem_listed he; simp [go_sem, *] at hm; done)); clear hK K; try w_num))) | ((first | (with_reducible first | refine g_k true true hD rfl ?_ | refine g_ret hD ?_ | refine g_end hD ?_) | ((with_reducible refine g_ct hD ?_ ?_); (focus exact rfl)) | ((with_reducible refine g_cf hD ?_ ?_); (focus exact rfl))); intro _ h₁; replace hF := rl hF h₁; clear h₁) | ((with_reducible refine g_reg hD (fun _ h₁ => ?_)); replace hF := rl hF h₁; clear h₁; simp only [regN]) | ((with_reducible refine g_exit hD (k' := ?_) ?_ (fun _ h₁ => ?_)); rotate_left; (focus exact rfl); replace hF := rl hF h₁; clear h₁))
  exact Goes.stop fun w₁ h₁ => hgo.out _ _ _ (rl hF h₁) rfl rfl rfl rfl rfl rfl rfl
end
end Go.Proofs.Ytblpmdolclalnaa
