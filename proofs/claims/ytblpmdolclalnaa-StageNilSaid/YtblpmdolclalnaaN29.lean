/- The closure of StageNil (f20): a call of it within a child of Map[int,string]. Goroutine 0 alone: the calls of the law StageNil: Map[int,string], and the calls that are refused. -/
import Derived.Test.YtblpmdolclalnaaN23
import Derived.Test.YtblpmdolclalnaaN24
import Derived.Test.YtblpmdolclalnaaN28
import Derived.Laws.Runes
set_option maxHeartbeats 16000000
set_option linter.unusedSimpArgs false
set_option linter.unusedVariables false
namespace Go.Proofs.Ytblpmdolclalnaa
open Go.Conc Go.RowKit Go.Conc.Lib Go.ConcR.Gen Go.ConcN.Gen
open Go.ConcR (WgAt KK stA smA rd wr mk DC0)
open Go.ConcN (WgLive)
@[go_sem] theorem conv_str (w : World) (k : IntKind) (n : Int) : (convert 21 9 (.int k n)).run Try.prog w = .ok (.string (Utf8.encode n)) w := run_convert_int_string w 21 9 k n (by rw [Try.underlying21]; rfl) Try.underlying9
@[go_sem] theorem conv_strE (w : World) (k : IntKind) (n : Int) (es : Array Event) : (convert 21 9 (.int k n)).events Try.prog w es = es := by
 simp [convert, run_underlying Try.underlying21, run_underlying Try.underlying9, Conv.intToString]
def chrI (n : Int) : Int := (IntKind.i64.wrap (97 + (IntKind.i64.wrap (n.tmod 26 + 26)).tmod 26) + 2147483648) % 4294967296 - 2147483648
def chrS (n : Int) : ByteArray := Utf8.encode (chrI n)
def fn20 : Value := .func (.func 20) #[] #[]
structure CallN (own : Nat → Prop) (Got : Cells) (Rd : Nat → Prop) (Wg : Nat) (w₀ w : World) : Prop where
 live : WgLive 66 Wg w
 keep : ∀ e f v, own e ∨ Got e f ∨ Rd e → w₀.cell? ⟨e, f, none⟩ = some v → w.cell? ⟨e, f, none⟩ = some v
 form : ∀ (b : Nat) (c : Array Value) (e : TypeId) (f : Nat × Nat), w₀.heap[b]? = some (Obj.cells c e f) → ∃ c' : Array Value, w.heap[b]? = some (Obj.cells c' e f)
section
variable {own : Nat → Prop} {Got : Cells} {Rd : Nat → Prop} {Wg : Nat} {n : Int} {w w₁ w₀ : World}
theorem CallN.rely (h : CallN own Got Rd Wg w₀ w) (r : KR 66 Wg own Got Rd w w₁) : CallN own Got Rd Wg w₀ w₁ :=
 ⟨r.live h.live, fun e f v he hv => (r.cell e f (cell_lt (h.keep e f v he hv)) he).trans (h.keep e f v he hv), fun b c e f hc => by
   obtain ⟨c1, h1⟩ := h.form b c e f hc
   obtain ⟨c2, h2, _⟩ := r.form b c1 e f h1
   exact ⟨c2, h2⟩⟩
theorem enter20 {a : Act} {o : Oper} {y z : Operand} {ats : Array TypeId} {v : Value} (hop : o.op = .call { callee := .value y, args := #[z], argTypes := ats }) (hy : a.eval y = fn20) (hz : a.eval z = v) :
   (execOp a.eval o).run Try.prog w = .ok (.enter 20 #[v]) w ∧ (execOp a.eval o).events Try.prog w #[] = #[] := by
 constructor
 · unfold execOp
   simp only [hop]
   simp [resolve, Deferred.ofValue, hy, hz, fn20, invoke, callFunc, Try.func20, Try.f20]
 · unfold execOp
   simp only [hop]
   simp [resolve, Deferred.ofValue, hy, hz, fn20, invoke, callFunc, Try.func20, Try.f20]
set_option maxRecDepth 100000 in
theorem call20 : CallsP own Got Rd Wg fn20 n (.string (chrS n)) (fun _ => True) 60 := by
 intro b a ops i rest k cs o y z ats w ho hw hk hop hy hz hl _
 have hD : ∀ w, KD Wg own Got Rd w w #[] := fun w => Gua.idle w
 suffices H : ∀ w₀, CallN own Got Rd Wg w₀ w → Goes Try.prog false (KR 66 Wg own Got Rd) (KD Wg own Got Rd) (fun g w' => g = G (b.at (a.put o.dst (.string (chrS n))) (.inRegion ops rest :: k)) cs ∧ CallN own Got Rd Wg w₀ w') 60 (G (b.at a (.inRegion ops (i :: rest) :: k)) cs) w by
   exact (Goo.of_goes (H w ⟨hl, fun _ _ _ _ h => h, fun _ c _ _ h => ⟨c, h⟩⟩)).imp fun g w' h => ⟨h.1, h.2.live, trivial, h.2.keep, h.2.form⟩
 intro w₀ hF
 clear hl
 have rl : ∀ {w w₁ : World}, CallN own Got Rd Wg w₀ w → KR 66 Wg own Got Rd w w₁ → CallN own Got Rd Wg w₀ w₁ := fun h r => h.rely r
 (refine Goes.step rfl (fun _ h₁ => ?_); replace hF := rl hF h₁; clear h₁)
 rw [stepG_enter ho hw hk (enter20 hop hy hz).1, listed_nil (enter20 hop hy hz).2, enter_at _ Try.func20 rfl]
 simp only [goes_go]
 refine ⟨by exact hD _, ?_⟩
 simp only [Try.f20]
 walk_nrm
 repeat ((first | ((with_reducible refine g_opG ?_); first | (refine g_unw hD rfl rfl ?_; intro _ h₁; replace hF := rl hF h₁; clear h₁; walk_nrm) | (refine Goes.step rfl ?_; intro _ h₁; replace hF := rl hF h₁; clear h₁; refine goes_oper_k rfl rfl (by k_ne) fun K hK => ?_; go_simp; refine hK _ _ ⟨?_, ?_⟩; (focus (refine g_idle hD ?_; intro e he; have hm := mem_listed he; simp [go_sem, *] at hm; done)); clear hK K; try w_num)) | ((first | ((with_reducible refine g_c (k' := ?_) true true hD ?_ ?_); rotate_left; focus exact rfl) | with_reducible refine g_r hD rfl ?_); intro _ h₁; replace hF := rl hF h₁; clear h₁)))
 (refine Goes.step rfl (fun _ h₁ => ?_); replace hF := rl hF h₁; clear h₁)
 refine goes_leave1 rfl rfl Try.func20 rfl ⟨by exact hD _, ?_⟩
 rw [ho]
 simp only [chrS, chrI]
 exact Goes.stop fun w₁ h₁ => ⟨rfl, rl hF h₁⟩
end
end Go.Proofs.Ytblpmdolclalnaa
namespace Go.Proofs.Ytblpmdolclalnaa
open Go.Conc
open Go.ConcN (WgLive)
def GotS (w' : World) (v : Value) (ys : List ByteArray) : Prop := ∃ fa cap, v = .slice fa ys.length cap ∧ w'.ownsRow 0 9 1 (.slice fa ys.length cap) ys.length (ys.map Value.string)
theorem gotS_of {w' : World} {v : Value} {ys : List ByteArray} (hr : w'.ownsRow 0 9 1 v ys.length (ys.map Value.string)) : GotS w' v ys := by
 rcases hr.2 with ⟨e, h0⟩ | ⟨g, c, cur, e, _⟩
 · refine ⟨none, 0, by rw [h0]; exact e, ?_⟩
   rw [e] at hr
   rw [show Value.slice none ys.length 0 = .slice none 0 0 by rw [h0]]
   exact hr
 · exact ⟨_, c, e, by rw [← e]; exact hr⟩
namespace MpT
section
variable {Shun : Nat → Prop} {w w₁ : World} {b₀ : Frame} {a₀ : Act} {ops₀ : Array Oper} {i₀ : Nat} {rest₀ : List Nat} {k₀ : List Item} {cs : List Frame} {fa : Option Addr} {cap kl K : Nat} {ns : List Int}
def mapN (Shun : Nat → Prop) (w : World) (cs : List Frame) (K kl : Nat) (ns : List Int) : MpM where
 q := { K := K, n := ns.length, c0 := w.heap.size + 1, Wg := w.heap.size + 3, nfuel := 60, fv := fn20, phi := chrS, Xf := fun _ => True, Sx := fun _ => False }
 cs := cs
 Shun := Shun
 n0 := w.heap.size
 w0 := w
 inV := seqV kl
 xs := ints ns
 e8 := w.heap.size + 2
 e4 := w.heap.size
theorem mapN_ok (hK1 : 0 < K) (hK : K ≤ 16) (hn : ns.length ≤ 900000) (hi : Cel Shun kl (.slice fa ns.length cap) w) (hL : Ls Shun fa (ints ns) w) : MpMOK (mapN Shun w cs K kl ns) where
 q := ⟨⟨fun _ _ _ h => h.elim, fun _ _ _ _ _ _ => trivial⟩, fun _ _ _ _ _ _ _ _ => trivial, fun _ _ _ _ _ => call20⟩
 few := hK
 one := hK1
 wg := Nat.le_add_right _ _
 c0 := Nat.le_add_right _ _
 e8 := Nat.le_add_right _ _
 e4 := Nat.le_refl _
 sx b hb := hb.elim
 x0 w' h := trivial
 it := ⟨kl, fa, cap, rfl, ⟨cell_lt hi.2, hi.1⟩, by show w.cell? _ = _; rw [hi.2]; simp [mapN], fun i v hv => by
   obtain ⟨bl, o, h1, h2, h3⟩ := hL i v hv
   exact ⟨bl, o, h1, cell_lt h3, h2, h3⟩⟩
 xs := ⟨by simp [mapN], hn, fun v hv => by
   obtain ⟨n, _, rfl⟩ := List.mem_map.1 hv
   exact ⟨n, rfl⟩⟩
theorem str_law (h66 : S66 Shun w) (hK1 : 0 < K) (hK : K ≤ 16) (hn : ns.length ≤ 900000) (hi : Cel Shun kl (.slice fa ns.length cap) w) (hL : Ls Shun fa (ints ns) w) :
   Lone Try.prog w.heap.size (fun S g w' => Keep Shun w S w' ∧ ∃ v, GotS w' v (ns.map chrS) ∧ g = G (b₀.at (a₀.put ((ops₀[i₀]?).bind (·.dst)) (.tuple #[v, .int .i64 0])) (.inRegion ops₀ rest₀ :: k₀)) cs) Shun
     (G ((base 19).at ⟨#[.int .i64 K, fn20, seqV kl, undef, undef, undef, undef, undef, undef, undef, undef, undef, undef, undef, undef, undef, undef, undef, undef, undef, undef, undef, undef, undef, undef, undef, undef, undef, undef, undef, undef, undef, undef, undef, undef, undef, undef, undef, undef, undef, undef, undef, undef, undef, undef, undef, undef, undef, undef, undef, undef, undef, undef, undef, undef, undef, undef, undef, undef, undef, undef, undef, undef, undef], []⟩ [.code bodyM]) (b₀.at a₀ (.inRegion ops₀ (i₀ :: rest₀) :: k₀) :: cs)) w := by
 have hm := mapN_ok (cs := (b₀.at a₀ (.inRegion ops₀ (i₀ :: rest₀) :: k₀) :: cs)) hK1 hK hn hi hL
 refine (map_call hm rfl rfl rfl rfl rfl rfl (fun b hb => h66.lt hb) rfl).imp fun S g w' _ h => ?_
 obtain ⟨hS, v, hR, rfl⟩ := h
 have ho : Out w.heap.size w (fun b _ => Shun b) w' := hR.out
 refine ⟨⟨fun b hb => (hS b hb).imp id fun e => by rw [e]; show w.heap.size ≤ w.heap.size + 3; omega, ho, s66_of h66 ho hR.live hS⟩, v, gotS_of ?_, rfl⟩
 have hrow := hR.row
 have e1 : (mapN Shun w (b₀.at a₀ (.inRegion ops₀ (i₀ :: rest₀) :: k₀) :: cs) K kl ns).xs.length = (ns.map chrS).length := by simp [mapN]
 have e2 : (mapN Shun w (b₀.at a₀ (.inRegion ops₀ (i₀ :: rest₀) :: k₀) :: cs) K kl ns).xs.map (mapV (mapN Shun w (b₀.at a₀ (.inRegion ops₀ (i₀ :: rest₀) :: k₀) :: cs) K kl ns).q.phi) = (ns.map chrS).map Value.string := by simp [mapN, mapV, ints, Function.comp_def]
 rw [e1, e2] at hrow
 exact hrow
end
end MpT
section
variable {Shun : Nat → Prop} {w w₁ : World} {b₀ : Frame} {a₀ : Act} {ops₀ : Array Oper} {i₀ : Nat} {rest₀ : List Nat} {k₀ : List Item} {cs : List Frame} {fa : Option Addr} {cap kb kl K nf : Nat} {inV : Value}
theorem fresh0 (w : World) : Fresh w.heap.size w (fun b _ => Shun b) [] w := ⟨Out.refl (Nat.le_refl _), by simp, fun i o h => by simp at h⟩
theorem fresh_keep {l : List Obj} (h66 : S66 Shun w) (hF : Fresh w.heap.size w (fun b _ => Shun b) l w₁) : Keep Shun w Shun w₁ := ⟨fun _ => .inl, hF.out, fun b hb => by
 obtain ⟨cs, hc⟩ := h66 b hb
 obtain ⟨c', hc', _⟩ := hF.out.form b cs 66 (0, 0) (h66.lt hb) hc
 exact ⟨c', hc'⟩⟩
def Refused (Shun : Nat → Prop) (w : World) (b₀ : Frame) (a₀ : Act) (ops₀ : Array Oper) (i₀ : Nat) (rest₀ : List Nat) (k₀ : List Item) (cs : List Frame) (S : Nat → Prop) (g : Goroutine) (w' : World) : Prop :=
 Keep Shun w S w' ∧ g = G (b₀.at (a₀.put ((ops₀[i₀]?).bind (·.dst)) (.tuple #[.slice none 0 0, .int .i64 1])) (.inRegion ops₀ rest₀ :: k₀)) cs
theorem map_nof (h66 : S66 Shun w) (hK1 : 0 < K) (hK : K ≤ 16) :
   Lone Try.prog w.heap.size (Refused Shun w b₀ a₀ ops₀ i₀ rest₀ k₀ cs) Shun (G ((base 11).at ⟨#[.int .i64 K, .nilFunc, inV, undef, undef, undef, undef, undef, undef, undef, undef, undef, undef, undef, undef, undef, undef, undef, undef, undef, undef, undef, undef, undef, undef, undef, undef, undef, undef, undef, undef, undef, undef, undef, undef, undef, undef, undef, undef, undef, undef, undef, undef, undef, undef, undef, undef, undef, undef, undef, undef, undef, undef, undef, undef, undef, undef, undef, undef, undef, undef, undef, undef, undef], []⟩ [.code bodyM]) (b₀.at a₀ (.inRegion ops₀ (i₀ :: rest₀) :: k₀) :: cs)) w :=
 Lone.goes (n := 60) (mp_nilf (fun b hb => h66.lt hb) hK1 hK (fresh0 w) fun w' hF => ⟨fresh_keep h66 hF, rfl⟩)
theorem map_noi (h66 : S66 Shun w) (hK1 : 0 < K) (hK : K ≤ 16) :
   Lone Try.prog w.heap.size (Refused Shun w b₀ a₀ ops₀ i₀ rest₀ k₀ cs) Shun (G ((base 11).at ⟨#[.int .i64 K, fnV kb, .nilFunc, undef, undef, undef, undef, undef, undef, undef, undef, undef, undef, undef, undef, undef, undef, undef, undef, undef, undef, undef, undef, undef, undef, undef, undef, undef, undef, undef, undef, undef, undef, undef, undef, undef, undef, undef, undef, undef, undef, undef, undef, undef, undef, undef, undef, undef, undef, undef, undef, undef, undef, undef, undef, undef, undef, undef, undef, undef, undef, undef, undef, undef], []⟩ [.code bodyM]) (b₀.at a₀ (.inRegion ops₀ (i₀ :: rest₀) :: k₀) :: cs)) w :=
 Lone.goes (n := 60) (mp_nili (fun b hb => h66.lt hb) hK1 hK (fresh0 w) fun w' hF => ⟨fresh_keep h66 hF, rfl⟩)
theorem chain_noi (h66 : S66 Shun w) :
   Lone Try.prog w.heap.size (Refused Shun w b₀ a₀ ops₀ i₀ rest₀ k₀ cs) Shun (G ((base 16).at ⟨#[.nilFunc, .slice fa nf cap, undef, undef, undef, undef, undef, undef, undef, undef, undef, undef, undef, undef, undef, undef, undef, undef, undef, undef, undef, undef, undef, undef, undef, undef, undef, undef, undef, undef, undef, undef, undef, undef, undef, undef, undef, undef, undef, undef, undef, undef, undef, undef, undef, undef, undef, undef, undef], []⟩ [.code body16]) (b₀.at a₀ (.inRegion ops₀ (i₀ :: rest₀) :: k₀) :: cs)) w :=
 Lone.goes (n := 60) (ch_none (F := AtRel w) AtRel.steady ⟨w.drawn, rfl⟩ fun _ hF => ⟨keep_refl_at h66 hF, rfl⟩)
theorem chain_nof {vs : List Value} (h66 : S66 Shun w) (hlen : vs.length ≤ 16) (hnil : vs.any isNil = true) (hf : FnS Shun fa vs w) :
   Lone Try.prog w.heap.size (Refused Shun w b₀ a₀ ops₀ i₀ rest₀ k₀ cs) Shun (G ((base 16).at ⟨#[seqV kl, .slice fa vs.length cap, undef, undef, undef, undef, undef, undef, undef, undef, undef, undef, undef, undef, undef, undef, undef, undef, undef, undef, undef, undef, undef, undef, undef, undef, undef, undef, undef, undef, undef, undef, undef, undef, undef, undef, undef, undef, undef, undef, undef, undef, undef, undef, undef, undef, undef, undef, undef], []⟩ [.code body16]) (b₀.at a₀ (.inRegion ops₀ (i₀ :: rest₀) :: k₀) :: cs)) w :=
 (ch_nil (F := fun w' => AtRel w w' ∧ FnS Shun fa vs w') (fun w' d h => ⟨AtRel.steady w' d h.1, ⟨h.2.elem⟩⟩) (fun _ h => h.2) hlen hnil ⟨⟨w.drawn, rfl⟩, hf⟩).imp fun S g w' _ h => by
   obtain ⟨rfl, hF, rfl⟩ := h
   exact ⟨keep_refl_at h66 hF.1, rfl⟩
end
end Go.Proofs.Ytblpmdolclalnaa
