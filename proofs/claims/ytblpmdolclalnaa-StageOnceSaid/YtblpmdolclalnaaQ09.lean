/- A walk's steps of control, one law each, in any rely and guarantee that lets an idle step by; conditions: none. The walks through sync.WaitGroup's Add(-1) and Done, for the children of a net. Made by gen_wgw.py. The walks through sync.WaitGroup's Add(1) and Wait, for goroutine 0 of a net, in any rely and guarantee of some kind. Made by gen_wgm.py. -/
import Derived.Test.YtblpmdolclalnaaQ01
import Derived.Test.YtblpmdolclalnaaQ08
import Derived.Conc.WgGenN3
import Derived.Conc.MuWords
set_option maxHeartbeats 16000000
set_option linter.unusedSimpArgs false
set_option linter.unusedVariables false
namespace Go.Proofs.Ytblpmdolclalnaa
open Go.Conc
structure Hd (p : Prop) : Prop where
 out : p
theorem regN : List.range (#[] : Array Oper).size = [] ∧ (∀ a0 : Oper, List.range #[a0].size = [0]) ∧ (∀ a0 a1 : Oper, List.range #[a0, a1].size = [0, 1]) ∧ (∀ a0 a1 a2 : Oper, List.range #[a0, a1, a2].size = [0, 1, 2]) ∧ (∀ a0 a1 a2 a3 : Oper, List.range #[a0, a1, a2, a3].size = [0, 1, 2, 3]) ∧ (∀ a0 a1 a2 a3 a4 : Oper, List.range #[a0, a1, a2, a3, a4].size = [0, 1, 2, 3, 4]) ∧ (∀ a0 a1 a2 a3 a4 a5 : Oper, List.range #[a0, a1, a2, a3, a4, a5].size = [0, 1, 2, 3, 4, 5]) ∧ (∀ a0 a1 a2 a3 a4 a5 a6 : Oper, List.range #[a0, a1, a2, a3, a4, a5, a6].size = [0, 1, 2, 3, 4, 5, 6]) ∧ (∀ a0 a1 a2 a3 a4 a5 a6 a7 : Oper, List.range #[a0, a1, a2, a3, a4, a5, a6, a7].size = [0, 1, 2, 3, 4, 5, 6, 7]) ∧ (∀ a0 a1 a2 a3 a4 a5 a6 a7 a8 : Oper, List.range #[a0, a1, a2, a3, a4, a5, a6, a7, a8].size = [0, 1, 2, 3, 4, 5, 6, 7, 8]) ∧ (∀ a0 a1 a2 a3 a4 a5 a6 a7 a8 a9 : Oper, List.range #[a0, a1, a2, a3, a4, a5, a6, a7, a8, a9].size = [0, 1, 2, 3, 4, 5, 6, 7, 8, 9]) ∧ (∀ a0 a1 a2 a3 a4 a5 a6 a7 a8 a9 a10 : Oper, List.range #[a0, a1, a2, a3, a4, a5, a6, a7, a8, a9, a10].size = [0, 1, 2, 3, 4, 5, 6, 7, 8, 9, 10]) ∧ (∀ a0 a1 a2 a3 a4 a5 a6 a7 a8 a9 a10 a11 : Oper, List.range #[a0, a1, a2, a3, a4, a5, a6, a7, a8, a9, a10, a11].size = [0, 1, 2, 3, 4, 5, 6, 7, 8, 9, 10, 11]) ∧ (∀ a0 a1 a2 a3 a4 a5 a6 a7 a8 a9 a10 a11 a12 : Oper, List.range #[a0, a1, a2, a3, a4, a5, a6, a7, a8, a9, a10, a11, a12].size = [0, 1, 2, 3, 4, 5, 6, 7, 8, 9, 10, 11, 12]) ∧ (∀ a0 a1 a2 a3 a4 a5 a6 a7 a8 a9 a10 a11 a12 a13 : Oper, List.range #[a0, a1, a2, a3, a4, a5, a6, a7, a8, a9, a10, a11, a12, a13].size = [0, 1, 2, 3, 4, 5, 6, 7, 8, 9, 10, 11, 12, 13]) ∧ (∀ a0 a1 a2 a3 a4 a5 a6 a7 a8 a9 a10 a11 a12 a13 a14 : Oper, List.range #[a0, a1, a2, a3, a4, a5, a6, a7, a8, a9, a10, a11, a12, a13, a14].size = [0, 1, 2, 3, 4, 5, 6, 7, 8, 9, 10, 11, 12, 13, 14]) ∧ (∀ a0 a1 a2 a3 a4 a5 a6 a7 a8 a9 a10 a11 a12 a13 a14 a15 : Oper, List.range #[a0, a1, a2, a3, a4, a5, a6, a7, a8, a9, a10, a11, a12, a13, a14, a15].size = [0, 1, 2, 3, 4, 5, 6, 7, 8, 9, 10, 11, 12, 13, 14, 15]) ∧ (∀ a0 a1 a2 a3 a4 a5 a6 a7 a8 a9 a10 a11 a12 a13 a14 a15 a16 : Oper, List.range #[a0, a1, a2, a3, a4, a5, a6, a7, a8, a9, a10, a11, a12, a13, a14, a15, a16].size = [0, 1, 2, 3, 4, 5, 6, 7, 8, 9, 10, 11, 12, 13, 14, 15, 16]) ∧ (∀ a0 a1 a2 a3 a4 a5 a6 a7 a8 a9 a10 a11 a12 a13 a14 a15 a16 a17 : Oper, List.range #[a0, a1, a2, a3, a4, a5, a6, a7, a8, a9, a10, a11, a12, a13, a14, a15, a16, a17].size = [0, 1, 2, 3, 4, 5, 6, 7, 8, 9, 10, 11, 12, 13, 14, 15, 16, 17]) ∧ (∀ a0 a1 a2 a3 a4 a5 a6 a7 a8 a9 a10 a11 a12 a13 a14 a15 a16 a17 a18 : Oper, List.range #[a0, a1, a2, a3, a4, a5, a6, a7, a8, a9, a10, a11, a12, a13, a14, a15, a16, a17, a18].size = [0, 1, 2, 3, 4, 5, 6, 7, 8, 9, 10, 11, 12, 13, 14, 15, 16, 17, 18]) ∧ (∀ a0 a1 a2 a3 a4 a5 a6 a7 a8 a9 a10 a11 a12 a13 a14 a15 a16 a17 a18 a19 : Oper, List.range #[a0, a1, a2, a3, a4, a5, a6, a7, a8, a9, a10, a11, a12, a13, a14, a15, a16, a17, a18, a19].size = [0, 1, 2, 3, 4, 5, 6, 7, 8, 9, 10, 11, 12, 13, 14, 15, 16, 17, 18, 19]) ∧ (∀ a0 a1 a2 a3 a4 a5 a6 a7 a8 a9 a10 a11 a12 a13 a14 a15 a16 a17 a18 a19 a20 : Oper, List.range #[a0, a1, a2, a3, a4, a5, a6, a7, a8, a9, a10, a11, a12, a13, a14, a15, a16, a17, a18, a19, a20].size = [0, 1, 2, 3, 4, 5, 6, 7, 8, 9, 10, 11, 12, 13, 14, 15, 16, 17, 18, 19, 20]) ∧ (∀ a0 a1 a2 a3 a4 a5 a6 a7 a8 a9 a10 a11 a12 a13 a14 a15 a16 a17 a18 a19 a20 a21 : Oper, List.range #[a0, a1, a2, a3, a4, a5, a6, a7, a8, a9, a10, a11, a12, a13, a14, a15, a16, a17, a18, a19, a20, a21].size = [0, 1, 2, 3, 4, 5, 6, 7, 8, 9, 10, 11, 12, 13, 14, 15, 16, 17, 18, 19, 20, 21]) ∧ (∀ a0 a1 a2 a3 a4 a5 a6 a7 a8 a9 a10 a11 a12 a13 a14 a15 a16 a17 a18 a19 a20 a21 a22 : Oper, List.range #[a0, a1, a2, a3, a4, a5, a6, a7, a8, a9, a10, a11, a12, a13, a14, a15, a16, a17, a18, a19, a20, a21, a22].size = [0, 1, 2, 3, 4, 5, 6, 7, 8, 9, 10, 11, 12, 13, 14, 15, 16, 17, 18, 19, 20, 21, 22]) ∧ (∀ a0 a1 a2 a3 a4 a5 a6 a7 a8 a9 a10 a11 a12 a13 a14 a15 a16 a17 a18 a19 a20 a21 a22 a23 : Oper, List.range #[a0, a1, a2, a3, a4, a5, a6, a7, a8, a9, a10, a11, a12, a13, a14, a15, a16, a17, a18, a19, a20, a21, a22, a23].size = [0, 1, 2, 3, 4, 5, 6, 7, 8, 9, 10, 11, 12, 13, 14, 15, 16, 17, 18, 19, 20, 21, 22, 23]) ∧ (∀ a0 a1 a2 a3 a4 a5 a6 a7 a8 a9 a10 a11 a12 a13 a14 a15 a16 a17 a18 a19 a20 a21 a22 a23 a24 : Oper, List.range #[a0, a1, a2, a3, a4, a5, a6, a7, a8, a9, a10, a11, a12, a13, a14, a15, a16, a17, a18, a19, a20, a21, a22, a23, a24].size = [0, 1, 2, 3, 4, 5, 6, 7, 8, 9, 10, 11, 12, 13, 14, 15, 16, 17, 18, 19, 20, 21, 22, 23, 24]) ∧ (∀ a0 a1 a2 a3 a4 a5 a6 a7 a8 a9 a10 a11 a12 a13 a14 a15 a16 a17 a18 a19 a20 a21 a22 a23 a24 a25 : Oper, List.range #[a0, a1, a2, a3, a4, a5, a6, a7, a8, a9, a10, a11, a12, a13, a14, a15, a16, a17, a18, a19, a20, a21, a22, a23, a24, a25].size = [0, 1, 2, 3, 4, 5, 6, 7, 8, 9, 10, 11, 12, 13, 14, 15, 16, 17, 18, 19, 20, 21, 22, 23, 24, 25]) := by
 repeat' apply And.intro
 all_goals (intros; rfl)
def cS : Code → Code | .seq _ y => y | c => c
def cF : Code → Code | .seq x _ => x | c => c
def cI : Code → Code | .block _ c => c | .loop c => c | c => c
def cO : Code → Array Oper | .region _ R _ => R | _ => #[]
section
variable {P : Program} {main : Bool} {R : World → World → Prop} {D : World → World → Array Event → Prop} {Stop : Goroutine → World → Prop} {n : Nat} {b : Frame} {a : Act} {k : List Item} {cs : List Frame} {w : World}
theorem g_idle (hD : ∀ w, D w w #[]) {w : World} {es : Array Event} (h : ∀ e ∈ es, False) : D w w es := by
 have : es = #[] := Array.eq_empty_iff_forall_not_mem.2 h
 exact this ▸ hD w
theorem g_ctl (hD : ∀ w, D w w #[]) {g g' : Goroutine} (hr : g.status = .running) (hs : ∀ w, stepG P main g w = .go g' w #[]) (h : ∀ w₁, R w w₁ → Goes P main R D Stop n g' w₁) : Goes P main R D Stop (n + 1) g w :=
 Goes.step hr fun w₁ h₁ => by rw [hs]; exact ⟨hD _, h w₁ h₁⟩
theorem g_opG {ops : Array Oper} {i : Nat} {rest : List Nat} (h : Goes P main R D Stop n (G (b.at a (.inRegion ops (i :: rest) :: k)) cs) w) : Goes P main R D Stop n (G (b.at a (.inRegion ops (i :: rest) :: k)) cs) w := h
theorem g_lvG {todo : List Item} (h : Goes P main R D Stop n (G { b.at a todo with mode := .returning } cs) w) : Goes P main R D Stop n (G { b.at a todo with mode := .returning } cs) w := h
theorem g_reg (hD : ∀ w, D w w #[]) {id : Nat} {ops : Array Oper} (h : ∀ w₁, R w w₁ → Goes P main R D Stop n (G (b.at a (.inRegion ops (List.range ops.size) :: k)) cs) w₁) : Goes P main R D Stop (n + 1) (G (b.at a (.code (.region id ops false) :: k)) cs) w := g_ctl hD rfl (fun _ => stepG_region) h
theorem g_ct (hD : ∀ w, D w w #[]) {c : Operand} {x y : Code} (hc : a.eval c = .bool true) (h : ∀ w₁, R w w₁ → Goes P main R D Stop n (G (b.at a (.code x :: k)) cs) w₁) : Goes P main R D Stop (n + 1) (G (b.at a (.code (.cond c x y) :: k)) cs) w := g_ctl hD rfl (fun _ => stepG_cond hc) h
theorem g_cf (hD : ∀ w, D w w #[]) {c : Operand} {x y : Code} (hc : a.eval c = .bool false) (h : ∀ w₁, R w w₁ → Goes P main R D Stop n (G (b.at a (.code y :: k)) cs) w₁) : Goes P main R D Stop (n + 1) (G (b.at a (.code (.cond c x y) :: k)) cs) w := g_ctl hD rfl (fun _ => stepG_cond hc) h
theorem g_unw (hD : ∀ w, D w w #[]) {ops : Array Oper} {i : Nat} {rest : List Nat} {o : Oper} (ho : ops[i]? = some o) (hw : Region.wanted o (yielded ops a.tmps) = false) (h : ∀ w₁, R w w₁ → Goes P main R D Stop n (G (b.at (a.put o.dst undef) (.inRegion ops rest :: k)) cs) w₁) : Goes P main R D Stop (n + 1) (G (b.at a (.inRegion ops (i :: rest) :: k)) cs) w := g_ctl hD rfl (fun _ => stepG_unwanted ho hw) h
end
section
variable {P : Program} {n : Nat} {b : Frame} {a : Act} {k : List Item} {cs : List Frame}
end
def regL (ops : Array Oper) (k : List Item) : Option (List Item) :=
 match ops.size with
 | 0 => some (.inRegion ops [] :: k)
 | 1 => some (.inRegion ops [0] :: k)
 | 2 => some (.inRegion ops [0, 1] :: k)
 | 3 => some (.inRegion ops [0, 1, 2] :: k)
 | 4 => some (.inRegion ops [0, 1, 2, 3] :: k)
 | 5 => some (.inRegion ops [0, 1, 2, 3, 4] :: k)
 | 6 => some (.inRegion ops [0, 1, 2, 3, 4, 5] :: k)
 | 7 => some (.inRegion ops [0, 1, 2, 3, 4, 5, 6] :: k)
 | 8 => some (.inRegion ops [0, 1, 2, 3, 4, 5, 6, 7] :: k)
 | 9 => some (.inRegion ops [0, 1, 2, 3, 4, 5, 6, 7, 8] :: k)
 | 10 => some (.inRegion ops [0, 1, 2, 3, 4, 5, 6, 7, 8, 9] :: k)
 | 11 => some (.inRegion ops [0, 1, 2, 3, 4, 5, 6, 7, 8, 9, 10] :: k)
 | 12 => some (.inRegion ops [0, 1, 2, 3, 4, 5, 6, 7, 8, 9, 10, 11] :: k)
 | 13 => some (.inRegion ops [0, 1, 2, 3, 4, 5, 6, 7, 8, 9, 10, 11, 12] :: k)
 | 14 => some (.inRegion ops [0, 1, 2, 3, 4, 5, 6, 7, 8, 9, 10, 11, 12, 13] :: k)
 | 15 => some (.inRegion ops [0, 1, 2, 3, 4, 5, 6, 7, 8, 9, 10, 11, 12, 13, 14] :: k)
 | 16 => some (.inRegion ops [0, 1, 2, 3, 4, 5, 6, 7, 8, 9, 10, 11, 12, 13, 14, 15] :: k)
 | 17 => some (.inRegion ops [0, 1, 2, 3, 4, 5, 6, 7, 8, 9, 10, 11, 12, 13, 14, 15, 16] :: k)
 | 18 => some (.inRegion ops [0, 1, 2, 3, 4, 5, 6, 7, 8, 9, 10, 11, 12, 13, 14, 15, 16, 17] :: k)
 | 19 => some (.inRegion ops [0, 1, 2, 3, 4, 5, 6, 7, 8, 9, 10, 11, 12, 13, 14, 15, 16, 17, 18] :: k)
 | n => some (.inRegion ops (List.range n) :: k)
theorem regL_eq (ops : Array Oper) (k : List Item) : regL ops k = some (.inRegion ops (List.range ops.size) :: k) := by
 unfold regL
 split <;> rename_i h <;> (first | rw [h] | skip) <;> rfl
def ctlI (l m : Bool) (a : Act) : List Item → Option (List Item)
 | .code (.seq x y) :: k => some (.code x :: .code y :: k)
 | .code .skip :: k => some k
 | .code (.block id c) :: k => some (.code c :: .inBlock id :: k)
 | .code (.loop c) :: k => match m with | true => some (.code c :: .inLoop c :: k) | false => none
 | .code (.cond c x y) :: k => match a.eval c with | .bool true => some (.code x :: k) | .bool false => some (.code y :: k) | _ => none
 | .code (.exit id) :: k => exitTo id k
 | .code (.region _ ops false) :: k => regL ops k
 | .inLoop c :: k => match l with | true => some (.code c :: .inLoop c :: k) | false => none
 | .inBlock _ :: k => some k
 | .inRegion _ [] :: k => some k
 | _ => none
theorem ctlI_step {P : Program} {main : Bool} {b : Frame} {a : Act} {its its' : List Item} {cs : List Frame} {l m : Bool} (h : ctlI l m a its = some its') (w : World) : stepG P main (G (b.at a its) cs) w = .go (G (b.at a its') cs) w #[] := by
 unfold ctlI at h
 split at h <;> try (cases h; first | exact stepG_seq | exact stepG_skip | exact stepG_block | exact stepG_inBlock | exact stepG_region_end)
 · cases m <;> simp at h
   subst h
   exact stepG_loop
 · split at h
   · cases h; exact stepG_cond (by assumption)
   · cases h; exact stepG_cond (by assumption)
   · cases h
 · exact stepG_exit h
 · rw [regL_eq] at h
   cases h
   exact stepG_region
 · cases l <;> simp at h
   subst h
   exact stepG_inLoop
 · cases h
abbrev retQ : List Item → Bool
 | .code .ret :: _ => true
 | [] => true
 | _ => false
theorem ret_step {P : Program} {main : Bool} {b : Frame} {a : Act} {its : List Item} {cs : List Frame} (h : retQ its = true) (w : World) : stepG P main (G (b.at a its) cs) w = .go (G { b.at a its with mode := .returning } cs) w #[] := by
 unfold retQ at h
 split at h
 · exact stepG_ret'
 · exact stepG_end
 · cases h
section
variable {P : Program} {main : Bool} {R : World → World → Prop} {D : World → World → Array Event → Prop} {Stop : Goroutine → World → Prop} {n d : Nat} {b : Frame} {a : Act} {its k' : List Item} {cs : List Frame} {w : World}
theorem g_c (l m : Bool) (hD : ∀ w, D w w #[]) (h : ctlI l m a its = some k') (hgo : ∀ w₁, R w w₁ → Goes P main R D Stop n (G (b.at a k') cs) w₁) : Goes P main R D Stop (n + 1) (G (b.at a its) cs) w := g_ctl hD rfl (ctlI_step h) hgo
theorem g_r (hD : ∀ w, D w w #[]) (h : retQ its = true) (hgo : ∀ w₁, R w w₁ → Goes P main R D Stop n (G { b.at a its with mode := .returning } cs) w₁) : Goes P main R D Stop (n + 1) (G (b.at a its) cs) w := g_ctl hD rfl (ret_step h) hgo
theorem z_c (h : ctlI true false a its = some k') (hgo : QuitsD P n d (G (b.at a k') cs)) : QuitsD P (n + 1) d (G (b.at a its) cs) := .ctl rfl (ctlI_step h) hgo
theorem z_r (h : retQ its = true) (hgo : QuitsD P n d (G { b.at a its with mode := .returning } cs)) : QuitsD P (n + 1) d (G (b.at a its) cs) := .ctl rfl (ret_step h) hgo
end
end Go.Proofs.Ytblpmdolclalnaa
namespace Go.Proofs.Ytblpmdolclalnaa
open Go.Conc Go.RowKit Go.Conc.Lib Go.ConcR.Gen Go.ConcN.Gen
open Go.ConcR (WgAt KK stA smA rd wr mk DC0)
open Go.ConcN (WgLive st_flag st_waiters)
instance : Go.ConcR.Payload := ⟨0⟩
variable {L : WgLink}
def AtRel0 (P : Program) (ty : TypeId) (Wg : Nat) (g : Goroutine) (w : World) : Prop :=
 g.status = .running ∧ ∃ g', stepG P false g w = .go g' w #[mk (.releaseMerge (stA Wg))] ∧ ∃ m, Goes P false (RL ty Wg) DC0 (AtK1 P ty Wg) m g' w
structure St (l : List Value) : Prop where
 t : True
theorem St.tl {v : Value} {l : List Value} (_ : St (v :: l)) : St l := ⟨trivial⟩
theorem q_vs {P : Program} {n d : Nat} {b : Frame} {a : Act} {k : List Item} {cs : List Frame} {ops : Array Oper} {i : Nat} {rest : List Nat} {o : Oper} {v : Value} {l : List Value} (_ : St (v :: l)) (ho : ops[i]? = some o) (hw : Region.wanted o (yielded ops a.tmps) = true) (hk : b.kind ≠ .early)
   (hr : ∀ w, (execOp a.eval o).run P w = .ok (.value v) w) (he : ∀ w, (execOp a.eval o).events P w #[] = #[])
   (hq : QuitsD P n d (G (b.at (a.put o.dst v) (.inRegion ops rest :: k)) cs)) : QuitsD P (n + 1) d (G (b.at a (.inRegion ops (i :: rest) :: k)) cs) := .value v ho hw hk hr he hq
set_option maxRecDepth 100000 in
theorem wg_sub {P : Program} (H : WgLib P L) {Wg : Nat} {R : World → World → Prop} {D : World → World → Array Event → Prop} {F : World → Prop} (hL : ∀ {w w₁}, (F w ∧ WgLive L.tWg Wg w) → R w w₁ → (F w₁ ∧ WgLive L.tWg Wg w₁)) (hD : ∀ w, D w w #[]) {b₀ : Frame} {a₀ : Act} {ops₀ : Array Oper} {i₀ : Nat} {rest₀ : List Nat} {k₀ : List Item} {cs : List Frame} {qt : Nat}
   (hT : QuitsD P qt 0 (G (b₀.at (a₀.put ((ops₀[i₀]?).bind (·.dst)) (.tuple #[])) (.inRegion ops₀ rest₀ :: k₀)) cs)) (w : World) (hF : F w ∧ WgLive L.tWg Wg w) :
   Goes P false R D (fun g w => AtRel0 P L.tWg Wg g w ∧ F w) 20 (G ((base L.add).at ⟨#[.pointer (some ⟨Wg, 0, none⟩), .int .i64 (-1), undef, undef, undef, undef, undef, undef, undef, undef, undef, undef, undef, undef, undef, undef, undef, undef, undef, undef, undef, undef, undef, undef, undef, undef, undef, undef, undef, undef, undef, undef, undef, undef, undef, undef, undef, undef, undef, undef, undef, undef, undef, undef, undef, undef, undef, undef, undef, undef, undef, undef, undef, undef, undef, undef, undef, undef, undef, undef, undef, undef, undef, undef, undef, undef, undef, undef, undef, undef, undef, undef, undef, undef, undef, undef, undef, undef, undef, undef, undef, undef, undef, undef, undef, undef, undef, undef, undef, undef, undef, undef, undef, undef, undef, undef, undef, undef, undef, undef, undef, undef, undef, undef, undef, undef, undef, undef, undef, undef, undef, undef, undef, undef, undef, undef, undef], []⟩ [.code (body_add L)]) (b₀.at a₀ (.inRegion ops₀ (i₀ :: rest₀) :: k₀) :: cs)) w := by
 lib_facts
 simp only [body_add, addFn, Option.getD_some]
 repeat ((first | ((with_reducible refine g_opG ?_); first | (refine g_unw hD rfl rfl ?_; intro _ h₁; replace hF := hL hF h₁; clear h₁; walk_nrm) | (refine Goes.step rfl ?_; intro _ h₁; replace hF := hL hF h₁; clear h₁; refine goes_oper_k rfl rfl (by k_ne) fun K hK => ?_; go_simp; refine hK _ _ ⟨g_idle hD fun e he => by have hm := mem_listed he; simp [go_sem, *] at hm, ?_⟩; clear hK K; try w_num)) | ((first | ((with_reducible refine g_c (k' := ?_) true true hD ?_ ?_); rotate_left; focus exact rfl) | with_reducible refine g_r hD rfl ?_); intro _ h₁; replace hF := hL hF h₁; clear h₁)))
 ((with_reducible refine g_opG ?_); refine Goes.step rfl (fun _ h₁ => ?_); replace hF := hL hF h₁; clear h₁; refine goes_oper_k rfl rfl (by k_ne) (fun Kx hKx => ?_); have hcv := run_convert_to_unsafe (P := P) H.underlying_tWgP H.underlying_tUP H.room_tWg (WgLive.cell0 hF.2).choose_spec; have hce := fun es => events_convert_to_unsafe (P := P) H.underlying_tWgP H.underlying_tUP H.room_tWg (WgLive.cell0 hF.2).choose_spec es; go_simp; refine hKx _ _ ⟨?_, ?_⟩; (focus (refine g_idle hD ?_; intro ex hex; have hmx := mem_listed hex; simp [go_sem, hce] at hmx; done)); clear hKx Kx hcv hce)
 refine Goes.stop (fun w₁ h₁ => ?_)
 replace hF := hL hF h₁
 clear h₁ hL hD
 refine ⟨⟨rfl, _, stepG_markAt .releaseMerge (by simp) rfl rfl (by k_ne) rfl H.f_relMerge (x_relMerge_n L) (x_relMerge_b L) (x_relMerge_x L) (x_relMerge_f L) (by simp [Act.eval, stA]), 10, ?_⟩, hF.1⟩
 replace hF := hF.2
 have hD : ∀ w : World, DC0 w w #[] := fun _ => ⟨rfl, rfl⟩
 walk_nrm
 repeat ((first | ((with_reducible refine g_opG ?_); first | (refine g_unw hD rfl rfl ?_; intro _ h₁; replace hF := (fun h r => r h) hF h₁; clear h₁; walk_nrm) | (refine Goes.step rfl ?_; intro _ h₁; replace hF := (fun h r => r h) hF h₁; clear h₁; refine goes_oper_k rfl rfl (by k_ne) fun K hK => ?_; go_simp; refine hK _ _ ⟨g_idle hD fun e he => by have hm := mem_listed he; simp [go_sem, *] at hm, ?_⟩; clear hK K; try w_num)) | ((first | ((with_reducible refine g_c (k' := ?_) true true hD ?_ ?_); rotate_left; focus exact rfl) | with_reducible refine g_r hD rfl ?_); intro _ h₁; replace hF := (fun h r => r h) hF h₁; clear h₁)))
 refine Goes.stop (fun w₁ h₁ => ?_)
 replace hF := h₁ hF
 clear h₁
 refine ⟨rfl, _, stepG_mark0 .disable (by simp) rfl rfl (by k_ne) rfl H.f_disable (x_disable_n L) (x_disable_b L) (x_disable_x L) (x_disable_f L), 50, ?_⟩
 walk_nrm
 repeat (first | (first | ((with_reducible refine g_opG ?_); first | (refine g_unw hD rfl rfl ?_; intro _ h₁; replace hF := (fun h r => r h) hF h₁; clear h₁; walk_nrm) | (refine Goes.step rfl ?_; intro _ h₁; replace hF := (fun h r => r h) hF h₁; clear h₁; refine goes_oper_k rfl rfl (by k_ne) fun K hK => ?_; go_simp; refine hK _ _ ⟨g_idle hD fun e he => by have hm := mem_listed he; simp [go_sem, *] at hm, ?_⟩; clear hK K; try w_num) | ((with_reducible refine g_opG ?_); refine Goes.step rfl (fun _ h₁ => ?_); replace hF := (fun h r => r h) hF h₁; clear h₁; rw [stepG_defer rfl rfl (by k_ne) rfl]; simp only [goes_go]; refine ⟨hD _, ?_⟩; walk_nrm) | ((with_reducible refine g_opG ?_); refine Goes.step rfl (fun _ h₁ => ?_); replace hF := (fun h r => r h) hF h₁; clear h₁; rw [stepG_entry_pure (.bool false) rfl rfl (by k_ne) rfl H.f_inBubble (x_inBubble_n L) (x_inBubble_b L) (x_inBubble_x L) (x_inBubble_f L)]; simp only [goes_go]; refine ⟨hD _, ?_⟩; walk_nrm) | ((with_reducible refine g_opG ?_); refine Goes.step rfl (fun _ h₁ => ?_); replace hF := (fun h r => r h) hF h₁; clear h₁; refine goes_call rfl rfl (by k_ne) rfl H.f_uAdd (nm_uAdd L) rfl ⟨hD _, ?_⟩; walk_nrmf uAddFn)) | ((first | ((with_reducible refine g_c (k' := ?_) true true hD ?_ ?_); rotate_left; focus exact rfl) | with_reducible refine g_r hD rfl ?_); intro _ h₁; replace hF := (fun h r => r h) hF h₁; clear h₁)))
 refine Goes.stop (fun w₁ h₁ => ?_)
 clear h₁ hF
 refine ⟨rfl, fun v wt hwt hv hw => ?_⟩
 have e0 : IntKind.u64.wrap (KK + 18446744069414584320) = 0 := by decide
 have e1 : IntKind.u64.wrap (KK + 1 + 18446744069414584320) = 1 := by decide
 rcases Nat.eq_zero_or_pos v with rfl | hvp <;> (obtain rfl | rfl : wt = 0 ∨ wt = 1 := by omega)
 · replace hw : WgAt L.tWg Wg w₁ KK 0 := by simpa using hw
   have z : ((0 : Nat) : Int) * KK + ((0 : Nat) : Int) = 0 := by simp
   rw [z]
   refine ⟨_, (stepG_add_atomic rfl rfl (by k_ne) rfl H.f_addU64 (x_addU64_n L) (x_addU64_b L) (x_addU64_x L) .u64 (x_addU64_f L) rfl rfl hw.cellSt (hw.thaw 0)).trans (by rw [e0]; rfl), fun hl => absurd hl.2 (by decide), fun _ => ⟨qt + 89, ?_⟩⟩
   clear hw
   walk_nrm
   have hV : St [.int .u64 0, .int .u64 0, .int .u64 0, .int .u64 0, .bool false, .bool false, .bool false, .int .u64 0, .int .u64 0, .int .i32 0, .int .i32 0, .int .u64 0, .int .u64 0, .int .u32 0, .int .u32 0, .bool true, .int .i64 (-1), .bool false, .bool false, .bool false, .bool false, .int .i32 0, .bool false, .int .u32 0, .bool false, .bool false, .bool false, .bool false, .bool false, .int .i32 0, .bool false, .bool false, .int .u32 0, .bool true, .bool true] := ⟨trivial⟩
   repeat (first | (first | ((with_reducible refine z_c (k' := ?_) ?_ ?_); rotate_left; focus exact rfl) | with_reducible refine z_r rfl ?_ | ((with_reducible refine QuitsD.unwanted (o := ?_) ?_ ?_ ?_); rotate_left; (focus exact rfl); (focus exact rfl); walk_nrm)) | q_leave1 H.f_uAdd | (refine q_vs hV rfl rfl (by k_ne) (fun _ => by go_simp; try (first | omega | (w_num; omega) | w_num | decide)) (fun _ => by simp [go_sem, *]) ?_; replace hV := hV.tl; walk_nrm))
   clear hV
   q_enable
   q_leave0 H.f_add
   exact hT
 · replace hw : WgAt L.tWg Wg w₁ (KK + 1) 0 := by simpa using hw
   have z : ((0 : Nat) : Int) * KK + ((1 : Nat) : Int) = 1 := by simp
   rw [z]
   refine ⟨_, (stepG_add_atomic rfl rfl (by k_ne) rfl H.f_addU64 (x_addU64_n L) (x_addU64_b L) (x_addU64_x L) .u64 (x_addU64_f L) rfl rfl hw.cellSt (hw.thaw 0)).trans (by rw [e1]; rfl), fun _ => ⟨120, ?_⟩, fun hl => absurd ⟨rfl, rfl⟩ hl⟩
   have hF : WgLive L.tWg Wg (w₁.setCell (stA Wg) (.int .u64 1)) := ⟨_, _, hw.setSt 1⟩
   clear hw
   walk_nrm
   repeat (first | (first | ((with_reducible refine g_opG ?_); first | (refine g_unw hD rfl rfl ?_; intro _ h₁; replace hF := (fun h r => r h) hF h₁; clear h₁; walk_nrm) | (refine Goes.step rfl ?_; intro _ h₁; replace hF := (fun h r => r h) hF h₁; clear h₁; refine goes_oper_k rfl rfl (by k_ne) fun K hK => ?_; go_simp; refine hK _ _ ⟨g_idle hD fun e he => by have hm := mem_listed he; simp [go_sem, *] at hm, ?_⟩; clear hK K; try w_num) | ((with_reducible refine g_opG ?_); refine Goes.step rfl (fun _ h₁ => ?_); replace hF := (fun h r => r h) hF h₁; clear h₁; refine goes_call rfl rfl (by k_ne) rfl H.f_uLoad (nm_uLoad L) rfl ⟨hD _, ?_⟩; walk_nrmf uLoadFn)) | ((first | ((with_reducible refine g_c (k' := ?_) true true hD ?_ ?_); rotate_left; focus exact rfl) | with_reducible refine g_r hD rfl ?_); intro _ h₁; replace hF := (fun h r => r h) hF h₁; clear h₁) | ((with_reducible refine g_lvG ?_); refine Goes.step rfl (fun _ h₁ => ?_); replace hF := (fun h r => r h) hF h₁; clear h₁; refine goes_leave1 rfl rfl H.f_uAdd rfl ⟨hD _, ?_⟩; walk_nrm)))
   refine Goes.stop (fun w₂ h₂ => ?_)
   clear h₂ hF
   refine ⟨rfl, fun hw => ⟨_, stepG_load_atomic rfl rfl (by k_ne) rfl H.f_loadU64 (x_loadU64_n L) (x_loadU64_b L) (x_loadU64_x L) .u64 (x_loadU64_f L) rfl hw.cellSt, 40, ?_⟩⟩
   have hF : WgLive L.tWg Wg w₂ := ⟨_, _, hw⟩
   clear hw
   walk_nrm
   repeat (first | (first | ((with_reducible refine g_opG ?_); first | (refine g_unw hD rfl rfl ?_; intro _ h₁; replace hF := (fun h r => r h) hF h₁; clear h₁; walk_nrm) | (refine Goes.step rfl ?_; intro _ h₁; replace hF := (fun h r => r h) hF h₁; clear h₁; refine goes_oper_k rfl rfl (by k_ne) fun K hK => ?_; go_simp; refine hK _ _ ⟨g_idle hD fun e he => by have hm := mem_listed he; simp [go_sem, *] at hm, ?_⟩; clear hK K; try w_num) | ((with_reducible refine g_opG ?_); refine Goes.step rfl (fun _ h₁ => ?_); replace hF := (fun h r => r h) hF h₁; clear h₁; refine goes_call rfl rfl (by k_ne) rfl H.f_uStore (nm_uStore L) rfl ⟨hD _, ?_⟩; walk_nrmf uStoreFn)) | ((first | ((with_reducible refine g_c (k' := ?_) true true hD ?_ ?_); rotate_left; focus exact rfl) | with_reducible refine g_r hD rfl ?_); intro _ h₁; replace hF := (fun h r => r h) hF h₁; clear h₁) | ((with_reducible refine g_lvG ?_); refine Goes.step rfl (fun _ h₁ => ?_); replace hF := (fun h r => r h) hF h₁; clear h₁; refine goes_leave1 rfl rfl H.f_uLoad rfl ⟨hD _, ?_⟩; walk_nrm)))
   refine Goes.stop (fun w₃ h₃ => ?_)
   clear h₃ hF
   refine ⟨rfl, fun hw => ⟨_, stepG_store_atomic rfl rfl (by k_ne) rfl H.f_storeU64 (x_storeU64_n L) (x_storeU64_b L) (x_storeU64_x L) (x_storeU64_f L) rfl rfl hw.cellSt (hw.thaw 0), 50, ?_⟩⟩
   have hF : WgLive L.tWg Wg (w₃.setCell (stA Wg) (.int .u64 0)) := ⟨_, _, hw.setSt 0⟩
   clear hw
   walk_nrm
   repeat (first | (first | ((with_reducible refine g_opG ?_); first | (refine g_unw hD rfl rfl ?_; intro _ h₁; replace hF := (fun h r => r h) hF h₁; clear h₁; walk_nrm) | (refine Goes.step rfl ?_; intro _ h₁; replace hF := (fun h r => r h) hF h₁; clear h₁; refine goes_oper_k rfl rfl (by k_ne) fun K hK => ?_; go_simp; refine hK _ _ ⟨g_idle hD fun e he => by have hm := mem_listed he; simp [go_sem, *] at hm, ?_⟩; clear hK K; try w_num)) | ((first | ((with_reducible refine g_c (k' := ?_) true true hD ?_ ?_); rotate_left; focus exact rfl) | with_reducible refine g_r hD rfl ?_); intro _ h₁; replace hF := (fun h r => r h) hF h₁; clear h₁) | ((with_reducible refine g_lvG ?_); refine Goes.step rfl (fun _ h₁ => ?_); replace hF := (fun h r => r h) hF h₁; clear h₁; refine goes_leave0 rfl rfl H.f_uStore rfl ⟨hD _, ?_⟩; walk_nrm)))
   refine Goes.stop (fun w₄ h₄ => ?_)
   clear h₄ hF
   refine ⟨rfl, mayWake_entry rfl rfl H.f_semrelease (x_semrelease_b L), fun hw => ⟨_, (stepG_semrelease rfl rfl (by k_ne) rfl H.f_semrelease (x_semrelease_n L) (x_semrelease_b L) (x_semrelease_x L) (x_semrelease_f L) (by simp [Act.eval, smA]) hw.cellSm (hw.thaw 1)).trans (by rfl), qt + 19, ?_⟩⟩
   clear hw
   walk_nrm
   have hV : St [.int .u32 1, .int .u32 0, .int .u32 0, .int .u32 0, .bool false] := ⟨trivial⟩
   repeat (first | (first | ((with_reducible refine z_c (k' := ?_) ?_ ?_); rotate_left; focus exact rfl) | with_reducible refine z_r rfl ?_ | ((with_reducible refine QuitsD.unwanted (o := ?_) ?_ ?_ ?_); rotate_left; (focus exact rfl); (focus exact rfl); walk_nrm)) | (refine q_vs hV rfl rfl (by k_ne) (fun _ => by go_simp; try (first | omega | (w_num; omega) | w_num | decide)) (fun _ => by simp [go_sem, *]) ?_; replace hV := hV.tl; walk_nrm))
   clear hV
   q_enable
   q_leave0 H.f_add
   exact hT
 · replace hw : WgAt L.tWg Wg w₁ (((v : Nat) + 1) * KK + 0) 0 := by simpa using hw
   have z : ((v : Nat) : Int) * KK + ((0 : Nat) : Int) = (v : Int) * KK + 0 := by simp
   rw [z]
   have hv0 : 0 < v := by omega
   have eS : IntKind.u64.wrap (((v : Nat) + 1) * KK + 0 + 18446744069414584320) = (v : Int) * KK + 0 := by rw [IntKind.wrap_u64]; simp only [KK]; omega
   obtain ⟨S, hS⟩ : ∃ S : Int, S = (v : Int) * KK + 0 := ⟨_, rfl⟩
   rw [← hS] at eS ⊢
   have a1 : S / 4294967296 = (v : Int) := by rw [hS]; simp only [KK]; omega
   have b1 : bits .and .u64 S 2147483648 = 0 := by rw [hS]; have := st_flag v 0 (by omega) (by omega); simpa [KK] using this
   have b2 : bits .and .u64 S 2147483647 = 0 := by rw [hS]; have := st_waiters v 0 (by omega) (by omega); simpa [KK] using this
   have c1 : IntKind.i32.wrap (v : Int) = (v : Int) := by rw [IntKind.wrap_i32]; omega
   have q3 : decide ((v : Int) < 0) = false := decide_eq_false (by omega)
   have q4 : decide (0 < (v : Int)) = true := decide_eq_true (by omega)
   have q5 : ((v : Int) == 0) = false := by simp; omega
   have q6 : decide ((v : Int) = 0) = false := decide_eq_false (by omega)
   clear hS z
   refine ⟨_, (stepG_add_atomic rfl rfl (by k_ne) rfl H.f_addU64 (x_addU64_n L) (x_addU64_b L) (x_addU64_x L) .u64 (x_addU64_f L) rfl rfl hw.cellSt (hw.thaw 0)).trans (by rw [eS]; rfl), fun hl => absurd hl.1 (by omega), fun _ => ⟨qt + 89, ?_⟩⟩
   clear hw
   walk_nrm
   have hV : St [.int .u64 S, .int .u64 S, .int .u64 S, .int .u64 0, .bool false, .bool false, .bool false, .int .u64 S, .int .u64 (v : Int), .int .i32 (v : Int), .int .i32 (v : Int), .int .u64 S, .int .u64 0, .int .u32 0, .int .u32 0, .bool true, .int .i64 (-1), .bool false, .bool false, .bool false, .bool false, .int .i32 (v : Int), .bool false, .int .u32 0, .bool false, .bool false, .bool false, .bool false, .bool false, .int .i32 (v : Int), .bool true, .bool true, .bool true] := ⟨trivial⟩
   repeat (first | (first | ((with_reducible refine z_c (k' := ?_) ?_ ?_); rotate_left; focus exact rfl) | with_reducible refine z_r rfl ?_ | ((with_reducible refine QuitsD.unwanted (o := ?_) ?_ ?_ ?_); rotate_left; (focus exact rfl); (focus exact rfl); walk_nrm)) | q_leave1 H.f_uAdd | (refine q_vs hV rfl rfl (by k_ne) (fun _ => by go_simp; try (first | omega | (w_num; omega) | w_num | decide)) (fun _ => by simp [go_sem, *]) ?_; replace hV := hV.tl; walk_nrm))
   clear hV
   q_enable
   q_leave0 H.f_add
   exact hT
 · replace hw : WgAt L.tWg Wg w₁ (((v : Nat) + 1) * KK + 1) 0 := by simpa using hw
   have z : ((v : Nat) : Int) * KK + ((1 : Nat) : Int) = (v : Int) * KK + 1 := by simp
   rw [z]
   have hv0 : 0 < v := by omega
   have eS : IntKind.u64.wrap (((v : Nat) + 1) * KK + 1 + 18446744069414584320) = (v : Int) * KK + 1 := by rw [IntKind.wrap_u64]; simp only [KK]; omega
   obtain ⟨S, hS⟩ : ∃ S : Int, S = (v : Int) * KK + 1 := ⟨_, rfl⟩
   rw [← hS] at eS ⊢
   have a1 : S / 4294967296 = (v : Int) := by rw [hS]; simp only [KK]; omega
   have b1 : bits .and .u64 S 2147483648 = 0 := by rw [hS]; have := st_flag v 1 (by omega) (by omega); simpa [KK] using this
   have b2 : bits .and .u64 S 2147483647 = 1 := by rw [hS]; have := st_waiters v 1 (by omega) (by omega); simpa [KK] using this
   have c1 : IntKind.i32.wrap (v : Int) = (v : Int) := by rw [IntKind.wrap_i32]; omega
   have q3 : decide ((v : Int) < 0) = false := decide_eq_false (by omega)
   have q4 : decide (0 < (v : Int)) = true := decide_eq_true (by omega)
   have q5 : ((v : Int) == 0) = false := by simp; omega
   have q6 : decide ((v : Int) = 0) = false := decide_eq_false (by omega)
   clear hS z
   refine ⟨_, (stepG_add_atomic rfl rfl (by k_ne) rfl H.f_addU64 (x_addU64_n L) (x_addU64_b L) (x_addU64_x L) .u64 (x_addU64_f L) rfl rfl hw.cellSt (hw.thaw 0)).trans (by rw [eS]; rfl), fun hl => absurd hl.1 (by omega), fun _ => ⟨qt + 89, ?_⟩⟩
   clear hw
   walk_nrm
   have hV : St [.int .u64 S, .int .u64 S, .int .u64 S, .int .u64 0, .bool false, .bool false, .bool false, .int .u64 S, .int .u64 (v : Int), .int .i32 (v : Int), .int .i32 (v : Int), .int .u64 S, .int .u64 1, .int .u32 1, .int .u32 1, .bool true, .int .i64 (-1), .bool false, .bool false, .bool false, .bool false, .int .i32 (v : Int), .bool false, .int .u32 1, .bool true, .bool true, .int .i64 (-1), .bool false, .bool false, .bool false, .bool false, .int .i32 (v : Int), .bool true, .bool true, .bool true] := ⟨trivial⟩
   repeat (first | (first | ((with_reducible refine z_c (k' := ?_) ?_ ?_); rotate_left; focus exact rfl) | with_reducible refine z_r rfl ?_ | ((with_reducible refine QuitsD.unwanted (o := ?_) ?_ ?_ ?_); rotate_left; (focus exact rfl); (focus exact rfl); walk_nrm)) | q_leave1 H.f_uAdd | (refine q_vs hV rfl rfl (by k_ne) (fun _ => by go_simp; try (first | omega | (w_num; omega) | w_num | decide)) (fun _ => by simp [go_sem, *]) ?_; replace hV := hV.tl; walk_nrm))
   clear hV
   q_enable
   q_leave0 H.f_add
   exact hT
set_option maxRecDepth 100000 in
theorem wg_done {P : Program} (H : WgLib P L) {Wg : Nat} {R : World → World → Prop} {D : World → World → Array Event → Prop} {F : World → Prop} (hL : ∀ {w w₁}, (F w ∧ WgLive L.tWg Wg w) → R w w₁ → (F w₁ ∧ WgLive L.tWg Wg w₁)) (hD : ∀ w, D w w #[]) {c : Frame} {cs : List Frame} {qt : Nat} (hcm : c.mode = .returning) (hT : QuitsD P qt 0 (G c cs)) (w : World) (hF : F w ∧ WgLive L.tWg Wg w) :
   Goes P false R D (fun g w => AtRel0 P L.tWg Wg g w ∧ F w) 23 (G ((baseD L.done).at ⟨#[.pointer (some ⟨Wg, 0, none⟩), undef, undef, undef], []⟩ [.code (body_done L)]) (c :: cs)) w := by
 have hA := @wg_sub L P H Wg R D F hL hD
 lib_facts
 simp only [body_done, body_add, doneFn, addFn, Option.getD_some] at hA ⊢
 (refine Goes.step rfl (fun _ h₁ => ?_); replace hF := hL hF h₁; clear h₁; rw [stepG_region]; simp only [goes_go, regN]; refine ⟨hD _, ?_⟩)
 (refine Goes.step rfl (fun _ h₁ => ?_); replace hF := hL hF h₁; clear h₁; refine goes_oper_k rfl rfl (by k_ne) (fun K hK => ?_); go_simp; refine hK _ _ ⟨?_, ?_⟩; (focus (refine g_idle hD ?_; intro e he; have hm := mem_listed he; simp [go_sem, *] at hm; done)); clear hK K; try w_num)
 (refine Goes.step rfl (fun _ h₁ => ?_); replace hF := hL hF h₁; clear h₁)
 refine goes_call rfl rfl (by k_ne) rfl H.f_add (nm_add L) rfl ⟨by exact hD _, ?_⟩
 walk_nrmf addFn
 refine hA (qt := qt + 3) ?_ _ hF
 q_c stepG_region_end
 q_c stepG_end
 exact QuitsD.leaveD rfl rfl H.f_done rfl hcm hT
variable {L : WgLink}
structure Fits (ty : TypeId) (Wg : Nat) (R : World → World → Prop) (D : World → World → Array Event → Prop) (F : World → Prop) : Prop where
 live : ∀ w w₁, R w w₁ → WgLive ty Wg w → WgLive ty Wg w₁
 kept : ∀ w w₁, R w w₁ → F w → F w₁
 set : ∀ w o x, o ≤ 1 → F w → WgLive ty Wg (w.setCell ⟨Wg, o, none⟩ x) → WgLive ty Wg w → F (w.setCell ⟨Wg, o, none⟩ x)
 idle : ∀ w, D w w #[]
 said : ∀ w o (e : Event), e = ⟨.mark (.read ⟨Wg, o, none⟩), false, true⟩ ∨ e = ⟨.mark (.write ⟨Wg, o, none⟩), false, true⟩ → D w w #[e]
section
variable (P : Program) (ty : TypeId) (Wg : Nat) (R : World → World → Prop) (D : World → World → Array Event → Prop) (F : World → Prop) (B : Goroutine)
/-! ### Add(1): behind it stands B -/
def AddKe (g : Goroutine) (w : World) : Prop := g.status = .running ∧ ∃ g', stepG P true g w = .go g' w #[mk .enable] ∧ Goes P true R D (fun g w => g = B ∧ F w) 3 g' w
def AddA1 (g : Goroutine) (w : World) : Prop := g.status = .running ∧ ∀ v : Nat, v < 2147483647 → WgAt ty Wg w (v * KK) 0 →
 ∃ g', stepG P true g w = .go g' (w.setCell (stA Wg) (.int .u64 ((v + 1) * KK))) #[rd (stA Wg), wr (stA Wg)] ∧ Goes P true R D (AddKe P R D F B) 110 g' (w.setCell (stA Wg) (.int .u64 ((v + 1) * KK)))
def AddKd (cl : List Frame) (g : Goroutine) (w : World) : Prop := g.status = .running ∧ (∃ fr, g = G fr cl) ∧ ∃ g', stepG P true g w = .go g' w #[mk .disable] ∧ Goes P true R D (AddA1 P ty Wg R D F B) 40 g' w
/-! ### Wait -/
def WAcq (g : Goroutine) (w : World) : Prop := g.status = .running ∧ F w ∧ ∃ g', stepG P true g w = .go g' w #[mk (.acquire (stA Wg))] ∧ ∀ Shun, Goes P true AtRel (SD Shun) (fun g w' => g = B ∧ AtRel w w') 20 g' w
def WKw (g : Goroutine) (w : World) : Prop := g.status = .running ∧ ∃ g', stepG P true g w = .go g' w #[mk .enable] ∧ Goes P true R D (WAcq P Wg F B) 12 g' w
def W4 (g : Goroutine) (w : World) : Prop := g.status = .running ∧ (WgAt ty Wg w 0 0 → ∃ g', stepG P true g w = .go g' w #[rd (stA Wg)] ∧ Goes P true R D (WKw P Wg R D F B) 30 g' w)
def W3 (g : Goroutine) (w : World) : Prop := g.status = .running ∧ g.offers = none ∧ ((∃ st, WgAt ty Wg w st 0) → stepG P true g w = .go { g with status := .blocked } w #[]) ∧
   (WgAt ty Wg w 0 1 → ∃ g', stepG P true g w = .go g' (w.setCell (smA Wg) (.int .u32 0)) (semEvents (smA Wg)) ∧ Goes P true R D (W4 P ty Wg R D F B) 30 g' (w.setCell (smA Wg) (.int .u32 0)))
def W2 (Anch : Goroutine → World → Prop) (vs : Nat) (g : Goroutine) (w : World) : Prop := g.status = .running ∧ ∀ v : Nat, v < 2147483648 → WgAt ty Wg w (v * KK) 0 →
   (v = vs → ∃ g', stepG P true g w = .go g' (w.setCell (stA Wg) (.int .u64 (v * KK + 1))) #[rd (stA Wg), wr (stA Wg)] ∧ Goes P true R D (W3 P ty Wg R D F B) 70 g' (w.setCell (stA Wg) (.int .u64 (v * KK + 1)))) ∧
   (v ≠ vs → ∃ g', stepG P true g w = .go g' w #[rd (stA Wg)] ∧ Goes P true R D Anch 20 g' w)
def W1 (Anch : Goroutine → World → Prop) (g : Goroutine) (w : World) : Prop := g.status = .running ∧ ∀ v : Nat, v < 2147483648 → WgAt ty Wg w (v * KK) 0 → ∃ g', stepG P true g w = .go g' w #[rd (stA Wg)] ∧
   (v = 0 → Goes P true R D (WKw P Wg R D F B) 50 g' w) ∧ (v ≠ 0 → Goes P true R D (W2 P ty Wg R D F B Anch v) 60 g' w)
end
def WAnch (L : WgLink) (Wg : Nat) (F : World → Prop) (cl : List Frame) (g : Goroutine) (w : World) : Prop :=
 ∃ T : Array Value, g = G ((base L.wait).at ⟨T, []⟩ [.code (L7 L), .inLoop (L7 L), .inBlock 0]) cl ∧ T.size = 84 ∧ T[0]? = some (.pointer (some ⟨Wg, 0, none⟩)) ∧ F w ∧ WgLive L.tWg Wg w
def WKd (P : Program) (L : WgLink) (Wg : Nat) (R : World → World → Prop) (D : World → World → Array Event → Prop) (F : World → Prop) (cl : List Frame) (g : Goroutine) (w : World) : Prop :=
 g.status = .running ∧ (∃ fr, g = G fr cl) ∧ ∃ g', stepG P true g w = .go g' w #[mk .disable] ∧ Goes P true R D (WAnch L Wg F cl) 4 g' w
set_option maxRecDepth 100000 in
theorem wg_add {P : Program} (H : WgLib P L) {Wg : Nat} {R : World → World → Prop} {D : World → World → Array Event → Prop} {F : World → Prop} (hX : Fits L.tWg Wg R D F) {b₀ : Frame} {a₀ : Act} {ops₀ : Array Oper} {i₀ : Nat} {rest₀ : List Nat} {k₀ : List Item} {cs : List Frame} (w : World) (hF : F w ∧ WgLive L.tWg Wg w) :
   Goes P true R D (AddKd P L.tWg Wg R D F (G (b₀.at (a₀.put ((ops₀[i₀]?).bind (·.dst)) (.tuple #[])) (.inRegion ops₀ rest₀ :: k₀)) cs) (b₀.at a₀ (.inRegion ops₀ (i₀ :: rest₀) :: k₀) :: cs)) 12 (G ((base L.add).at ⟨#[.pointer (some ⟨Wg, 0, none⟩), .int .i64 1, undef, undef, undef, undef, undef, undef, undef, undef, undef, undef, undef, undef, undef, undef, undef, undef, undef, undef, undef, undef, undef, undef, undef, undef, undef, undef, undef, undef, undef, undef, undef, undef, undef, undef, undef, undef, undef, undef, undef, undef, undef, undef, undef, undef, undef, undef, undef, undef, undef, undef, undef, undef, undef, undef, undef, undef, undef, undef, undef, undef, undef, undef, undef, undef, undef, undef, undef, undef, undef, undef, undef, undef, undef, undef, undef, undef, undef, undef, undef, undef, undef, undef, undef, undef, undef, undef, undef, undef, undef, undef, undef, undef, undef, undef, undef, undef, undef, undef, undef, undef, undef, undef, undef, undef, undef, undef, undef, undef, undef, undef, undef, undef, undef, undef, undef], []⟩ [.code (body_add L)]) (b₀.at a₀ (.inRegion ops₀ (i₀ :: rest₀) :: k₀) :: cs)) w := by
 lib_facts
 have hD := hX.idle
 have hL : ∀ {w w₁ : World}, (F w ∧ WgLive L.tWg Wg w) → R w w₁ → (F w₁ ∧ WgLive L.tWg Wg w₁) := fun h r => ⟨hX.kept _ _ r h.1, hX.live _ _ r h.2⟩
 simp only [body_add, addFn, Option.getD_some]
 repeat ((first | ((with_reducible refine g_opG ?_); first | (refine g_unw hD rfl rfl ?_; intro _ h₁; replace hF := hL hF h₁; clear h₁; walk_nrm) | (refine Goes.step rfl ?_; intro _ h₁; replace hF := hL hF h₁; clear h₁; refine goes_oper_k rfl rfl (by k_ne) fun K hK => ?_; go_simp; refine hK _ _ ⟨g_idle hD fun e he => by have hm := mem_listed he; simp [go_sem, *] at hm, ?_⟩; clear hK K; try w_num)) | ((first | ((with_reducible refine g_c (k' := ?_) true true hD ?_ ?_); rotate_left; focus exact rfl) | with_reducible refine g_r hD rfl ?_); intro _ h₁; replace hF := hL hF h₁; clear h₁)))
 refine Goes.stop (fun w₁ h₁ => ?_)
 replace hF := hL hF h₁
 clear h₁
 refine ⟨rfl, ⟨_, rfl⟩, _, stepG_mark0 .disable (by simp) rfl rfl (by k_ne) rfl H.f_disable (x_disable_n L) (x_disable_b L) (x_disable_x L) (x_disable_f L), ?_⟩
 walk_nrm
 repeat (first | (first | ((with_reducible refine g_opG ?_); first | (refine g_unw hD rfl rfl ?_; intro _ h₁; replace hF := hL hF h₁; clear h₁; walk_nrm) | (refine Goes.step rfl ?_; intro _ h₁; replace hF := hL hF h₁; clear h₁; refine goes_oper_k rfl rfl (by k_ne) fun K hK => ?_; go_simp; refine hK _ _ ⟨g_idle hD fun e he => by have hm := mem_listed he; simp [go_sem, *] at hm, ?_⟩; clear hK K; try w_num) | ((with_reducible refine g_opG ?_); refine Goes.step rfl (fun _ h₁ => ?_); replace hF := hL hF h₁; clear h₁; rw [stepG_defer rfl rfl (by k_ne) rfl]; simp only [goes_go]; refine ⟨hD _, ?_⟩; walk_nrm) | ((with_reducible refine g_opG ?_); refine Goes.step rfl (fun _ h₁ => ?_); replace hF := hL hF h₁; clear h₁; rw [stepG_entry_pure (.bool false) rfl rfl (by k_ne) rfl H.f_inBubble (x_inBubble_n L) (x_inBubble_b L) (x_inBubble_x L) (x_inBubble_f L)]; simp only [goes_go]; refine ⟨hD _, ?_⟩; walk_nrm) | ((with_reducible refine g_opG ?_); refine Goes.step rfl (fun _ h₁ => ?_); replace hF := hL hF h₁; clear h₁; refine goes_call rfl rfl (by k_ne) rfl H.f_uAdd (nm_uAdd L) rfl ⟨hD _, ?_⟩; walk_nrmf uAddFn)) | ((first | ((with_reducible refine g_c (k' := ?_) true true hD ?_ ?_); rotate_left; focus exact rfl) | with_reducible refine g_r hD rfl ?_); intro _ h₁; replace hF := hL hF h₁; clear h₁)))
 refine Goes.stop (fun w₂ h₂ => ?_)
 replace hF := hL hF h₂
 clear h₂
 refine ⟨rfl, fun v hv hw => ?_⟩
 rcases Nat.eq_zero_or_pos v with rfl | hvp
 · replace hw : WgAt L.tWg Wg w₂ 0 0 := by simpa using hw
   have z : (((0 : Nat) : Int) + 1) * KK = KK := by simp
   rw [z]
   have e0 : IntKind.u64.wrap (0 + 4294967296) = KK := by decide
   refine ⟨_, (stepG_add_atomic rfl rfl (by k_ne) rfl H.f_addU64 (x_addU64_n L) (x_addU64_b L) (x_addU64_x L) .u64 (x_addU64_f L) rfl rfl hw.cellSt (hw.thaw 0)).trans (by rw [e0]; rfl), ?_⟩
   have hl' : WgLive L.tWg Wg (w₂.setCell (stA Wg) (.int .u64 KK)) := ⟨_, _, hw.setSt _⟩
   replace hF : F (w₂.setCell (stA Wg) (.int .u64 KK)) ∧ WgLive L.tWg Wg (w₂.setCell (stA Wg) (.int .u64 KK)) := ⟨hX.set _ 0 _ (by omega) hF.1 hl' hF.2, hl'⟩
   clear hw hl'
   simp only [KK] at hF ⊢
   walk_nrm
   repeat (first | (first | ((with_reducible refine g_opG ?_); first | (refine g_unw hD rfl rfl ?_; intro _ h₁; replace hF := hL hF h₁; clear h₁; walk_nrm) | (refine Goes.step rfl ?_; intro _ h₁; replace hF := hL hF h₁; clear h₁; refine goes_oper_k rfl rfl (by k_ne) fun K hK => ?_; go_simp; refine hK _ _ ⟨g_idle hD fun e he => by have hm := mem_listed he; simp [go_sem, *] at hm, ?_⟩; clear hK K; try w_num)) | ((first | ((with_reducible refine g_c (k' := ?_) true true hD ?_ ?_); rotate_left; focus exact rfl) | with_reducible refine g_r hD rfl ?_); intro _ h₁; replace hF := hL hF h₁; clear h₁) | ((with_reducible refine g_lvG ?_); refine Goes.step rfl (fun _ h₁ => ?_); replace hF := hL hF h₁; clear h₁; refine goes_leave1 rfl rfl H.f_uAdd rfl ⟨hD _, ?_⟩; walk_nrm)))
   ((with_reducible refine g_opG ?_); refine Goes.step rfl (fun _ h₁ => ?_); replace hF := hL hF h₁; clear h₁; refine goes_oper_k rfl rfl (by k_ne) (fun Kx hKx => ?_); have hcv := run_convert_to_unsafe (P := P) H.underlying_tPU32 H.underlying_tUP H.room_tU32 (WgLive.cell1 hF.2).choose_spec; have hce := fun es => events_convert_to_unsafe (P := P) H.underlying_tPU32 H.underlying_tUP H.room_tU32 (WgLive.cell1 hF.2).choose_spec es; go_simp; refine hKx _ _ ⟨?_, ?_⟩; (focus (refine g_idle hD ?_; intro ex hex; have hmx := mem_listed hex; simp [go_sem, hce] at hmx; done)); clear hKx Kx hcv hce)
   (refine Goes.step rfl (fun _ h₁ => ?_); replace hF := hL hF h₁; clear h₁)
   rw [stepG_markAt .read (by simp) rfl rfl (by k_ne) rfl H.f_raceRead (x_raceRead_n L) (x_raceRead_b L) (x_raceRead_x L) (x_raceRead_f L) (ad := ⟨Wg, 1, none⟩) (by simp [Act.eval])]
   simp only [goes_go]
   refine ⟨hX.said _ 1 _ (.inl rfl), ?_⟩
   walk_nrm
   repeat (first | (first | ((with_reducible refine g_opG ?_); first | (refine g_unw hD rfl rfl ?_; intro _ h₁; replace hF := hL hF h₁; clear h₁; walk_nrm) | (refine Goes.step rfl ?_; intro _ h₁; replace hF := hL hF h₁; clear h₁; refine goes_oper_k rfl rfl (by k_ne) fun K hK => ?_; go_simp; refine hK _ _ ⟨g_idle hD fun e he => by have hm := mem_listed he; simp [go_sem, *] at hm, ?_⟩; clear hK K; try w_num)) | ((first | ((with_reducible refine g_c (k' := ?_) true true hD ?_ ?_); rotate_left; focus exact rfl) | with_reducible refine g_r hD rfl ?_); intro _ h₁; replace hF := hL hF h₁; clear h₁)))
   refine Goes.stop (fun w₃ h₃ => ?_)
   replace hF := hL hF h₃
   clear h₃
   refine ⟨rfl, _, stepG_unwind_entry (v := .tuple #[]) (evs := #[mk .enable]) rfl H.f_enable (x_enable_n L) (x_enable_b L) (x_enable_x L) (x_enable_f L) (by simp [Extern.Race.none_]) (by simp [mk]) (by simp [mk]), ?_⟩
   (refine Goes.step rfl (fun _ h₁ => ?_); replace hF := hL hF h₁; clear h₁; refine goes_leave0 rfl rfl H.f_add rfl ⟨hD _, ?_⟩; walk_nrm)
   exact Goes.stop fun w₄ h₄ => ⟨rfl, hX.kept _ _ h₄ hF.1⟩
 · obtain ⟨V, hV⟩ : ∃ V : Int, V = (v : Int) + 1 := ⟨_, rfl⟩
   obtain ⟨S, hS⟩ : ∃ S : Int, S = V * KK := ⟨_, rfl⟩
   have eS : IntKind.u64.wrap ((v : Int) * KK + 4294967296) = S := by rw [IntKind.wrap_u64, hS, hV]; simp only [KK]; omega
   rw [← hV, ← hS]
   have a1 : S / 4294967296 = V := by rw [hS]; simp only [KK]; omega
   have b1 : bits .and .u64 S 2147483648 = 0 := by rw [hS, hV]; have := st_flag (v + 1) 0 (by omega) (by omega); simpa [KK] using this
   have b2 : bits .and .u64 S 2147483647 = 0 := by rw [hS, hV]; have := st_waiters (v + 1) 0 (by omega) (by omega); simpa [KK] using this
   have c1 : IntKind.i32.wrap V = V := by rw [IntKind.wrap_i32]; omega
   have hV1 : 1 < V := by omega
   have hV2 : V < 2147483648 := by omega
   have q1 : (V == 1) = false := by simp; omega
   have q2 : decide (V = 1) = false := decide_eq_false (by omega)
   have q3 : decide (V < 0) = false := decide_eq_false (by omega)
   have q4 : decide (0 < V) = true := decide_eq_true (by omega)
   have q5 : (V == 0) = false := by simp; omega
   have q6 : decide (V = 0) = false := decide_eq_false (by omega)
   refine ⟨_, (stepG_add_atomic rfl rfl (by k_ne) rfl H.f_addU64 (x_addU64_n L) (x_addU64_b L) (x_addU64_x L) .u64 (x_addU64_f L) rfl rfl hw.cellSt (hw.thaw 0)).trans (by rw [eS]; rfl), ?_⟩
   have hl' : WgLive L.tWg Wg (w₂.setCell (stA Wg) (.int .u64 S)) := ⟨_, _, hw.setSt _⟩
   replace hF : F (w₂.setCell (stA Wg) (.int .u64 S)) ∧ WgLive L.tWg Wg (w₂.setCell (stA Wg) (.int .u64 S)) := ⟨hX.set _ 0 _ (by omega) hF.1 hl' hF.2, hl'⟩
   clear hw hS hV eS hl'
   walk_nrm
   repeat (first | (first | ((with_reducible refine g_opG ?_); first | (refine g_unw hD rfl rfl ?_; intro _ h₁; replace hF := hL hF h₁; clear h₁; walk_nrm) | (refine Goes.step rfl ?_; intro _ h₁; replace hF := hL hF h₁; clear h₁; refine goes_oper_k rfl rfl (by k_ne) fun K hK => ?_; go_simp; refine hK _ _ ⟨g_idle hD fun e he => by have hm := mem_listed he; simp [go_sem, *] at hm, ?_⟩; clear hK K; try w_num)) | ((first | ((with_reducible refine g_c (k' := ?_) true true hD ?_ ?_); rotate_left; focus exact rfl) | with_reducible refine g_r hD rfl ?_); intro _ h₁; replace hF := hL hF h₁; clear h₁) | ((with_reducible refine g_ct hD ?_ (fun _ h₁ => ?_)); (focus (first | exact rfl | (simp [Act.eval]; omega))); replace hF := hL hF h₁; clear h₁) | ((with_reducible refine g_cf hD ?_ (fun _ h₁ => ?_)); (focus (first | exact rfl | (simp [Act.eval]; omega))); replace hF := hL hF h₁; clear h₁) | ((with_reducible refine g_lvG ?_); refine Goes.step rfl (fun _ h₁ => ?_); replace hF := hL hF h₁; clear h₁; refine goes_leave1 rfl rfl H.f_uAdd rfl ⟨hD _, ?_⟩; walk_nrm)))
   refine Goes.stop (fun w₃ h₃ => ?_)
   replace hF := hL hF h₃
   clear h₃
   refine ⟨rfl, _, stepG_unwind_entry (v := .tuple #[]) (evs := #[mk .enable]) rfl H.f_enable (x_enable_n L) (x_enable_b L) (x_enable_x L) (x_enable_f L) (by simp [Extern.Race.none_]) (by simp [mk]) (by simp [mk]), ?_⟩
   (refine Goes.step rfl (fun _ h₁ => ?_); replace hF := hL hF h₁; clear h₁; refine goes_leave0 rfl rfl H.f_add rfl ⟨hD _, ?_⟩; walk_nrm)
   exact Goes.stop fun w₄ h₄ => ⟨rfl, hX.kept _ _ h₄ hF.1⟩
end Go.Proofs.Ytblpmdolclalnaa
