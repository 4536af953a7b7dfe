/- The workers of Map[int,int] as children of a net. Conditions: MpOK. Goroutine 0 in a call of Map[int,int]: what is given, what it knows of the memory outside, of its own variables, of the places: definitions and small laws. Made by mp.py. Map[int,int], goroutine 0: the hiring of the workers: from the loop's head to the group's Add, to the go statement, and on to the loop's .. -/
import Derived.Test.YtblpmdolclalnaaQ10
import Derived.Test.YtblpmdolclalnaaQ12
import Derived.Test.YtblpmdolclalnaaQ17
import Derived.Test.YtblpmdolclalnaaQ18
set_option maxHeartbeats 16000000
set_option linter.unusedSimpArgs false
set_option linter.unusedVariables false
namespace Go.Proofs.Ytblpmdolclalnaa
open Go.Conc
open Go.ConcR (WgAt KK stA smA rd wr mk DC0)
open Go.ConcN (WgLive)
structure MpP where
 K : Nat
 n : Nat
 c0 : Nat
 Wg : Nat
 nfuel : Nat
 fv : Value
 phi : Int → Int
 Xf : World → Prop
 Sx : Nat → Prop
 okN : Int → Prop
def isJob (okN : Int → Prop) (v : Value) : Prop := ∃ n p, v = jobV n p ∧ okN n
def MpP.pp (q : MpP) : PP := { nf := 0, K := q.K, c0 := q.c0, n := q.n, phi := fun _ v => v, okV := isJob q.okN }
def giftJ (v : Value) : Cells := fun b y => ∃ n p, v = jobV n p ∧ b = p ∧ y = 0
def msgJ (v : Value) (w : World) : Prop := ∃ n p, v = jobV n p ∧ (∃ cs : Array Value, w.heap[p]? = some (.cells cs 3 (0, 0))) ∧ ∃ z, w.cell? ⟨p, 0, none⟩ = some z
structure MpOK (q : MpP) : Prop where
 lean1 : Lean1 q.Xf q.Sx
 firm : ∀ own Got Rd, (∀ b, q.Sx b → Rd b) → Firm own Got Rd q.Wg q.Xf
def MpP.Calls (q : MpP) : Prop := ∀ own Got Rd n, (∀ b, q.Sx b → Rd b) → CallsP own Got Rd q.Wg q.fv n (.int .i64 (q.phi n)) q.Xf q.nfuel
def DoneJ (phi : Int → Int) (Got : Cells) (got : List Value) (w : World) : Prop := ∀ v ∈ got, ∃ n p, v = jobV n p ∧ Got p 0 ∧ w.cell? ⟨p, 0, none⟩ = some (.int .i64 (phi n))
def MpP.X (q : MpP) (Got : Cells) (got : List Value) (w : World) : Prop := q.Xf w ∧ DoneJ q.phi Got got w
def MpP.Bz (q : MpP) (got : List Value) : Nat → Prop := fun b => q.Sx b ∨ ∃ v ∈ got, ∃ n, v = jobV n b
def MpP.Kid (q : MpP) (own : Nat → Prop) (s : KS) (Got : Cells) (Rd : Nat → Prop) (g : Goroutine) (w : World) : Prop :=
 ∃ e8 e4, s.env = [e8, e4] ∧ (∀ b, q.Sx b → Rd b) ∧ WkF own Got Rd q.Wg e8 e4 s.cin q.fv (q.X Got s.got) w ∧
   match s.ph with
   | .recv => ∃ T, WkT q.Wg e8 e4 s.cin T ∧ g = wkAt q.Wg T
   | .done => AtRel0 Try.prog 66 q.Wg g w
   | _ => False
def MpP.Fin (q : MpP) (s : KS) (w : World) : Prop := ∀ v ∈ s.got, ∃ n p, v = jobV n p ∧ w.cell? ⟨p, 0, none⟩ = some (.int .i64 (q.phi n))
structure FleshJ (q : MpP) (x : Flesh) : Prop where
 kid : x.Kid = q.Kid
 zero : x.zero = .agg #[.int .i64 0, .pointer none]
 gift : x.gift = giftJ
 msg : x.msg = msgJ
 fin : x.Fin = q.Fin
 fuel : q.nfuel + 400 ≤ x.fuel
def MpP.KidA (q : MpP) (L : Lay) (In : (Nat → Prop) → KS × L.A → Cells → (Nat → Prop) → Goroutine → World → Prop) (own : Nat → Prop) (s : KS × L.A) (Got : Cells) (Rd : Nat → Prop) (g : Goroutine) (w : World) : Prop :=
 match L.isA s.2 with | none => q.Kid own s.1 Got Rd g w | some _ => In own s Got Rd g w
structure KidOK (q : MpP) (L : Lay) (In : (Nat → Prop) → KS × L.A → Cells → (Nat → Prop) → Goroutine → World → Prop) : Prop where
 calls : ∀ own s a Got Rd n p e8 e4, L.isA a = none → s.env = [e8, e4] → q.okN n → (∀ b, q.Sx b → Rd b) → ¬ Rd p → (∀ v ∈ s.got, ∀ n' p', v = jobV n' p' → p' ≠ p) →
   CallsC own Got Rd q.Wg e8 e4 s.cin q.fv (q.X Got s.got) n p (.int .i64 (q.phi n)) (q.KidA L In own (q.pp.gotS s (jobV n p), L.enter (jobV n p) a) Got Rd) (q.Kid own (q.pp.gotS s (jobV n p)) Got Rd) q.nfuel
 inner : ∀ x, FleshJ q x → ∀ own s Got Rd g w, L.isA s.2 ≠ none → In own s Got Rd g w → KStop Try.prog 66 q.Wg (q.pp.netA L In x) own s Got Rd g w
section
variable {q : MpP} {x : Flesh} {own : Nat → Prop} {s : KS} {Got Got' : Cells} {Rd : Nat → Prop} {g : Goroutine} {w w₁ : World} {got : List Value} {p : Nat} {n : Int}
theorem jobV_inj {n n' : Int} {p p' : Nat} (h : jobV n p = jobV n' p') : n = n' ∧ p = p' := by
 simp only [jobV, Value.agg.injEq] at h
 simpa using h
theorem DoneJ.firm {Wg : Nat} : Firm own Got Rd Wg (DoneJ q.phi Got got) := fun w w₁ r h v hv => by
 obtain ⟨n, p, e, hg, hc⟩ := h v hv
 exact ⟨n, p, e, hg, (r.cell p 0 (cell_lt hc) (.inr (.inl hg))).trans hc⟩
theorem MpP.firm (hq : MpOK q) (hs : ∀ b, q.Sx b → Rd b) : Firm own Got Rd q.Wg (q.X Got got) := fun w w₁ r h => ⟨hq.firm own Got Rd hs w w₁ r h.1, DoneJ.firm w w₁ r h.2⟩
theorem MpP.leans (hq : MpOK q) : Lean1 (q.X Got got) (q.Bz got) where
 lt w h b hb := by
   rcases hb with hb | ⟨v, hv, n, e⟩
   · exact hq.lean1.lt w h.1 b hb
   · obtain ⟨n', p', e', _, hc⟩ := h.2 v hv
     obtain rfl := (jobV_inj (e.symm.trans e')).2
     exact cell_lt hc
 set w b o v hb h := ⟨hq.lean1.set w b o v (fun x => hb (.inl x)) h.1, fun u hu => by
   obtain ⟨n, p, e, hg, hc⟩ := h.2 u hu
   exact ⟨n, p, e, hg, (cell?_eq (setCell_ne (fun e' : p = b => hb (.inr ⟨u, hu, n, e' ▸ e⟩))) 0).trans hc⟩⟩
theorem MpP.calls (hc : q.Calls) (hs : ∀ b, q.Sx b → Rd b) : CallsP own Got Rd q.Wg q.fv n (.int .i64 (q.phi n)) (q.X Got got) q.nfuel :=
 fun b a ops i rest k cs o y z ats w h1 h2 h3 h4 h5 h6 h7 h8 => (hc own Got Rd n hs b a ops i rest k cs o y z ats w h1 h2 h3 h4 h5 h6 h7 h8.1).imp fun g w' h => ⟨h.1, h.2.1, ⟨h.2.2.1, fun v hv => by
   obtain ⟨n', p', e, hg, hc⟩ := h8.2 v hv
   exact ⟨n', p', e, hg, h.2.2.2.1 _ _ _ (.inr (.inl hg)) hc⟩⟩, h.2.2.2⟩
theorem wk_recv {Wg e8 e4 c : Nat} {T : Array Value} (hT : WkT Wg e8 e4 c T) : stepG Try.prog false (wkAt Wg T) w = .comm (bare (wkAt Wg T)) #[rcase c (.agg #[.int .i64 0, .pointer none])] true (.recv true) w #[] := by
 have h : ((⟨T, [dcall 28 #[ptr Wg]]⟩ : Act).eval (.tmp 4)) = .chan (some c) := by simp [Act.eval, hT.t4]
 exact stepG_recv (t := 58) (e := 70) (x := .tmp 4) rfl rfl (by decide) rfl h Try.underlying58 Try.zeroValue70
theorem kid_none (q : MpP) (hc : q.Calls) : KidOK q Lay.none (fun _ _ _ _ _ _ => False) where
 calls _ _ _ _ _ _ _ _ _ _ _ _ hs _ _ := CallsP.cps (MpP.calls hc hs)
 inner _ _ _ _ _ _ _ _ h _ := absurd rfl h
theorem map_kid {L : Lay} {In : (Nat → Prop) → KS × L.A → Cells → (Nat → Prop) → Goroutine → World → Prop} (hq : MpOK q) (hk : KidOK q L In) (hx : FleshJ q x) : ∀ own s Got Rd g w, (q.pp.netA L In x).Kid own s Got Rd g w → KStop Try.prog 66 q.Wg (q.pp.netA L In x) own s Got Rd g w := by
 rintro own ⟨s, a⟩ Got Rd g w h
 have hKid : (q.pp.netA L In x).Kid = q.KidA L In := by
   funext own s Got Rd g w
   show (match L.isA s.2 with | none => x.Kid own s.1 Got Rd g w | some _ => In own s Got Rd g w) = _
   rw [hx.kid]; rfl
 rw [hKid] at h
 cases hia : L.isA a with
 | some by' =>
   have hne : L.isA (s, a).2 ≠ none := by show L.isA a ≠ none; rw [hia]; simp
   unfold MpP.KidA at h
   rw [hia] at h
   exact hk.inner x hx _ _ _ _ _ _ hne h
 | none =>
 have h : q.Kid own s Got Rd g w := by unfold MpP.KidA at h; rw [hia] at h; exact h
 have hact : ∀ {k}, PP.act s = k → (q.pp.netA L In x).act (s, a) = k := fun e => (PP.actA_idle hia).trans e
 obtain ⟨e8, e4, he, hs, hF, h⟩ := h
 have hfi := MpP.firm (own := own) (Got := Got) (got := s.got) hq hs
 have hkf : ¬ s.kd < q.pp.nf := Nat.not_lt_zero _
 cases hp : s.ph with
 | send v => rw [hp] at h; exact h.elim
 | shut => rw [hp] at h; exact h.elim
 | done =>
   rw [hp] at h
   obtain ⟨h1, g', h2, h3⟩ := h
   refine ⟨h1, ?_⟩
   have ha : (q.pp.netA L In x).act (s, a) = .done := hact (by simp [PP.act, hp])
   rw [ha]
   refine ⟨fun w₁ h₁ => ?_, g', h2, h3⟩
   show x.Fin s w₁
   rw [hx.fin]
   intro v hv
   obtain ⟨n, p, e, _, hc⟩ := (hfi _ _ h₁ hF.x).2 v hv
   exact ⟨n, p, e, hc⟩
 | recv =>
   rw [hp] at h
   obtain ⟨T, hT, rfl⟩ := h
   refine ⟨rfl, ?_⟩
   have ha : (q.pp.netA L In x).act (s, a) = .recv s.cin := hact (by simp [PP.act, hp])
   rw [ha]
   have hz : (q.pp.netA L In x).zero (s, a) = .agg #[.int .i64 0, .pointer none] := by show zof x.zero s = _; simp [zof, hp, hx.zero]
   refine ⟨by rw [hz]; exact wk_recv hT, fun v w₁ h₁ hok hmsg hgift => ?_, fun _ w₁ h₁ => ?_⟩
   · obtain ⟨⟨⟨n, p, rfl, hokn⟩, _, _⟩, _⟩ := (hok : q.pp.okGot s v ∧ _)
     have hmsg' : x.msg (jobV n p) w₁ := hmsg
     rw [hx.msg] at hmsg'
     obtain ⟨n', p', e, hpc, hp0⟩ := hmsg'
     obtain ⟨rfl, rfl⟩ := jobV_inj e
     have hgp : ¬ Got p 0 ∧ ¬ Rd p := hgift p 0 (by show x.gift _ _ _; rw [hx.gift]; exact ⟨n, p, rfl, rfl, rfl⟩)
     show Goo Try.prog false own (KR 66 q.Wg own (fun b y => Got b y ∨ x.gift (jobV n p) b y) Rd) (KD q.Wg own (fun b y => Got b y ∨ x.gift (jobV n p) b y) Rd) ((q.pp.netA L In x).Kid own (q.pp.gotS s (jobV n p), L.enter (jobV n p) a) (fun b y => Got b y ∨ x.gift (jobV n p) b y) Rd) x.fuel _ w₁
     rw [hx.gift, hKid]
     have hF₁ := hF.rely hfi h₁
     have hF' : WkG own (fun b y => Got b y ∨ giftJ (jobV n p) b y) Rd q.Wg e8 e4 s.cin q.fv (q.X (fun b y => Got b y ∨ giftJ (jobV n p) b y) s.got) p w₁ :=
       ⟨⟨hF₁.live, hF₁.rd, hF₁.jobs, hF₁.fn, hF₁.x.1, fun u hu => by
         obtain ⟨n', p', e, hg, hc⟩ := hF₁.x.2 u hu
         exact ⟨n', p', e, .inl hg, hc⟩⟩, .inr ⟨n, p, rfl, rfl, rfl⟩, hpc, hp0⟩
     have hold : ∀ u ∈ s.got, ∀ n' p', u = jobV n' p' → p' ≠ p := fun u hu n' p' e e' => by
       obtain ⟨n2, p2, e2, hg, _⟩ := hF₁.x.2 u hu
       obtain ⟨_, rfl⟩ := jobV_inj (e.symm.trans e2)
       exact hgp.1 (e' ▸ hg)
     refine Goo.mono (wk_got (X' := q.X (fun b y => Got b y ∨ giftJ (jobV n p) b y) (s.got ++ [jobV n p])) (MpP.firm hq hs) (MpP.firm hq hs) (MpP.leans hq) hgp.2 ⟨_, rfl⟩ (hk.calls own s a _ Rd n p e8 e4 hia he hokn hs hgp.2 hold) (fun bj w' hJ => ?_) hT hF' fun T' w' hT' hF2 => ⟨e8, e4, he, hs, hF2, ?_⟩) (by have := hx.fuel; omega)
     · obtain ⟨cs, hc⟩ := hJ.pc
       obtain ⟨v₀, h0⟩ := hJ.p0
       have hlen : 0 < cs.size := by
         simp only [World.cell?, hc] at h0
         cases hh : cs[0]? with
         | none => simp [hh] at h0
         | some x => exact (Array.getElem?_eq_some_iff.1 hh).1
       have at' : (w'.setCell ⟨p, 0, none⟩ (.int .i64 (q.phi n))).heap[p]? = some (.cells (cs.setIfInBounds 0 (.int .i64 (q.phi n))) 3 (0, 0)) := by
         unfold World.setCell
         simp [Array.getElem?_modify, hc]
       refine ⟨hq.lean1.set _ _ _ _ (fun hb => hgp.2 (hs _ hb)) hJ.f.x.1, fun u hu => ?_⟩
       rcases List.mem_append.1 hu with hu | hu
       · obtain ⟨n', p', e, hg, hc'⟩ := hJ.f.x.2 u hu
         exact ⟨n', p', e, hg, (cell?_eq (setCell_ne (hold u hu n' p' e)) 0).trans hc'⟩
       · exact ⟨n, p, by simpa using hu, .inr ⟨n, p, rfl, rfl, rfl⟩, by simp [World.cell?, at', hlen]⟩
     · have hph : (q.pp.gotS s (jobV n p)).ph = .recv := by simp [PP.gotS, hkf]
       rw [hph]
       exact ⟨T', hT', rfl⟩
   · show Goo Try.prog false own (KR 66 q.Wg own Got Rd) (KD q.Wg own Got Rd) ((q.pp.netA L In x).Kid own (q.pp.endS s, a) Got Rd) x.fuel _ w₁
     have e : (q.pp.netA L In x).Kid own (q.pp.endS s, a) Got Rd = q.Kid own (q.pp.endS s) Got Rd := by
       funext g w
       rw [hKid]; unfold MpP.KidA; rw [hia]
     rw [e]
     refine Goo.mono (wk_end hfi hT (hF.rely hfi h₁) fun g' w' hr hF' => ⟨e8, e4, he, hs, hF', ?_⟩) (by have := hx.fuel; omega)
     have hph : (q.pp.endS s).ph = .done := by simp [PP.endS, hkf]
     rw [hph]
     exact hr
end
end Go.Proofs.Ytblpmdolclalnaa
namespace Go.Proofs.Ytblpmdolclalnaa
open Go.Conc Go.RowKit Go.Conc.Lib Go.ConcR.Gen Go.ConcN.Gen
open Go.ConcR (WgAt KK stA smA rd wr mk DC0)
open Go.ConcN (WgLive)
structure Iter where
 vb : Option Nat
 ent : Nat → Frame → Prop
 loop : Nat → Nat → Frame → Prop
 yld : Nat → Nat → Int → Frame → Act → Array Oper → Nat → List Nat → List Item → Prop
def cnt32 (k : Nat) : Obj := .cells #[.int .i32 k] 53 (0, 0)
def Iter.V (it : Iter) (k : Nat) (w : World) : Prop := ∀ b, it.vb = some b → w.heap[b]? = some (cnt32 k)
structure MpM where
 q : MpP
 L : Lay
 In : (Nat → Prop) → KS × L.A → Cells → (Nat → Prop) → Goroutine → World → Prop
 it : Iter
 cs : List Frame
 Shun : Nat → Prop
 n0 : Nat
 w0 : World
 inV : Value
 xs : List Value
 e8 : Nat
 e4 : Nat
def Lay.AB (L : Lay) (b : Nat) : Prop := ∃ y, L.cel b y
def MpM.Gx (m : MpM) (b : Nat) : Prop := m.Shun b ∨ m.L.AB b
def MpM.Off (m : MpM) (b : Nat) : Prop := m.Gx b ∨ m.it.vb = some b
def MpM.Gv (m : MpM) (Given : Cells) : Cells := fun b x => Given b x ∨ m.it.vb = some b
structure Gnd (m : MpM) (own : Nat → Prop) (Given : Cells) (w : World) : Prop where
 cell : ∀ b x v, b < m.n0 → ¬ m.Off b → m.w0.cell? ⟨b, x, none⟩ = some v → w.cell? ⟨b, x, none⟩ = some v ∧ own b ∧ ¬ Given b x
 vis : ∀ b, m.it.vb = some b → own b ∧ ∀ x, ¬ Given b x
structure IterOK (m : MpM) : Prop where
 vb : ∀ b, m.it.vb = some b → b < m.n0 ∧ ¬ m.Gx b ∧ ¬ m.q.Sx b
 range : ∀ {main : Bool} {b : Frame} {a : Act} {k : List Item} {cs : List Frame} {w : World} {K : Goroutine → World → Array Event → Prop} {ps : Array Tmp} {assign body : Code} {t : Tmp}, a.eval (.tmp t) = m.inV →
   (∀ fr, m.it.ent (w.heap.size + 1) fr → K (G fr (b.at ⟨a.tmps, { target := .collected w.heap.size, args := #[] } :: a.defers⟩ (.inRangeFunc (w.heap.size + 1) :: k) :: cs))
     ((w.alloc (.deferred (some []))).alloc (.loop { state := .ready, pending := none, fn := b.fn, tmps := a.tmps, params := ps, assign := assign, body := body, defers := w.heap.size })) #[]) →
   (stepG Try.prog main (G (b.at a (.code (.rangeFunc (.tmp t) ps assign body) :: k)) cs) w).goes K
 first : ∀ {own : Nat → Prop} {Given : Cells} {Fz : Nat → Prop} {Wg l : Nat} {F : World → Prop} {Stop : Goroutine → World → Prop} {fr : Frame} {cs : List Frame} {w : World}, F w → (∀ {w w₁ : World}, F w → MR 66 Wg own Given w w₁ → F w₁) → (∀ w, F w → Gnd m own Given w) → m.it.ent l fr →
   (∀ fr w, F w → m.it.loop l 0 fr → Stop (G fr cs) w) → Goes Try.prog true (MR 66 Wg own Given) (MD Wg own Given Fz) Stop 20 (G fr cs) w
 more : ∀ {own : Nat → Prop} {Given : Cells} {Fz : Nat → Prop} {Wg l i : Nat} {n : Int} {F : World → Prop} {Stop : Goroutine → World → Prop} {fr : Frame} {cs : List Frame} {w : World}, F w → m.it.V i w → (∀ {w w₁ : World}, F w → MR 66 Wg own Given w w₁ → F w₁) → (∀ w, F w → Gnd m own Given w) →
   (∀ w w', F w → (∀ b, m.it.vb ≠ some b → w'.heap[b]? = w.heap[b]?) → w'.heap.size = w.heap.size → w'.os = w.os → w'.output = w.output → w'.tape = w.tape → (∀ b, m.it.vb = some b → ∃ k, w.heap[b]? = some (cnt32 k) ∧ w'.heap[b]? = some (cnt32 (k + 1))) → F w') → (∀ b, m.it.vb = some b → ¬ Fz b) → (∀ b, m.it.vb = some b → b ≠ Wg) →
   m.it.loop l i fr → m.xs[i]? = some (.int .i64 n) →
   (∀ b a ops j rest k w, F w → m.it.V (i + 1) w → m.it.yld l i n b a ops j rest k → Stop (G (b.at a (.inRegion ops (j :: rest) :: k)) cs) w) → Goes Try.prog true (MR 66 Wg own Given) (MD Wg own Given Fz) Stop 120 (G fr cs) w
 done : ∀ {own : Nat → Prop} {Given : Cells} {Fz : Nat → Prop} {Wg l : Nat} {F : World → Prop} {Stop : Goroutine → World → Prop} {fr c : Frame} {cs : List Frame} {w : World}, F w → (∀ {w w₁ : World}, F w → MR 66 Wg own Given w w₁ → F w₁) → m.it.loop l m.xs.length fr →
   (∀ w, F w → Stop (G (c.finish (.tuple #[])) cs) w) → Goes Try.prog true (MR 66 Wg own Given) (MD Wg own Given Fz) Stop 20 (G fr (c :: cs)) w
 next : ∀ {own : Nat → Prop} {Given : Cells} {Fz : Nat → Prop} {Wg l i : Nat} {n : Int} {F : World → Prop} {Stop : Goroutine → World → Prop} {b : Frame} {a : Act} {ops : Array Oper} {j : Nat} {rest : List Nat} {k : List Item} {cs : List Frame} {w : World}, F w → (∀ {w w₁ : World}, F w → MR 66 Wg own Given w w₁ → F w₁) → i < m.xs.length → m.it.yld l i n b a ops j rest k →
   (∀ fr w, F w → m.it.loop l (i + 1) fr → Stop (G fr cs) w) → Goes Try.prog true (MR 66 Wg own Given) (MD Wg own Given Fz) Stop 20 (G ((b.at a (.inRegion ops (j :: rest) :: k)).finish (.bool true)) cs) w
 op : ∀ {l i : Nat} {n : Int} {b : Frame} {a : Act} {ops : Array Oper} {j : Nat} {rest : List Nat} {k : List Item}, m.it.yld l i n b a ops j rest k →
   ∃ o y z, ops[j]? = some o ∧ Region.wanted o (yielded ops a.tmps) = true ∧ b.kind ≠ .early ∧ (∃ ats, o.op = .call { callee := .value y, args := #[z], argTypes := ats }) ∧ a.eval y = yieldV l ∧ a.eval z = .int .i64 n
structure MpMOK (m : MpM) : Prop where
 q : MpOK m.q
 lay : LayOK m.q.pp m.L
 kid : KidOK m.q m.L m.In
 few : m.q.K ≤ 16
 one : 0 < m.q.K
 wg : m.n0 ≤ m.q.Wg
 c0 : m.n0 ≤ m.q.c0
 e8 : m.n0 ≤ m.e8
 e4 : m.n0 ≤ m.e4
 sx : ∀ b, m.q.Sx b → b < m.n0 ∧ ¬ m.Off b
 ab : ∀ b, m.L.AB b → b < m.n0 ∧ ¬ m.Shun b
 j0 : ∀ p ci co e f, m.L.J (.hire p ci co e) 0 f
 cel : ∀ b y, m.L.cel b y → m.w0.cell? ⟨b, y, none⟩ = some (m.L.val 0 (fun _ => m.L.a0) b y)
 v0 : m.it.V 0 m.w0
 x0 : ∀ w, (∀ b x, m.q.Sx b → w.cell? ⟨b, x, none⟩ = m.w0.cell? ⟨b, x, none⟩) → (∀ (b : Nat) (c : Array Value) (e : TypeId) (f : Nat × Nat), b < m.n0 → m.w0.heap[b]? = some (Obj.cells c e f) → ∃ c' : Array Value, w.heap[b]? = some (Obj.cells c' e f) ∧ c'.size = c.size) → m.q.Xf w
 it : IterOK m
 xs : m.xs.length ≤ m.q.n ∧ m.q.n ≤ 900000 ∧ (∀ v ∈ m.xs, isI v) ∧ ∀ n, .int .i64 n ∈ m.xs → m.q.okN n
/-! ### a turn of the memory -/
structure Turn (S : Nat → Prop) (w w₁ : World) : Prop where
 size : w.heap.size ≤ w₁.heap.size
 old : ∀ b, b < w.heap.size → ¬ S b → w₁.heap[b]? = w.heap[b]?
 os : w₁.os = w.os
 out : w₁.output = w.output
 tape : w₁.tape = w.tape
def Off (S : Nat → Prop) (w : World) (ts : List TypeId) : Prop := ∀ (b : Nat) (cs : Array Value) (t : TypeId) (f : Nat × Nat), S b → w.heap[b]? = some (Obj.cells cs t f) → t ∉ ts
section
variable {S : Nat → Prop} {w w₁ : World} {ts : List TypeId}
theorem Turn.alloc (w : World) (o : Obj) : Turn (fun _ => False) w (w.alloc o) := ⟨by simp, fun b hb _ => heap_alloc_old _ _ b hb, rfl, rfl, rfl⟩
theorem Off.none : Off (fun _ => False) w ts := fun _ _ _ _ h => h.elim
theorem Turn.set (w : World) (b o : Nat) (v : Value) : Turn (· = b) w (w.setCell ⟨b, o, none⟩ v) := ⟨by simp [World.setCell], fun b' _ hb' => setCell_ne hb', rfl, rfl, rfl⟩
theorem Off.at {b : Nat} {cs : Array Value} {t : TypeId} {f : Nat × Nat} (h : w.heap[b]? = some (Obj.cells cs t f)) (ht : t ∉ ts) : Off (· = b) w ts := fun b' cs' t' f' e h' => by
 subst e
 rw [h] at h'
 cases h'
 exact ht
theorem Turn.put (w : World) (b : Nat) (o : Obj) : Turn (· = b) w (w.putObj b o) := ⟨by rw [World.putObj_size]; exact Nat.le_refl _, fun b' _ hb' => World.putObj_heap_other hb', rfl, rfl, rfl⟩
theorem Off.other {b : Nat} {o : Obj} (h : w.heap[b]? = some o) (ho : ∀ c e f, o ≠ .cells c e f) : Off (· = b) w ts := fun b' cs' t' f' e h' => by
 subst e
 rw [h] at h'
 exact absurd (Option.some.inj h') (ho _ _ _)
theorem Turn.grown {v : Value} (h : w.grownBy w₁ v.ownBlock) : Turn (fun g => v.ownBlock = some g) w w₁ := ⟨h.size, fun b hb hn => h.block b hb fun e => hn e.symm, h.os, h.output, h.tape⟩
theorem Off.row {v : Value} {n : Nat} {t : TypeId} {xs : List Value} (h : w.ownsRow 0 t 1 v n xs) (ht : t ∉ ts) : Off (fun g => v.ownBlock = some g) w ts := fun g cs' t' f' hg h' => by
 rcases h.2 with ⟨rfl, _⟩ | ⟨g', cap, cur, rfl, _, h2, _⟩
 · cases hg
 · cases hg
   rw [h2] at h'
   cases h'
   exact ht
theorem Turn.at {b : Nat} {cs : Array Value} {t : TypeId} {f : Nat × Nat} (h : Turn S w w₁) (hb : w.heap[b]? = some (Obj.cells cs t f)) (hT : Off S w ts) (ht : t ∈ ts) : w₁.heap[b]? = w.heap[b]? :=
 h.old b (Array.getElem?_eq_some_iff.1 hb).1 fun hs => hT _ _ _ _ hs hb ht
end
/-! ### what goroutine 0 knows -/
structure MG (m : MpM) (own : Nat → Prop) (Given : Cells) (Fz : Nat → Prop) (p : Nat) : Prop where
 outer : ∀ b, b < m.n0 → own b
 given : ∀ b x, b < m.n0 → Given b x → m.Gx b
 vis : ∀ b, m.it.vb = some b → b < m.n0 ∧ ¬ m.Gx b
 wg : ∀ x, Given m.q.Wg x
 o8 : own m.e8 ∧ ∀ x, ¬ Given m.e8 x
 o4 : own m.e4 ∧ ∀ x, ¬ Given m.e4 x
 c0 : p = 0 → own m.q.c0 ∧ (∀ x, ¬ Given m.q.c0 x) ∧ ¬ Fz m.q.c0
structure MW (m : MpM) (Given : Cells) (Fz : Nat → Prop) (p : Nat) (w : World) : Prop where
 live : WgLive 66 m.q.Wg w
 c8 : w.cell? ⟨m.e8, 0, none⟩ = some (.chan (some m.q.c0))
 c4 : w.cell? ⟨m.e4, 0, none⟩ = some m.q.fv
 b8 : ∃ cs : Array Value, w.heap[m.e8]? = some (.cells cs 58 (0, 0))
 b4 : ∃ cs : Array Value, w.heap[m.e4]? = some (.cells cs 28 (0, 0))
 out : Out m.n0 m.w0 (m.Gv Given) w
 vis : p ≤ m.q.K → m.it.V 0 w
 vlow : ∀ b, m.it.vb = some b → b < m.n0
 gsz : ∀ b x, Given b x → b < w.heap.size
 fsz : ∀ b, Fz b → b < w.heap.size
 ch0 : p = 0 → w.heap[m.q.c0]? = some (.chan 0 #[] false 0 0 false)
section
variable {m : MpM} {own : Nat → Prop} {Given : Cells} {Fz : Nat → Prop} {p : Nat} {w w₁ : World} {S : Nat → Prop}
theorem MG.own_vis (g : MG m own Given Fz p) {b : Nat} (hb : m.it.vb = some b) : own b ∧ ∀ x, ¬ Given b x := ⟨g.outer b (g.vis b hb).1, fun x hx => (g.vis b hb).2 (g.given b x (g.vis b hb).1 hx)⟩
theorem Iter.V.lt {it : Iter} {k b : Nat} (h : it.V k w) (hb : it.vb = some b) : b < w.heap.size := (Array.getElem?_eq_some_iff.1 (h b hb)).1
theorem Iter.V.rely {k Wg : Nat} (g : MG m own Given Fz p) (h : m.it.V k w) (r : MR 66 Wg own Given w w₁) : m.it.V k w₁ := fun b hb => (r.blk b (h.lt hb) fun x => ⟨(g.own_vis hb).1, (g.own_vis hb).2 x⟩).trans (h b hb)
theorem Iter.V.turn {it : Iter} {k n0 : Nat} (h : it.V k w) (hl : ∀ b, it.vb = some b → b < n0) (t : Turn S w w₁) (hS : ∀ b, S b → n0 ≤ b) : it.V k w₁ := fun b hb => (t.old b (h.lt hb) fun hs => Nat.lt_irrefl _ (Nat.lt_of_lt_of_le (hl b hb) (hS b hs))).trans (h b hb)
theorem MW.rely (g : MG m own Given Fz p) (h : MW m Given Fz p w) (r : MR 66 m.q.Wg own Given w w₁) : MW m Given Fz p w₁ := by
 obtain ⟨cs, hc⟩ := h.b8
 obtain ⟨cs', hc', _⟩ := r.form _ _ _ _ hc
 obtain ⟨ds, hd⟩ := h.b4
 obtain ⟨ds', hd', _⟩ := r.form _ _ _ _ hd
 exact ⟨r.live h.live, (r.cell m.e8 0 (cell_lt h.c8) ⟨g.o8.1, g.o8.2 0⟩).trans h.c8, (r.cell m.e4 0 (cell_lt h.c4) ⟨g.o4.1, g.o4.2 0⟩).trans h.c4, ⟨cs', hc'⟩, ⟨ds', hd'⟩, h.out.rel (fun b x hb hx => ⟨g.outer b hb, fun hg => hx (.inl hg)⟩) r, (fun hp => (h.vis hp).rely g r), h.vlow,
   fun b x hb => Nat.lt_of_lt_of_le (h.gsz b x hb) r.size, fun b hb => Nat.lt_of_lt_of_le (h.fsz b hb) r.size, fun hp => by
     have h0 := h.ch0 hp
     rw [r.blk m.q.c0 (Array.getElem?_eq_some_iff.1 h0).1 fun x => ⟨(g.c0 hp).1, (g.c0 hp).2.1 x⟩]
     exact h0⟩
theorem MW.turn (h : MW m Given Fz p w) (t : Turn S w w₁) (hp : p ≠ 0) (hS : ∀ b, S b → m.n0 ≤ b) (hT : Off S w [66, 58, 28]) : MW m Given Fz p w₁ := by
 obtain ⟨st, sm, hl⟩ := h.live
 have hl' : w.heap[m.q.Wg]? = some (Go.ConcR.wgBlock 66 st sm) := hl
 obtain ⟨cs, hc⟩ := h.b8
 obtain ⟨ds, hd⟩ := h.b4
 have e8 := t.at hc hT (by simp)
 have e4 := t.at hd hT (by simp)
 exact ⟨⟨st, sm, hl.of_block (t.at hl' hT (by simp))⟩, (cell?_eq e8 0).trans h.c8, (cell?_eq e4 0).trans h.c4, ⟨cs, e8.trans hc⟩, ⟨ds, e4.trans hd⟩,
   h.out.more t.size (fun b hb => t.old b (Nat.lt_of_lt_of_le hb h.out.size) fun hs => Nat.lt_irrefl _ (Nat.lt_of_lt_of_le hb (hS b hs))) t.os t.out t.tape, (fun hp => (h.vis hp).turn h.vlow t hS), h.vlow, fun b x hx => Nat.lt_of_lt_of_le (h.gsz b x hx) t.size, fun b hx => Nat.lt_of_lt_of_le (h.fsz b hx) t.size, fun e => absurd e hp⟩
theorem MW.outer (g : MG m own Given Fz p) (h : MW m Given Fz p w) {b x : Nat} {v : Value} (hb : b < m.n0) (hs : ¬ m.Off b) (hv : m.w0.cell? ⟨b, x, none⟩ = some v) : w.cell? ⟨b, x, none⟩ = some v ∧ own b ∧ ¬ Given b x := by
 have hn : ¬ Given b x := fun hx => hs (.inl (g.given b x hb hx))
 exact ⟨(h.out.cell b x hb fun hx => hx.elim hn fun e => hs (.inr e)).trans hv, g.outer b hb, hn⟩
theorem MW.gnd (g : MG m own Given Fz p) (h : MW m Given Fz p w) : Gnd m own Given w := ⟨fun _ _ _ hb hs hv => h.outer g hb hs hv, fun _ hb => g.own_vis hb⟩
theorem MW.share {Given' : Cells} {Fz' : Nat → Prop} {p' : Nat} (h : MW m Given Fz p w) (hg : ∀ b x, Given b x → Given' b x) (gs : ∀ b x, Given' b x → b < w.heap.size) (fs : ∀ b, Fz' b → b < w.heap.size) (hp : p' ≠ 0) (hk : p' ≤ m.q.K → p ≤ m.q.K) : MW m Given' Fz' p' w :=
 ⟨h.live, h.c8, h.c4, h.b8, h.b4, h.out.less fun b x _ hx => hx.imp (hg b x) id, fun e => h.vis (hk e), h.vlow, gs, fs, fun e => absurd e hp⟩
end
/-! ### the places -/
structure Mine (m : MpM) (own : Nat → Prop) (Given : Cells) (Fz : Nat → Prop) (b : Nat) : Prop where
 own : own b
 given : ∀ x, ¬ Given b x
 fz : ¬ Fz b
 low : m.n0 ≤ b
structure E10 (m : MpM) (own : Nat → Prop) (Given : Cells) (Fz : Nat → Prop) (e10 : Nat) (w : World) : Prop where
 mine : Mine m own Given Fz e10
 typ : ∃ cs : Array Value, w.heap[e10]? = some (.cells cs 71 (0, 0))
 cell : ∃ v, w.cell? ⟨e10, 0, none⟩ = some v
structure RowJ (m : MpM) (own : Nat → Prop) (Given : Cells) (Fz : Nat → Prop) (ps : List Nat) (v : Value) (w : World) : Prop where
 row : w.ownsRow 0 68 1 v ps.length (ps.map ptr)
 rowO : ∀ g, v.ownBlock = some g → Mine m own Given Fz g
 inc : ps.Pairwise (· < ·)
 low : ∀ p ∈ ps, m.n0 ≤ p ∧ p < w.heap.size
structure Plc (m : MpM) (own : Nat → Prop) (Given : Cells) (Fz : Nat → Prop) (p : Nat) (w : World) : Prop where
 mine : Mine m own Given Fz p
 typ : ∃ cs : Array Value, w.heap[p]? = some (.cells cs 3 (0, 0))
 cell : ∃ v, w.cell? ⟨p, 0, none⟩ = some v
theorem row_tp {w : World} {v : Value} {n t : Nat} {xs : List Value} (h : w.ownsRow 0 t 1 v n xs) {g : Nat} (hg : v.ownBlock = some g) : ∃ cs : Array Value, w.heap[g]? = some (.cells cs t (0, 0)) := by
 rcases h.2 with ⟨rfl, _⟩ | ⟨g', cap, cur, rfl, _, h2, _⟩
 · cases hg
 · cases hg; exact ⟨cur, h2⟩
section
variable {m : MpM} {own : Nat → Prop} {Given Given' : Cells} {Fz : Nat → Prop} {Wg p e10 b n0 l d : Nat} {r : Loop} {ps : List Nat} {v : Value} {w w₁ : World} {S : Nat → Prop}
theorem E10.rely (h : E10 m own Given Fz e10 w) (r : MR 66 Wg own Given w w₁) : E10 m own Given Fz e10 w₁ := by
 obtain ⟨cs, hc⟩ := h.typ
 obtain ⟨cs', hc', _⟩ := r.form _ _ _ _ hc
 obtain ⟨v, hv⟩ := h.cell
 exact ⟨h.mine, ⟨cs', hc'⟩, v, (r.cell e10 0 (cell_lt hv) ⟨h.mine.own, h.mine.given 0⟩).trans hv⟩
theorem E10.turn (h : E10 m own Given Fz e10 w) (t : Turn S w w₁) (hT : Off S w [71]) : E10 m own Given Fz e10 w₁ := by
 obtain ⟨cs, hc⟩ := h.typ
 obtain ⟨v, hv⟩ := h.cell
 have e := t.at hc hT (by simp)
 exact ⟨h.mine, ⟨cs, e.trans hc⟩, v, (cell?_eq e 0).trans hv⟩
theorem E10.fill (h : E10 m own Given Fz e10 w) (v : Value) : E10 m own Given Fz e10 (w.setCell ⟨e10, 0, none⟩ v) ∧ (w.setCell ⟨e10, 0, none⟩ v).cell? ⟨e10, 0, none⟩ = some v := by
 obtain ⟨cs, hc⟩ := h.typ
 obtain ⟨v₀, h0⟩ := h.cell
 have hlen : 0 < cs.size := by
   simp only [World.cell?, hc] at h0
   cases hh : cs[0]? with
   | none => simp [hh] at h0
   | some x => exact (Array.getElem?_eq_some_iff.1 hh).1
 have at' : (w.setCell ⟨e10, 0, none⟩ v).heap[e10]? = some (.cells (cs.setIfInBounds 0 v) 71 (0, 0)) := by
   unfold World.setCell
   simp [Array.getElem?_modify, hc]
 have e : (w.setCell ⟨e10, 0, none⟩ v).cell? ⟨e10, 0, none⟩ = some v := by simp [World.cell?, at', hlen]
 exact ⟨⟨h.mine, ⟨_, at'⟩, v, e⟩, e⟩
theorem RowJ.rely (h : RowJ m own Given Fz ps v w) (r : MR 66 Wg own Given w w₁) : RowJ m own Given Fz ps v w₁ :=
 ⟨ownsRow_of h.row fun g hg => r.blk g (h.row.lt g hg).2 fun x => ⟨(h.rowO g hg).own, (h.rowO g hg).given x⟩, h.rowO, h.inc, fun p hp => ⟨(h.low p hp).1, Nat.lt_of_lt_of_le (h.low p hp).2 r.size⟩⟩
theorem RowJ.turn (h : RowJ m own Given Fz ps v w) (t : Turn S w w₁) (hT : Off S w [68]) : RowJ m own Given Fz ps v w₁ :=
 ⟨ownsRow_of h.row fun g hg => (let ⟨_, hc⟩ := row_tp h.row hg; t.at hc hT (by simp)), h.rowO, h.inc, fun p hp => ⟨(h.low p hp).1, Nat.lt_of_lt_of_le (h.low p hp).2 t.size⟩⟩
theorem Plc.rely (h : Plc m own Given Fz p w) (r : MR 66 Wg own Given w w₁) : Plc m own Given Fz p w₁ := by
 obtain ⟨cs, hc⟩ := h.typ
 obtain ⟨cs', hc', _⟩ := r.form _ _ _ _ hc
 obtain ⟨v, hv⟩ := h.cell
 exact ⟨h.mine, ⟨cs', hc'⟩, v, (r.cell p 0 (cell_lt hv) ⟨h.mine.own, h.mine.given 0⟩).trans hv⟩
theorem Plc.turn (h : Plc m own Given Fz p w) (t : Turn S w w₁) (hT : Off S w [3]) : Plc m own Given Fz p w₁ := by
 obtain ⟨cs, hc⟩ := h.typ
 obtain ⟨v, hv⟩ := h.cell
 have e := t.at hc hT (by simp)
 exact ⟨h.mine, ⟨cs, e.trans hc⟩, v, (cell?_eq e 0).trans hv⟩
theorem Plc.lt (h : Plc m own Given Fz p w) : p < w.heap.size := let ⟨_, hv⟩ := h.cell; cell_lt hv
theorem LoopF.turn (h : LoopF own Given Fz n0 l d r w) (t : Turn S w w₁) (hC : ∀ b, S b → ∃ cs t f, w.heap[b]? = some (.cells cs t f)) : LoopF own Given Fz n0 l d r w₁ := by
 have hl := (Array.getElem?_eq_some_iff.1 h.rcd).1
 have hd := (Array.getElem?_eq_some_iff.1 h.dfr).1
 refine ⟨h.ol, h.od, (t.old l hl fun hs => ?_).trans h.rcd, (t.old d hd fun hs => ?_).trans h.dfr⟩
 · obtain ⟨cs, t, f, e⟩ := hC _ hs
   rw [h.rcd] at e; cases e
 · obtain ⟨cs, t, f, e⟩ := hC _ hs
   rw [h.dfr] at e; cases e
def GvP (p : Nat) (Given : Cells) : Cells := fun b x => Given b x ∨ b = p ∧ x = 0
theorem Mine.share (h : Mine m own Given Fz b) (hb : b ≠ p) : Mine m own (GvP p Given) Fz b := ⟨h.own, fun x hx => hx.elim (h.given x) fun e => hb e.1, h.fz, h.low⟩
theorem cells_ne {b b' : Nat} {cs cs' : Array Value} {t t' : TypeId} {f f' : Nat × Nat} (h : w.heap[b]? = some (.cells cs t f)) (h' : w.heap[b']? = some (.cells cs' t' f')) (ht : t ≠ t') : b ≠ b' := fun e => by
 rw [e, h'] at h
 cases h
 exact ht rfl
theorem E10.share (h : E10 m own Given Fz e10 w) (hp : Plc m own Given Fz p w) : E10 m own (GvP p Given) Fz e10 w := by
 obtain ⟨cs, hc⟩ := h.typ
 obtain ⟨ds, hd⟩ := hp.typ
 exact ⟨h.mine.share (cells_ne hc hd (by decide)), ⟨cs, hc⟩, h.cell⟩
theorem RowJ.share (h : RowJ m own Given Fz ps v w) (hp : Plc m own Given Fz p w) : RowJ m own (GvP p Given) Fz ps v w := by
 obtain ⟨ds, hd⟩ := hp.typ
 exact ⟨h.row, fun g hg => (let ⟨_, hc⟩ := row_tp h.row hg; (h.rowO g hg).share (cells_ne hc hd (by decide))), h.inc, h.low⟩
theorem MW.shareP {k : Nat} (h : MW m Given Fz k w) (hk : k ≠ 0) (hp : Plc m own Given Fz p w) : MW m (GvP p Given) Fz k w :=
 h.share (fun _ _ => .inl) (fun b x hx => hx.elim (h.gsz b x) fun e => by rw [e.1]; exact hp.lt) h.fsz hk id
theorem MG.shareP {k : Nat} (g : MG m own Given Fz k) (h : MW m Given Fz k w) (hk : k ≠ 0) (hp : Plc m own Given Fz p w) : MG m own (GvP p Given) Fz k where
 outer := g.outer
 given b x hb hx := hx.elim (g.given b x hb) fun e => by have := hp.mine.low; omega
 vis := g.vis
 wg x := .inl (g.wg x)
 o8 := ⟨g.o8.1, fun x hx => hx.elim (g.o8.2 x) fun e => (let ⟨_, hc⟩ := h.b8; let ⟨_, hd⟩ := hp.typ; cells_ne hc hd (by decide) e.1)⟩
 o4 := ⟨g.o4.1, fun x hx => hx.elim (g.o4.2 x) fun e => (let ⟨_, hc⟩ := h.b4; let ⟨_, hd⟩ := hp.typ; cells_ne hc hd (by decide) e.1)⟩
 c0 e := absurd e hk
theorem LoopF.shareP (h : LoopF own Given Fz n0 l d r w) (hp : Plc m own Given Fz p w) : LoopF own (GvP p Given) Fz n0 l d r w := by
 obtain ⟨ds, hd⟩ := hp.typ
 refine h.share (fun x hx => hx.elim (h.ol.2.1 x) fun e => ?_) (fun x hx => hx.elim (h.od.2.1 x) fun e => ?_) h.ol.2.2.1 h.od.2.2.1
 · have := h.rcd
   rw [e.1, hd] at this; cases this
 · have := h.dfr
   rw [e.1, hd] at this; cases this
end
noncomputable def bodyM : Code := Try.f11.body.getD .skip
noncomputable def tlM : Nat → Code | 0 => bodyM | n + 1 => cS (tlM n)
noncomputable def lpM : Code := cI (cI (cS (cF (tlM 4))))
noncomputable def bdM : Code := cI (cF (cS (cS lpM)))
noncomputable def klM : List Item := [.inBlock 1, .code (cS (cS (cS lpM))), .inLoop lpM, .inBlock 0, .code (tlM 5)]
noncomputable def ops7M : Array Oper := cO (cF bdM)
noncomputable def k7M : List Item := .code (cS bdM) :: klM
noncomputable def ops8M : Array Oper := cO (cS bdM)
structure HTw (m : MpM) (p : Nat) (T : Array Value) : Prop where
 size : T.size = 64
 t2 : T[2]? = some m.inV
 t4 : T[4]? = some (ptr m.e4)
 t8 : T[8]? = some (ptr m.e8)
 t9 : T[9]? = some (ptr m.q.Wg)
 t31 : T[31]? = some (.int .i64 m.q.K)
 t32 : T[32]? = some (.int .i64 p)
def HireJ (m : MpM) (own : Nat → Prop) (Given : Cells) (Fz : Nat → Prop) (p : Nat) (env : List Nat) (g : Goroutine) (w : World) : Prop :=
 ∃ T, env = [m.e8, m.e4] ∧ HTw m p T ∧ MG m own Given Fz p ∧ p < m.q.K ∧
   AddKd Try.prog 66 m.q.Wg (MR 66 m.q.Wg own Given) (MD m.q.Wg own Given Fz) (MW m Given Fz p) (G ((base 11).at ⟨T.setIfInBounds 34 (.tuple #[]), []⟩ (.inRegion ops7M [] :: k7M)) m.cs) ((base 11).at ⟨T, []⟩ (.inRegion ops7M [0] :: k7M) :: m.cs) g w
def AtHeadJ (m : MpM) (Given : Cells) (Fz : Nat → Prop) (p : Nat) (g : Goroutine) (w : World) : Prop :=
 ∃ T, HTw m p T ∧ g = G ((base 11).at ⟨T, []⟩ (.code lpM :: .inLoop lpM :: .inBlock 0 :: [.code (tlM 5)])) m.cs ∧ MW m Given Fz p w
section
variable {m : MpM} {own : Nat → Prop} {Given : Cells} {Fz : Nat → Prop} {p : Nat} {w w₁ : World}
theorem fits_MW (g : MG m own Given Fz p) : Fits 66 m.q.Wg (MR 66 m.q.Wg own Given) (MD m.q.Wg own Given Fz) (MW m Given Fz p) :=
 fits_main g.wg fun _ _ r h => h.rely g r
set_option maxRecDepth 100000 in
theorem head_wk (g : MG m own Given Fz p) (hp : p < m.q.K) {gg : Goroutine} (h : AtHeadJ m Given Fz p gg w) :
   MGoo Try.prog 66 m.q.Wg own Given Fz (HireJ m own Given Fz p [m.e8, m.e4]) 60 gg w := by
 have hD : ∀ w, MD m.q.Wg own Given Fz w w #[] := fun w => Gua.idle w
 have rl : ∀ {w w₁ : World}, MW m Given Fz p w → MR 66 m.q.Wg own Given w w₁ → MW m Given Fz p w₁ := fun h r => h.rely g r
 obtain ⟨T, hT, rfl, hF⟩ := h
 have hfin : ∀ T g' w, HTw m p T → AddKd Try.prog 66 m.q.Wg (MR 66 m.q.Wg own Given) (MD m.q.Wg own Given Fz) (MW m Given Fz p) (G ((base 11).at ⟨T.setIfInBounds 34 (.tuple #[]), []⟩ (.inRegion ops7M [] :: k7M)) m.cs) ((base 11).at ⟨T, []⟩ (.inRegion ops7M [0] :: k7M) :: m.cs) g' w → HireJ m own Given Fz p [m.e8, m.e4] g' w := fun T g' w h1 h2 => ⟨T, rfl, h1, g, hp, h2⟩
 generalize HireJ m own Given Fz p [m.e8, m.e4] = Stop at hfin ⊢
 replace hfin := Hd.mk hfin
 obtain ⟨hs, t2, t4, t8, t9, t31, t32⟩ := hT
 obtain ⟨v0, v1, v2, v3, v4, v5, v6, v7, v8, v9, v10, v11, v12, v13, v14, v15, v16, v17, v18, v19, v20, v21, v22, v23, v24, v25, v26, v27, v28, v29, v30, v31, v32, v33, v34, v35, v36, v37, v38, v39, v40, v41, v42, v43, v44, v45, v46, v47, v48, v49, v50, v51, v52, v53, v54, v55, v56, v57, v58, v59, v60, v61, v62, v63, rfl⟩ := array64 T hs
 simp only [List.getElem?_toArray, List.getElem?_cons_zero, List.getElem?_cons_succ, Option.some.injEq] at t2 t4 t8 t9 t31 t32
 subst t2 t4 t8 t9 t31 t32
 clear hs
 have hlt : decide ((p : Int) < (m.q.K : Int)) = true := decide_eq_true (by omega)
 simp only [lpM, tlM, cS, cF, cI, bodyM, Try.f11, Option.getD_some]
 refine Goo.mono (Goo.on (MR.refl' _) (n := 20) (m := 30) ?_) (by decide)
 try walk_nrm
 repeat ((first | ((first | ((with_reducible refine g_c (k' := ?_) true true hD ?_ ?_); rotate_left; focus exact rfl) | with_reducible refine g_r hD rfl ?_); intro _ h₁; replace hF := rl hF h₁; clear h₁)))
 (refine Goes.step rfl (fun _ h₁ => ?_); replace hF := rl hF h₁; clear h₁; refine goes_oper_k rfl rfl (by k_ne) (fun K hK => ?_); go_simp; refine hK _ _ ⟨?_, ?_⟩; (focus (refine g_idle hD ?_; intro e he; have hm := mem_listed he; simp [go_sem, *] at hm; done)); clear hK K; try w_num)
 repeat ((first | ((first | ((with_reducible refine g_c (k' := ?_) true true hD ?_ ?_); rotate_left; focus exact rfl) | with_reducible refine g_r hD rfl ?_); intro _ h₁; replace hF := rl hF h₁; clear h₁)))
 (refine Goes.step rfl (fun _ h₁ => ?_); replace hF := rl hF h₁; clear h₁)
 refine goes_call rfl rfl (by k_ne) rfl (Try.wgLib.f_add) (nm_add Try.link) (c := body_add Try.link) rfl ⟨by exact hD _, ?_⟩
 walk_nrmf addFn
 refine Goes.stop fun w₁ h₁ => ?_
 replace hF := rl hF h₁
 refine Goo.mono (n := 12) (Goo.imp ?_ (Goo.of_goes (wg_add Try.wgLib (fits_MW g) w₁ ⟨hF, hF.live⟩))) (by decide)
 intro g' w' h
 exact hfin.out _ _ _ ⟨rfl, rfl, rfl, rfl, rfl, rfl, rfl⟩ h
set_option maxRecDepth 100000 in
theorem after_wk (hm : MpMOK m) {q : Nat} (g : MG m own Given Fz (q + 1)) (hp : q < m.q.K) {T : Array Value} (hT : HTw m q T) {v34 v35 : Value} (hF : MW m Given Fz (q + 1) w) :
   MGoo Try.prog 66 m.q.Wg own Given Fz (AtHeadJ m Given Fz (q + 1)) 20
     (G ((base 11).at ⟨((T.setIfInBounds 34 v34).setIfInBounds 35 v35), []⟩ (.inRegion ops8M [] :: klM)) m.cs) w := by
 have hD : ∀ w, MD m.q.Wg own Given Fz w w #[] := fun w => Gua.idle w
 have rl : ∀ {w w₁ : World}, MW m Given Fz (q + 1) w → MR 66 m.q.Wg own Given w w₁ → MW m Given Fz (q + 1) w₁ := fun h r => h.rely g r
 have hfin : ∀ T w, HTw m (q + 1) T → MW m Given Fz (q + 1) w → AtHeadJ m Given Fz (q + 1) (G ((base 11).at ⟨T, []⟩ (.code lpM :: .inLoop lpM :: .inBlock 0 :: [.code (tlM 5)])) m.cs) w := fun T w h1 h2 => ⟨T, h1, rfl, h2⟩
 generalize AtHeadJ m Given Fz (q + 1) = Stop at hfin ⊢
 replace hfin := Hd.mk hfin
 obtain ⟨hs, t2, t4, t8, t9, t31, t32⟩ := hT
 obtain ⟨v0, v1, v2, v3, v4, v5, v6, v7, v8, v9, v10, v11, v12, v13, v14, v15, v16, v17, v18, v19, v20, v21, v22, v23, v24, v25, v26, v27, v28, v29, v30, v31, v32, v33, v34, v35, v36, v37, v38, v39, v40, v41, v42, v43, v44, v45, v46, v47, v48, v49, v50, v51, v52, v53, v54, v55, v56, v57, v58, v59, v60, v61, v62, v63, rfl⟩ := array64 T hs
 simp only [List.getElem?_toArray, List.getElem?_cons_zero, List.getElem?_cons_succ, Option.some.injEq] at t2 t4 t8 t9 t31 t32
 subst t2 t4 t8 t9 t31 t32
 clear hs
 have hfew := hm.few
 have hadd : IntKind.i64.wrap ((q : Int) + 1) = ((q + 1 : Nat) : Int) := by rw [IntKind.wrap_i64]; omega
 simp only [klM, ops8M, lpM, bdM, tlM, cS, cF, cI, cO, bodyM, Try.f11, Option.getD_some] at hfin ⊢
 refine Goo.of_goes (n := 20) ?_
 try walk_nrm
 repeat ((first | ((with_reducible refine g_opG ?_); first | (refine g_unw hD rfl rfl ?_; intro _ h₁; replace hF := rl hF h₁; clear h₁; walk_nrm) | (refine Goes.step rfl ?_; intro _ h₁; replace hF := rl hF h₁; clear h₁; refine goes_oper_k rfl rfl (by k_ne) fun K hK => ?_; go_simp; refine hK _ _ ⟨g_idle hD fun e he => by have hm := mem_listed he; simp [go_sem, *] at hm, ?_⟩; clear hK K; try w_num)) | ((first | ((with_reducible refine g_c (k' := ?_) false true hD ?_ ?_); rotate_left; focus exact rfl) | with_reducible refine g_r hD rfl ?_); intro _ h₁; replace hF := rl hF h₁; clear h₁)))
 (first | ((with_reducible refine g_opG ?_); first | (refine g_unw hD rfl rfl ?_; intro _ h₁; replace hF := rl hF h₁; clear h₁; walk_nrm) | (refine Goes.step rfl ?_; intro _ h₁; replace hF := rl hF h₁; clear h₁; refine goes_oper_k rfl rfl (by k_ne) fun K hK => ?_; go_simp; refine hK _ _ ⟨g_idle hD fun e he => by have hm := mem_listed he; simp [go_sem, *] at hm, ?_⟩; clear hK K; try w_num)) | ((first | ((with_reducible refine g_c (k' := ?_) true true hD ?_ ?_); rotate_left; focus exact rfl) | with_reducible refine g_r hD rfl ?_); intro _ h₁; replace hF := rl hF h₁; clear h₁))
 exact Goes.stop fun w₂ h₂ => hfin.out _ _ ⟨rfl, rfl, rfl, rfl, rfl, rfl, rfl⟩ (rl hF h₂)
/-! ### the turn of the shares at the go statement -/
def chsW (m : MpM) (p : Nat) : List Nat := (if p = 0 then [m.q.c0] else []) ++ (if p < 0 then [0] else [])
def RdW (m : MpM) : Nat → Prop := fun b => b ∈ [m.e8, m.e4] ∨ m.q.Sx b
def GvW (m : MpM) (p : Nat) (Given : Cells) : Cells := fun b x => Given b x ∨ False ∨ b ∈ chsW m p
def FzW (m : MpM) (Fz : Nat → Prop) : Nat → Prop := fun b => Fz b ∨ RdW m b
theorem chsW_mem {b : Nat} : b ∈ chsW m p ↔ p = 0 ∧ b = m.q.c0 := by
 unfold chsW
 rw [if_neg (Nat.not_lt_zero _), List.append_nil]
 by_cases h : p = 0 <;> simp [h]
theorem MW.not_ch (h : MW m Given Fz p w) {b : Nat} {v : Value} (hv : w.cell? ⟨b, 0, none⟩ = some v) : b ∉ chsW m p := fun hb => by
 obtain ⟨h0, rfl⟩ := chsW_mem.1 hb
 exact cells_ne_chan hv (h.ch0 h0)
theorem mg_turn (hm : MpMOK m) (g : MG m own Given Fz p) (h : MW m Given Fz p w) : MG m own (GvW m p Given) (FzW m Fz) (p + 1) where
 outer := g.outer
 given b x hb hx := by
   rcases hx with hx | hx | hx
   · exact g.given b x hb hx
   · exact hx.elim
   · have := (chsW_mem.1 hx).2; have := hm.c0; omega
 vis := g.vis
 wg x := .inl (g.wg x)
 o8 := ⟨g.o8.1, fun x hx => by
   rcases hx with hx | hx | hx
   · exact g.o8.2 x hx
   · exact hx
   · exact h.not_ch h.c8 hx⟩
 o4 := ⟨g.o4.1, fun x hx => by
   rcases hx with hx | hx | hx
   · exact g.o4.2 x hx
   · exact hx
   · exact h.not_ch h.c4 hx⟩
 c0 h := by omega
theorem rdW_lt (hm : MpMOK m) (h : MW m Given Fz p w) {b : Nat} (hb : RdW m b) : b < w.heap.size := by
 rcases hb with hb | hb
 · simp only [List.mem_cons, List.not_mem_nil, or_false] at hb
   rcases hb with rfl | rfl
   · exact cell_lt h.c8
   · exact cell_lt h.c4
 · have := (hm.sx _ hb).1; have := h.out.size; omega
theorem mw_turn (hm : MpMOK m) (h : MW m Given Fz p w) : MW m (GvW m p Given) (FzW m Fz) (p + 1) w :=
 h.share (fun b x hx => .inl hx) (fun b x hx => by
   rcases hx with hx | hx | hx
   · exact h.gsz b x hx
   · exact hx.elim
   · obtain ⟨h0, rfl⟩ := chsW_mem.1 hx
     exact (Array.getElem?_eq_some_iff.1 (h.ch0 h0)).1) (fun b hb => hb.elim (h.fsz b) (rdW_lt hm h)) (by omega) (by omega)
theorem kid_wk (hm : MpMOK m) {x : Flesh} (hx : FleshJ m.q x) (g : MG m own Given Fz p) (hF : MW m Given Fz p w) (kown : Nat → Prop) :
   KRun Try.prog 66 m.q.Wg (m.q.pp.netA m.L m.In x) kown (⟨p, m.q.c0, 0, [m.e8, m.e4], .recv, []⟩, m.L.a0) (fun _ _ => False) (RdW m) (born Try.prog (call27 m.q.Wg m.e8 m.e4)) w := by
 have hs : ∀ b, m.q.Sx b → RdW m b := fun b h => .inr h
 have hFw : WkF kown (fun _ _ => False) (RdW m) m.q.Wg m.e8 m.e4 m.q.c0 m.q.fv (m.q.X (fun _ _ => False) []) w :=
   ⟨hF.live, ⟨.inl (by simp), .inl (by simp)⟩, hF.c8, hF.c4, hm.x0 w (fun b y hb => hF.out.cell b y (hm.sx b hb).1 fun hg => hg.elim (fun hg => (hm.sx b hb).2 (.inl (g.given b y (hm.sx b hb).1 hg))) fun e => (hm.sx b hb).2 (.inr e)) (fun b c e f hb hc => hF.out.form b c e f hb hc), fun v hv => by cases hv⟩
 refine Goo.mono (Goo.imp (fun g' w' h => ?_) (Goo.of_goes (wk_born (MpP.firm hm.q hs) hFw))) (by show 30 ≤ x.fuel; have := hx.fuel; omega)
 obtain ⟨T, hT, rfl, hF'⟩ := h
 show (match m.L.isA m.L.a0 with | none => x.Kid kown _ _ _ _ _ | some _ => m.In kown _ _ _ _ _)
 rw [hm.lay.a0.1]
 show x.Kid kown _ _ _ _ _
 rw [hx.kid]
 exact ⟨m.e8, m.e4, rfl, hs, hF', T, hT, rfl⟩
set_option maxRecDepth 100000 in
theorem at_wk (hm : MpMOK m) {x : Flesh} (hx : FleshJ m.q x) (hgv : x.give (.hire p m.q.c0 0 [m.e8, m.e4]) = fun _ _ => False) (hrd : x.reads (.hire p m.q.c0 0 [m.e8, m.e4]) = RdW m)
   (g : MG m own Given Fz p) (hp : p < m.q.K) {T : Array Value} (hT : HTw m p T) {en : List Nat}
   (hRun : ∀ g' w', MG m own (GvW m p Given) (FzW m Fz) (p + 1) → AtHeadJ m (GvW m p Given) (FzW m Fz) (p + 1) g' w' →
     MGoo Try.prog 66 m.q.Wg own (GvW m p Given) (FzW m Fz) (fun g w => ∃ m', m.q.pp.succE (.hire p m.q.c0 0 [m.e8, m.e4], en) m' ∧ x.Main own m' (GvW m p Given) (FzW m Fz) g w) 380 g' w')
   (hF : MW m Given Fz p w) :
   AtGo Try.prog 66 m.q.Wg (m.q.pp.netA m.L m.In x) own (.hire p m.q.c0 0 [m.e8, m.e4], en) Given Fz (G ((base 11).at ⟨((T.setIfInBounds 34 (.tuple #[])).setIfInBounds 35 (.func (.func 27) #[] #[ptr m.q.Wg, ptr m.e8, ptr m.e4])), []⟩ (.inRegion ops8M [1] :: klM)) m.cs) w := by
 have hf := hx.fuel
 have g' := mg_turn hm g hF
 have hR := mw_turn hm hF
 have hsz := hF.out.size
 have h37 : ((⟨((T.setIfInBounds 34 (.tuple #[])).setIfInBounds 35 (.func (.func 27) #[] #[ptr m.q.Wg, ptr m.e8, ptr m.e4])), []⟩ : Act).eval (.tmp 35)) = .func (.func 27) #[] #[ptr m.q.Wg, ptr m.e8, ptr m.e4] := by
   have := hT.size
   simp [Act.eval, this]
 have hgo := go_op (P := Try.prog) (w := w) (o := { dst := none, op := .go { callee := .value (.tmp 35), args := #[], argTypes := #[] }, type := 0, pos := "stage.go:30", after := #[{ on := 0, ground := .data }], guard := none }) rfl h37
 have hnot : ∀ b y, ¬ x.give (.hire p m.q.c0 0 [m.e8, m.e4]) b y := fun b y h => by rw [hgv] at h; exact h
 refine ⟨rfl, _, born Try.prog (call27 m.q.Wg m.e8 m.e4), (stepG_spawn (o := { dst := none, op := .go { callee := .value (.tmp 35), args := #[], argTypes := #[] }, type := 0, pos := "stage.go:30", after := #[{ on := 0, ground := .data }], guard := none }) rfl rfl (by decide) hgo.1 rfl).trans (by rw [listed_nil hgo.2]; rfl), ?_, ?_, ?_, ?_, ?_⟩
 · intro b y hb
   exact (hnot b y hb).elim
 · intro b hb
   replace hb : RdW m b := by
     have : x.reads (.hire p m.q.c0 0 [m.e8, m.e4]) b := hb
     rwa [hrd] at this
   have hlt := rdW_lt hm hF hb
   rcases hb with hb | hb
   · simp only [List.mem_cons, List.not_mem_nil, or_false] at hb
     rcases hb with rfl | rfl
     · exact ⟨hlt, g.o8.1, fun y => ⟨g.o8.2 y, hnot _ y⟩, hF.not_ch hF.c8⟩
     · exact ⟨hlt, g.o4.1, fun y => ⟨g.o4.2 y, hnot _ y⟩, hF.not_ch hF.c4⟩
   · have h1 := hm.sx _ hb
     exact ⟨hlt, g.outer b h1.1, fun y => ⟨fun hg => h1.2 (.inl (g.given b y h1.1 hg)), hnot _ y⟩, fun hc => by have := (chsW_mem.1 hc).2; have := hm.c0; omega⟩
 · intro c hc
   obtain ⟨h0, rfl⟩ := chsW_mem.1 hc
   exact ⟨(g.c0 h0).1, (g.c0 h0).2.1, (g.c0 h0).2.2, hF.ch0 h0⟩
 · intro kown
   show KRun _ _ _ _ _ _ (x.give (.hire p m.q.c0 0 [m.e8, m.e4])) (x.reads (.hire p m.q.c0 0 [m.e8, m.e4])) _ _
   rw [hgv, hrd]
   exact kid_wk hm hx g hF kown
 · show MRun _ _ _ _ _ _ (fun b y => Given b y ∨ x.give (.hire p m.q.c0 0 [m.e8, m.e4]) b y ∨ b ∈ chsW m p) (fun b => Fz b ∨ x.reads (.hire p m.q.c0 0 [m.e8, m.e4]) b) _ _
   rw [hgv, hrd]
   exact MRun.of (after_wk hm g' hp hT hR) (fun g w h => hRun g w g' h) (by show 380 + 20 ≤ x.fuel; omega)
set_option maxRecDepth 100000 in
theorem go_wk (hm : MpMOK m) {x : Flesh} (hx : FleshJ m.q x) (hgv : x.give (.hire p m.q.c0 0 [m.e8, m.e4]) = fun _ _ => False) (hrd : x.reads (.hire p m.q.c0 0 [m.e8, m.e4]) = RdW m)
   (g : MG m own Given Fz p) (hp : p < m.q.K) {T : Array Value} (hT : HTw m p T) {en : List Nat}
   (hRun : ∀ g' w', MG m own (GvW m p Given) (FzW m Fz) (p + 1) → AtHeadJ m (GvW m p Given) (FzW m Fz) (p + 1) g' w' →
     MGoo Try.prog 66 m.q.Wg own (GvW m p Given) (FzW m Fz) (fun g w => ∃ m', m.q.pp.succE (.hire p m.q.c0 0 [m.e8, m.e4], en) m' ∧ x.Main own m' (GvW m p Given) (FzW m Fz) g w) 380 g' w')
   (w : World) (hF : MW m Given Fz p w) :
   MGoo Try.prog 66 m.q.Wg own Given Fz (AtGo Try.prog 66 m.q.Wg (m.q.pp.netA m.L m.In x) own (.hire p m.q.c0 0 [m.e8, m.e4], en) Given Fz) 12 (G ((base 11).at ⟨T.setIfInBounds 34 (.tuple #[]), []⟩ (.inRegion ops7M [] :: k7M)) m.cs) w := by
 have hD : ∀ w, MD m.q.Wg own Given Fz w w #[] := fun w => Gua.idle w
 have rl : ∀ {w w₁ : World}, MW m Given Fz p w → MR 66 m.q.Wg own Given w w₁ → MW m Given Fz p w₁ := fun h r => h.rely g r
 have fin := fun w h => at_wk (w := w) hm hx hgv hrd g hp hT hRun h
 generalize AtGo Try.prog 66 m.q.Wg (m.q.pp.netA m.L m.In x) own (.hire p m.q.c0 0 [m.e8, m.e4], en) Given Fz = Stop at fin ⊢
 replace fin := Hd.mk fin
 clear hRun hgv hrd hx hm
 obtain ⟨hs, t2, t4, t8, t9, t31, t32⟩ := hT
 obtain ⟨v0, v1, v2, v3, v4, v5, v6, v7, v8, v9, v10, v11, v12, v13, v14, v15, v16, v17, v18, v19, v20, v21, v22, v23, v24, v25, v26, v27, v28, v29, v30, v31, v32, v33, v34, v35, v36, v37, v38, v39, v40, v41, v42, v43, v44, v45, v46, v47, v48, v49, v50, v51, v52, v53, v54, v55, v56, v57, v58, v59, v60, v61, v62, v63, rfl⟩ := array64 T hs
 simp only [List.getElem?_toArray, List.getElem?_cons_zero, List.getElem?_cons_succ, Option.some.injEq] at t2 t4 t8 t9 t31 t32
 subst t2 t4 t8 t9 t31 t32
 clear hs
 simp only [ops7M, k7M, ops8M, klM, lpM, bdM, tlM, cS, cF, cI, cO, bodyM, Try.f11, Option.getD_some] at fin ⊢
 refine Goo.of_goes (n := 12) ?_
 try walk_nrm
 repeat ((first | ((first | ((with_reducible refine g_c (k' := ?_) true true hD ?_ ?_); rotate_left; focus exact rfl) | with_reducible refine g_r hD rfl ?_); intro _ h₁; replace hF := rl hF h₁; clear h₁)))
 (first | ((with_reducible refine g_opG ?_); first | (refine g_unw hD rfl rfl ?_; intro _ h₁; replace hF := rl hF h₁; clear h₁; walk_nrm) | (refine Goes.step rfl ?_; intro _ h₁; replace hF := rl hF h₁; clear h₁; refine goes_oper_k rfl rfl (by k_ne) fun K hK => ?_; go_simp; refine hK _ _ ⟨g_idle hD fun e he => by have hm := mem_listed he; simp [go_sem, *] at hm, ?_⟩; clear hK K; try w_num)) | ((first | ((with_reducible refine g_c (k' := ?_) true true hD ?_ ?_); rotate_left; focus exact rfl) | with_reducible refine g_r hD rfl ?_); intro _ h₁; replace hF := rl hF h₁; clear h₁))
 exact Goes.stop fun w₁ h₁ => fin.out w₁ (rl hF h₁)
end
end Go.Proofs.Ytblpmdolclalnaa
