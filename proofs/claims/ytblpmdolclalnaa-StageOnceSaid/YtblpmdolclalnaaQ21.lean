/- Map[int,int]: the call as a net: goroutine 0's places; the net is as the theorem of a phase asks. Made by mp.py. Map[int,int]: the call's phase, from ahead of the loop over the workers to the end of Wait. Made by mp.py. Map[int,int]: behind Wait: the loop that collects the values; the return. Made by mp.py. Map[int,int]: the collecting loop whole; the call's beginning. Made by mp.py. -/
import Derived.Test.YtblpmdolclalnaaQ20
set_option maxHeartbeats 16000000
set_option linter.unusedSimpArgs false
set_option linter.unusedVariables false
namespace Go.Proofs.Ytblpmdolclalnaa
open Go.Conc
open Go.ConcR (WgAt KK stA smA rd wr mk DC0)
open Go.ConcN (WgLive)
def jobsL (xs : List Value) (ps : List Nat) : List Value := List.zipWith (fun v p => Value.agg #[v, ptr p]) xs ps
def NF (m : MpM) (Fz : Nat → Prop) : Prop := ∀ b, m.it.vb = some b → ¬ Fz b
def MainJ (m : MpM) (own : Nat → Prop) (me : ME) (Given : Cells) (Fz : Nat → Prop) (g : Goroutine) (w : World) : Prop := match me with
 | (.hire p ci co env, en) => en = [] ∧ ci = m.q.c0 ∧ co = 0 ∧ NF m Fz ∧ HireJ m own Given Fz p env g w
 | (.send sent v, en) => ∃ e10 ps n p, NF m Fz ∧ en = [m.e8, m.e4] ∧ sent = jobsL m.xs ps ∧ m.xs[ps.length]? = some (.int .i64 n) ∧ v = jobV n p ∧ MG m own Given Fz m.q.K ∧ AtSendJ m own Given Fz e10 ps n p g w
 | (.shut sent, en) => ∃ e10 ps, en = [m.e8, m.e4] ∧ sent = jobsL m.xs ps ∧ ps.length = m.xs.length ∧ MG m own Given Fz m.q.K ∧ AtShutJ m own Given Fz e10 ps g w
 | (.wait sent, en) => ∃ e10 ps, en = [m.e8, m.e4] ∧ sent = jobsL m.xs ps ∧ ps.length = m.xs.length ∧ ps.Pairwise (· < ·) ∧ MG m own Given Fz m.q.K ∧ AtWaitJ m own Given Fz e10 ps g w
def AnchJ (m : MpM) (own : Nat → Prop) (me : ME) (Given : Cells) (Fz : Nat → Prop) (g : Goroutine) (w : World) : Prop := match me with
 | (.wait sent, en) => ∃ e10 ps T l d v, en = [m.e8, m.e4] ∧ sent = jobsL m.xs ps ∧ ps.length = m.xs.length ∧ MG m own Given Fz m.q.K ∧ HTp m e10 T ∧ WAnch Try.link m.q.Wg (RQ m own Given Fz e10 l d ps v) ((base 11).at ⟨T, markD d⟩ (.inRegion ops17M [0] :: [.code (tlM 9)]) :: m.cs) g w
 | _ => False
def AfterJ (m : MpM) (me : ME) (g : Goroutine) (w : World) : Prop := match me with
 | (.wait sent, _) => ∃ own Given Fz e10 ps T l d v, sent = jobsL m.xs ps ∧ ps.length = m.xs.length ∧ MG m own Given Fz m.q.K ∧ HTp m e10 T ∧ RQ m own Given Fz e10 l d ps v w ∧
     ∀ Shun, Goes Try.prog true AtRel (SD Shun) (fun g w' => g = G ((base 11).at ⟨T.setIfInBounds 49 (.tuple #[]), markD d⟩ (.inRegion ops17M [] :: [.code (tlM 9)])) m.cs ∧ AtRel w w') 20 g w
 | _ => False
def readJ (m : MpM) : MS → Nat → Prop
 | .hire .. => RdW m
 | _ => fun _ => False
def fleshJ (m : MpM) : Flesh where
 zero := .agg #[.int .i64 0, .pointer none]
 give := fun _ _ _ => False
 reads := readJ m
 gift := giftJ
 msg := msgJ
 Fin := m.q.Fin
 fuel := m.q.nfuel + 700
 Kid := m.q.Kid
 Main := MainJ m
 Anch := AnchJ m
 After := AfterJ m
theorem fleshJ_ok (m : MpM) : FleshJ m.q (fleshJ m) := ⟨rfl, rfl, rfl, rfl, rfl, by show m.q.nfuel + 400 ≤ m.q.nfuel + 700; omega⟩
theorem jobsL_snoc {x : Value} {p : Nat} : ∀ {ps : List Nat} {xs : List Value}, xs[ps.length]? = some x → jobsL xs (ps ++ [p]) = jobsL xs ps ++ [.agg #[x, ptr p]]
 | [], [], h => by cases h
 | [], y :: xs, h => by
   simp only [List.length_nil, List.getElem?_cons_zero, Option.some.injEq] at h
   subst h
   cases xs <;> rfl
 | q :: ps, [], h => by cases h
 | q :: ps, y :: xs, h => by
   simp only [List.length_cons, List.getElem?_cons_succ] at h
   have := jobsL_snoc (p := p) h
   simp only [jobsL, List.cons_append, List.zipWith_cons_cons] at this ⊢
   rw [this]
theorem mem_jobs {xs : List Value} {ps : List Nat} {q : Nat} (hl : ps.length ≤ xs.length) : q ∈ ps ↔ ∃ x, Value.agg #[x, ptr q] ∈ jobsL xs ps := by
 constructor
 · intro h
   obtain ⟨i, hi, rfl⟩ := List.mem_iff_getElem.1 h
   exact ⟨xs[i], List.mem_iff_getElem.2 ⟨i, by simp [jobsL]; omega, by simp [jobsL]⟩⟩
 · rintro ⟨x, h⟩
   obtain ⟨i, hi, e⟩ := List.mem_iff_getElem.1 h
   simp only [jobsL, List.getElem_zipWith, Value.agg.injEq] at e
   have : ps[i]'(by simp [jobsL] at hi; omega) = q := by simpa using (by simpa using e : _ ∧ _).2
   rw [← this]
   exact List.getElem_mem _
theorem sorted_ext : ∀ {l l' : List Nat}, l.Pairwise (· < ·) → l'.Pairwise (· < ·) → (∀ x, x ∈ l ↔ x ∈ l') → l = l'
 | [], [], _, _, _ => rfl
 | [], b :: l', _, _, h => by have := (h b).2 (by simp); cases this
 | a :: l, [], _, _, h => by have := (h a).1 (by simp); cases this
 | a :: l, b :: l', h1, h2, h => by
   obtain ⟨a1, a2⟩ := List.pairwise_cons.1 h1
   obtain ⟨b1, b2⟩ := List.pairwise_cons.1 h2
   have hab : a = b := by
     rcases List.mem_cons.1 ((h a).1 (by simp)) with x | x
     · exact x
     · rcases List.mem_cons.1 ((h b).2 (by simp)) with y | y
       · exact y.symm
       · have := b1 _ x; have := a1 _ y; omega
   subst hab
   refine congrArg (a :: ·) (sorted_ext a2 b2 fun x => ⟨fun hx => ?_, fun hx => ?_⟩)
   · rcases List.mem_cons.1 ((h x).1 (by simp [hx])) with y | y
     · have := a1 _ hx; omega
     · exact y
   · rcases List.mem_cons.1 ((h x).2 (by simp [hx])) with y | y
     · have := b1 _ hx; omega
     · exact y
theorem jobs_eq {xs : List Value} {ps ps' : List Nat} (h1 : ps.length ≤ xs.length) (h2 : ps'.length ≤ xs.length) (s1 : ps.Pairwise (· < ·)) (s2 : ps'.Pairwise (· < ·)) (h : ∀ v, v ∈ jobsL xs ps ↔ v ∈ jobsL xs ps') : ps = ps' :=
 sorted_ext s1 s2 fun _x => (mem_jobs h1).trans ((exists_congr fun _y => h _).trans (mem_jobs h2).symm)
section
variable {m : MpM} {own : Nat → Prop} {Given : Cells} {Fz : Nat → Prop} {p e10 l d i : Nat} {w w₁ : World} {g : Goroutine} {me : ME} {env en : List Nat} {ps : List Nat}
abbrev netJ (m : MpM) : Net := m.q.pp.netA m.L m.In (fleshJ m)
theorem iter_anyJ (hm : MpMOK m) (hnf : NF m Fz) (hg : MG m own Given Fz m.q.K) (hle : i ≤ m.xs.length) (h : AtIterJ m own Given Fz e10 i ps g w) :
   MGoo Try.prog 66 m.q.Wg own Given Fz (fun g w => ∃ ms, m.q.pp.begun (jobsL m.xs ps) ms ∧ MainJ m own (ms, [m.e8, m.e4]) Given Fz g w) 220 g w := by
 obtain ⟨_, _, _, _, _, _, _, hl, _⟩ := id h
 rcases Nat.lt_or_ge i m.xs.length with hlt | hge
 · have hv : m.xs[i]? = some m.xs[i] := List.getElem?_eq_getElem hlt
   obtain ⟨n, hn⟩ := hm.xs.2.2.1 _ (List.getElem_mem hlt)
   rw [hn] at hv
   refine (iter_moreJ hm hg hnf hv h).imp fun g w h => ?_
   obtain ⟨p, h⟩ := h
   refine ⟨.send (jobsL m.xs ps) (jobV n p), .inl ⟨_, rfl, ⟨n, p, rfl, hm.xs.2.2.2 n (List.mem_of_getElem? hv)⟩, ?_⟩, e10, ps, n, p, hnf, rfl, rfl, hl ▸ hv, rfl, hg, h⟩
   have := hm.xs.1
   have e : m.q.pp.n = m.q.n := rfl
   simp only [jobsL, List.length_zipWith]
   omega
 · obtain rfl : i = m.xs.length := by omega
   exact ((iter_doneJ hm hg h).imp fun g w h => ⟨.shut (jobsL m.xs ps), .inr rfl, e10, ps, rfl, rfl, hl, hg, h⟩).mono (by omega)
theorem begun_not {ms : MS} {l : List Value} (hb : m.q.pp.begun l ms) : isHire ms = false := by rcases hb with ⟨v, rfl, _⟩ | rfl <;> rfl
theorem NF.more (hm : MpMOK m) (hg : MG m own Given Fz p) (h : NF m Fz) : NF m (FzW m Fz) := fun b hb hf => hf.elim (h b hb) fun hf => by
 rcases hf with hf | hf
 · have := (hg.vis b hb).1
   have := hm.e8
   have := hm.e4
   simp only [List.mem_cons, List.not_mem_nil, or_false] at hf
   omega
 · exact (hm.it.vb b hb).2.2 hf
theorem mainJ_wk (hm : MpMOK m) (hnf : NF m Fz) (h : HireJ m own Given Fz p env g w) : MStop Try.prog 66 m.q.Wg (netJ m) own (.hire p m.q.c0 0 env, en) Given Fz g w := by
 obtain ⟨T, rfl, hT, hg, hp, hA⟩ := h
 refine ⟨hA.1, ?_⟩
 show AtKd _ _ _ _ _ _ _ _ _ _
 refine kd_net (nT := 12) (fun w hF => go_wk hm (fleshJ_ok m) rfl rfl hg hp hT (fun g' w' hg' hh => ?_) w hF) (by show 12 + 3 ≤ m.q.nfuel + 700; omega) (by show 110 ≤ m.q.nfuel + 700; omega) hA
 have hnf' := hnf.more hm hg
 rcases Nat.lt_or_ge (p + 1) m.q.K with hlt | hge
 · refine Goo.mono ((head_wk hg' hlt hh).imp fun g w h => ?_) (by omega)
   refine ⟨(.hire (p + 1) m.q.c0 0 [m.e8, m.e4], []), ⟨.inl ⟨by show p + 1 < 0 + m.q.K; omega, 0, [m.e8, m.e4], ?_, fun h => absurd h (Nat.not_lt_zero _)⟩, rfl⟩, rfl, rfl, rfl, hnf', h⟩
   have : ¬ p < m.q.pp.nf := Nat.not_lt_zero _
   rw [if_neg this]
   rfl
 · obtain hK : p + 1 = m.q.K := by omega
   rw [hK] at hg' hh
   refine Goo.mono (n := 220 + 100) (Goo.bind (fun w => Rel.refl w) (fun g w h => ?_) (head_end hm hg' hh)) (by decide)
   obtain ⟨e10, h⟩ := h
   refine (iter_anyJ hm hnf' hg' (Nat.zero_le _) h).imp fun g w h => ?_
   obtain ⟨ms, hb, hM⟩ := h
   have hb' : m.q.pp.begun [] ms := by
     have e : jobsL m.xs [] = [] := by cases m.xs <;> rfl
     rw [← e]; exact hb
   refine ⟨(ms, [m.e8, m.e4]), ⟨.inr ⟨by show 0 + m.q.K ≤ p + 1; omega, hb'⟩, ?_⟩, hM⟩
   show [m.e8, m.e4] = lastE _ ms en
   unfold lastE
   rw [if_neg (by simp [begun_not hb])]
theorem giftJ_eq {n : Int} : (fun b x => Given b x ∨ giftJ (jobV n p) b x) = GvP p Given := by
 funext b x
 refine propext (or_congr Iff.rfl ⟨fun ⟨n', p', e, h⟩ => ?_, fun h => ⟨n, p, rfl, h⟩⟩)
 obtain ⟨_, rfl⟩ := jobV_inj e
 exact h
theorem mainJ_send (hm : MpMOK m) {sent : List Value} {v : Value} (h : MainJ m own (.send sent v, en) Given Fz g w) : MStop Try.prog 66 m.q.Wg (netJ m) own (.send sent v, en) Given Fz g w := by
 obtain ⟨e10, ps, n, p, hnf, rfl, rfl, hv, rfl, hg, yb, ya, yo, yj, yr, yk, T, T', l, d, vs, hU, hT, hT', rfl, hF, hV⟩ := h
 have hlt : ps.length < m.xs.length := (List.getElem?_eq_some_iff.1 hv).1
 refine ⟨rfl, ?_, fun b y h => ?_, fun w₁ h₁ => ?_, fun w₁ h₁ => ?_⟩
 · have hr : (execOp (⟨T', []⟩ : Act).eval { dst := none, op := .send (.tmp 44) (.tmp 47), type := 0, pos := "stage.go:41", after := #[{ on := 0, ground := .data }, { on := 3, ground := .data }], guard := none }).run Try.prog w = .ok (.comm #[scase m.q.c0 (jobV n p) (.tuple #[])] true .send) w := by
     simp [execOp, Act.eval, hT'.t44, hT'.t47, scase]
   have he : (execOp (⟨T', []⟩ : Act).eval { dst := none, op := .send (.tmp 44) (.tmp 47), type := 0, pos := "stage.go:41", after := #[{ on := 0, ground := .data }, { on := 3, ground := .data }], guard := none }).events Try.prog w #[] = #[] := by
     simp [execOp, Act.eval, hT'.t44, hT'.t47]
   exact (stepGR_comm (o := { dst := none, op := .send (.tmp 44) (.tmp 47), type := 0, pos := "stage.go:41", after := #[{ on := 0, ground := .data }, { on := 3, ground := .data }], guard := none }) rfl rfl (by intro c; simp) (by intro h; cases h) hr).trans (by rw [listed_none he]; rfl)
 · obtain ⟨n', p', e, rfl, rfl⟩ := h
   obtain ⟨_, rfl⟩ := jobV_inj e
   exact ⟨hF.pl.lt, hF.pl.mine.own, hF.pl.mine.given _, hF.pl.mine.fz⟩
 · have := (hF.rely hg h₁).pl
   exact ⟨n, p, rfl, this.typ, this.cell⟩
 · show MRun _ _ _ _ _ _ (fun b y => Given b y ∨ giftJ (jobV n p) b y) _ _ _
   rw [giftJ_eq]
   have hF' := hF.rely hg h₁
   have hV' := hV.rely hg h₁
   have hg' := (hg.more (Nat.succ_ne_zero m.q.K)).shareP hF'.j.b.mw (Nat.succ_ne_zero _) hF'.pl
   have hg' := hg'.more (p' := m.q.K) (by have := hm.one; omega)
   refine MRun.of (Stop := AtIterJ m own (GvP p Given) Fz e10 (ps.length + 1) (ps ++ [p])) (n := 40) (k := 220) ?_ (fun g w h => ?_) (by show 220 + 40 ≤ m.q.nfuel + 700; omega)
   · have e : bare (G ((rnd 11 l).atR ⟨T', []⟩ (.inRegion ops15M [4] :: [.inBlock 3])) (yb.at ya (.inRegion yo (yj :: yr) :: yk) :: fMR T l d :: m.cs)) = G ((rnd 11 l).atR ⟨T', []⟩ (.inRegion ops15M [4] :: [.inBlock 3])) (yb.at ya (.inRegion yo (yj :: yr) :: yk) :: fMR T l d :: m.cs) := rfl
     rw [e, finish_sendR]
     exact send_backJ hm hg' hlt hU hT hF' hV'
   · refine (iter_anyJ hm hnf hg' hlt h).imp fun g w h => ?_
     obtain ⟨ms, hb, hM⟩ := h
     have ht : jobsL m.xs (ps ++ [p]) = jobsL m.xs ps ++ [jobV n p] := jobsL_snoc hv
     refine ⟨(ms, [m.e8, m.e4]), ⟨by show m.q.pp.begun (jobsL m.xs ps ++ [jobV n p]) ms; rw [← ht]; exact hb, ?_⟩, hM⟩
     show [m.e8, m.e4] = lastE _ ms _
     unfold lastE
     rw [if_neg (by simp [begun_not hb])]
theorem loudM : (Try.prog.funcs[(base 11).fn]?).any (·.norace) = false := by kernel_rfl
theorem mainJ_shut (hm : MpMOK m) {sent : List Value} (h : MainJ m own (.shut sent, en) Given Fz g w) : MStop Try.prog 66 m.q.Wg (netJ m) own (.shut sent, en) Given Fz g w := by
 obtain ⟨e10, ps, rfl, rfl, hl, hg, T, l, d, v, hT, t48, rfl, hF⟩ := h
 refine ⟨rfl, rfl, fun k hc => ?_⟩
 have h48 : ((⟨T, markD d⟩ : Act).eval (.tmp 48)) = .chan (some m.q.c0) := by simp [Act.eval, t48]
 have hop := shut_op (P := Try.prog) (a := ⟨T, markD d⟩) (w := w) (o := { dst := none, op := .call { callee := .builtin .close, args := #[.tmp 48], argTypes := #[58] }, type := 0, pos := "stage.go:43", after := #[{ on := 0, ground := .data }], guard := none }) rfl h48 hc
 refine ⟨G ((base 11).at ⟨T, markD d⟩ (.inRegion ops16M [] :: [.code (tlM 8)])) m.cs, rfl, ?_, ?_⟩
 · refine (stepG_value (o := { dst := none, op := .call { callee := .builtin .close, args := #[.tmp 48], argTypes := #[58] }, type := 0, pos := "stage.go:43", after := #[{ on := 0, ground := .data }], guard := none }) rfl rfl (by decide) hop.1).trans ?_
   have hs : seen Try.prog (base 11).fn (closeEvents m.q.c0) = closeEvents m.q.c0 := seen_eq loudM (by intro e he f; simp only [closeEvents, List.mem_toArray, List.mem_cons, List.not_mem_nil, or_false] at he; rcases he with rfl | rfl <;> simp)
   unfold listed
   rw [hop.2, hs]
   rfl
 · have hinc : ps.Pairwise (· < ·) := let ⟨_, h⟩ := hF.rj; h.row.inc
   exact Goo.mono (n := 20) ((to_waitJ hg hT (hF.chan hm hc)).imp fun g w h => ⟨(.wait (jobsL m.xs ps), [m.e8, m.e4]), ⟨rfl, rfl⟩, e10, ps, rfl, rfl, hl, hinc, hg, h⟩) (by show 20 ≤ m.q.nfuel + 700; omega)
theorem mainJ_wait {sent : List Value} (h : MainJ m own (.wait sent, en) Given Fz g w) : MStop Try.prog 66 m.q.Wg (netJ m) own (.wait sent, en) Given Fz g w := by
 obtain ⟨e10, ps, rfl, rfl, hl, _, hg, T, l, d, v, hT, hr, _, g', h1, h2⟩ := h
 exact ⟨hr, g', h1, Goo.mono (n := 4) ((Goo.of_goes h2).imp fun g w h => ⟨e10, ps, T, l, d, v, rfl, rfl, hl, hg, hT, h⟩) (by show 4 ≤ m.q.nfuel + 700; omega)⟩
theorem mainJ_all (hm : MpMOK m) (h : MainJ m own me Given Fz g w) : MStop Try.prog 66 m.q.Wg (netJ m) own me Given Fz g w := by
 obtain ⟨ms, en⟩ := me
 cases ms with
 | hire p ci co env =>
   obtain ⟨_, rfl, rfl, hnf, h⟩ := h
   exact mainJ_wk hm hnf h
 | send sent v => exact mainJ_send hm h
 | shut sent => exact mainJ_shut hm h
 | wait sent => exact mainJ_wait h
theorem anchJ_all (h : AnchJ m own me Given Fz g w) : g.status = .running ∧ MGoo Try.prog 66 m.q.Wg own Given Fz (AtW1 Try.prog 66 m.q.Wg (netJ m) own me Given Fz) (m.q.nfuel + 700) g w := by
 obtain ⟨ms, en⟩ := me
 cases ms with
 | wait sent =>
   obtain ⟨e10, ps, T, l, d, v, rfl, rfl, hl, hg, hT, h⟩ := h
   refine ⟨?_, Goo.mono (n := 30) ((Goo.of_goes (wg_round Try.wgLib (fits_REJ hg) g w h)).imp fun g w h => ?_) (by omega)⟩
   · obtain ⟨_, rfl, _⟩ := h; rfl
   · exact w1_net (fun g w hF hB => ⟨own, Given, Fz, e10, ps, T, l, d, v, rfl, hl, hg, hT, hF, hB⟩) (fun g w h => ⟨e10, ps, T, l, d, v, rfl, rfl, hl, hg, hT, h⟩) (by show 70 ≤ m.q.nfuel + 700; omega) h
 | _ => exact h.elim
/-! ### the place is told by the goroutine -/
theorem sentJ {sent : List Value} {v : Value} (h : MainJ m own (.send sent v, en) Given Fz g w) : ∃ ps, sent = jobsL m.xs ps ∧ ps.length ≤ m.xs.length ∧ ps.Pairwise (· < ·) := by
 obtain ⟨e10, ps, n, p, hnf, rfl, rfl, hv, rfl, hg, yb, ya, yo, yj, yr, yk, T, T', l, d, vs, hU, hT, hT', rfl, hF, hV⟩ := h
 exact ⟨ps, rfl, Nat.le_of_lt (List.getElem?_eq_some_iff.1 hv).1, (List.pairwise_append.1 hF.j.row.inc).1⟩
theorem shutJ {sent : List Value} (h : MainJ m own (.shut sent, en) Given Fz g w) : ∃ ps, sent = jobsL m.xs ps ∧ ps.length ≤ m.xs.length ∧ ps.Pairwise (· < ·) := by
 obtain ⟨e10, ps, rfl, rfl, hl, hg, T, l, d, v, hT, t48, rfl, hF⟩ := h
 exact ⟨ps, rfl, Nat.le_of_eq hl, let ⟨_, h⟩ := hF.rj; h.row.inc⟩
theorem waitJ {sent : List Value} (h : MainJ m own (.wait sent, en) Given Fz g w) : ∃ ps, sent = jobsL m.xs ps ∧ ps.length ≤ m.xs.length ∧ ps.Pairwise (· < ·) := by
 obtain ⟨e10, ps, rfl, rfl, hl, hinc, _⟩ := h
 exact ⟨ps, rfl, Nat.le_of_eq hl, hinc⟩
theorem sent_eqJ {ms ms' : MS} {j : Nat} {f : Nat → KS} {cl : Nat → Option Bool} (h : m.q.pp.Inv ms j f cl) (h' : m.q.pp.Inv ms' j f cl) {ps ps' : List Nat} (e : PP.sent ms = jobsL m.xs ps) (e' : PP.sent ms' = jobsL m.xs ps') (l1 : ps.length ≤ m.xs.length) (l2 : ps'.length ≤ m.xs.length) (s1 : ps.Pairwise (· < ·)) (s2 : ps'.Pairwise (· < ·)) : PP.sent ms = PP.sent ms' := by
 have d1 := h.data2 rfl
 have d2 := h'.data2 rfl
 rw [e] at d1 ⊢
 rw [e'] at d2 ⊢
 rw [jobs_eq l1 l2 s1 s2 fun v => (d1 v).trans (d2 v).symm]
theorem not_bothJ {p ci co : Nat} {env : List Nat} {ms : MS} {j : Nat} {f : Nat → KS} {cl : Nat → Option Bool} (h : m.q.pp.Inv (.hire p ci co env) j f cl) (h' : m.q.pp.Inv ms j f cl) (hn : ∀ p ci co e, ms ≠ .hire p ci co e) : False := by
 have h1 := h'.all hn
 obtain ⟨h2, h3, _⟩ := h.cnt _ _ _ _ rfl
 omega
theorem wait_notJ (hm : MpMOK m) {sent : List Value} {ms : MS} {j : Nat} {f : Nat → KS} {cl : Nat → Option Bool} (h : m.q.pp.Inv (.wait sent) j f cl) (h' : m.q.pp.Inv ms j f cl) (hn : ∀ p ci co e, ms ≠ .hire p ci co e) (hw : PP.isWait ms = false) : False := by
 have h1 := h'.all hn
 have e1 := h.cz
 have e2 := h'.cz
 rw [e1] at e2
 have : ¬ j = 0 := by rw [h1]; show ¬ 0 + m.q.K = 0; have := hm.one; omega
 rw [if_neg this, if_neg this, hw] at e2
 cases Option.some.inj e2
theorem send_shutJ {sent sent' : List Value} {v : Value} {own' : Nat → Prop} {en' : List Nat} {w' : World} (h : MainJ m own (.send sent v, en) Given Fz g w) (h' : MainJ m own' (.shut sent', en') Given Fz g w') : False := by
 obtain ⟨e10, ps, n, p, hnf, rfl, rfl, hv, rfl, hg, yb, ya, yo, yj, yr, yk, T, T', l, d, vs, hU, hT, hT', rfl, hF, hV⟩ := h
 obtain ⟨_, _, _, _, _, _, _, _, _, _, _, _, h', _⟩ := h'
 have := congrArg Frame.roundOf (cl_eq h').1
 cases this
theorem enJ_send {sent : List Value} {v : Value} (h : MainJ m own (.send sent v, en) Given Fz g w) : en = [m.e8, m.e4] := by
 obtain ⟨_, _, _, _, _, h, _⟩ := h; exact h
theorem uniqJ (hm : MpMOK m) {own' : Nat → Prop} {me' : ME} {w' : World} {j : Nat} {f : Nat → KS} {cl : Nat → Option Bool} (i1 : m.q.pp.InvE me j f cl) (i2 : m.q.pp.InvE me' j f cl) (h : MainJ m own me Given Fz g w) (h' : MainJ m own' me' Given Fz g w') : me = me' := by
 obtain ⟨ms, en⟩ := me
 obtain ⟨ms', en'⟩ := me'
 cases ms with
 | hire p ci co env =>
   cases ms' with
   | hire p' ci' co' env' =>
     obtain ⟨rfl, rfl, rfl, _, _, rfl, _⟩ := h
     obtain ⟨rfl, rfl, rfl, _, _, rfl, _⟩ := h'
     obtain ⟨rfl, _⟩ := i1.inv.cnt _ _ _ _ rfl
     obtain ⟨rfl, _⟩ := i2.inv.cnt _ _ _ _ rfl
     rfl
   | _ => exact (not_bothJ i1.inv i2.inv (fun _ _ _ _ x => by cases x)).elim
 | send sent v =>
   cases ms' with
   | hire p' ci' co' env' => exact (not_bothJ i2.inv i1.inv (fun _ _ _ _ x => by cases x)).elim
   | send sent' v' =>
     obtain ⟨ps, e1, l1, s1⟩ := sentJ h
     obtain ⟨ps', e2, l2, s2⟩ := sentJ h'
     obtain rfl : sent = sent' := sent_eqJ i1.inv i2.inv e1 e2 l1 l2 s1 s2
     clear e1 e2 l1 l2 s1 s2
     obtain rfl := enJ_send h
     obtain rfl := enJ_send h'
     obtain ⟨_, _, n, p, _, _, _, _, rfl, _, _, _, _, _, _, _, T, T1, l, d, vs, _, _, hr, rfl, _⟩ := h
     obtain ⟨_, _, n', p', _, _, _, _, rfl, _, _, _, _, _, _, _, T', T1', l', d', vs', _, _, hr', hg, _⟩ := h'
     have := atR_tmps (cl_eq hg).1
     subst this
     have := hr.t47
     rw [hr'.t47] at this
     rw [Option.some.inj this]
   | shut sent' => exact (send_shutJ h h').elim
   | wait sent' => exact (wait_notJ hm i2.inv i1.inv (fun _ _ _ _ x => by cases x) rfl).elim
 | shut sent =>
   cases ms' with
   | hire p' ci' co' env' => exact (not_bothJ i2.inv i1.inv (fun _ _ _ _ x => by cases x)).elim
   | send sent' v' => exact (send_shutJ h' h).elim
   | shut sent' =>
     obtain ⟨ps, e1, l1, s1⟩ := shutJ h
     obtain ⟨ps', e2, l2, s2⟩ := shutJ h'
     obtain rfl : sent = sent' := sent_eqJ i1.inv i2.inv e1 e2 l1 l2 s1 s2
     obtain ⟨_, _, rfl, _⟩ := h
     obtain ⟨_, _, rfl, _⟩ := h'
     rfl
   | wait sent' => exact (wait_notJ hm i2.inv i1.inv (fun _ _ _ _ x => by cases x) rfl).elim
 | wait sent =>
   cases ms' with
   | hire p' ci' co' env' => exact (not_bothJ i2.inv i1.inv (fun _ _ _ _ x => by cases x)).elim
   | wait sent' =>
     obtain ⟨ps, e1, l1, s1⟩ := waitJ h
     obtain ⟨ps', e2, l2, s2⟩ := waitJ h'
     obtain rfl : sent = sent' := sent_eqJ i1.inv i2.inv e1 e2 l1 l2 s1 s2
     obtain ⟨_, _, rfl, _⟩ := h
     obtain ⟨_, _, rfl, _⟩ := h'
     rfl
   | _ => exact (wait_notJ hm i1.inv i2.inv (fun _ _ _ _ x => by cases x) rfl).elim
theorem map_net (hm : MpMOK m) : NetOK Try.prog 66 m.q.Wg (netJ m) :=
 PP.netA_ok hm.lay rfl hm.one (by have := hm.few; show m.q.K < 2147483646; omega) (fun s v hv => hv)
   (map_kid hm.q hm.kid (fleshJ_ok m)) (fun _ _ _ _ _ _ h => mainJ_all hm h) (fun _ _ _ _ _ _ h => anchJ_all h) (fun _ _ _ _ _ _ _ _ _ _ _ _ i1 i2 h h' => uniqJ hm i1 i2 h h')
end
end Go.Proofs.Ytblpmdolclalnaa
namespace Go.Proofs.Ytblpmdolclalnaa
open Go.Conc Go.RowKit Go.Conc.Lib Go.ConcR.Gen Go.ConcN.Gen
open Go.ConcR (WgAt KK stA smA rd wr mk DC0)
open Go.ConcN (WgLive)
def GvA (m : MpM) (n : Nat) : Cells := fun b _ => b < n ∧ (m.Shun b ∨ b = m.q.Wg ∨ m.L.AB b)
structure HTk (m : MpM) (T : Array Value) : Prop where
 size : T.size = 64
 t0 : T[0]? = some (.int .i64 m.q.K)
 t2 : T[2]? = some m.inV
 t4 : T[4]? = some (ptr m.e4)
 t8 : T[8]? = some (ptr m.e8)
 t9 : T[9]? = some (ptr m.q.Wg)
structure MW0 (m : MpM) (w : World) : Prop where
 wg : WgAt 66 m.q.Wg w 0 0
 c8 : w.cell? ⟨m.e8, 0, none⟩ = some (.chan (some m.q.c0))
 c4 : w.cell? ⟨m.e4, 0, none⟩ = some m.q.fv
 b8 : ∃ cs : Array Value, w.heap[m.e8]? = some (.cells cs 58 (0, 0))
 b4 : ∃ cs : Array Value, w.heap[m.e4]? = some (.cells cs 28 (0, 0))
 ch0 : w.heap[m.q.c0]? = some (.chan 0 #[] false 0 0 false)
 out : Out m.n0 m.w0 (fun b _ => m.Shun b) w
 low : m.e8 ≠ m.q.Wg ∧ m.e4 ≠ m.q.Wg ∧ m.q.c0 ≠ m.q.Wg
 shun : ∀ b, m.Shun b → b < m.n0
section
variable {m : MpM} {own : Nat → Prop} {w w₁ : World}
theorem mg_zero (h : MW0 m w) (ho : ∀ b, b < w.heap.size → own b) (hm : MpMOK m) : MG m own (GvA m w.heap.size) (fun _ => False) 0 := by
 have no : ∀ b, m.n0 ≤ b → b ≠ m.q.Wg → (m.Shun b ∨ b = m.q.Wg ∨ m.L.AB b) → False := fun b hb hne hx => by
   rcases hx with hs | e | ha
   · have := h.shun _ hs; omega
   · exact hne e
   · have := (hm.ab _ ha).1; omega
 exact {
   outer := fun b hb => ho b (Nat.lt_of_lt_of_le hb h.out.size)
   given := fun b x hb hx => by
     rcases hx.2 with hs | e | ha
     · exact .inl hs
     · have := hm.wg; omega
     · exact .inr ha
   vis := fun b hb => ⟨(hm.it.vb b hb).1, (hm.it.vb b hb).2.1⟩
   wg := fun x => ⟨(Array.getElem?_eq_some_iff.1 h.wg).1, .inr (.inl rfl)⟩
   o8 := ⟨ho _ (cell_lt h.c8), fun x hx => no _ hm.e8 h.low.1 hx.2⟩
   o4 := ⟨ho _ (cell_lt h.c4), fun x hx => no _ hm.e4 h.low.2.1 hx.2⟩
   c0 := fun _ => ⟨ho _ (Array.getElem?_eq_some_iff.1 h.ch0).1, fun x hx => no _ hm.c0 h.low.2.2 hx.2, fun hx => hx⟩ }
theorem mw_zero (hm : MpMOK m) (h : MW0 m w) : MW m (GvA m w.heap.size) (fun _ => False) 0 w where
 live := ⟨_, _, h.wg⟩
 c8 := h.c8
 c4 := h.c4
 b8 := h.b8
 b4 := h.b4
 out := h.out.less fun _b _x hb hx => .inl ⟨Nat.lt_of_lt_of_le hb h.out.size, .inl hx⟩
 vis _ := fun b hb => (h.out.blk b (hm.it.vb b hb).1 fun _ hs => (hm.it.vb b hb).2.1 (.inl hs)).trans (hm.v0 b hb)
 vlow b hb := (hm.it.vb b hb).1
 gsz _b _x hx := hx.1
 fsz _b hx := hx.elim
 ch0 _ := h.ch0
set_option maxRecDepth 100000 in
theorem to_headJ {Given : Cells} {Fz : Nat → Prop} (g : MG m own Given Fz 0) {T : Array Value} (hT : HTk m T) (hF : MW m Given Fz 0 w) :
   MGoo Try.prog 66 m.q.Wg own Given Fz (AtHeadJ m Given Fz 0) 20 (G ((base 11).at ⟨T, []⟩ [.code (tlM 4)]) m.cs) w := by
 have hD : ∀ w, MD m.q.Wg own Given Fz w w #[] := fun w => Gua.idle w
 have rl : ∀ {w w₁ : World}, MW m Given Fz 0 w → MR 66 m.q.Wg own Given w w₁ → MW m Given Fz 0 w₁ := fun h r => h.rely g r
 have hfin : ∀ T w, HTw m 0 T → MW m Given Fz 0 w → AtHeadJ m Given Fz 0 (G ((base 11).at ⟨T, []⟩ (.code lpM :: .inLoop lpM :: .inBlock 0 :: [.code (tlM 5)])) m.cs) w := fun T w h1 h2 => ⟨T, h1, rfl, h2⟩
 generalize AtHeadJ m Given Fz 0 = Stop at hfin ⊢
 replace hfin := Hd.mk hfin
 obtain ⟨hs, t0, t2, t4, t8, t9⟩ := hT
 obtain ⟨v0, v1, v2, v3, v4, v5, v6, v7, v8, v9, v10, v11, v12, v13, v14, v15, v16, v17, v18, v19, v20, v21, v22, v23, v24, v25, v26, v27, v28, v29, v30, v31, v32, v33, v34, v35, v36, v37, v38, v39, v40, v41, v42, v43, v44, v45, v46, v47, v48, v49, v50, v51, v52, v53, v54, v55, v56, v57, v58, v59, v60, v61, v62, v63, rfl⟩ := array64 T hs
 simp only [List.getElem?_toArray, List.getElem?_cons_zero, List.getElem?_cons_succ, Option.some.injEq] at t0 t2 t4 t8 t9
 subst t0 t2 t4 t8 t9
 clear hs
 simp only [tlM, lpM, cS, cF, cI, bodyM, Try.f11, Option.getD_some] at hfin ⊢
 refine Goo.of_goes (n := 20) ?_
 repeat ((first | ((with_reducible refine g_opG ?_); first | (refine g_unw hD rfl rfl ?_; intro _ h₁; replace hF := rl hF h₁; clear h₁; walk_nrm) | (refine Goes.step rfl ?_; intro _ h₁; replace hF := rl hF h₁; clear h₁; refine goes_oper_k rfl rfl (by k_ne) fun K hK => ?_; go_simp; refine hK _ _ ⟨g_idle hD fun e he => by have hm := mem_listed he; simp [go_sem, *] at hm, ?_⟩; clear hK K; try w_num)) | ((first | ((with_reducible refine g_c (k' := ?_) true false hD ?_ ?_); rotate_left; focus exact rfl) | with_reducible refine g_r hD rfl ?_); intro _ h₁; replace hF := rl hF h₁; clear h₁)))
 (first | ((with_reducible refine g_opG ?_); first | (refine g_unw hD rfl rfl ?_; intro _ h₁; replace hF := rl hF h₁; clear h₁; walk_nrm) | (refine Goes.step rfl ?_; intro _ h₁; replace hF := rl hF h₁; clear h₁; refine goes_oper_k rfl rfl (by k_ne) fun K hK => ?_; go_simp; refine hK _ _ ⟨g_idle hD fun e he => by have hm := mem_listed he; simp [go_sem, *] at hm, ?_⟩; clear hK K; try w_num)) | ((first | ((with_reducible refine g_c (k' := ?_) true true hD ?_ ?_); rotate_left; focus exact rfl) | with_reducible refine g_r hD rfl ?_); intro _ h₁; replace hF := rl hF h₁; clear h₁))
 exact Goes.stop fun w₁ h₁ => hfin.out _ _ ⟨rfl, rfl, rfl, rfl, rfl, rfl, rfl⟩ (rl hF h₁)
theorem begin_netJ (hm : MpMOK m) (h : MW0 m w) {T : Array Value} (hT : HTk m T) (ho : ∀ b, b < w.heap.size → own b) :
   MGoo Try.prog 66 m.q.Wg own (GvA m w.heap.size) (fun _ => False) (fun g w' => ∃ me, me = (MS.hire 0 m.q.c0 0 [m.e8, m.e4], ([] : List Nat)) ∧ (netJ m).Main own me (GvA m w.heap.size) (fun _ => False) g w') 80 (G ((base 11).at ⟨T, []⟩ [.code (tlM 4)]) m.cs) w := by
 have g := mg_zero h ho hm
 refine Goo.mono (n := 60 + 20) (Goo.bind (fun w => Rel.refl w) (fun gg w' hh => ?_) (to_headJ g hT (mw_zero hm h))) (by decide)
 exact (head_wk g hm.one hh).imp fun g w h => ⟨_, rfl, rfl, rfl, rfl, fun _ _ h => h, h⟩
/-! ### what stands at the end -/
def LEnd (m : MpM) (w : World) : Prop := ∃ ps j f, ps.length = m.xs.length ∧ j ≤ m.q.K ∧ m.L.J (.wait (jobsL m.xs ps)) j f ∧ (∀ i, i < j → m.L.isA (f i).2 = none) ∧ ∀ b y, m.L.cel b y → w.cell? ⟨b, y, none⟩ = some (m.L.val j (fun i => (f i).2) b y)
theorem LEnd.to {m : MpM} {w w₁ : World} (h : LEnd m w) (ho : ∀ b, m.L.AB b → w₁.heap[b]? = w.heap[b]?) : LEnd m w₁ := by
 obtain ⟨ps, j, f, h1, h2, h3, h4, h5⟩ := h
 exact ⟨ps, j, f, h1, h2, h3, h4, fun b y hc => (cell?_eq (ho b ⟨y, hc⟩) y).trans (h5 b y hc)⟩
structure MpEnd (m : MpM) (e10 d : Nat) (w : World) : Prop where
 low : m.n0 ≤ e10 ∧ m.n0 ≤ d ∧ e10 ≠ m.q.Wg
 dfr : w.heap[d]? = some (.deferred (some []))
 live : WgLive 66 m.q.Wg w
 res : ∃ (v : Value) (ps : List Nat), w.cell? ⟨e10, 0, none⟩ = some v ∧ w.ownsRow 0 68 1 v ps.length (ps.map ptr) ∧ (∀ g, v.ownBlock = some g → m.n0 ≤ g ∧ g ≠ m.q.Wg) ∧ ps.length = m.xs.length ∧
   ∀ (i : Nat) (x : Int) (p : Nat), m.xs[i]? = some (.int .i64 x) → ps[i]? = some p → m.n0 ≤ p ∧ p ≠ m.q.Wg ∧ w.cell? ⟨p, 0, none⟩ = some (.int .i64 (m.q.phi x))
 out : Out m.n0 m.w0 (fun b _ => m.Off b) w
 lend : LEnd m w
 vis : m.it.V m.xs.length w
theorem mp_phase (hm : MpMOK m) (h : MW0 m w) {T : Array Value} (hT : HTk m T) :
   Lone Try.prog m.n0 (fun S g w' => (∀ b, S b → m.Shun b ∨ b = m.q.Wg) ∧ ∃ e10 T d, HTp m e10 T ∧ MpEnd m e10 d w' ∧ ∀ Shun, Goes Try.prog true AtRel (SD Shun) (fun g w2 => g = G ((base 11).at ⟨T.setIfInBounds 49 (.tuple #[]), markD d⟩ (.inRegion ops17M [] :: [.code (tlM 9)])) m.cs ∧ AtRel w' w2) 20 g w') m.Shun (G ((base 11).at ⟨T, []⟩ [.code (tlM 4)]) m.cs) w := by
 intro gs sl t h0 hR
 have hns : ∀ b, (b = m.q.Wg ∨ (netJ m).AB b) → ¬ m.Shun b := fun b hb hs => by
   rcases hb with rfl | hb
   · have := h.shun _ hs; have := hm.wg; omega
   · exact (hm.ab b hb).2 hs
 obtain ⟨k, gs', w', sl', t', a', h1, h2, h3, me, j, fs, cl, hI, hw, hall, haf, hcl⟩ := phase (map_net hm) (sl := sl) h0 hR hns h.wg (fun b hb e => by have := (hm.ab b hb).1; have := hm.wg; omega) (G₀ := GvA m w.heap.size) (fun _ _ => Iff.rfl)
   (Q := fun me => me = (MS.hire 0 m.q.c0 0 [m.e8, m.e4], ([] : List Nat))) (B := m.L.C * m.q.pp.muM (.hire 0 m.q.c0 0 [])) (f0 := fun _ => (⟨0, 0, 0, [], .recv, []⟩, m.L.a0))
   ⟨_, rfl⟩
   (fun me hme => by
     subst hme
     exact ⟨⟨⟨PP.Inv.init rfl rfl (fun hx => absurd hx (Nat.not_lt_zero _)) (by show 0 < 0 + m.q.K; have := hm.one; omega) _, fun _ => rfl, fun hx => by cases hx⟩, hm.j0 _ _ _ _ _⟩, Nat.le_refl _⟩)
   (fun b y hc => (h.out.cell b y (hm.ab b ⟨y, hc⟩).1 (hm.ab b ⟨y, hc⟩).2).trans (hm.cel b y hc))
   (fun own ho => begin_netJ hm h hT ho)
 obtain ⟨ms, en⟩ := me
 obtain ⟨sent, rfl⟩ : ∃ s, ms = .wait s := PP.mact_wait hw
 obtain ⟨own, Given, Fz, e10, ps, T', l, d, v, rfl, hl, hg, hT', hF, hB⟩ := haf
 obtain ⟨r, hrj⟩ := hF.rj
 have hinv : m.q.pp.Inv (.wait (jobsL m.xs ps)) j (fun i => (fs i).1) cl := hI.1.inv
 have hval : ∀ n p, jobV n p ∈ jobsL m.xs ps → w'.cell? ⟨p, 0, none⟩ = some (.int .i64 (m.q.phi n)) := fun n p hmem => by
   obtain ⟨i, hi, hgot⟩ := (hinv.data2 rfl _).1 hmem
   obtain ⟨n', p', e, hc⟩ := ((hall i hi).2 : m.q.Fin (fs i).1 _) _ hgot
   obtain ⟨rfl, rfl⟩ := jobV_inj e
   exact hc
 have hnw : ∀ b v, w'.cell? ⟨b, 0, none⟩ = some v → (∀ n, v ≠ .int .u64 n) → b ≠ m.q.Wg := fun b v hb hv e => by
   subst e
   obtain ⟨st, sm, hl⟩ := hrj.b.mw.live
   have h1 : w'.cell? ⟨m.q.Wg, 0, none⟩ = some (.int .u64 st) := hl.cellSt
   rw [hb] at h1
   exact hv _ (Option.some.inj h1)
 refine ⟨gs', a', w', sl', t', _, ⟨k, h1⟩, h2, h3, fun b hb => hb.elim .inl fun e => .inr (e ▸ hm.wg), fun b hb => hb, e10, T', d, hT', ⟨⟨hrj.b.var.mine.low, hrj.b.lp.od.2.2.2, hnw _ _ hrj.cell fun n e => ?_⟩, hrj.b.lp.dfr, hrj.b.mw.live, ⟨v, ps, hrj.cell, hrj.row.row, fun g hg => ?_, hl, fun i x p hx hp => ?_⟩, ?_, ⟨ps, j, fs, hl, by have := hinv.le; show j ≤ m.q.K; have e : m.q.pp.nf + m.q.pp.K = m.q.K := Nat.zero_add _; omega, hI.2, fun i hi => (PP.actA_of (hall i hi).1 (by simp)).1, hcl⟩, hF.vis⟩, hB⟩
 · rcases hrj.row.row.2 with ⟨hx, _⟩ | ⟨_, _, _, hx, _⟩ <;> (rw [hx] at e; cases e)
 · exact ⟨(hrj.row.rowO g hg).low, let ⟨_, hc⟩ := row_tp hrj.row.row hg; wg_typ hrj.b.mw.live hc (by decide)⟩
 · have hmem : jobV x p ∈ jobsL m.xs ps := by
     have hi := (List.getElem?_eq_some_iff.1 hx).1
     refine List.mem_iff_getElem?.2 ⟨i, ?_⟩
     simp [jobsL, List.getElem?_zipWith, hx, hp, jobV]
   have hc := hval x p hmem
   exact ⟨(hrj.row.low p (List.mem_of_getElem? hp)).1, hnw _ _ hc fun n e => (by cases e), hc⟩
 · exact hrj.b.mw.out.less fun b x hb hx => hx.imp (hg.given b x hb) id
end
noncomputable def lpC : Code := cI (cI (cS (cF (tlM 10))))
theorem oneTO : OneT Try.prog 22 3 := by
 have h0 : (Try.prog.info? 3).isSome = true := by kernel_rfl
 have h1 : ((Try.prog.info? 3).get h0).zero.isSome = true := by kernel_rfl
 exact ⟨Try.underlying22, (Try.prog.info? 3).get h0, ((Try.prog.info? 3).get h0).zero.get h1, by simp, by simp, by kernel_rfl, by kernel_rfl, of_decide_eq_true (by kernel_rfl)⟩
def mapV (f : Int → Int) : Value → Value | .int .i64 x => .int .i64 (f x) | v => v
structure ColE (m : MpM) (fa : Option Addr) (cap : Nat) (ps : List Nat) (w1 : World) : Prop where
 low : m.n0 ≤ w1.heap.size ∧ m.q.Wg < w1.heap.size
 row : w1.ownsRow 0 68 1 (.slice fa m.xs.length cap) m.xs.length (ps.map ptr)
 rowO : ∀ g, (Value.slice fa m.xs.length cap).ownBlock = some g → m.n0 ≤ g ∧ g ≠ m.q.Wg
 len : ps.length = m.xs.length
 val : ∀ (i : Nat) (x : Int) (p : Nat), m.xs[i]? = some (.int .i64 x) → ps[i]? = some p → m.n0 ≤ p ∧ p ≠ m.q.Wg ∧ w1.cell? ⟨p, 0, none⟩ = some (.int .i64 (m.q.phi x))
structure CJ (m : MpM) (w1 : World) (i : Nat) (vo : Value) (w : World) : Prop where
 size : w1.heap.size ≤ w.heap.size
 old : ∀ b, b < w1.heap.size → w.heap[b]? = w1.heap[b]?
 os : w.os = w1.os
 out : w.output = w1.output
 tape : w.tape = w1.tape
 row : w.ownsRow 0 3 1 vo i ((m.xs.map (mapV m.q.phi)).take i)
 rowO : ∀ g, vo.ownBlock = some g → w1.heap.size ≤ g
structure CX (m : MpM) (w1 : World) (i : Nat) (vo : Value) (bx : Nat) (u : Value) (w : World) : Prop where
 j : CJ m w1 i vo w
 cell : w.cell? ⟨bx, 0, none⟩ = some u
 low : w1.heap.size ≤ bx
structure HTq (fa : Option Addr) (n cap : Nat) (vo : Value) (i : Nat) (T : Array Value) : Prop where
 size : T.size = 64
 t13 : T[13]? = some vo
 t50 : T[50]? = some (.slice fa n cap)
 t51 : T[51]? = some (.int .i64 n)
 t52 : T[52]? = some (.int .i64 i)
theorem row_get {w : World} {t g n cap : Nat} {xs : List Value} (h : w.ownsRow 0 t 1 (.slice (some ⟨g, 0, none⟩) n cap) n xs) {i : Nat} {x : Value} (hx : xs[i]? = some x) : w.cell? ⟨g, i, none⟩ = some x := by
 rcases h.2 with ⟨e, _⟩ | ⟨g', cap', cur, e, _, h2, _, _, _, h6⟩
 · cases e
 · cases e
   rw [Nat.mul_one] at h6
   have : cur.toList[i]? = some x := by
     rw [← h6] at hx
     have hlt : i < (cur.toList.take n).length := (List.getElem?_eq_some_iff.1 hx).1
     rw [List.length_take] at hlt
     rwa [List.getElem?_take_of_lt (by omega)] at hx
   simp only [World.cell?, h2]
   simpa using this
theorem sd_gua {Shun : Nat → Prop} {w w' : World} {es : Array Event} {Wg : Nat} (h : Gua false Wg (fun b _ => ¬ Shun b) (fun b _ => ¬ Shun b) w w' es) (hs : ∀ b, Shun b → b < w.heap.size) : SD Shun w w' es := ⟨h.size, fun e he => by
 rcases h.evs e he with ⟨a, wr, sy, rfl, _, h2, h3⟩ | ⟨h, _⟩ | ⟨h, _⟩ | rfl
 · refine .inl ⟨a, wr, sy, rfl, fun hx => ?_, h2⟩
   rcases h3 with h | h | h
   · have := hs _ hx; omega
   · exact h hx
   · exact h.2 hx
 · cases h
 · cases h
 · exact .inr (.inr rfl)⟩
section
variable {m : MpM} {Shun : Nat → Prop} {w w₁ w1 : World} {cs : List Frame} {fa : Option Addr} {cap i d e10 bx : Nat} {ps : List Nat} {vo u : Value}
theorem CJ.steady : Steady (CJ m w1 i vo) := fun _w _d h => ⟨h.size, h.old, h.os, h.out, h.tape, h.row, h.rowO⟩
theorem CX.steady : Steady (CX m w1 i vo bx u) := fun w d h => ⟨CJ.steady w d h.j, h.cell, h.low⟩
theorem CJ.cell (h : CJ m w1 i vo w) {b o : Nat} {v : Value} (hv : w1.cell? ⟨b, o, none⟩ = some v) : w.cell? ⟨b, o, none⟩ = some v := (cell?_eq (h.old b (cell_lt hv)) o).trans hv
theorem CX.new (h : CJ m w1 i vo w) {t : TypeId} : CX m w1 i vo w.heap.size u (w.alloc (.cells #[u] t)) := by
 have hn := heap_alloc_new w (Obj.cells #[u] t)
 exact ⟨⟨by simp only [World.size_alloc]; have := h.size; omega, fun b hb => (heap_alloc_old _ _ b (Nat.lt_of_lt_of_le hb h.size)).trans (h.old b hb), h.os, h.out, h.tape, ownsRow_of h.row fun g hg => heap_alloc_old _ _ g (h.row.lt g hg).2, h.rowO⟩, by unfold World.cell?; rw [hn]; rfl, h.size⟩
theorem CX.appended {vo' : Value} {n : Int} (h : CX m w1 i vo bx (.int .i64 (m.q.phi n)) w) (hx : m.xs[i]? = some (.int .i64 n)) (hgr : w.grownBy w₁ vo.ownBlock) (hrow : w₁.ownsRow 0 3 1 vo' (i + 1) ((m.xs.map (mapV m.q.phi)).take i ++ [.int .i64 (m.q.phi n)])) (hown : ∀ g, vo'.ownBlock = some g → vo.ownBlock = some g ∨ (w.heap.size ≤ g ∧ g < w₁.heap.size)) :
   CJ m w1 (i + 1) vo' w₁ := by
 refine ⟨Nat.le_trans h.j.size hgr.size, fun b hb => (hgr.block b (Nat.lt_of_lt_of_le hb h.j.size) fun e => ?_).trans (h.j.old b hb), hgr.os.trans h.j.os, hgr.output.trans h.j.out, hgr.tape.trans h.j.tape, ?_, fun g hg => ?_⟩
 · have := h.j.rowO b e.symm; omega
 · have e : (m.xs.map (mapV m.q.phi)).take (i + 1) = (m.xs.map (mapV m.q.phi)).take i ++ [.int .i64 (m.q.phi n)] := by
     rw [List.take_add_one, List.getElem?_map, hx]
     rfl
   rw [e]; exact hrow
 · rcases hown g hg with x | x
   · exact h.j.rowO g x
   · exact Nat.le_trans h.j.size x.1
set_option maxRecDepth 100000 in
theorem col_round {Stop : Goroutine → World → Prop} (hm : MpMOK m) (hsh : ∀ b, Shun b → b < m.n0 ∨ b = m.q.Wg) (E : ColE m fa cap ps w1) {x : Int} (hx : m.xs[i]? = some (.int .i64 x)) {T : Array Value} (hT : HTq fa m.xs.length cap vo i T) (hF : CJ m w1 i vo w)
   (hgo : ∀ T vo' w, HTq fa m.xs.length cap vo' (i + 1) T → CJ m w1 (i + 1) vo' w → Stop (G ((base 11).at ⟨T, markD d⟩ [.code lpC, .inLoop lpC, .inBlock 4, .code (tlM 11)]) cs) w) :
   Goes Try.prog true AtRel (SD Shun) Stop 80 (G ((base 11).at ⟨T, markD d⟩ [.code lpC, .inLoop lpC, .inBlock 4, .code (tlM 11)]) cs) w := by
 have hD : ∀ w, SD Shun w w #[] := sd_idle
 have rl : ∀ {w w₁ : World}, CJ m w1 i vo w → AtRel w w₁ → CJ m w1 i vo w₁ := fun h r => CJ.steady.rel h r
 have hi : i < m.xs.length := (List.getElem?_eq_some_iff.1 hx).1
 have hlt : decide ((i : Int) < (m.xs.length : Int)) = true := decide_eq_true (by omega)
 have hnn : (0 : Int) ≤ (i : Int) := by omega
 have hlen : m.xs.length < 1000000 := by have := hm.xs.1; have := hm.xs.2.1; omega
 have hadd : IntKind.i64.wrap ((i : Int) + 1) = ((i + 1 : Nat) : Int) := by rw [IntKind.wrap_i64]; omega
 have hnew : ∀ (w : World) b, w1.heap.size ≤ w.heap.size → w1.heap.size ≤ b → ¬ Shun b := fun w b _ hb hs => by
   have h1 := E.low.1; have h2 := E.low.2
   rcases hsh b hs with h | h <;> omega
 have hsz : ∀ (w : World) b, w1.heap.size ≤ w.heap.size → Shun b → b < w.heap.size := fun w b hw hs => by
   have h1 := E.low.1; have h2 := E.low.2
   rcases hsh b hs with h | h <;> omega
 obtain ⟨p, hp⟩ : ∃ p, ps[i]? = some p := ⟨_, List.getElem?_eq_getElem (by rw [E.len]; exact hi)⟩
 obtain ⟨hp1, hp2, hp3⟩ := E.val i x p hx hp
 obtain ⟨g, rfl⟩ : ∃ g, fa = some ⟨g, 0, none⟩ := by
   rcases E.row.2 with ⟨_, h0⟩ | ⟨g, c, cur, e, _⟩
   · omega
   · cases e; exact ⟨g, rfl⟩
 have hg := E.rowO g rfl
 have hpc : w1.cell? ⟨g, i, none⟩ = some (ptr p) := row_get E.row (by rw [List.getElem?_map, hp]; rfl)
 have hsg : ¬ Shun g := fun hs => (hsh g hs).elim (fun h => by have := hg.1; omega) hg.2
 have hsp : ¬ Shun p := fun hs => (hsh p hs).elim (fun h => by omega) hp2
 replace hgo := Hd.mk hgo
 replace E := Hd.mk E
 replace hx := Hd.mk hx
 replace hsz := Hd.mk hsz
 replace hnew := Hd.mk hnew
 clear hp1 hp2 hg hp
 obtain ⟨hs, t13, t50, t51, t52⟩ := hT
 obtain ⟨v0, v1, v2, v3, v4, v5, v6, v7, v8, v9, v10, v11, v12, v13, v14, v15, v16, v17, v18, v19, v20, v21, v22, v23, v24, v25, v26, v27, v28, v29, v30, v31, v32, v33, v34, v35, v36, v37, v38, v39, v40, v41, v42, v43, v44, v45, v46, v47, v48, v49, v50, v51, v52, v53, v54, v55, v56, v57, v58, v59, v60, v61, v62, v63, rfl⟩ := array64 T hs
 simp only [List.getElem?_toArray, List.getElem?_cons_zero, List.getElem?_cons_succ, Option.some.injEq] at t13 t50 t51 t52
 subst t13 t50 t51 t52
 clear hs
 simp only [lpC, tlM, cS, cF, cI, bodyM, Try.f11, Option.getD_some] at hgo ⊢
 repeat ((first | ((with_reducible refine g_opG ?_); first | (refine g_unw hD rfl rfl ?_; intro _ h₁; replace hF := rl hF h₁; clear h₁; walk_nrm) | (refine Goes.step rfl ?_; intro _ h₁; replace hF := rl hF h₁; clear h₁; refine goes_oper_k rfl rfl (by k_ne) fun K hK => ?_; go_simp; refine hK _ _ ⟨g_idle hD fun e he => by have hm := mem_listed he; simp [go_sem, *] at hm, ?_⟩; clear hK K; try w_num)) | ((first | ((with_reducible refine g_c (k' := ?_) true true hD ?_ ?_); rotate_left; focus exact rfl) | with_reducible refine g_r hD rfl ?_); intro _ h₁; replace hF := rl hF h₁; clear h₁)))
 refine Goes.step rfl fun w₁ h₁ => ?_
 replace hF := rl hF h₁
 clear h₁
 refine goes_oper_k rfl rfl (by decide) (fun K hK => ?_)
 have h1 := hF.cell hpc
 go_simp
 refine hK _ _ ⟨sd_read fun e he => ?_, ?_⟩
 · have hm := mem_listed he
   simp [go_sem, h1] at hm
   exact ⟨_, _, _, hm, hsg, cell_lt h1⟩
 clear hK K h1
 try walk_nrm
 repeat ((first | ((with_reducible refine g_opG ?_); first | (refine g_unw hD rfl rfl ?_; intro _ h₁; replace hF := rl hF h₁; clear h₁; walk_nrm) | (refine Goes.step rfl ?_; intro _ h₁; replace hF := rl hF h₁; clear h₁; refine goes_oper_k rfl rfl (by k_ne) fun K hK => ?_; go_simp; refine hK _ _ ⟨g_idle hD fun e he => by have hm := mem_listed he; simp [go_sem, *] at hm, ?_⟩; clear hK K; try w_num)) | ((first | ((with_reducible refine g_c (k' := ?_) true true hD ?_ ?_); rotate_left; focus exact rfl) | with_reducible refine g_r hD rfl ?_); intro _ h₁; replace hF := rl hF h₁; clear h₁)))
 refine Goes.step rfl fun w₁ h₁ => ?_
 replace hF := rl hF h₁
 clear h₁
 refine goes_oper_k rfl rfl (by decide) (fun K hK => ?_)
 have h1 := hF.cell hp3
 go_simp
 refine hK _ _ ⟨sd_read fun e he => ?_, ?_⟩
 · have hm := mem_listed he
   simp [go_sem, h1] at hm
   exact ⟨_, _, _, hm, hsp, cell_lt h1⟩
 clear hK K h1
 try walk_nrm
 refine Goes.step rfl fun w₁ h₁ => ?_
 replace hF := rl hF h₁
 clear h₁
 refine goes_oper_k rfl rfl (by decide) (fun K hK => ?_)
 go_simp
 refine hK _ _ ⟨sd_new (by simp) (fun e he => ?_), ?_⟩
 · have hm := mem_listed he
   simp [go_sem] at hm
 clear hK K
 replace hF := CX.new (u := .int .i64 (m.q.phi x)) (t := 3) hF
 clear rl
 generalize w₁.alloc (.cells #[.int .i64 (m.q.phi x)] 3) = w₂ at hF ⊢
 generalize w₁.heap.size = bx at hF ⊢
 clear w₁
 try walk_nrm
 refine Goes.step rfl fun w₃ h₃ => ?_
 replace hF := CX.steady.rel hF h₃
 clear h₃
 have hbW : bx ≠ m.q.Wg := fun e => by have := E.out.low.2; have := hF.low; omega
 obtain ⟨v', w', hr, hrow', hgr, hb', hgua⟩ := append1 (P := Try.prog) (said := false) (Wg := m.q.Wg) (Writ := fun b _ => ¬ Shun b) (Read := fun b _ => ¬ Shun b) (ty := 22) oneTO (cx := 1) hF.j.row hF.cell rfl (by omega)
   (fun g hg => ⟨(fun e => by have := E.out.low.2; have := hF.j.rowO g hg; omega), fun _ => hnew.out w₃ g hF.j.size (hF.j.rowO g hg)⟩) ⟨hbW, fun _ => .inl (hnew.out w₃ bx hF.j.size hF.low)⟩
 rw [stepG_value rfl rfl (by decide) (run_append_op _ _ 22 rfl rfl rfl hr)]
 simp only [goes_go]
 refine ⟨?_, ?_⟩
 · unfold listed
   rw [events_append_op _ _ 22 rfl rfl rfl]
   exact sd_gua (hgua _) (fun b hb => hsz.out w₃ b hF.j.size hb)
 replace hF := hF.appended hx.out hgr hrow' hb'
 clear hgua hr hgr hb' hrow' hbW w₃
 have rl : ∀ {w w₁ : World}, CJ m w1 (i + 1) v' w → AtRel w w₁ → CJ m w1 (i + 1) v' w₁ := fun h r => CJ.steady.rel h r
 walk_nrm
 repeat ((first | ((with_reducible refine g_opG ?_); first | (refine g_unw hD rfl rfl ?_; intro _ h₁; replace hF := rl hF h₁; clear h₁; walk_nrm) | (refine Goes.step rfl ?_; intro _ h₁; replace hF := rl hF h₁; clear h₁; refine goes_oper_k rfl rfl (by k_ne) fun K hK => ?_; go_simp; refine hK _ _ ⟨g_idle hD fun e he => by have hm := mem_listed he; simp [go_sem, *] at hm, ?_⟩; clear hK K; try w_num)) | ((first | ((with_reducible refine g_c (k' := ?_) false true hD ?_ ?_); rotate_left; focus exact rfl) | with_reducible refine g_r hD rfl ?_); intro _ h₁; replace hF := rl hF h₁; clear h₁)))
 (first | ((with_reducible refine g_opG ?_); first | (refine g_unw hD rfl rfl ?_; intro _ h₁; replace hF := rl hF h₁; clear h₁; walk_nrm) | (refine Goes.step rfl ?_; intro _ h₁; replace hF := rl hF h₁; clear h₁; refine goes_oper_k rfl rfl (by k_ne) fun K hK => ?_; go_simp; refine hK _ _ ⟨g_idle hD fun e he => by have hm := mem_listed he; simp [go_sem, *] at hm, ?_⟩; clear hK K; try w_num)) | ((first | ((with_reducible refine g_c (k' := ?_) true true hD ?_ ?_); rotate_left; focus exact rfl) | with_reducible refine g_r hD rfl ?_); intro _ h₁; replace hF := rl hF h₁; clear h₁))
 exact Goes.stop fun w₁ h₁ => hgo.out _ _ _ ⟨rfl, rfl, rfl, rfl, rfl⟩ (rl hF h₁)
end
structure MpRes (m : MpM) (v : Value) (w : World) : Prop where
 row : w.ownsRow 0 3 1 v m.xs.length (m.xs.map (mapV m.q.phi))
 live : WgLive 66 m.q.Wg w
 out : Out m.n0 m.w0 (fun b _ => m.Off b) w
 lend : LEnd m w
 vis : m.it.V m.xs.length w
section
variable {m : MpM} {Shun : Nat → Prop} {w w₁ w1 : World} {cs : List Frame} {fa : Option Addr} {cap i d e10 : Nat} {ps : List Nat} {vo : Value}
theorem MpEnd.steady : Steady (MpEnd m e10 d) := fun _w d h => ⟨h.low, h.dfr, h.live, h.res, h.out.at d, h.lend, h.vis⟩
theorem MpRes.steady : Steady (MpRes m vo) := fun _w d h => ⟨h.row, h.live, h.out.at d, h.lend, h.vis⟩
set_option maxRecDepth 100000 in
theorem col_first {Stop : Goroutine → World → Prop} (hm : MpMOK m) (hsh : ∀ b, Shun b → b < m.n0 ∨ b = m.q.Wg) {T : Array Value} (hT : HTp m e10 T) (hF : MpEnd m e10 d w)
   (hgo : ∀ T fa cap ps w, HTq fa m.xs.length cap (.slice none 0 0) 0 T → ColE m fa cap ps w → MpEnd m e10 d w → Stop (G ((base 11).at ⟨T, markD d⟩ [.code lpC, .inLoop lpC, .inBlock 4, .code (tlM 11)]) cs) w) :
   Goes Try.prog true AtRel (SD Shun) Stop 40 (G ((base 11).at ⟨T.setIfInBounds 49 (.tuple #[]), markD d⟩ (.inRegion ops17M [] :: [.code (tlM 9)])) cs) w := by
 have hD : ∀ w, SD Shun w w #[] := sd_idle
 have rl : ∀ {w w₁ : World}, MpEnd m e10 d w → AtRel w w₁ → MpEnd m e10 d w₁ := fun h r => MpEnd.steady.rel h r
 have hlen : m.xs.length < 1000000 := by have := hm.xs.1; have := hm.xs.2.1; omega
 replace hgo := Hd.mk hgo
 obtain ⟨hs, t8, t9, t10⟩ := hT
 obtain ⟨v0, v1, v2, v3, v4, v5, v6, v7, v8, v9, v10, v11, v12, v13, v14, v15, v16, v17, v18, v19, v20, v21, v22, v23, v24, v25, v26, v27, v28, v29, v30, v31, v32, v33, v34, v35, v36, v37, v38, v39, v40, v41, v42, v43, v44, v45, v46, v47, v48, v49, v50, v51, v52, v53, v54, v55, v56, v57, v58, v59, v60, v61, v62, v63, rfl⟩ := array64 T hs
 simp only [List.getElem?_toArray, List.getElem?_cons_zero, List.getElem?_cons_succ, Option.some.injEq] at t8 t9 t10
 subst t8 t9 t10
 clear hs
 simp only [ops17M, lpC, tlM, cS, cF, cI, cO, bodyM, Try.f11, Option.getD_some] at hgo ⊢
 try walk_nrm
 repeat ((first | ((with_reducible refine g_opG ?_); first | (refine g_unw hD rfl rfl ?_; intro _ h₁; replace hF := rl hF h₁; clear h₁; walk_nrm) | (refine Goes.step rfl ?_; intro _ h₁; replace hF := rl hF h₁; clear h₁; refine goes_oper_k rfl rfl (by k_ne) fun K hK => ?_; go_simp; refine hK _ _ ⟨g_idle hD fun e he => by have hm := mem_listed he; simp [go_sem, *] at hm, ?_⟩; clear hK K; try w_num)) | ((first | ((with_reducible refine g_c (k' := ?_) true true hD ?_ ?_); rotate_left; focus exact rfl) | with_reducible refine g_r hD rfl ?_); intro _ h₁; replace hF := rl hF h₁; clear h₁)))
 refine Goes.step rfl fun w₁ h₁ => ?_
 replace hF := rl hF h₁
 clear h₁
 refine goes_oper_k rfl rfl (by decide) (fun K hK => ?_)
 obtain ⟨v, ps, h1, hrow, hrO, hl, hval⟩ := hF.res
 obtain ⟨fa, cap, rfl⟩ : ∃ fa cap, v = .slice fa m.xs.length cap := by
   rcases hrow.2 with ⟨rfl, h0⟩ | ⟨g, c, cur, rfl, _⟩
   · rw [← hl, h0]; exact ⟨_, _, rfl⟩
   · rw [hl]; exact ⟨_, _, rfl⟩
 rw [hl] at hrow
 go_simp
 refine hK _ _ ⟨sd_read fun e he => ?_, ?_⟩
 · have hm := mem_listed he
   simp [go_sem, h1] at hm
   exact ⟨_, _, _, hm, fun hx => (hsh _ hx).elim (fun h => by have := hF.low.1; exact absurd h (by show ¬ e10 < m.n0; omega)) hF.low.2.2, cell_lt h1⟩
 clear hK K h1
 have hE : ∀ w, (MpEnd m e10 d w ∧ w.ownsRow 0 68 1 (.slice fa m.xs.length cap) m.xs.length (ps.map ptr) ∧ ∀ (i : Nat) (x : Int) (p : Nat), m.xs[i]? = some (.int .i64 x) → ps[i]? = some p → m.n0 ≤ p ∧ p ≠ m.q.Wg ∧ w.cell? ⟨p, 0, none⟩ = some (.int .i64 (m.q.phi x))) → ColE m fa cap ps w := fun w h =>
   ⟨⟨h.1.out.size, let ⟨_, _, hl⟩ := h.1.live; (Array.getElem?_eq_some_iff.1 hl).1⟩, h.2.1, hrO, hl, h.2.2⟩
 replace hE := Hd.mk hE
 replace hF := And.intro hF (And.intro hrow hval)
 clear hrow hval hrO hl rl
 have rl : ∀ {w w₁ : World}, (MpEnd m e10 d w ∧ w.ownsRow 0 68 1 (.slice fa m.xs.length cap) m.xs.length (ps.map ptr) ∧ ∀ (i : Nat) (x : Int) (p : Nat), m.xs[i]? = some (.int .i64 x) → ps[i]? = some p → m.n0 ≤ p ∧ p ≠ m.q.Wg ∧ w.cell? ⟨p, 0, none⟩ = some (.int .i64 (m.q.phi x))) → AtRel w w₁ →
     (MpEnd m e10 d w₁ ∧ w₁.ownsRow 0 68 1 (.slice fa m.xs.length cap) m.xs.length (ps.map ptr) ∧ ∀ (i : Nat) (x : Int) (p : Nat), m.xs[i]? = some (.int .i64 x) → ps[i]? = some p → m.n0 ≤ p ∧ p ≠ m.q.Wg ∧ w₁.cell? ⟨p, 0, none⟩ = some (.int .i64 (m.q.phi x))) := fun h r => ⟨MpEnd.steady.rel h.1 r, by obtain ⟨d, rfl⟩ := r; exact h.2⟩
 try walk_nrm
 repeat ((first | ((with_reducible refine g_opG ?_); first | (refine g_unw hD rfl rfl ?_; intro _ h₁; replace hF := rl hF h₁; clear h₁; walk_nrm) | (refine Goes.step rfl ?_; intro _ h₁; replace hF := rl hF h₁; clear h₁; refine goes_oper_k rfl rfl (by k_ne) fun K hK => ?_; go_simp; refine hK _ _ ⟨g_idle hD fun e he => by have hm := mem_listed he; simp [go_sem, *] at hm, ?_⟩; clear hK K; try w_num)) | ((first | ((with_reducible refine g_c (k' := ?_) true false hD ?_ ?_); rotate_left; focus exact rfl) | with_reducible refine g_r hD rfl ?_); intro _ h₁; replace hF := rl hF h₁; clear h₁)))
 (first | ((with_reducible refine g_opG ?_); first | (refine g_unw hD rfl rfl ?_; intro _ h₁; replace hF := rl hF h₁; clear h₁; walk_nrm) | (refine Goes.step rfl ?_; intro _ h₁; replace hF := rl hF h₁; clear h₁; refine goes_oper_k rfl rfl (by k_ne) fun K hK => ?_; go_simp; refine hK _ _ ⟨g_idle hD fun e he => by have hm := mem_listed he; simp [go_sem, *] at hm, ?_⟩; clear hK K; try w_num)) | ((first | ((with_reducible refine g_c (k' := ?_) true true hD ?_ ?_); rotate_left; focus exact rfl) | with_reducible refine g_r hD rfl ?_); intro _ h₁; replace hF := rl hF h₁; clear h₁))
 exact Goes.stop fun w₁ h₁ => (let hF' := rl hF h₁; hgo.out _ _ _ ps _ ⟨rfl, rfl, rfl, rfl, rfl⟩ (hE.out _ hF') hF'.1)
def ColEnd (m : MpM) (w1 : World) (d : Nat) (cs : List Frame) (g : Goroutine) (w : World) : Prop :=
 ∃ T vo, T.size = 64 ∧ T[13]? = some vo ∧ CJ m w1 m.xs.length vo w ∧ ∃ fa cap, HTq fa m.xs.length cap vo m.xs.length T ∧ g = G ((base 11).at ⟨T, markD d⟩ [.code lpC, .inLoop lpC, .inBlock 4, .code (tlM 11)]) cs
theorem col_loop (hm : MpMOK m) (hsh : ∀ b, Shun b → b < m.n0 ∨ b = m.q.Wg) (E : ColE m fa cap ps w1) {N0 : Nat} : ∀ (k i : Nat) (T : Array Value) (vo : Value) (w : World), i + k = m.xs.length → HTq fa m.xs.length cap vo i T → CJ m w1 i vo w →
   Lone Try.prog N0 (fun S g w => S = Shun ∧ ColEnd m w1 d cs g w) Shun (G ((base 11).at ⟨T, markD d⟩ [.code lpC, .inLoop lpC, .inBlock 4, .code (tlM 11)]) cs) w := by
 intro k
 induction k with
 | zero =>
   intro i T vo w hi hT hF
   obtain rfl : i = m.xs.length := by omega
   exact Lone.done ⟨rfl, T, vo, hT.size, hT.t13, hF, fa, cap, hT, rfl⟩
 | succ k ih =>
   intro i T vo w hi hT hF
   have hlt : i < m.xs.length := by omega
   obtain ⟨n, hn⟩ := hm.xs.2.2.1 _ (List.getElem_mem hlt)
   have hv : m.xs[i]? = some (.int .i64 n) := by rw [List.getElem?_eq_getElem hlt, hn]
   exact Lone.on (n := 80) (col_round hm hsh E hv hT hF fun T' vo' w' hT' hF' _ => ih (i + 1) T' vo' w' (by omega) hT' hF')
set_option maxRecDepth 100000 in
theorem col_last {Stop : Goroutine → World → Prop} (hm : MpMOK m) (hE : MpEnd m e10 d w1) (hd1 : d < w1.heap.size) {b₀ : Frame} {a₀ : Act} {ops₀ : Array Oper} {i₀ : Nat} {rest₀ : List Nat} {k₀ : List Item}
   {g : Goroutine} (h : ColEnd m w1 d (b₀.at a₀ (.inRegion ops₀ (i₀ :: rest₀) :: k₀) :: cs) g w)
   (hgo : ∀ v w, MpRes m v w → Stop (G (b₀.at (a₀.put ((ops₀[i₀]?).bind (·.dst)) (.tuple #[v, .int .i64 0])) (.inRegion ops₀ rest₀ :: k₀)) cs) w) :
   Goes Try.prog true AtRel (SD Shun) Stop 40 g w := by
 obtain ⟨T, vo, _, _, hF, fa, cap, hT, rfl⟩ := h
 have hD : ∀ w, SD Shun w w #[] := sd_idle
 have rl : ∀ {w w₁ : World}, CJ m w1 m.xs.length vo w → AtRel w w₁ → CJ m w1 m.xs.length vo w₁ := fun h r => CJ.steady.rel h r
 have hlt : decide ((m.xs.length : Int) < (m.xs.length : Int)) = false := decide_eq_false (by omega)
 replace hgo := Hd.mk hgo
 obtain ⟨hs, t13, t50, t51, t52⟩ := hT
 obtain ⟨v0, v1, v2, v3, v4, v5, v6, v7, v8, v9, v10, v11, v12, v13, v14, v15, v16, v17, v18, v19, v20, v21, v22, v23, v24, v25, v26, v27, v28, v29, v30, v31, v32, v33, v34, v35, v36, v37, v38, v39, v40, v41, v42, v43, v44, v45, v46, v47, v48, v49, v50, v51, v52, v53, v54, v55, v56, v57, v58, v59, v60, v61, v62, v63, rfl⟩ := array64 T hs
 simp only [List.getElem?_toArray, List.getElem?_cons_zero, List.getElem?_cons_succ, Option.some.injEq] at t13 t50 t51 t52
 subst t13 t50 t51 t52
 clear hs
 simp only [lpC, tlM, cS, cF, cI, bodyM, Try.f11, Option.getD_some]
 repeat ((first | ((with_reducible refine g_opG ?_); first | (refine g_unw hD rfl rfl ?_; intro _ h₁; replace hF := rl hF h₁; clear h₁; walk_nrm) | (refine Goes.step rfl ?_; intro _ h₁; replace hF := rl hF h₁; clear h₁; refine goes_oper_k rfl rfl (by k_ne) fun K hK => ?_; go_simp; refine hK _ _ ⟨g_idle hD fun e he => by have hm := mem_listed he; simp [go_sem, *] at hm, ?_⟩; clear hK K; try w_num)) | ((first | ((with_reducible refine g_c (k' := ?_) true true hD ?_ ?_); rotate_left; focus exact rfl) | with_reducible refine g_r hD rfl ?_); intro _ h₁; replace hF := rl hF h₁; clear h₁)))
 refine Goes.step rfl fun w₂ h₂ => ?_
 replace hF := rl hF h₂
 clear h₂
 have hd : w₂.heap[d]? = some (.deferred (some [])) := (hF.old d hd1).trans hE.dfr
 rw [stepG_collected rfl hd]
 simp only [goes_go]
 have hne : ∀ b o, w₂.heap[b]? = some o → (∀ ds, o ≠ Obj.deferred ds) → (w₂.putObj d (.deferred none)).heap[b]? = w₂.heap[b]? := fun b o hb hn => World.putObj_heap_other fun e => by
   rw [e, hd] at hb
   exact hn _ (Option.some.inj hb).symm
 refine ⟨⟨by simp, fun e he => .inr (.inl ?_)⟩, ?_⟩
 · rcases seen_obj he with rfl | rfl
   · exact ⟨d, _, rfl, by simpa using (Array.getElem?_eq_some_iff.1 hd).1⟩
   · exact ⟨d, _, rfl, by simpa using (Array.getElem?_eq_some_iff.1 hd).1⟩
 have hR : MpRes m v13 (w₂.putObj d (.deferred none)) := by
   have hrow := hF.row
   rw [List.take_of_length_le (by simp)] at hrow
   have hlow : ∀ b, b < m.n0 → (w₂.putObj d (.deferred none)).heap[b]? = w1.heap[b]? := fun b hb => (World.putObj_heap_other (by have := hE.low.2.1; omega)).trans (hF.old b (Nat.lt_of_lt_of_le hb hE.out.size))
   refine ⟨ownsRow_of hrow fun g hg => ?_, ?_, ?_, hE.lend.to fun b hb => hlow b (hm.ab b hb).1, fun b hb => (hlow b (hm.it.vb b hb).1).trans (hE.vis b hb)⟩
   · obtain ⟨c, hc⟩ := row_tp hrow hg
     exact hne g _ hc fun _ e => by cases e
   · obtain ⟨st, sm, hl⟩ := hE.live
     have hl' : w₂.heap[m.q.Wg]? = some (Go.ConcR.wgBlock 66 st sm) := (hF.old _ (Array.getElem?_eq_some_iff.1 hl).1).trans hl
     have hl2 : WgAt 66 m.q.Wg w₂ st sm := hl'
     exact ⟨st, sm, hl2.of_block (hne _ _ hl' fun _ e => by cases e)⟩
   · exact (hE.out.more hF.size (fun b hb => hF.old b (Nat.lt_of_lt_of_le hb hE.out.size)) hF.os hF.out hF.tape).put _ hE.low.2.1
 clear hne hd hF rl
 have rl : ∀ {w w₁ : World}, MpRes m v13 w → AtRel w w₁ → MpRes m v13 w₁ := fun h r => MpRes.steady.rel h r
 refine Goes.step rfl fun w₃ h₃ => ?_
 replace hR := rl hR h₃
 clear h₃
 refine goes_leave2 rfl rfl Try.func11 rfl ⟨sd_idle _, ?_⟩
 exact Goes.stop fun w₄ h₄ => hgo.out _ _ (rl hR h₄)
end
end Go.Proofs.Ytblpmdolclalnaa
