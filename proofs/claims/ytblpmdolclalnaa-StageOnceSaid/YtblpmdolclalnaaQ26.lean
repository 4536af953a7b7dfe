/- The layer of StageOnce's function is as a layer must be. Conditions: its three blocks are different, at most 16 workers, at most 900 elements. StageOnce's function (23) in a worker: from one atomic access to the next. Conditions: OX: its blocks lie. StageOnce's function as the phases of a worker: what the net asks of them. Conditions: OnceQ. -/
import Derived.Test.YtblpmdolclalnaaQ19
import Derived.Test.YtblpmdolclalnaaQ25
set_option maxHeartbeats 16000000
set_option linter.unusedSimpArgs false
set_option linter.unusedVariables false
namespace Go.Proofs.Ytblpmdolclalnaa
open Go.Conc
open Go.ConcN (sumTo upd upd_same upd_ne sumTo_upd sumTo_congr)
section
variable {o : OP} {m : MS} {j : Nat} {f : Nat → KS × OA} {i : Nat}
theorem val_n (hne : o.bn ≠ o.bm ∧ o.bn ≠ o.bc ∧ o.bm ≠ o.bc) (fa : Nat → OA) (y : Nat) : o.lay.val j fa o.bn y = i32 (sumTo j fun k => (fa k).ins) := if_pos rfl
theorem val_m (hne : o.bn ≠ o.bm ∧ o.bn ≠ o.bc ∧ o.bm ≠ o.bc) (fa : Nat → OA) (y : Nat) : o.lay.val j fa o.bm y = i32 (mostOf j fa) := (if_neg hne.1.symm).trans (if_pos rfl)
theorem val_c (hne : o.bn ≠ o.bm ∧ o.bn ≠ o.bc ∧ o.bm ≠ o.bc) (fa : Nat → OA) (y : Nat) : o.lay.val j fa o.bc y = i32 (sumTo j fun k => (fa k).cnt.count y) := (if_neg hne.2.1.symm).trans (if_neg hne.2.2.symm)
@[simp] theorem num32_i32 (k : Nat) : num32 (i32 k) = k := rfl
theorem i32_put {v : Value} {k : Nat} {x : Int} (h : x = k) : (some (Value.int .i32 x)).getD v = i32 k := by rw [h]; rfl
theorem OP.atom_ok (hne : o.bn ≠ o.bm ∧ o.bn ≠ o.bc ∧ o.bm ≠ o.bc) (hK16 : o.K ≤ 16) (hn : o.n ≤ 900) {b y : Nat} (hj : j ≤ o.K) (h : OJ o m j f) (hi : i < j) (ha : OA.isA o (f i).2 = some (b, y)) :
   o.lay.cel b y ∧ OA.okAt (f i).2 (o.lay.val j (fun i => (f i).2) b y) ∧ OJ o m j (upd f i ((f i).1, OA.turn (f i).2 (o.lay.val j (fun i => (f i).2) b y))) ∧
   OA.mu (OA.turn (f i).2 (o.lay.val j (fun i => (f i).2) b y)) < OA.mu (f i).2 ∧
   ∀ b' y', o.lay.cel b' y' → o.lay.val j (upd (fun i => (f i).2) i (OA.turn (f i).2 (o.lay.val j (fun i => (f i).2) b y))) b' y' = if b' = b ∧ y' = y then (OA.put (f i).2 (o.lay.val j (fun i => (f i).2) b y)).getD (o.lay.val j (fun i => (f i).2) b y) else o.lay.val j (fun i => (f i).2) b' y' := by
 have hfit := h.fit i hi
 have hbest : ∀ k, k < j → (f k).2.best ≤ o.K := fun k hk => (h.fit k hk).1
 have hMK : mostOf j (fun k => (f k).2) ≤ o.K := maxTo_le hbest
 have key : ∀ {a' : OA} (hM : mostOf j (fun k => (f k).2) ≤ mostOf j (upd (fun k => (f k).2) i a')) (hs : OA.fit o (mostOf j (upd (fun k => (f k).2) i a')) ((f i).1, a')), OJ o m j (upd f i ((f i).1, a')) := fun {a'} hM hs =>
   h.turn hi (by rw [snd_upd]; exact hM) (by rw [snd_upd]; exact hs) (fun x => rfl) h.len
 have hsum : ∀ {a' : OA}, (sumTo j fun k => (upd (fun k => (f k).2) i a' k).ins) + (f i).2.ins = (sumTo j fun k => (f k).2.ins) + a'.ins := fun {a'} => sumTo_upd (fun k => (f k).2) a' OA.ins hi
 have hsle : ∀ {a' : OA}, (sumTo j fun k => (upd (fun k => (f k).2) i a' k).ins) ≤ j := fun {a'} => by
   have := sum_le (c := 1) (j := j) (f := fun k => (upd (fun k => (f k).2) i a' k).ins) fun k _ => ins_le _
   omega
 generalize hS : (sumTo j fun k => (f k).2.ins) = S at hsum
 generalize hMo : mostOf j (fun k => (f k).2) = Mo at hMK key hfit
 have hSi : (f i).2.ins ≤ S := hS ▸ le_sum (f := fun k => (f k).2.ins) hi
 generalize hfi : (f i).2 = a at *
 obtain ⟨ph, x, best, l⟩ := a
 cases ph with
 | idle => cases ha
 | add1 =>
   simp only [OA.isA, Option.some.injEq, Prod.mk.injEq] at ha
   obtain ⟨rfl, rfl⟩ := ha
   rw [val_n hne, hS]
   have h1 : (sumTo j fun k => (upd (fun k => (f k).2) i ⟨.load (S + 1) 0, x, best, l⟩ k).ins) + 0 = S + 1 := hsum
   have h2 := @hsle ⟨.load (S + 1) 0, x, best, l⟩
   have hM : mostOf j (upd (fun k => (f k).2) i ⟨.load (S + 1) 0, x, best, l⟩) = Mo := (most_same (by rw [hfi])).trans hMo
   unfold OA.fit at hfit
   rw [hfi] at hfit
   refine ⟨.inl ⟨rfl, rfl⟩, ⟨S, rfl, by show S < 16; omega⟩, key (a' := ⟨.load (S + 1) 0, x, best, l⟩) (by rw [hM]; exact Nat.le_refl _) ?_, by show 38 - 2 * 0 < 40; omega, fun b' y' hc => ?_⟩
   · rw [hM]
     exact ⟨hfit.1, hfit.2, by omega, by omega, Nat.zero_le _⟩
   · refine val_turn (a := ⟨.load (S + 1) 0, x, best, l⟩) hi hne ?_ ?_ ?_ (.inl ⟨rfl, rfl⟩) b' y' hc
     · rw [if_pos rfl, hfi, hS]
       exact i32_put (by simp [OA.ins])
     · rw [if_neg hne.1, hfi]
     · intro z
       rw [if_neg fun e => hne.2.1 e.1, hfi]
 | load c lb =>
   simp only [OA.isA, Option.some.injEq, Prod.mk.injEq] at ha
   obtain ⟨rfl, rfl⟩ := ha
   rw [val_m hne, hMo]
   unfold OA.fit at hfit
   rw [hfi] at hfit
   have same : ∀ a' : OA, a'.ins = 1 → a'.best = best → a'.cnt = l → ∀ b' y', o.lay.cel b' y' → o.lay.val j (upd (fun i => (f i).2) i a') b' y' = if b' = o.bm ∧ y' = 0 then i32 Mo else o.lay.val j (fun i => (f i).2) b' y' := fun a' e1 e2 e3 b' y' hc => by
     refine val_turn hi hne ?_ ?_ ?_ (.inr (.inl ⟨rfl, rfl⟩)) b' y' hc
     · rw [if_neg hne.1.symm, hfi, e1]; rfl
     · rw [if_pos rfl, most_same (by rw [hfi, e2]), hMo]
     · intro z
       rw [if_neg fun e => hne.2.2 e.1, hfi, e3]
   have hM : ∀ a' : OA, a'.best = best → mostOf j (upd (fun k => (f k).2) i a') = Mo := fun a' e => (most_same (by rw [hfi, e])).trans hMo
   refine ⟨.inr (.inl ⟨rfl, rfl⟩), ⟨Mo, rfl, by show lb ≤ Mo ∧ Mo ≤ 16 ∧ c ≤ 16; have := hfit.2.2; omega⟩, ?_⟩
   by_cases hc : (c : Int) ≤ (Mo : Int)
   · have et : OA.turn ⟨.load c lb, x, best, l⟩ (i32 Mo) = ⟨.cnt, x, best, l⟩ := if_pos hc
     rw [et]
     refine ⟨key (by rw [hM _ rfl]; exact Nat.le_refl _) (by rw [hM _ rfl]; exact ⟨hfit.1, hfit.2.1⟩), by show 2 < 38 - 2 * lb; have := hfit.2.2; omega, same _ rfl rfl rfl⟩
   · have et : OA.turn ⟨.load c lb, x, best, l⟩ (i32 Mo) = ⟨.cas c Mo, x, best, l⟩ := if_neg hc
     rw [et]
     refine ⟨key (by rw [hM _ rfl]; exact Nat.le_refl _) (by rw [hM _ rfl]; exact ⟨hfit.1, hfit.2.1, by omega, hfit.2.2.2.1, Nat.le_refl _⟩), by show 37 - 2 * Mo < 38 - 2 * lb; have := hfit.2.2; omega, same _ rfl rfl rfl⟩
 | cas c mm =>
   simp only [OA.isA, Option.some.injEq, Prod.mk.injEq] at ha
   obtain ⟨rfl, rfl⟩ := ha
   rw [val_m hne, hMo]
   unfold OA.fit at hfit
   rw [hfi] at hfit
   have hf2 := hfit.2.2
   refine ⟨.inr (.inl ⟨rfl, rfl⟩), ⟨Mo, rfl, by show mm ≤ Mo ∧ Mo ≤ 16 ∧ mm < c ∧ c ≤ 16; omega⟩, ?_⟩
   by_cases hc : (Mo : Int) = (mm : Int)
   · have et : OA.turn ⟨.cas c mm, x, best, l⟩ (i32 Mo) = ⟨.cnt, x, c, l⟩ := if_pos hc
     have ep : OA.put ⟨.cas c mm, x, best, l⟩ (i32 Mo) = some (i32 c) := if_pos hc
     have hM : mostOf j (upd (fun k => (f k).2) i ⟨.cnt, x, c, l⟩) = c := most_new hi (by rw [hMo]; show Mo ≤ c; omega)
     rw [et, ep]
     refine ⟨key (by rw [hM]; omega) (by rw [hM]; exact ⟨by show c ≤ o.K; omega, hfit.2.1⟩), by show 2 < 37 - 2 * mm; omega, fun b' y' hc' => ?_⟩
     refine val_turn hi hne ?_ ?_ ?_ (.inr (.inl ⟨rfl, rfl⟩)) b' y' hc'
     · rw [if_neg hne.1.symm, hfi]; rfl
     · rw [if_pos rfl, hM]; rfl
     · intro z
       rw [if_neg fun e => hne.2.2 e.1, hfi]
   · have et : OA.turn ⟨.cas c mm, x, best, l⟩ (i32 Mo) = ⟨.load c (mm + 1), x, best, l⟩ := if_neg hc
     have ep : OA.put ⟨.cas c mm, x, best, l⟩ (i32 Mo) = none := if_neg hc
     have hM : mostOf j (upd (fun k => (f k).2) i ⟨.load c (mm + 1), x, best, l⟩) = Mo := (most_same (by rw [hfi])).trans hMo
     rw [et, ep]
     refine ⟨key (by rw [hM]; exact Nat.le_refl _) (by rw [hM]; exact ⟨hfit.1, hfit.2.1, by omega, by omega, by omega⟩), by show 38 - 2 * (mm + 1) < 37 - 2 * mm; omega, fun b' y' hc' => ?_⟩
     refine val_turn hi hne ?_ ?_ ?_ (.inr (.inl ⟨rfl, rfl⟩)) b' y' hc'
     · rw [if_neg hne.1.symm, hfi]; rfl
     · rw [if_pos rfl, hM]; rfl
     · intro z
       rw [if_neg fun e => hne.2.2 e.1, hfi]
 | cnt =>
   simp only [OA.isA, Option.some.injEq, Prod.mk.injEq] at ha
   obtain ⟨rfl, rfl⟩ := ha
   rw [val_c hne]
   have hcs := count_sent h x
   unfold OA.fit at hfit
   rw [hfi] at hfit
   have hM : mostOf j (upd (fun k => (f k).2) i ⟨.sub, x, best, l ++ [x]⟩) = Mo := (most_same (by rw [hfi])).trans hMo
   generalize hSc : (sumTo j fun k => (f k).2.cnt.count x) = Sc at hcs
   have hSl : l.count x ≤ Sc := by
     have := le_sum (f := fun k => (f k).2.cnt.count x) hi
     rw [hSc, hfi] at this
     exact this
   have et : OA.turn ⟨.cnt, x, best, l⟩ (i32 Sc) = ⟨.sub, x, best, l ++ [x]⟩ := rfl
   rw [et]
   refine ⟨.inr (.inr ⟨rfl, hfit.2.2⟩), ⟨Sc, rfl, by show Sc < 1000; omega⟩, key (by rw [hM]; exact Nat.le_refl _) (by rw [hM]; exact ⟨hfit.1, hfit.2.1⟩), by show 1 < 2; omega, fun b' y' hc => ?_⟩
   refine val_turn hi hne ?_ ?_ ?_ (.inr (.inr rfl)) b' y' hc
   · rw [if_neg hne.2.1.symm, hfi]; rfl
   · rw [if_neg hne.2.2.symm, hfi]
   · intro z
     rw [hfi]
     by_cases e : z = x
     · subst e
       rw [if_pos ⟨rfl, rfl⟩, hSc]
       refine i32_put ?_
       simp only [num32_i32, List.count_append, List.count_singleton_self]
       omega
     · rw [if_neg fun h => e h.2]
       simp only [List.count_append, List.count_singleton]
       have : (x == z) = false := by simpa using fun h => e h.symm
       rw [this]; rfl
 | sub =>
   simp only [OA.isA, Option.some.injEq, Prod.mk.injEq] at ha
   obtain ⟨rfl, rfl⟩ := ha
   rw [val_n hne, hS]
   have hSj : S ≤ j := by
     have := @hsle ⟨.sub, x, best, l⟩
     have h1 : (sumTo j fun k => (upd (fun k => (f k).2) i ⟨.sub, x, best, l⟩ k).ins) + 1 = S + 1 := hsum
     omega
   have hS1 : 1 ≤ S := hSi
   have hM : mostOf j (upd (fun k => (f k).2) i ⟨.idle, x, best, l⟩) = Mo := (most_same (by rw [hfi])).trans hMo
   unfold OA.fit at hfit
   rw [hfi] at hfit
   refine ⟨.inl ⟨rfl, rfl⟩, ⟨S, rfl, by show 1 ≤ S ∧ S ≤ 16; omega⟩, key (a' := ⟨.idle, x, best, l⟩) (by rw [hM]; exact Nat.le_refl _) (by rw [hM]; exact ⟨hfit.1, hfit.2⟩), by show 0 < 1; omega, fun b' y' hc => ?_⟩
   refine val_turn (a := ⟨.idle, x, best, l⟩) hi hne ?_ ?_ ?_ (.inl ⟨rfl, rfl⟩) b' y' hc
   · rw [if_pos rfl, hfi, hS]
     refine i32_put ?_
     simp only [num32_i32, OA.ins]
     omega
   · rw [if_neg hne.1, hfi]
   · intro z
     rw [if_neg fun e => hne.2.1 e.1, hfi]
theorem OP.hire_ok {pp : PP} {m' : MS} (h : OJ o m j f) (hm : isHire m = true) (hs : pp.succ m m') : OJ o m' (j + 1) (upd f j (PP.hireS m, (⟨.idle, 0, 0, []⟩ : OA))) := by
 cases m with
 | hire p ci co e =>
   have hsent : PP.sent m' = [] := by
     rcases hs with ⟨_, co', e', rfl, _⟩ | ⟨_, hb⟩
     · rfl
     · exact sent_begun hb
   have h' := h
   have hM : mostOf (j + 1) (fun k => (upd f j (PP.hireS (.hire p ci co e), (⟨.idle, 0, 0, []⟩ : OA)) k).2) = mostOf j fun k => (f k).2 := by
     have e : ∀ k, k < j → upd f j (PP.hireS (.hire p ci co e), (⟨.idle, 0, 0, []⟩ : OA)) k = f k := fun k hk => upd_ne _ _ (by omega)
     simp only [mostOf, maxTo, upd_same, Nat.max_zero]
     exact maxTo_congr fun k hk => by rw [e k hk]
   refine ⟨fun k hk => ?_, fun x => ?_, by rw [hsent]; exact Nat.zero_le _⟩
   · show OA.fit o (mostOf (j + 1) (fun k => (upd f j (PP.hireS (.hire p ci co e), (⟨.idle, 0, 0, []⟩ : OA)) k).2)) (upd f j (PP.hireS (.hire p ci co e), (⟨.idle, 0, 0, []⟩ : OA)) k)
     rw [hM]
     by_cases e : k = j
     · subst e; rw [upd_same]; exact ⟨Nat.zero_le _, rfl⟩
     · rw [upd_ne _ _ e]; exact h'.fit k (by omega)
   · have h2 := h'.mult x
     show (sumTo (j + 1) fun k => (idxs (upd f j (PP.hireS (.hire p ci co e), (⟨.idle, 0, 0, []⟩ : OA)) k).1.got).count x) = _
     rw [sumTo, upd_same, sumTo_congr (g := fun k => (idxs (f k).1.got).count x) fun k hk => by rw [upd_ne _ _ (by omega)], h2, hsent]
     rfl
 | _ => cases hm
theorem OP.meet_ok {pp : PP} {m' : MS} {l : List Value} {v : Value} (hpn : pp.n = o.n) (hokV : ∀ v, pp.okV v → idxV v < o.n) (hl : l.length < pp.n) (hv : pp.okV v) (h : OJ o (.send l v) j f) (hs : pp.succ (.send l v) m') (hi : i < j) (ha : OA.isA o (f i).2 = none) : OJ o m' j (upd f i (pp.gotS (f i).1 v, (⟨.add1, idxV v, (f i).2.best, (f i).2.cnt⟩ : OA))) := by
 have hid : (f i).2.ph = .idle := isA_idle ha
 have hsent : PP.sent m' = l ++ [v] := sent_begun hs
 have h' := h
 have hfit := h'.fit i hi
 have hbst := hfit.1
 have hgot : idxs (f i).1.got = (f i).2.cnt := by
   unfold OA.fit at hfit
   rw [hid] at hfit
   exact hfit.2
 have hM : mostOf j (fun k => (upd f i (pp.gotS (f i).1 v, (⟨.add1, idxV v, (f i).2.best, (f i).2.cnt⟩ : OA)) k).2) = mostOf j fun k => (f k).2 := by rw [snd_upd]; exact most_same rfl
 refine OJ.turn h' hi (by rw [hM]; exact Nat.le_refl _) ?_ (fun x => ?_) ?_
 · refine ⟨hbst, ?_, hokV v hv⟩
   show idxs ((f i).1.got ++ [v]) = (f i).2.cnt ++ [idxV v]
   rw [← hgot]; simp [idxs]
 · show (idxs ((f i).1.got ++ [v])).count x + (idxs l).count x = (idxs (f i).1.got).count x + (idxs (PP.sent m')).count x
   rw [hsent]
   simp only [idxs, List.map_append, List.count_append]
   omega
 · rw [hsent, List.length_append]; simp; omega
theorem OP.ends_ok {pp : PP} (h : OJ o m j f) (hi : i < j) : OJ o m j (upd f i (pp.endS (f i).1, (f i).2)) := by
 have h' := h
 have hM : mostOf j (fun k => (upd f i (pp.endS (f i).1, (f i).2) k).2) = mostOf j fun k => (f k).2 := by rw [snd_upd]; exact most_same rfl
 exact OJ.turn h' hi (by rw [hM]; exact Nat.le_refl _) (by rw [hM]; exact h'.fit i hi) (fun x => rfl) h'.len
theorem OP.lay_ok {pp : PP} (hne : o.bn ≠ o.bm ∧ o.bn ≠ o.bc ∧ o.bm ≠ o.bc) (hK : pp.K = o.K) (hK16 : o.K ≤ 16) (hn : o.n ≤ 900) (hpn : pp.n = o.n) (hokV : ∀ v, pp.okV v → idxV v < o.n) : LayOK pp o.lay where
 pos := by show 0 < 50; omega
 a0 := ⟨rfl, rfl⟩
 enter _ _ _ := by show 40 < 50; omega
 hire _ _ _ _ h hm hs := OP.hire_ok h hm hs
 meet _ _ _ _ _ _ _ hl hv h hs hi ha := OP.meet_ok hpn hokV hl hv h hs hi ha
 ends _ _ _ _ h hi _ := OP.ends_ok h hi
 shut l j f h := (fun h : OJ o (.shut l) j f => (⟨h.fit, h.mult, h.len⟩ : OJ o (.wait l) j f)) h
 atom m j f b y i hj h hi ha := OP.atom_ok hne hK16 hn (hK ▸ hj) h hi ha
 vHire j fa b y _ := val_grow ⟨rfl, rfl, rfl⟩ b y
 vGot j fa i v b y hi ha _ := val_same (fun k _ => by
   by_cases e : k = i
   · subst e
     have hid : (fa k).ph = .idle := isA_idle ha
     rw [upd_same]
     refine ⟨?_, rfl, rfl⟩
     show OA.ins { fa k with ph := .add1, x := idxV v } = OA.ins (fa k)
     unfold OA.ins
     rw [hid]
   · rw [upd_ne _ _ e]; exact ⟨rfl, rfl, rfl⟩) b y
end
end Go.Proofs.Ytblpmdolclalnaa
namespace Go.Proofs.Ytblpmdolclalnaa
open Go.Conc Go.RowKit Go.Conc.Lib Go.ConcR.Gen Go.ConcN.Gen
open Go.ConcR (WgAt KK stA smA rd wr mk DC0)
open Go.ConcN (WgLive)
noncomputable def body23 : Code := Try.f23.body.getD .skip
noncomputable def tl23 : Nat → Code | 0 => body23 | n + 1 => cS (tl23 n)
noncomputable def lp23 : Code := cI (cI (cF (tl23 2)))
noncomputable def bd23 : Code := cI lp23
noncomputable def kl23 : List Item := [.inBlock 1, .inLoop lp23, .inBlock 0, .code (tl23 3)]
def onceV (o : OP) (e6 : Nat) : Value := .func (.func 23) #[] #[ptr o.bn, ptr o.bm, ptr e6]
structure OX (o : OP) (e6 : Nat) (w : World) : Prop where
 box : w.cell? ⟨e6, 0, none⟩ = some (.slice (some ⟨o.bc, 0, none⟩) o.n o.n)
 tn : ∃ c, w.heap[o.bn]? = some (.cells c 53 (0, 0))
 tm : ∃ c, w.heap[o.bm]? = some (.cells c 53 (0, 0))
 tc : ∃ c, w.heap[o.bc]? = some (.cells c 53 (0, 0)) ∧ c.size = o.n
structure OT (o : OP) (e6 : Nat) (n : Int) (T : Array Value) : Prop where
 size : T.size = 24
 t0 : T[0]? = some (.int .i64 n)
 t1 : T[1]? = some (ptr o.bn)
 t2 : T[2]? = some (ptr o.bm)
 t3 : T[3]? = some (ptr e6)
structure OTc (o : OP) (e6 : Nat) (n : Int) (c : Int) (T : Array Value) : Prop where
 t : OT o e6 n T
 t6 : T[6]? = some (.int .i32 c)
structure OTm (o : OP) (e6 : Nat) (n : Int) (c m : Int) (T : Array Value) : Prop where
 t : OTc o e6 n c T
 t13 : T[13]? = some (.bool false)
noncomputable def gAdd1 (o : OP) (T : Array Value) (cs : List Frame) : Goroutine := G (fr22 ⟨o.bn, 0, none⟩ 1) ((base 23).at ⟨T, []⟩ (.inRegion (cO (cF (tl23 1))) [0, 1] :: [.code (tl23 2)]) :: cs)
noncomputable def gLoad (o : OP) (T : Array Value) (cs : List Frame) : Goroutine := G (fr24 ⟨o.bm, 0, none⟩) ((base 23).at ⟨T, []⟩ (.inRegion (cO (cF bd23)) [0, 1] :: .code (cS bd23) :: kl23) :: cs)
noncomputable def gCas (o : OP) (c m : Int) (T : Array Value) (cs : List Frame) : Goroutine := G (fr25 ⟨o.bm, 0, none⟩ m c) ((base 23).at ⟨T, []⟩ (.inRegion (cO (cF (cS bd23))) [6, 7] :: .code (cS (cS bd23)) :: kl23) :: cs)
noncomputable def gCnt (o : OP) (x : Nat) (T : Array Value) (cs : List Frame) : Goroutine := G (fr22 ⟨o.bc, x, none⟩ 1) ((base 23).at ⟨T, []⟩ (.inRegion (cO (cF (tl23 3))) [3] :: [.code (tl23 4)]) :: cs)
noncomputable def gSub (o : OP) (T : Array Value) (cs : List Frame) : Goroutine := G (fr22 ⟨o.bn, 0, none⟩ (-1)) ((base 23).at ⟨T, []⟩ (.inRegion (cO (cF (tl23 4))) [0] :: [.code (tl23 5)]) :: cs)
theorem array24 (T : Array Value) (h : T.size = 24) : ∃ v0 v1 v2 v3 v4 v5 v6 v7 v8 v9 v10 v11 v12 v13 v14 v15 v16 v17 v18 v19 v20 v21 v22 v23, T = #[v0, v1, v2, v3, v4, v5, v6, v7, v8, v9, v10, v11, v12, v13, v14, v15, v16, v17, v18, v19, v20, v21, v22, v23] := by
 obtain ⟨l⟩ := T
 match l, h with
 | [v0, v1, v2, v3, v4, v5, v6, v7, v8, v9, v10, v11, v12, v13, v14, v15, v16, v17, v18, v19, v20, v21, v22, v23], _ => exact ⟨v0, v1, v2, v3, v4, v5, v6, v7, v8, v9, v10, v11, v12, v13, v14, v15, v16, v17, v18, v19, v20, v21, v22, v23, rfl⟩
section
variable {own : Nat → Prop} {Got : Cells} {Rd : Nat → Prop} {Wg e6 : Nat} {o : OP} {n : Int} {F : World → Prop} {w w₁ : World} {cs : List Frame}
theorem enter23 {a : Act} {op : Oper} {y z : Operand} {ats : Array TypeId} {v : Value} (hop : op.op = .call { callee := .value y, args := #[z], argTypes := ats }) (hy : a.eval y = onceV o e6) (hz : a.eval z = v) :
   (execOp a.eval op).run Try.prog w = .ok (.enter 23 #[v, ptr o.bn, ptr o.bm, ptr e6]) w ∧ (execOp a.eval op).events Try.prog w #[] = #[] := by
 constructor
 · unfold execOp
   simp only [hop]
   simp [resolve, Deferred.ofValue, hy, hz, onceV, invoke, callFunc, Try.func23, Try.f23]
 · unfold execOp
   simp only [hop]
   simp [resolve, Deferred.ofValue, hy, hz, onceV, invoke, callFunc, Try.func23, Try.f23]
set_option maxRecDepth 100000 in
theorem on_enter {Stop : Goroutine → World → Prop} {b : Frame} {a : Act} {ops : Array Oper} {i : Nat} {rest : List Nat} {k : List Item} {op : Oper} {y z : Operand} {ats : Array TypeId} (hF : F w) (rl : ∀ {w w₁ : World}, F w → KR 66 Wg own Got Rd w w₁ → F w₁)
   (ho : ops[i]? = some op) (hw : Region.wanted op (yielded ops a.tmps) = true) (hk : b.kind ≠ .early) (hop : op.op = .call { callee := .value y, args := #[z], argTypes := ats }) (hy : a.eval y = onceV o e6) (hz : a.eval z = .int .i64 n)
   (hS : ∀ T w, F w → OT o e6 n T → Stop (gAdd1 o T (b.at a (.inRegion ops (i :: rest) :: k) :: cs)) w) :
   Goes Try.prog false (KR 66 Wg own Got Rd) (KD Wg own Got Rd) Stop 40 (G (b.at a (.inRegion ops (i :: rest) :: k)) cs) w := by
 have hD : ∀ w, KD Wg own Got Rd w w #[] := fun w => Gua.idle w
 (refine Goes.step rfl (fun _ h₁ => ?_); replace hF := rl hF h₁; clear h₁)
 rw [stepG_enter ho hw hk (enter23 hop hy hz).1, listed_nil (enter23 hop hy hz).2, enter_at _ Try.func23 rfl]
 simp only [goes_go]
 refine ⟨by exact hD _, ?_⟩
 simp only [gAdd1, tl23, lp23, bd23, kl23, cS, cF, cI, cO, body23, Try.f23, Option.getD_some] at hS ⊢
 replace hS := Hd.mk hS
 walk_nrm
 repeat ((first | ((first | ((with_reducible refine g_c (k' := ?_) true true hD ?_ ?_); rotate_left; focus exact rfl) | with_reducible refine g_r hD rfl ?_); intro _ h₁; replace hF := rl hF h₁; clear h₁)))
 (refine Goes.step rfl (fun _ h₁ => ?_); replace hF := rl hF h₁; clear h₁; refine goes_oper_k rfl rfl (by k_ne) (fun K hK => ?_); go_simp; refine hK _ _ ⟨?_, ?_⟩; (focus (refine g_idle hD ?_; intro e he; have hm := mem_listed he; simp [go_sem, *] at hm; done)); clear hK K; try w_num)
 repeat ((first | ((first | ((with_reducible refine g_c (k' := ?_) true true hD ?_ ?_); rotate_left; focus exact rfl) | with_reducible refine g_r hD rfl ?_); intro _ h₁; replace hF := rl hF h₁; clear h₁)))
 refine (to_add (B := o.bn) (y := 0) (d := 1) hD hF rl rfl rfl (by decide) rfl rfl rfl fun w hF => ?_).mono (by omega)
 exact hS.out _ _ hF ⟨rfl, rfl, rfl, rfl, rfl⟩
set_option maxRecDepth 100000 in
theorem on_s1 {Stop : Goroutine → World → Prop} {T : Array Value} {c : Int} (hT : OT o e6 n T) (hF : F w) (rl : ∀ {w w₁ : World}, F w → KR 66 Wg own Got Rd w w₁ → F w₁) (hS : ∀ T w, F w → OTc o e6 n c T → Stop (gLoad o T cs) w) :
   Goes Try.prog false (KR 66 Wg own Got Rd) (KD Wg own Got Rd) Stop 60 (G (fr22b ⟨o.bn, 0, none⟩ 1 c) ((base 23).at ⟨T, []⟩ (.inRegion (cO (cF (tl23 1))) [0, 1] :: [.code (tl23 2)]) :: cs)) w := by
 have hD : ∀ w, KD Wg own Got Rd w w #[] := fun w => Gua.idle w
 obtain ⟨hs, t0, t1, t2, t3⟩ := hT
 obtain ⟨v0, v1, v2, v3, v4, v5, v6, v7, v8, v9, v10, v11, v12, v13, v14, v15, v16, v17, v18, v19, v20, v21, v22, v23, rfl⟩ := array24 T hs
 simp only [List.getElem?_toArray, List.getElem?_cons_zero, List.getElem?_cons_succ, Option.some.injEq] at t0 t1 t2 t3
 subst t0 t1 t2 t3
 clear hs
 simp only [gLoad, tl23, lp23, bd23, kl23, cS, cF, cI, cO, body23, Try.f23, Option.getD_some] at hS ⊢
 replace hS := Hd.mk hS
 refine (from_add hD hF rl rfl (m := 48) fun w hF => ?_).mono (by omega)
 walk_nrm
 repeat ((first | ((with_reducible refine g_opG ?_); first | (refine g_unw hD rfl rfl ?_; intro _ h₁; replace hF := rl hF h₁; clear h₁; walk_nrm) | (refine Goes.step rfl ?_; intro _ h₁; replace hF := rl hF h₁; clear h₁; refine goes_oper_k rfl rfl (by k_ne) fun K hK => ?_; go_simp; refine hK _ _ ⟨?_, ?_⟩; (focus (refine g_idle hD ?_; intro e he; have hm := mem_listed he; simp [go_sem, *] at hm; done)); clear hK K; try w_num)) | ((first | ((with_reducible refine g_c (k' := ?_) true true hD ?_ ?_); rotate_left; focus exact rfl) | with_reducible refine g_r hD rfl ?_); intro _ h₁; replace hF := rl hF h₁; clear h₁)))
 refine (to_load (B := o.bm) (y := 0) hD hF rl rfl rfl (by decide) rfl rfl fun w hF => ?_).mono (by omega)
 exact hS.out _ _ hF ⟨⟨rfl, rfl, rfl, rfl, rfl⟩, rfl⟩
set_option maxRecDepth 100000 in
theorem on_s2a {Stop : Goroutine → World → Prop} {T : Array Value} {c m : Int} {x : Nat} (hT : OTc o e6 x c T) (hF : F w) (rl : ∀ {w w₁ : World}, F w → KR 66 Wg own Got Rd w w₁ → F w₁) (hO : ∀ w, F w → OX o e6 w) (hr : Rd e6) (hx : x < o.n) (hle : c ≤ m) (hS : ∀ T w, F w → OT o e6 x T → Stop (gCnt o x T cs) w) :
   Goes Try.prog false (KR 66 Wg own Got Rd) (KD Wg own Got Rd) Stop 80 (G (fr24b ⟨o.bm, 0, none⟩ m) ((base 23).at ⟨T, []⟩ (.inRegion (cO (cF bd23)) [0, 1] :: .code (cS bd23) :: kl23) :: cs)) w := by
 have hD : ∀ w, KD Wg own Got Rd w w #[] := fun w => Gua.idle w
 obtain ⟨⟨hs, t0, t1, t2, t3⟩, t6⟩ := hT
 obtain ⟨v0, v1, v2, v3, v4, v5, v6, v7, v8, v9, v10, v11, v12, v13, v14, v15, v16, v17, v18, v19, v20, v21, v22, v23, rfl⟩ := array24 T hs
 simp only [List.getElem?_toArray, List.getElem?_cons_zero, List.getElem?_cons_succ, Option.some.injEq] at t0 t1 t2 t3 t6
 subst t0 t1 t2 t3 t6
 clear hs
 have hdec : decide (c ≤ m) = true := decide_eq_true hle
 simp only [gCnt, tl23, lp23, bd23, kl23, cS, cF, cI, cO, body23, Try.f23, Option.getD_some] at hS ⊢
 replace hS := Hd.mk hS
 refine (from_load hD hF rl rfl (m := 68) fun w hF => ?_).mono (by omega)
 walk_nrm
 repeat ((first | ((with_reducible refine g_opG ?_); first | (refine g_unw hD rfl rfl ?_; intro _ h₁; replace hF := rl hF h₁; clear h₁; walk_nrm) | (refine Goes.step rfl ?_; intro _ h₁; replace hF := rl hF h₁; clear h₁; refine goes_oper_k rfl rfl (by k_ne) fun K hK => ?_; go_simp; refine hK _ _ ⟨?_, ?_⟩; (focus (refine g_idle hD ?_; intro e he; have hm := mem_listed he; simp [go_sem, *] at hm; done)); clear hK K; try w_num)) | ((first | ((with_reducible refine g_c (k' := ?_) true true hD ?_ ?_); rotate_left; focus exact rfl) | with_reducible refine g_r hD rfl ?_); intro _ h₁; replace hF := rl hF h₁; clear h₁)))
 (refine Goes.step rfl (fun _ h₁ => ?_); replace hF := rl hF h₁; clear h₁)
 refine goes_oper_k rfl rfl (by decide) (fun K hK => ?_)
 have h1 := (hO _ hF).box
 go_simp
 refine hK _ _ ⟨gua_read fun e he => ?_, ?_⟩
 · have hm := mem_listed he
   simp [go_sem, h1] at hm
   exact ⟨_, hm, cell_lt h1, .inr (.inr (.inr hr))⟩
 clear hK K h1
 have hx1 : (x : Int) < (o.n : Int) := by omega
 have hx0 : (0 : Int) ≤ (x : Int) := by omega
 try walk_nrm
 repeat ((first | ((with_reducible refine g_opG ?_); first | (refine g_unw hD rfl rfl ?_; intro _ h₁; replace hF := rl hF h₁; clear h₁; walk_nrm) | (refine Goes.step rfl ?_; intro _ h₁; replace hF := rl hF h₁; clear h₁; refine goes_oper_k rfl rfl (by k_ne) fun K hK => ?_; go_simp; refine hK _ _ ⟨?_, ?_⟩; (focus (refine g_idle hD ?_; intro e he; have hm := mem_listed he; simp [go_sem, *] at hm; done)); clear hK K; try w_num)) | ((first | ((with_reducible refine g_c (k' := ?_) true true hD ?_ ?_); rotate_left; focus exact rfl) | with_reducible refine g_r hD rfl ?_); intro _ h₁; replace hF := rl hF h₁; clear h₁)))
 refine (to_add (B := o.bc) (y := x) (d := 1) hD hF rl rfl rfl (by decide) rfl rfl rfl fun w hF => ?_).mono (by omega)
 exact hS.out _ _ hF ⟨rfl, rfl, rfl, rfl, rfl⟩
set_option maxRecDepth 100000 in
theorem on_s2b {Stop : Goroutine → World → Prop} {T : Array Value} {c m : Int} (hT : OTc o e6 n c T) (hF : F w) (rl : ∀ {w w₁ : World}, F w → KR 66 Wg own Got Rd w w₁ → F w₁) (hle : ¬ c ≤ m) (hS : ∀ T w, F w → OTm o e6 n c m T → Stop (gCas o c m T cs) w) :
   Goes Try.prog false (KR 66 Wg own Got Rd) (KD Wg own Got Rd) Stop 80 (G (fr24b ⟨o.bm, 0, none⟩ m) ((base 23).at ⟨T, []⟩ (.inRegion (cO (cF bd23)) [0, 1] :: .code (cS bd23) :: kl23) :: cs)) w := by
 have hD : ∀ w, KD Wg own Got Rd w w #[] := fun w => Gua.idle w
 obtain ⟨⟨hs, t0, t1, t2, t3⟩, t6⟩ := hT
 obtain ⟨v0, v1, v2, v3, v4, v5, v6, v7, v8, v9, v10, v11, v12, v13, v14, v15, v16, v17, v18, v19, v20, v21, v22, v23, rfl⟩ := array24 T hs
 simp only [List.getElem?_toArray, List.getElem?_cons_zero, List.getElem?_cons_succ, Option.some.injEq] at t0 t1 t2 t3 t6
 subst t0 t1 t2 t3 t6
 clear hs
 have hdec : decide (c ≤ m) = false := decide_eq_false hle
 simp only [gCas, tl23, lp23, bd23, kl23, cS, cF, cI, cO, body23, Try.f23, Option.getD_some] at hS ⊢
 replace hS := Hd.mk hS
 clear hle
 refine (from_load hD hF rl rfl (m := 68) fun w hF => ?_).mono (by omega)
 walk_nrm
 repeat ((first | ((with_reducible refine g_opG ?_); first | (refine g_unw hD rfl rfl ?_; intro _ h₁; replace hF := rl hF h₁; clear h₁; walk_nrm) | (refine Goes.step rfl ?_; intro _ h₁; replace hF := rl hF h₁; clear h₁; refine goes_oper_k rfl rfl (by k_ne) fun K hK => ?_; go_simp; refine hK _ _ ⟨?_, ?_⟩; (focus (refine g_idle hD ?_; intro e he; have hm := mem_listed he; simp [go_sem, *] at hm; done)); clear hK K; try w_num)) | ((first | ((with_reducible refine g_c (k' := ?_) true true hD ?_ ?_); rotate_left; focus exact rfl) | with_reducible refine g_r hD rfl ?_); intro _ h₁; replace hF := rl hF h₁; clear h₁)))
 refine (to_cas (B := o.bm) (y := 0) (d₁ := m) (d₂ := c) hD hF rl rfl rfl (by decide) rfl rfl rfl rfl fun w hF => ?_).mono (by omega)
 exact hS.out _ _ hF ⟨⟨⟨rfl, rfl, rfl, rfl, rfl⟩, rfl⟩, rfl⟩
set_option maxRecDepth 100000 in
theorem on_s3a {Stop : Goroutine → World → Prop} {T : Array Value} {c m : Int} {x : Nat} (hT : OTm o e6 x c m T) (hF : F w) (rl : ∀ {w w₁ : World}, F w → KR 66 Wg own Got Rd w w₁ → F w₁) (hO : ∀ w, F w → OX o e6 w) (hr : Rd e6) (hx : x < o.n) (hS : ∀ T w, F w → OT o e6 x T → Stop (gCnt o x T cs) w) :
   Goes Try.prog false (KR 66 Wg own Got Rd) (KD Wg own Got Rd) Stop 80 (G (fr25b ⟨o.bm, 0, none⟩ m c true) ((base 23).at ⟨T, []⟩ (.inRegion (cO (cF (cS bd23))) [6, 7] :: .code (cS (cS bd23)) :: kl23) :: cs)) w := by
 have hD : ∀ w, KD Wg own Got Rd w w #[] := fun w => Gua.idle w
 obtain ⟨⟨⟨hs, t0, t1, t2, t3⟩, t6⟩, t13⟩ := hT
 obtain ⟨v0, v1, v2, v3, v4, v5, v6, v7, v8, v9, v10, v11, v12, v13, v14, v15, v16, v17, v18, v19, v20, v21, v22, v23, rfl⟩ := array24 T hs
 simp only [List.getElem?_toArray, List.getElem?_cons_zero, List.getElem?_cons_succ, Option.some.injEq] at t0 t1 t2 t3 t6 t13
 subst t0 t1 t2 t3 t6 t13
 clear hs
 simp only [gCnt, tl23, lp23, bd23, kl23, cS, cF, cI, cO, body23, Try.f23, Option.getD_some] at hS ⊢
 replace hS := Hd.mk hS
 refine (from_cas hD hF rl rfl (m := 68) fun w hF => ?_).mono (by omega)
 walk_nrm
 repeat ((first | ((with_reducible refine g_opG ?_); first | (refine g_unw hD rfl rfl ?_; intro _ h₁; replace hF := rl hF h₁; clear h₁; walk_nrm) | (refine Goes.step rfl ?_; intro _ h₁; replace hF := rl hF h₁; clear h₁; refine goes_oper_k rfl rfl (by k_ne) fun K hK => ?_; go_simp; refine hK _ _ ⟨?_, ?_⟩; (focus (refine g_idle hD ?_; intro e he; have hm := mem_listed he; simp [go_sem, *] at hm; done)); clear hK K; try w_num)) | ((first | ((with_reducible refine g_c (k' := ?_) true true hD ?_ ?_); rotate_left; focus exact rfl) | with_reducible refine g_r hD rfl ?_); intro _ h₁; replace hF := rl hF h₁; clear h₁)))
 (refine Goes.step rfl (fun _ h₁ => ?_); replace hF := rl hF h₁; clear h₁)
 refine goes_oper_k rfl rfl (by decide) (fun K hK => ?_)
 have h1 := (hO _ hF).box
 go_simp
 refine hK _ _ ⟨gua_read fun e he => ?_, ?_⟩
 · have hm := mem_listed he
   simp [go_sem, h1] at hm
   exact ⟨_, hm, cell_lt h1, .inr (.inr (.inr hr))⟩
 clear hK K h1
 have hx1 : (x : Int) < (o.n : Int) := by omega
 have hx0 : (0 : Int) ≤ (x : Int) := by omega
 try walk_nrm
 repeat ((first | ((with_reducible refine g_opG ?_); first | (refine g_unw hD rfl rfl ?_; intro _ h₁; replace hF := rl hF h₁; clear h₁; walk_nrm) | (refine Goes.step rfl ?_; intro _ h₁; replace hF := rl hF h₁; clear h₁; refine goes_oper_k rfl rfl (by k_ne) fun K hK => ?_; go_simp; refine hK _ _ ⟨?_, ?_⟩; (focus (refine g_idle hD ?_; intro e he; have hm := mem_listed he; simp [go_sem, *] at hm; done)); clear hK K; try w_num)) | ((first | ((with_reducible refine g_c (k' := ?_) true true hD ?_ ?_); rotate_left; focus exact rfl) | with_reducible refine g_r hD rfl ?_); intro _ h₁; replace hF := rl hF h₁; clear h₁)))
 refine (to_add (B := o.bc) (y := x) (d := 1) hD hF rl rfl rfl (by decide) rfl rfl rfl fun w hF => ?_).mono (by omega)
 exact hS.out _ _ hF ⟨rfl, rfl, rfl, rfl, rfl⟩
set_option maxRecDepth 100000 in
theorem on_s3b {Stop : Goroutine → World → Prop} {T : Array Value} {c m : Int} (hT : OTm o e6 n c m T) (hF : F w) (rl : ∀ {w w₁ : World}, F w → KR 66 Wg own Got Rd w w₁ → F w₁) (hS : ∀ T w, F w → OTc o e6 n c T → Stop (gLoad o T cs) w) :
   Goes Try.prog false (KR 66 Wg own Got Rd) (KD Wg own Got Rd) Stop 80 (G (fr25b ⟨o.bm, 0, none⟩ m c false) ((base 23).at ⟨T, []⟩ (.inRegion (cO (cF (cS bd23))) [6, 7] :: .code (cS (cS bd23)) :: kl23) :: cs)) w := by
 have hD : ∀ w, KD Wg own Got Rd w w #[] := fun w => Gua.idle w
 obtain ⟨⟨⟨hs, t0, t1, t2, t3⟩, t6⟩, t13⟩ := hT
 obtain ⟨v0, v1, v2, v3, v4, v5, v6, v7, v8, v9, v10, v11, v12, v13, v14, v15, v16, v17, v18, v19, v20, v21, v22, v23, rfl⟩ := array24 T hs
 simp only [List.getElem?_toArray, List.getElem?_cons_zero, List.getElem?_cons_succ, Option.some.injEq] at t0 t1 t2 t3 t6 t13
 subst t0 t1 t2 t3 t6 t13
 clear hs
 simp only [gLoad, tl23, lp23, bd23, kl23, cS, cF, cI, cO, body23, Try.f23, Option.getD_some] at hS ⊢
 replace hS := Hd.mk hS
 refine (from_cas hD hF rl rfl (m := 68) fun w hF => ?_).mono (by omega)
 walk_nrm
 repeat ((first | ((with_reducible refine g_opG ?_); first | (refine g_unw hD rfl rfl ?_; intro _ h₁; replace hF := rl hF h₁; clear h₁; walk_nrm) | (refine Goes.step rfl ?_; intro _ h₁; replace hF := rl hF h₁; clear h₁; refine goes_oper_k rfl rfl (by k_ne) fun K hK => ?_; go_simp; refine hK _ _ ⟨?_, ?_⟩; (focus (refine g_idle hD ?_; intro e he; have hm := mem_listed he; simp [go_sem, *] at hm; done)); clear hK K; try w_num)) | ((first | ((with_reducible refine g_c (k' := ?_) true true hD ?_ ?_); rotate_left; focus exact rfl) | with_reducible refine g_r hD rfl ?_); intro _ h₁; replace hF := rl hF h₁; clear h₁)))
 refine (to_load (B := o.bm) (y := 0) hD hF rl rfl rfl (by decide) rfl rfl fun w hF => ?_).mono (by omega)
 exact hS.out _ _ hF ⟨⟨rfl, rfl, rfl, rfl, rfl⟩, rfl⟩
set_option maxRecDepth 100000 in
theorem on_s4 {Stop : Goroutine → World → Prop} {T : Array Value} {x : Nat} {c : Int} (hT : OT o e6 n T) (hF : F w) (rl : ∀ {w w₁ : World}, F w → KR 66 Wg own Got Rd w w₁ → F w₁) (hS : ∀ T w, F w → OT o e6 n T → Stop (gSub o T cs) w) :
   Goes Try.prog false (KR 66 Wg own Got Rd) (KD Wg own Got Rd) Stop 60 (G (fr22b ⟨o.bc, x, none⟩ 1 c) ((base 23).at ⟨T, []⟩ (.inRegion (cO (cF (tl23 3))) [3] :: [.code (tl23 4)]) :: cs)) w := by
 have hD : ∀ w, KD Wg own Got Rd w w #[] := fun w => Gua.idle w
 obtain ⟨hs, t0, t1, t2, t3⟩ := hT
 obtain ⟨v0, v1, v2, v3, v4, v5, v6, v7, v8, v9, v10, v11, v12, v13, v14, v15, v16, v17, v18, v19, v20, v21, v22, v23, rfl⟩ := array24 T hs
 simp only [List.getElem?_toArray, List.getElem?_cons_zero, List.getElem?_cons_succ, Option.some.injEq] at t0 t1 t2 t3
 subst t0 t1 t2 t3
 clear hs
 simp only [gSub, tl23, lp23, bd23, kl23, cS, cF, cI, cO, body23, Try.f23, Option.getD_some] at hS ⊢
 replace hS := Hd.mk hS
 refine (from_add hD hF rl rfl (m := 48) fun w hF => ?_).mono (by omega)
 walk_nrm
 repeat ((first | ((with_reducible refine g_opG ?_); first | (refine g_unw hD rfl rfl ?_; intro _ h₁; replace hF := rl hF h₁; clear h₁; walk_nrm) | (refine Goes.step rfl ?_; intro _ h₁; replace hF := rl hF h₁; clear h₁; refine goes_oper_k rfl rfl (by k_ne) fun K hK => ?_; go_simp; refine hK _ _ ⟨?_, ?_⟩; (focus (refine g_idle hD ?_; intro e he; have hm := mem_listed he; simp [go_sem, *] at hm; done)); clear hK K; try w_num)) | ((first | ((with_reducible refine g_c (k' := ?_) true true hD ?_ ?_); rotate_left; focus exact rfl) | with_reducible refine g_r hD rfl ?_); intro _ h₁; replace hF := rl hF h₁; clear h₁)))
 refine (to_add (B := o.bn) (y := 0) (d := -1) hD hF rl rfl rfl (by decide) rfl rfl rfl fun w hF => ?_).mono (by omega)
 exact hS.out _ _ hF ⟨rfl, rfl, rfl, rfl, rfl⟩
set_option maxRecDepth 100000 in
theorem on_s5 {Stop : Goroutine → World → Prop} {T : Array Value} {c : Int} {b : Frame} {a : Act} {ops : Array Oper} {i : Nat} {rest : List Nat} {k : List Item} {op : Oper} (hT : OT o e6 n T) (hF : F w) (rl : ∀ {w w₁ : World}, F w → KR 66 Wg own Got Rd w w₁ → F w₁) (ho : ops[i]? = some op)
   (hS : ∀ w, F w → Stop (G (b.at (a.put op.dst (.int .i64 n)) (.inRegion ops rest :: k)) cs) w) :
   Goes Try.prog false (KR 66 Wg own Got Rd) (KD Wg own Got Rd) Stop 60 (G (fr22b ⟨o.bn, 0, none⟩ (-1) c) ((base 23).at ⟨T, []⟩ (.inRegion (cO (cF (tl23 4))) [0] :: [.code (tl23 5)]) :: b.at a (.inRegion ops (i :: rest) :: k) :: cs)) w := by
 have hD : ∀ w, KD Wg own Got Rd w w #[] := fun w => Gua.idle w
 obtain ⟨hs, t0, t1, t2, t3⟩ := hT
 obtain ⟨v0, v1, v2, v3, v4, v5, v6, v7, v8, v9, v10, v11, v12, v13, v14, v15, v16, v17, v18, v19, v20, v21, v22, v23, rfl⟩ := array24 T hs
 simp only [List.getElem?_toArray, List.getElem?_cons_zero, List.getElem?_cons_succ, Option.some.injEq] at t0 t1 t2 t3
 subst t0 t1 t2 t3
 clear hs
 replace hS := Hd.mk hS
 simp only [tl23, lp23, bd23, kl23, cS, cF, cI, cO, body23, Try.f23, Option.getD_some]
 refine (from_add hD hF rl rfl (m := 48) fun w hF => ?_).mono (by omega)
 walk_nrm
 repeat ((first | ((with_reducible refine g_opG ?_); first | (refine g_unw hD rfl rfl ?_; intro _ h₁; replace hF := rl hF h₁; clear h₁; walk_nrm) | (refine Goes.step rfl ?_; intro _ h₁; replace hF := rl hF h₁; clear h₁; refine goes_oper_k rfl rfl (by k_ne) fun K hK => ?_; go_simp; refine hK _ _ ⟨?_, ?_⟩; (focus (refine g_idle hD ?_; intro e he; have hm := mem_listed he; simp [go_sem, *] at hm; done)); clear hK K; try w_num)) | ((first | ((with_reducible refine g_c (k' := ?_) true true hD ?_ ?_); rotate_left; focus exact rfl) | with_reducible refine g_r hD rfl ?_); intro _ h₁; replace hF := rl hF h₁; clear h₁)))
 (refine Goes.step rfl (fun _ h₁ => ?_); replace hF := rl hF h₁; clear h₁)
 refine goes_leave1 rfl rfl Try.func23 rfl ⟨by exact hD _, ?_⟩
 rw [ho]
 exact Goes.stop fun w₁ h₁ => hS.out _ (rl hF h₁)
end
def InN (q : MpP) (o : OP) : Nat → (Nat → Prop) → KS × OA → Cells → (Nat → Prop) → Goroutine → World → Prop
 | 0, _, _, _, _, _, _ => False
 | k + 1, own, s, Got, Rd, g, w => g.status = .running ∧ ∀ b y v, OA.isA o s.2 = some (b, y) → (∀ x, ¬ keepK own Got Rd b x) → b ≠ q.Wg → s.2.okAt v → w.cell? ⟨b, y, none⟩ = some v →
   ∃ g', stepG Try.prog false g w = .go g' (atomW w b y (s.2.put v)) (atomE b y (s.2.put v)) ∧
     Goo Try.prog false own (KR 66 q.Wg own Got Rd) (KD q.Wg own Got Rd) (fun g w => match OA.isA o (s.2.turn v) with | none => q.Kid own s.1 Got Rd g w | some _ => InN q o k own (s.1, s.2.turn v) Got Rd g w) 300 g' (atomW w b y (s.2.put v))
def InO (q : MpP) (o : OP) (own : Nat → Prop) (s : KS × o.lay.A) (Got : Cells) (Rd : Nat → Prop) (g : Goroutine) (w : World) : Prop := ∃ k, InN q o k own s Got Rd g w
structure OnceQ (q : MpP) (o : OP) (e6 : Nat) : Prop where
 ok : MpOK q
 fv : q.fv = onceV o e6
 phi : ∀ n, q.phi n = n
 xf : ∀ w, q.Xf w → OX o e6 w
 sx : q.Sx e6
 fuel : 100 ≤ q.nfuel
 okN : ∀ n, q.okN n → 0 ≤ n ∧ n < o.n
section
variable {q : MpP} {o : OP} {e6 : Nat} {own : Nat → Prop} {Got : Cells} {Rd : Nat → Prop} {e8 e4 c bj p x best : Nat} {l : List Nat} {s' : KS} {got : List Value} {b : Frame} {a : Act} {ops : Array Oper} {i : Nat} {rest : List Nat} {k : List Item} {op : Oper} {cs : List Frame} {m : Nat}
theorem InO.inner : ∀ y, FleshJ q y → ∀ own (s : KS × o.lay.A) Got Rd g w, o.lay.isA s.2 ≠ none → InO q o own s Got Rd g w → KStop Try.prog 66 q.Wg (q.pp.netA o.lay (InO q o) y) own s Got Rd g w := by
 rintro y hy own ⟨s, a⟩ Got Rd g w hne ⟨k, h⟩
 cases k with
 | zero => exact h.elim
 | succ k =>
   obtain ⟨hr, h⟩ := h
   obtain ⟨⟨b, z⟩, hia⟩ := Option.ne_none_iff_exists'.1 hne
   have hact : (q.pp.netA o.lay (InO q o) y).act (s, a) = .atom b z := by
     show PP.actA o.lay (s, a) = _
     unfold PP.actA
     rw [show o.lay.isA (s, a).2 = some (b, z) from hia]
   refine ⟨hr, ?_⟩
   rw [hact]
   intro hK hb v hok hc
   obtain ⟨g', hgo, hr'⟩ := h b z v hia hK hb hok hc
   refine ⟨g', hgo, ?_⟩
   refine Goo.mono (Goo.imp (fun g w hh => ?_) hr') (by show 300 ≤ y.fuel; have := hy.fuel; omega)
   show (match o.lay.isA (o.lay.turn a v) with | none => y.Kid own s Got Rd g w | some _ => InO q o own (s, o.lay.turn a v) Got Rd g w)
   rw [hy.kid]
   have e : o.lay.isA (o.lay.turn a v) = OA.isA o (OA.turn a v) := rfl
   rw [e]
   replace hh : (match OA.isA o (OA.turn a v) with | none => q.Kid own s Got Rd g w | some _ => InN q o k own (s, OA.turn a v) Got Rd g w) := hh
   cases hi : OA.isA o (OA.turn a v) with
   | none => rw [hi] at hh; exact hh
   | some _ => rw [hi] at hh; exact ⟨k, hh⟩
abbrev FW (q : MpP) (own : Nat → Prop) (Got : Cells) (Rd : Nat → Prop) (e8 e4 c : Nat) (got : List Value) (bj : Nat) (n : Int) (p : Nat) : World → Prop := WkJ own Got Rd q.Wg e8 e4 c q.fv (q.X Got got) bj n p
def Back (q : MpP) (own : Nat → Prop) (s' : KS) (Got : Cells) (Rd : Nat → Prop) (F : World → Prop) (b : Frame) (a : Act) (op : Oper) (ops : Array Oper) (rest : List Nat) (k : List Item) (cs : List Frame) (n : Int) (m : Nat) : Prop :=
 ∀ w', F w' → Goo Try.prog false own (KR 66 q.Wg own Got Rd) (KD q.Wg own Got Rd) (q.Kid own s' Got Rd) m (G (b.at (a.put op.dst (.int .i64 n)) (.inRegion ops rest :: k)) cs) w'
theorem in_sub (hq : OnceQ q o e6) (hs : ∀ b, q.Sx b → Rd b) {w : World} {T : Array Value} {N : Nat} (hT : OT o e6 x T) (hF : FW q own Got Rd e8 e4 c got bj x p w) (ho : ops[i]? = some op) (hm : m ≤ 200)
   (hK : Back q own s' Got Rd (FW q own Got Rd e8 e4 c got bj x p) b a op ops rest k cs x m) : InN q o (N + 1) own (s', ⟨.sub, x, best, l⟩) Got Rd (gSub o T (b.at a (.inRegion ops (i :: rest) :: k) :: cs)) w := by
 refine ⟨rfl, fun B Y v hia hno hne hok hc => ?_⟩
 obtain ⟨rfl, rfl⟩ : o.bn = B ∧ 0 = Y := by simpa [OA.isA] using hia
 obtain ⟨k0, rfl, hk0⟩ := hok
 replace hk0 : 1 ≤ k0 ∧ k0 ≤ 16 := hk0
 obtain ⟨cc, hcc⟩ := (hq.xf _ hF.f.x.1).tn
 have hw : IntKind.i32.wrap ((k0 : Int) + -1) = (k0 : Int) - 1 := by rw [IntKind.wrap_i32]; omega
 have hst := step_add (main := false) (cs := (base 23).at ⟨T, []⟩ (.inRegion (cO (cF (tl23 4))) [0] :: [.code (tl23 5)]) :: b.at a (.inRegion ops (i :: rest) :: k) :: cs) (d := -1) hc (frozen_of hcc 0)
 rw [hw] at hst
 refine ⟨_, hst, ?_⟩
 have hF' : FW q own Got Rd e8 e4 c got bj x p (atomW w o.bn 0 (OA.put ⟨.sub, x, best, l⟩ (i32 k0))) := hF.rely (MpP.firm hq.ok hs) (rel_atom hno hne)
 refine Goo.mono (Goo.bind KR.refl' (m := m) (fun g w h => h) (Goo.of_goes (on_s5 (Stop := fun g w => Goo Try.prog false own (KR 66 q.Wg own Got Rd) (KD q.Wg own Got Rd) (q.Kid own s' Got Rd) m g w) hT hF' (fun h r => h.rely (MpP.firm hq.ok hs) r) ho fun w' hw' => hK w' hw'))) (by omega)
theorem in_cnt (hq : OnceQ q o e6) (hs : ∀ b, q.Sx b → Rd b) {w : World} {T : Array Value} {N : Nat} (hT : OT o e6 x T) (hF : FW q own Got Rd e8 e4 c got bj x p w) (ho : ops[i]? = some op) (hm : m ≤ 200)
   (hK : Back q own s' Got Rd (FW q own Got Rd e8 e4 c got bj x p) b a op ops rest k cs x m) : InN q o (N + 2) own (s', ⟨.cnt, x, best, l⟩) Got Rd (gCnt o x T (b.at a (.inRegion ops (i :: rest) :: k) :: cs)) w := by
 refine ⟨rfl, fun B Y v hia hno hne hok hc => ?_⟩
 obtain ⟨rfl, rfl⟩ : o.bc = B ∧ x = Y := by simpa [OA.isA] using hia
 obtain ⟨k0, rfl, hk0⟩ := hok
 replace hk0 : k0 < 1000 := hk0
 obtain ⟨cc, hcc, _⟩ := (hq.xf _ hF.f.x.1).tc
 have hw : IntKind.i32.wrap ((k0 : Int) + 1) = (k0 : Int) + 1 := by rw [IntKind.wrap_i32]; omega
 have hst := step_add (main := false) (cs := (base 23).at ⟨T, []⟩ (.inRegion (cO (cF (tl23 3))) [3] :: [.code (tl23 4)]) :: b.at a (.inRegion ops (i :: rest) :: k) :: cs) (d := 1) hc (frozen_of hcc x)
 rw [hw] at hst
 refine ⟨_, hst, ?_⟩
 have hF' : FW q own Got Rd e8 e4 c got bj x p (atomW w o.bc x (OA.put ⟨.cnt, x, best, l⟩ (i32 k0))) := hF.rely (MpP.firm hq.ok hs) (rel_atom hno hne)
 refine Goo.mono (Goo.of_goes (on_s4 hT hF' (fun h r => h.rely (MpP.firm hq.ok hs) r) fun T' w' hw' hT' => ?_)) (by omega)
 exact in_sub hq hs hT' hw' ho hm hK
theorem in_loop (hq : OnceQ q o e6) (hs : ∀ b, q.Sx b → Rd b) (hx : x < o.n) (ho : ops[i]? = some op) (hm : m ≤ 200) (hK : Back q own s' Got Rd (FW q own Got Rd e8 e4 c got bj x p) b a op ops rest k cs x m) : ∀ N,
   (∀ (w : World) (T : Array Value) (cc lb : Nat), 38 - 2 * lb + 3 ≤ N → OTc o e6 x cc T → FW q own Got Rd e8 e4 c got bj x p w → InN q o N own (s', ⟨.load cc lb, x, best, l⟩) Got Rd (gLoad o T (b.at a (.inRegion ops (i :: rest) :: k) :: cs)) w) ∧
   ∀ (w : World) (T : Array Value) (cc mm : Nat), 37 - 2 * mm + 3 ≤ N → OTm o e6 x cc mm T → FW q own Got Rd e8 e4 c got bj x p w → InN q o N own (s', ⟨.cas cc mm, x, best, l⟩) Got Rd (gCas o cc mm T (b.at a (.inRegion ops (i :: rest) :: k) :: cs)) w := by
 have rl : ∀ {w w₁ : World}, FW q own Got Rd e8 e4 c got bj x p w → KR 66 q.Wg own Got Rd w w₁ → FW q own Got Rd e8 e4 c got bj x p w₁ := fun h r => h.rely (MpP.firm hq.ok hs) r
 have hO : ∀ w, FW q own Got Rd e8 e4 c got bj x p w → OX o e6 w := fun w h => hq.xf _ h.f.x.1
 intro N
 induction N with
 | zero => exact ⟨fun _ _ _ _ h => by omega, fun _ _ _ _ h => by omega⟩
 | succ N ih =>
   obtain ⟨ih1, ih2⟩ := ih
   refine ⟨fun w T cc lb hN hT hF => ⟨rfl, fun B Y v hia hno hne hok hc => ?_⟩, fun w T cc mm hN hT hF => ⟨rfl, fun B Y v hia hno hne hok hc => ?_⟩⟩
   · obtain ⟨rfl, rfl⟩ : o.bm = B ∧ 0 = Y := by simpa [OA.isA] using hia
     obtain ⟨k0, rfl, hk0⟩ := hok
     replace hk0 : lb ≤ k0 ∧ k0 ≤ 16 ∧ cc ≤ 16 := hk0
     refine ⟨_, step_load hc, ?_⟩
     have hF' : FW q own Got Rd e8 e4 c got bj x p (atomW w o.bm 0 (OA.put ⟨.load cc lb, x, best, l⟩ (i32 k0))) := hF
     by_cases hle : (cc : Int) ≤ (k0 : Int)
     · have et : OA.turn ⟨.load cc lb, x, best, l⟩ (i32 k0) = ⟨.cnt, x, best, l⟩ := if_pos hle
       obtain ⟨N', rfl⟩ : ∃ N', N = N' + 2 := ⟨N - 2, by omega⟩
       refine Goo.mono (Goo.of_goes (on_s2a hT hF' rl hO (hs _ hq.sx) hx hle fun T' w' hw' hT' => ?_)) (by omega)
       show (match OA.isA o (OA.turn ⟨.load cc lb, x, best, l⟩ (i32 k0)) with | none => _ | some _ => InN q o (N' + 2) own (s', OA.turn ⟨.load cc lb, x, best, l⟩ (i32 k0)) Got Rd _ _)
       rw [et]
       exact in_cnt hq hs hT' hw' ho hm hK
     · have et : OA.turn ⟨.load cc lb, x, best, l⟩ (i32 k0) = ⟨.cas cc k0, x, best, l⟩ := if_neg hle
       refine Goo.mono (Goo.of_goes (on_s2b hT hF' rl hle fun T' w' hw' hT' => ?_)) (by omega)
       show (match OA.isA o (OA.turn ⟨.load cc lb, x, best, l⟩ (i32 k0)) with | none => _ | some _ => InN q o N own (s', OA.turn ⟨.load cc lb, x, best, l⟩ (i32 k0)) Got Rd _ _)
       rw [et]
       exact ih2 w' T' cc k0 (by omega) hT' hw'
   · obtain ⟨rfl, rfl⟩ : o.bm = B ∧ 0 = Y := by simpa [OA.isA] using hia
     obtain ⟨k0, rfl, hk0⟩ := hok
     replace hk0 : mm ≤ k0 ∧ k0 ≤ 16 ∧ mm < cc ∧ cc ≤ 16 := hk0
     obtain ⟨ct, hct⟩ := (hO _ hF).tm
     by_cases he : (k0 : Int) = (mm : Int)
     · obtain rfl : k0 = mm := by omega
       have et : OA.turn ⟨.cas cc k0, x, best, l⟩ (i32 k0) = ⟨.cnt, x, cc, l⟩ := if_pos rfl
       have ep : OA.put ⟨.cas cc k0, x, best, l⟩ (i32 k0) = some (i32 cc) := if_pos rfl
       have hF' : FW q own Got Rd e8 e4 c got bj x p (atomW w o.bm 0 (some (i32 cc))) := rl hF (rel_atom hno hne)
       obtain ⟨N', rfl⟩ : ∃ N', N = N' + 2 := ⟨N - 2, by omega⟩
       show ∃ g', stepG Try.prog false _ w = .go g' (atomW w o.bm 0 (OA.put ⟨.cas cc k0, x, best, l⟩ (i32 k0))) (atomE o.bm 0 (OA.put ⟨.cas cc k0, x, best, l⟩ (i32 k0))) ∧ Goo Try.prog false own _ _ _ 300 g' (atomW w o.bm 0 (OA.put ⟨.cas cc k0, x, best, l⟩ (i32 k0)))
       rw [ep]
       refine ⟨_, step_hit hc (frozen_of hct 0), ?_⟩
       refine Goo.mono (Goo.of_goes (on_s3a hT hF' rl hO (hs _ hq.sx) hx fun T' w' hw' hT' => ?_)) (by omega)
       show (match OA.isA o (OA.turn ⟨.cas cc k0, x, best, l⟩ (i32 k0)) with | none => _ | some _ => InN q o (N' + 2) own (s', OA.turn ⟨.cas cc k0, x, best, l⟩ (i32 k0)) Got Rd _ _)
       rw [et]
       exact in_cnt hq hs hT' hw' ho hm hK
     · have et : OA.turn ⟨.cas cc mm, x, best, l⟩ (i32 k0) = ⟨.load cc (mm + 1), x, best, l⟩ := if_neg he
       have ep : OA.put ⟨.cas cc mm, x, best, l⟩ (i32 k0) = none := if_neg he
       show ∃ g', stepG Try.prog false _ w = .go g' (atomW w o.bm 0 (OA.put ⟨.cas cc mm, x, best, l⟩ (i32 k0))) (atomE o.bm 0 (OA.put ⟨.cas cc mm, x, best, l⟩ (i32 k0))) ∧ Goo Try.prog false own _ _ _ 300 g' (atomW w o.bm 0 (OA.put ⟨.cas cc mm, x, best, l⟩ (i32 k0)))
       rw [ep]
       refine ⟨_, step_miss hc (frozen_of hct 0) he, ?_⟩
       refine Goo.mono (Goo.of_goes (on_s3b hT (hF : FW q own Got Rd e8 e4 c got bj x p (atomW w o.bm 0 none)) rl fun T' w' hw' hT' => ?_)) (by omega)
       show (match OA.isA o (OA.turn ⟨.cas cc mm, x, best, l⟩ (i32 k0)) with | none => _ | some _ => InN q o N own (s', OA.turn ⟨.cas cc mm, x, best, l⟩ (i32 k0)) Got Rd _ _)
       rw [et]
       exact ih1 w' T' cc (mm + 1) (by omega) hT' hw'
theorem in_add1 (hq : OnceQ q o e6) (hs : ∀ b, q.Sx b → Rd b) (hx : x < o.n) {w : World} {T : Array Value} (hT : OT o e6 x T) (hF : FW q own Got Rd e8 e4 c got bj x p w) (ho : ops[i]? = some op) (hm : m ≤ 200)
   (hK : Back q own s' Got Rd (FW q own Got Rd e8 e4 c got bj x p) b a op ops rest k cs x m) : InN q o 50 own (s', ⟨.add1, x, best, l⟩) Got Rd (gAdd1 o T (b.at a (.inRegion ops (i :: rest) :: k) :: cs)) w := by
 refine ⟨rfl, fun B Y v hia hno hne hok hc => ?_⟩
 obtain ⟨rfl, rfl⟩ : o.bn = B ∧ 0 = Y := by simpa [OA.isA] using hia
 obtain ⟨k0, rfl, hk0⟩ := hok
 replace hk0 : k0 < 16 := hk0
 obtain ⟨cc, hcc⟩ := (hq.xf _ hF.f.x.1).tn
 have hw : IntKind.i32.wrap ((k0 : Int) + 1) = (k0 : Int) + 1 := by rw [IntKind.wrap_i32]; omega
 have hst := step_add (main := false) (cs := (base 23).at ⟨T, []⟩ (.inRegion (cO (cF (tl23 1))) [0, 1] :: [.code (tl23 2)]) :: b.at a (.inRegion ops (i :: rest) :: k) :: cs) (d := 1) hc (frozen_of hcc 0)
 rw [hw] at hst
 refine ⟨_, hst, ?_⟩
 have hF' : FW q own Got Rd e8 e4 c got bj x p (atomW w o.bn 0 (OA.put ⟨.add1, x, best, l⟩ (i32 k0))) := hF.rely (MpP.firm hq.ok hs) (rel_atom hno hne)
 refine Goo.mono (Goo.of_goes (on_s1 (c := ((k0 + 1 : Nat) : Int)) hT hF' (fun h r => h.rely (MpP.firm hq.ok hs) r) fun T' w' hw' hT' => ?_)) (by omega)
 exact (in_loop hq hs hx ho hm hK 49).1 w' T' (k0 + 1) 0 (by omega) hT' hw'
theorem once_kid (hq : OnceQ q o e6) : KidOK q o.lay (InO q o) where
 calls own s a Got Rd n p e8 e4 hia he hn hs hnp hold := by
   intro bj w hF ac ops i rest k op y z ats h1 h2 h3 h4 h5 m hm hK
   obtain ⟨hn0, hn1⟩ := hq.okN n hn
   obtain ⟨x, rfl⟩ : ∃ x : Nat, n = x := ⟨n.toNat, by omega⟩
   rw [hq.phi] at hK
   refine Goo.mono (Goo.of_goes (on_enter (n := x) (o := o) (e6 := e6) (cs := [bot]) hF (fun h r => h.rely (MpP.firm hq.ok hs) r) h1 h2 (by decide) h3 (h4.trans hq.fv) h5 fun T w' hw' hT => ?_)) (by have := hq.fuel; omega)
   have hin := in_add1 (s' := q.pp.gotS s (jobV x p)) (best := OA.best a) (l := OA.cnt a) hq hs (by omega) hT hw' h1 hm hK
   show InO q o own (q.pp.gotS s (jobV x p), (⟨.add1, x, OA.best a, OA.cnt a⟩ : OA)) Got Rd _ w'
   exact ⟨50, hin⟩
 inner := InO.inner
end
end Go.Proofs.Ytblpmdolclalnaa
