/- The protocol of a chain: the closing of a channel, the hiring, progress, measures. The net of a chain: what is left to show of a program that goes by the protocol. A goroutine's own steps at a range over a function: the statement, yield's call, a round's beginning and end, the statement's end; and the moves within a round's frame. Where each goroutine of the net stands, and .. -/
import Derived.Test.YtblpmdolclalnaaQ02
import Derived.RangeFuncRecord
import Derived.RangeFuncLeaves
import Derived.AtR
import Derived.Conc.Own4
import Derived.Conc.Events
set_option maxHeartbeats 16000000
set_option linter.unusedSimpArgs false
set_option linter.unusedVariables false
namespace Go.Proofs.Ytblpmdolclalnaa
open Go.Conc
open Go.ConcN (upd upd_same upd_ne)
namespace PP
variable {pp : PP} {m : MS} {j : Nat} {f f' : Nat → KS} {cl : Nat → Option Bool}
theorem Inv.mshut (h : pp.Inv m j f cl) (hKp : 0 < pp.nf + pp.K) {c : Nat} (hs : pp.mact m = .shut c) :
   cl c = some false ∧ (∀ i v, i < j → act (f i) ≠ .send c v) ∧ ∀ m', pp.succ m m' → pp.Inv m' j f (upd cl c (some true)) := by
 obtain ⟨rfl, l, rfl⟩ := mact_shut hs
 have hj := h.all (fun _ _ _ _ x => by cases x)
 have hz := h.cz
 rw [if_neg (by omega)] at hz
 refine ⟨hz, fun i v hi x => ?_, fun m' hm' => ?_⟩
 · obtain ⟨p1, c1⟩ := act_send x
   exact h.c0_ne hi (h.send_lt hi p1) c1.symm
 · cases hm'
   refine ⟨fun _ _ _ _ x => (by cases x), fun _ => hj, h.le, fun _ _ _ _ x => (by cases x), h.kd, h.ins, h.up, ?_, fun i hi hif => ?_, fun c hc hn => ?_, fun i hi x => ?_, h.sink, h.snd, h.len, fun _ _ x => (by cases x), h.gots, h.data1, h.data2⟩
   · rw [upd_same, if_neg (by omega)]; rfl
   · rw [upd_ne _ _ (Ne.symm (h.c0_ne hi hif))]; exact h.cs i hi hif
   · rw [upd_ne _ _ hc]; exact h.cn c hc hn
   · rcases Decidable.em ((f i).cin = pp.c0) with e | e
     · rw [e, upd_same]
     · rw [upd_ne _ _ e]; exact h.shutd i hi x
theorem Inv.kshut (h : pp.Inv m j f cl) {c i : Nat} (hi : i < j) (hs : act (f i) = .shut c) :
   cl c = some false ∧ (∀ k v, k < j → act (f k) ≠ .send c v) ∧ (∀ v, pp.mact m ≠ .send c v) ∧ pp.Inv m j (upd f i (nextS (f i))) (upd cl c (some true)) := by
 obtain ⟨p1, c1⟩ := act_shut hs
 have hif := h.shut_lt hi p1
 have hm := h.not_hire hi (by rw [p1]; simp)
 have hz := h.cs i hi hif
 rw [p1, c1] at hz
 have inj : ∀ k, k < j → k < pp.nf → (f k).cout = (f i).cout → k = i := fun k hk hkf e => by
   have := h.inj (a := k + 1) (b := i + 1) (by omega) (by omega) (by omega) (by omega) e
   omega
 refine ⟨hz, fun k v hk x => ?_, fun v x => ?_, ?_⟩
 · obtain ⟨p2, c2⟩ := act_send x
   have := inj k hk (h.send_lt hk p2) (c2.trans c1.symm)
   subst this
   rw [p1] at p2; cases p2
 · have := (mact_send x).1
   exact h.c0_ne hi hif (this.symm.trans c1.symm)
 · have pi : (nextS (f i)).ph = .done := by simp [nextS, p1]
   have key : ∀ (b : Nat) (C : KS → Prop), (b = i → C (nextS (f i))) → (b ≠ i → C (f b)) → C (upd f i (nextS (f i)) b) := fun b C h1 h2 => by
     rcases Decidable.em (b = i) with e | e
     · subst e; rw [upd_same]; exact h1 rfl
     · rw [upd_ne _ _ e]; exact h2 e
   have cou : ∀ b, (upd f i (nextS (f i)) b).cout = (f b).cout := upd_cout rfl
   have cii : ∀ b, (upd f i (nextS (f i)) b).cin = (f b).cin := fun b => key b (fun s => s.cin = (f b).cin) (fun e => by rw [e]; rfl) (fun _ => rfl)
   have st : ∀ b, b ≤ pp.nf → pp.stream (sent m) (upd f i (nextS (f i))) b = pp.stream (sent m) f b := fun b hb => by
     cases b with
     | zero => rfl
     | succ b =>
       simp only [stream]
       refine key b (fun s => pp.outs b s = pp.outs b (f b)) (fun e => ?_) (fun _ => rfl)
       subst e
       simp [outs, p1, pi]
   refine { cnt := fun _ _ _ _ x => absurd x (hm _ _ _ _), all := h.all, le := h.le, idle := fun _ _ _ _ x => absurd x (hm _ _ _ _), kd := ?_, ins := ?_, up := ?_, cz := ?_, cs := ?_, cn := ?_, shutd := ?_, sink := ?_, snd := ?_, len := h.len, msg := h.msg, gots := ?_, data1 := ?_, data2 := ?_ }
   · exact fun b hb => key b (fun s => s.kd = b) (fun e => by rw [e]; exact h.kd i hi) (fun _ => h.kd b hb)
   · exact fun b hb => by rw [cii, chIn_congr cou]; exact h.ins b hb
   · exact fun b hb hbf => by rw [chIn_congr cou, chIn_congr cou]; exact h.up b hb hbf
   · rw [upd_ne _ _ (by rw [← c1]; exact h.c0_ne hi hif)]; exact h.cz
   · intro b hb hbf
     rw [cou]
     rcases Decidable.em (b = i) with e | e
     · subst e; rw [c1, upd_same, upd_same, pi]; rfl
     · rw [upd_ne _ _ e, upd_ne _ _ (fun x => e (inj b hb hbf (x.trans c1.symm)))]
       exact h.cs b hb hbf
   · intro d hd hn
     rw [upd_ne _ _ (fun x => hn i hi hif (by rw [cou]; exact x.trans c1.symm))]
     exact h.cn d hd fun b hb hbf => by rw [← cou]; exact hn b hb hbf
   · intro b hb hx
     rw [cii]
     rcases Decidable.em ((f b).cin = c) with e | e
     · rw [e, upd_same]
     · rw [upd_ne _ _ e]
       revert hx
       exact key b (fun s => s.ph = .shut ∨ s.ph = .done → cl (f b).cin = some true) (fun e _ => by rw [e]; exact h.shutd i hi (.inl p1)) (fun _ => h.shutd b hb)
   · exact fun b hb hbf => key b (fun s => s.ph = .recv ∨ s.ph = .done) (fun e => by omega) (fun _ => h.sink b hb hbf)
   · exact fun b y hb => key b (fun s => s.ph = .send y → ∃ l x, s.got = l ++ [x] ∧ y = pp.phi b x) (fun e => by rw [pi]; simp) (fun _ => h.snd b y hb)
   · exact fun b hb => key b (fun s => s.got.length ≤ (sent m).length ∧ ∀ x ∈ s.got, pp.okV x) (fun _ => h.gots i hi) (fun _ => h.gots b hb)
   · intro b hb hx
     rw [st _ (by omega)]
     refine key b (fun s => s.got = pp.stream (sent m) f (min b pp.nf)) (fun e => ?_) (fun _ => h.data1 b hb hx)
     subst e
     exact h.data1 b hi hx
   · intro h0; omega
theorem Inv.hire (h : pp.Inv m j f cl) (hK : pp.nf = 0 ∨ pp.K = 1) (hs : pp.mact m = .hire) :
   (∀ i, i < j → act (f i) ≠ .done) ∧ ∀ m', pp.succ m m' → pp.Inv m' (j + 1) (upd f j (hireS m)) (fun c => if c ∈ pp.hireChs m then some false else cl c) := by
 obtain ⟨p, ci, co, e, rfl⟩ := mact_hire hs
 obtain ⟨rfl, hp, hci, hco⟩ := h.cnt _ _ _ _ rfl
 have hid := h.idle _ _ _ _ rfl
 refine ⟨fun i hi x => ?_, fun m' hm' => ?_⟩
 · have := act_done x
   rw [(hid i hi).1] at this; cases this
 have fo : ∀ i, i < p → upd f p (hireS (.hire p ci co e)) i = f i := fun i hi => upd_ne _ _ (by omega)
 have fn : upd f p (hireS (.hire p ci co e)) p = ⟨p, ci, co, e, .recv, []⟩ := upd_same _ _ _
 have ch : ∀ s, s ≤ p → pp.chIn (upd f p (hireS (.hire p ci co e))) s = pp.chIn f s := fun s hs => by
   cases s with
   | zero => rfl
   | succ s => simp only [chIn]; rw [fo s (by omega)]
 have chn : pp.chIn (upd f p (hireS (.hire p ci co e))) (p + 1) = co := by simp only [chIn]; rw [fn]
 have hs' : sent m' = [] := by
   rcases hm' with ⟨_, co', e', rfl, _⟩ | ⟨_, ⟨v, rfl, _⟩ | rfl⟩ <;> rfl
 have hw' : isWait m' = false := by
   rcases hm' with ⟨_, co', e', rfl, _⟩ | ⟨_, ⟨v, rfl, _⟩ | rfl⟩ <;> rfl
 have all : ∀ (C : Nat → KS → Prop), (∀ i, i < p → C i (f i)) → C p ⟨p, ci, co, e, .recv, []⟩ → ∀ i, i < p + 1 → C i (upd f p (hireS (.hire p ci co e)) i) := fun C h1 h2 i hi => by
   rcases Nat.lt_or_ge i p with x | x
   · rw [fo i x]; exact h1 i x
   · have : i = p := by omega
     subst this
     rw [fn]; exact h2
 have emp : ∀ i, i < p + 1 → (upd f p (hireS (.hire p ci co e)) i).ph = .recv ∧ (upd f p (hireS (.hire p ci co e)) i).got = [] :=
   all (fun _ s => s.ph = .recv ∧ s.got = []) hid ⟨rfl, rfl⟩
 have mem : ∀ c, c ∈ pp.hireChs (.hire p ci co e) ↔ (p = 0 ∧ c = pp.c0) ∨ (p < pp.nf ∧ c = co) := fun c => by
   simp only [hireChs, List.mem_append]
   refine or_congr ?_ ?_
   · by_cases h0 : p = 0 <;> simp [h0]
   · by_cases h0 : p < pp.nf <;> simp [h0]
 have lt0 : p < pp.nf → pp.chIn f p < co := fun hpf => by have := hco hpf; rw [hci, Nat.min_eq_left (Nat.le_of_lt hpf)] at this; exact this
 have bel : ∀ i, i < p → p < pp.nf → (f i).cout < co := fun i hi hpf => by
   have h1 : pp.chIn f (i + 1) ≤ pp.chIn f p := by
     rcases Nat.lt_or_ge (i + 1) p with x | x
     · exact Nat.le_of_lt (h.mono x (by omega) (by omega))
     · have : i + 1 = p := by omega
       exact Nat.le_of_eq (by rw [this])
   exact Nat.lt_of_le_of_lt h1 (lt0 hpf)
 have c0b : p < pp.nf → pp.c0 < co := fun hpf => by
   rcases Nat.eq_zero_or_pos p with x | x
   · have := lt0 hpf
     rw [x] at this; exact this
   · exact Nat.lt_of_le_of_lt (Nat.le_of_lt (h.mono (a := 0) (b := p) x (by omega) (by omega))) (lt0 hpf)
 refine { cnt := ?_, all := ?_, le := by omega, idle := fun _ _ _ _ _ => emp, kd := all (fun i s => s.kd = i) h.kd rfl, ins := ?_, up := ?_, cz := ?_, cs := ?_, cn := ?_, shutd := ?_, sink := fun i hi _ => .inl (emp i hi).1,
          snd := fun i v hi x => (by rw [(emp i hi).1] at x; cases x), len := by rw [hs']; simp, msg := ?_, gots := fun i hi => (by rw [(emp i hi).2]; simp), data1 := ?_, data2 := ?_ }
 · rintro p2 ci2 co2 e2 rfl
   rcases hm' with ⟨hlt, co', e', x, hx⟩ | ⟨_, ⟨v, x, _⟩ | x⟩
   · cases x
     refine ⟨rfl, hlt, ?_, fun hl => ?_⟩
     · rcases Nat.lt_or_ge p pp.nf with y | y
       · rw [if_pos y, Nat.min_eq_left (by omega), chn]
       · rw [if_neg (by omega)]
         have h0 : pp.nf = 0 := by omega
         rw [h0, Nat.min_zero]; rfl
     · rw [if_pos (by omega)]; exact hx hl
   · cases x
   · cases x
 · intro hn
   rcases hm' with ⟨_, co', e', rfl, _⟩ | ⟨hx, _⟩
   · exact absurd rfl (hn _ _ _ _)
   · omega
 · intro i hi
   rw [ch (min i pp.nf) (by omega)]
   refine all (fun i s => s.cin = pp.chIn f (min i pp.nf)) h.ins ?_ i hi
   exact hci
 · intro i hi hif
   rcases Nat.lt_or_ge i p with x | x
   · rw [ch i (by omega), ch (i + 1) (by omega)]; exact h.up i x hif
   · have : i = p := by omega
     subst this
     rw [ch i (by omega), chn]
     exact lt0 hif
 · have hz : (if p + 1 = 0 then none else some (isWait m')) = some false := by rw [if_neg (by omega), hw']
   refine Eq.trans ?_ hz.symm
   rcases Nat.eq_zero_or_pos p with x | x
   · exact if_pos ((mem pp.c0).2 (.inl ⟨x, rfl⟩))
   · have hn : pp.c0 ∉ pp.hireChs (.hire p ci co e) := fun y => by
       rcases (mem _).1 y with ⟨y, _⟩ | ⟨y, z⟩
       · omega
       · have := c0b y; omega
     refine (if_neg hn).trans ?_
     have := h.cz
     rw [if_neg (by omega)] at this
     exact this
 · intro i hi hif
   rcases Nat.lt_or_ge i p with x | x
   · rw [fo i x]
     have hn : (f i).cout ∉ pp.hireChs (.hire p ci co e) := fun y => by
       rcases (mem _).1 y with ⟨y, _⟩ | ⟨y, z⟩
       · omega
       · have := bel i x y; omega
     refine (if_neg hn).trans ?_
     exact h.cs i x hif
   · have : i = p := by omega
     subst this
     rw [fn]
     exact if_pos ((mem co).2 (.inr ⟨hif, rfl⟩))
 · intro c hc hn
   have hn' : c ∉ pp.hireChs (.hire p ci co e) := fun y => by
     rcases (mem _).1 y with ⟨_, y⟩ | ⟨y, z⟩
     · exact hc y
     · exact hn p (by omega) y (by rw [fn]; exact z)
   refine (if_neg hn').trans ?_
   exact h.cn c hc fun i hi hif => by have := hn i (by omega) hif; rw [fo i hi] at this; exact this
 · intro i hi x
   rw [(emp i hi).1] at x
   rcases x with x | x <;> cases x
 · rintro l v rfl
   rcases hm' with ⟨_, co', e', x, _⟩ | ⟨_, ⟨v', x, hv, hl⟩ | x⟩
   · cases x
   · cases x; exact ⟨hl, hv⟩
   · cases x
 · intro i hi hx
   rw [(emp i hi).2, hs']
   cases hmn : min i pp.nf with
   | zero => rfl
   | succ b =>
     simp only [stream]
     have := emp b (by omega)
     rw [outs_recv _ this.1, this.2]; rfl
 · intro h0 v
   rw [hs']
   constructor
   · intro x; simp at x
   · rintro ⟨i, hi, x⟩
     rw [(emp i hi).2] at x; simp at x
theorem Inv.chans (h : pp.Inv m j f cl) (hKp : 0 < pp.nf + pp.K) : (∀ c v, pp.mact m = .send c v → cl c = some false) ∧ ∀ i, i < j → (∀ c, act (f i) = .recv c → cl c ≠ none) ∧ ∀ c v, act (f i) = .send c v → cl c = some false := by
 refine ⟨fun c v hs => ?_, fun i hi => ⟨fun c hr => ?_, fun c v hs => ?_⟩⟩
 · obtain ⟨rfl, l, rfl⟩ := mact_send hs
   have hj := h.all (fun _ _ _ _ x => by cases x)
   have := h.cz
   rw [if_neg (by omega)] at this
   exact this
 · obtain ⟨_, rfl⟩ := act_recv hr
   rw [h.ins i hi]
   cases hmn : min i pp.nf with
   | zero =>
     have := h.cz
     rw [if_neg (by omega)] at this
     simp only [chIn]
     rw [this]; simp
   | succ b =>
     simp only [chIn]
     rw [h.cs b (by omega) (by omega)]; simp
 · obtain ⟨p1, rfl⟩ := act_send hs
   rw [h.cs i hi (h.send_lt hi p1), p1]; rfl
theorem Inv.prog (h : pp.Inv m j f cl) (hK : pp.nf = 0 ∨ pp.K = 1) (hK1 : 0 < pp.K) (hall : ∀ i, i < j → (∃ c, act (f i) = .recv c ∧ cl c = some false) ∨ (∃ c v, act (f i) = .send c v) ∨ act (f i) = .done)
   (hm : (∃ c v, pp.mact m = .send c v) ∨ pp.mact m = .wait) (hkk : ∀ i k c v, i < j → k < j → act (f i) = .recv c → act (f k) ≠ .send c v) (hmk : ∀ i c v, i < j → act (f i) = .recv c → pp.mact m ≠ .send c v) :
   pp.mact m = .wait ∧ ∀ i, i < j → act (f i) = .done := by
 have hnh : ∀ p ci co e, m ≠ .hire p ci co e := fun _ _ _ _ x => by
   subst x
   rcases hm with ⟨_, _, x⟩ | x <;> cases x
 have hj := h.all hnh
 have hz := h.cz
 rw [if_neg (by omega)] at hz
 have nosend : ∀ d i, i < pp.nf → pp.nf - i ≤ d → ∀ c v, act (f i) ≠ .send c v := by
   intro d
   induction d with
   | zero => intro i hi hd; omega
   | succ d ih =>
     intro i hi hd c v hs
     obtain ⟨p1, c1⟩ := act_send hs
     have hk : i + 1 < j := by omega
     have hin : (f (i + 1)).cin = (f i).cout := by rw [h.ins (i + 1) hk]; rw [Nat.min_eq_left (by omega)]; rfl
     rcases hall (i + 1) hk with ⟨c', hr, _⟩ | ⟨c', v', hs'⟩ | hd'
     · obtain ⟨_, e⟩ := act_recv hr
       have : c' = c := by rw [← e, hin, c1]
       rw [this] at hr
       exact hkk (i + 1) i c v hk (by omega) hr hs
     · rcases Nat.lt_or_ge (i + 1) pp.nf with x | x
       · exact ih (i + 1) x (by omega) c' v' hs'
       · exact absurd (h.send_lt hk (act_send hs').1) (by omega)
     · have := h.shutd (i + 1) hk (.inr (act_done hd'))
       rw [hin, h.cs i (by omega) hi, p1] at this
       simp [isDone] at this
 have nos : ∀ i, i < j → ∀ c v, act (f i) ≠ .send c v := fun i hi c v x => nosend pp.nf i (h.send_lt hi (act_send x).1) (by omega) c v x
 have hwait : pp.mact m = .wait := by
   rcases hm with ⟨c, v, hs⟩ | x
   · exfalso
     obtain ⟨rfl, l, rfl⟩ := mact_send hs
     have hin : (f 0).cin = pp.c0 := by rw [h.ins 0 (by omega)]; rw [Nat.zero_min]; rfl
     rcases hall 0 (by omega) with ⟨c', hr, _⟩ | ⟨c', v', hs'⟩ | hd'
     · obtain ⟨_, e⟩ := act_recv hr
       rw [← e, hin] at hr
       exact hmk 0 _ v (by omega) hr hs
     · exact nos 0 (by omega) _ _ hs'
     · have := h.shutd 0 (by omega) (.inr (act_done hd'))
       rw [hin, hz] at this
       simp [isWait] at this
   · exact x
 refine ⟨hwait, ?_⟩
 obtain ⟨l, rfl⟩ := mact_wait hwait
 intro i
 induction i with
 | zero =>
   intro hi
   have hin : (f 0).cin = pp.c0 := by rw [h.ins 0 hi]; rw [Nat.zero_min]; rfl
   rcases hall 0 hi with ⟨c', hr, hc⟩ | ⟨c', v', hs'⟩ | hd'
   · obtain ⟨_, e⟩ := act_recv hr
     rw [← e, hin, hz] at hc
     simp [isWait] at hc
   · exact absurd hs' (nos 0 hi _ _)
   · exact hd'
 | succ b ih =>
   intro hi
   have hb := ih (by omega)
   rcases hall (b + 1) hi with ⟨c', hr, hc⟩ | ⟨c', v', hs'⟩ | hd'
   · obtain ⟨_, e⟩ := act_recv hr
     rw [← e, h.ins (b + 1) hi] at hc
     rcases Nat.lt_or_ge b pp.nf with x | x
     · rw [Nat.min_eq_left (by omega)] at hc
       simp only [chIn] at hc
       rw [h.cs b (by omega) x, act_done hb] at hc
       simp [isDone] at hc
     · have h0 : pp.nf = 0 := by omega
       rw [h0, Nat.min_zero] at hc
       simp only [chIn] at hc
       rw [hz] at hc
       simp [isWait] at hc
   · exact absurd hs' (nos _ hi _ _)
   · exact hd'
theorem some_succ (m : MS) (h : pp.mact m ≠ .wait) : ∃ m', pp.succ m m' := by
 cases m with
 | hire p ci co e =>
   rcases Nat.lt_or_ge (p + 1) (pp.nf + pp.K) with x | x
   · exact ⟨.hire (p + 1) (if p < pp.nf then co else pp.c0) (co + 1) [], .inl ⟨x, _, _, rfl, fun _ => by omega⟩⟩
   · exact ⟨.shut [], .inr ⟨x, .inr rfl⟩⟩
 | send l v => exact ⟨.shut (l ++ [v]), .inr rfl⟩
 | shut l => exact ⟨.wait l, rfl⟩
 | wait l => exact absurd rfl h
theorem less (s : KS) (v : Value) (h : pp.okGot s v) : pp.muS (gotS pp s v) < pp.muS s := by
 obtain ⟨_, h1, h2⟩ := h
 by_cases x : s.kd < pp.nf <;> simp [muS, gotS, h2, wgt, x] <;> omega
theorem lessE (s : KS) (h : okEnd s) : pp.muS (endS pp s) < pp.muS s := by
 have h' : s.ph = .recv := h
 by_cases x : s.kd < pp.nf <;> simp [muS, endS, h', wgt, x]
theorem lessN (s : KS) (h : ∀ c, act s ≠ .recv c) (h' : act s ≠ .done) : pp.muS (nextS s) < pp.muS s := by
 cases e : s.ph <;> simp_all [muS, nextS, act, wgt]
theorem mu_hire {p ci co : Nat} {e : List Nat} (h : p < pp.nf + pp.K) : pp.muS (hireS (.hire p ci co e)) < pp.muM (.hire p ci co e) ∧ ∀ m', pp.succ (.hire p ci co e) m' → pp.muM m' + pp.muS (hireS (.hire p ci co e)) < pp.muM (.hire p ci co e) := by
 obtain ⟨d, hd⟩ : ∃ d, pp.nf + pp.K - p = d + 1 := ⟨pp.nf + pp.K - p - 1, by omega⟩
 have e1 : pp.muM (.hire p ci co e) = d * (4 * pp.n + 4) + (4 * pp.n + 4) + (pp.n + 4) := by simp only [muM, hd, Nat.add_mul, Nat.one_mul]
 have e2 : pp.muS (hireS (.hire p ci co e)) = 4 * pp.n + 2 := by simp [muS, hireS, wgt]
 rw [e1, e2]
 refine ⟨by omega, fun m' hm' => ?_⟩
 rcases hm' with ⟨_, co', e', rfl, _⟩ | ⟨_, ⟨v, rfl, _⟩ | rfl⟩
 · have : pp.nf + pp.K - (p + 1) = d := by omega
   simp only [muM, this]
   omega
 · simp only [muM, List.length_nil]; omega
 · simp only [muM]; omega
theorem mu_send {l : List Value} {v : Value} : 0 < pp.muM (.send l v) ∧ ∀ m', pp.succ (.send l v) m' → pp.muM m' < pp.muM (.send l v) := by
 refine ⟨by simp only [muM]; omega, fun m' hm' => ?_⟩
 rcases hm' with ⟨v', rfl, _, h2⟩ | rfl
 · simp only [muM, List.length_append, List.length_singleton] at h2 ⊢; omega
 · simp only [muM]; omega
theorem mu_shut {l : List Value} : 0 < pp.muM (.shut l) ∧ ∀ m', pp.succ (.shut l) m' → pp.muM m' < pp.muM (.shut l) := by
 refine ⟨by simp only [muM]; omega, fun m' hm' => ?_⟩
 cases hm'
 simp only [muM]; omega
theorem Inv.init {p ci co : Nat} {e : List Nat} (hp : p = 0) (hci : ci = pp.c0) (hco : 0 < pp.nf → ci < co) (hK : 0 < pp.nf + pp.K) (f : Nat → KS) : pp.Inv (.hire p ci co e) 0 f (fun _ => none) := by
 subst hp
 have no : ∀ {C : Nat → Prop}, ∀ i, i < 0 → C i := fun i hi => absurd hi (Nat.not_lt_zero i)
 refine ⟨fun p' ci' co' e' x => ?_, fun x => absurd rfl (x _ _ _ _), Nat.zero_le _, fun _ _ _ _ _ => no, no, no, no, rfl, no, fun _ _ _ => rfl, no, no, fun i _ hi => absurd hi (Nat.not_lt_zero i), Nat.zero_le _, fun l v x => ?_, no, no, fun h0 v => ?_⟩
 · cases x
   exact ⟨rfl, hK, by rw [Nat.zero_min]; exact hci, hco⟩
 · cases x
 · simp [sent]
end PP
end Go.Proofs.Ytblpmdolclalnaa
namespace Go.Proofs.Ytblpmdolclalnaa
open Go.Conc
open Go.ConcN (upd upd_same upd_ne)
abbrev ME := MS × List Nat
def isHire : MS → Bool | .hire .. => true | _ => false
def lastE (m m' : MS) (e : List Nat) : List Nat := if isHire m' then [] else match m with | .hire _ _ _ en => en | _ => e
def PP.succE (pp : PP) (a b : ME) : Prop := pp.succ a.1 b.1 ∧ b.2 = lastE a.1 b.1 a.2
structure PP.InvE (pp : PP) (a : ME) (j : Nat) (f : Nat → KS) (cl : Nat → Option Bool) : Prop where
 inv : pp.Inv a.1 j f cl
 none : isHire a.1 = true → a.2 = []
 last : isHire a.1 = false → ∃ i, j = i + 1 ∧ (f i).env = a.2
theorem PP.InvE.kid {pp : PP} {a : ME} {j : Nat} {f f' : Nat → KS} {cl cl' : Nat → Option Bool} (h : pp.InvE a j f cl) (hi : pp.Inv a.1 j f' cl') (he : ∀ i, (f' i).env = (f i).env) : pp.InvE a j f' cl' :=
 ⟨hi, h.none, fun x => let ⟨i, h1, h2⟩ := h.last x; ⟨i, h1, (he i).trans h2⟩⟩
theorem upd_env {f : Nat → KS} {i : Nat} {s : KS} (h : s.env = (f i).env) (k : Nat) : (upd f i s k).env = (f k).env := by
 by_cases e : k = i
 · subst e; rw [upd_same]; exact h
 · rw [upd_ne _ _ e]
theorem PP.InvE.turn {pp : PP} {a b : ME} {j : Nat} {f f' : Nat → KS} {cl cl' : Nat → Option Bool} (h : pp.InvE a j f cl) (hs : pp.succE a b) (hn : isHire a.1 = false) (hb : isHire b.1 = false) (hi : pp.Inv b.1 j f' cl') (he : ∀ i, (f' i).env = (f i).env) : pp.InvE b j f' cl' := by
 obtain ⟨i, h1, h2⟩ := h.last hn
 refine ⟨hi, fun x => (by rw [hb] at x; cases x), fun _ => ⟨i, h1, (he i).trans (h2.trans ?_)⟩⟩
 rw [hs.2]
 unfold lastE
 rw [if_neg (by simp [hb])]
 cases a with
 | mk m e => cases m <;> first | rfl | cases hn
structure Flesh where
 zero : Value
 give : MS → Cells
 reads : MS → Nat → Prop
 gift : Value → Cells
 msg : Value → World → Prop
 Fin : KS → World → Prop
 fuel : Nat
 Kid : (Nat → Prop) → KS → Cells → (Nat → Prop) → Goroutine → World → Prop
 Main : (Nat → Prop) → ME → Cells → (Nat → Prop) → Goroutine → World → Prop
 Anch : (Nat → Prop) → ME → Cells → (Nat → Prop) → Goroutine → World → Prop
 After : ME → Goroutine → World → Prop
def zof (z : Value) (s : KS) : Value := match s.ph with | .send _ => .tuple #[] | _ => z
def PP.net (pp : PP) (x : Flesh) : Net where
 S := KS
 M := ME
 act := PP.act
 mact := fun a => pp.mact a.1
 okGot := pp.okGot
 okEnd := PP.okEnd
 got := pp.gotS
 ended := pp.endS
 next := PP.nextS
 cel := fun _ _ => False
 val := fun _ _ _ _ => .nilFunc
 okAt := fun _ _ => False
 put := fun _ _ => none
 turn := fun s _ => s
 succ := pp.succE
 zero := zof x.zero
 shape := fun _ => .recv true
 mzero := fun _ => .tuple #[]
 hireS := fun a => PP.hireS a.1
 hireGive := fun a => x.give a.1
 hireRd := fun a => x.reads a.1
 hireChs := fun a => pp.hireChs a.1
 gift := x.gift
 msg := x.msg
 Fin := x.Fin
 muS := pp.muS
 muM := fun a => pp.muM a.1
 I := pp.InvE
 fuel := x.fuel
 Kid := x.Kid
 Main := x.Main
 Anch := x.Anch
 After := x.After
theorem PP.act_ne {s : KS} {b y : Nat} (h : PP.act s = .atom b y) : False := by
 unfold PP.act at h; split at h <;> cases h
theorem PP.net_ok {P : Program} {ty : TypeId} {Wg : Nat} {pp : PP} {x : Flesh} (hK : pp.nf = 0 ∨ pp.K = 1) (hK1 : 0 < pp.K) (hb : pp.nf + pp.K < 2147483646) (hphi : ∀ i v, pp.okV v → pp.okV (pp.phi i v))
   (kid : ∀ own s Got Rd g w, x.Kid own s Got Rd g w → KStop P ty Wg (pp.net x) own s Got Rd g w)
   (main : ∀ own m Given Fz g w, x.Main own m Given Fz g w → MStop P ty Wg (pp.net x) own m Given Fz g w)
   (anch : ∀ own m Given Fz g w, x.Anch own m Given Fz g w → g.status = .running ∧ MGoo P ty Wg own Given Fz (AtW1 P ty Wg (pp.net x) own m Given Fz) x.fuel g w)
   (uniq : ∀ own own' m m' Given Fz g w w' j f cl, pp.InvE m j f cl → pp.InvE m' j f cl → x.Main own m Given Fz g w → x.Main own' m' Given Fz g w' → m = m') : NetOK P ty Wg (pp.net x) where
 kid := kid
 main := main
 anch := anch
 uniq := uniq
 hire m j f cl h hs := by
   change pp.InvE m j f cl at h
   obtain ⟨m, en⟩ := m
   obtain ⟨h1, h2⟩ := h.inv.hire hK hs
   obtain ⟨p, ci, co, e, rfl⟩ := PP.mact_hire hs
   obtain ⟨h3, h4, _⟩ := h.inv.cnt _ _ _ _ rfl
   obtain ⟨h5, h6⟩ := pp.mu_hire (ci := ci) (co := co) (e := e) h4
   refine ⟨by omega, h5, h1, fun m' hm' => ⟨⟨h2 m'.1 hm'.1, fun x => ?_, fun x => ⟨j, rfl, ?_⟩⟩, h6 m'.1 hm'.1⟩⟩
   · rw [hm'.2]; unfold lastE; rw [if_pos x]
   · rw [hm'.2, upd_same]; unfold lastE; rw [if_neg (by simp [x])]; rfl
 many m j f cl h := by have := PP.Inv.le (PP.InvE.inv h); omega
 mmeet m j f cl c v i h hs hi hr := by
   change pp.InvE m j f cl at h
   obtain ⟨m, en⟩ := m
   obtain ⟨h1, h2⟩ := PP.Inv.mmeet h.inv hs hi hr
   obtain ⟨rfl, l, rfl⟩ := PP.mact_send hs
   obtain ⟨h3, h4⟩ := pp.mu_send (l := l) (v := v)
   exact ⟨h1, h3, fun m' hm' => ⟨h.turn hm' rfl (by rcases hm'.1 with ⟨_, e, _⟩ | e <;> rw [e] <;> rfl) (h2 m'.1 hm'.1) (upd_env rfl), h4 m'.1 hm'.1⟩⟩
 kmeet m j f cl c v i k h hi hk hik hs hr := by
   change pp.InvE m j f cl at h
   obtain ⟨h1, h2⟩ := PP.Inv.kmeet h.inv hK hphi hi hk hik hs hr
   exact ⟨h1, h.kid h2 fun b => (upd_env (by rw [upd_ne _ _ (Ne.symm hik)]; rfl) b).trans (upd_env (i := i) (s := PP.nextS (f i)) rfl b)⟩
 ends m j f cl c i h hi hr hc := by
   change pp.InvE m j f cl at h
   obtain ⟨h1, h2⟩ := PP.Inv.ends h.inv hi hr hc
   exact ⟨h1, h.kid h2 (upd_env rfl)⟩
 mshut m j f cl c h hs := by
   change pp.InvE m j f cl at h
   obtain ⟨m, en⟩ := m
   obtain ⟨h1, h2, h3⟩ := PP.Inv.mshut h.inv (by omega) hs
   obtain ⟨rfl, l, rfl⟩ := PP.mact_shut hs
   obtain ⟨h4, h5⟩ := pp.mu_shut (l := l)
   exact ⟨h1, h2, h4, fun m' hm' => ⟨h.turn hm' rfl (by rw [show m'.1 = .wait l from hm'.1]; rfl) (h3 m'.1 hm'.1) (fun _ => rfl), h5 m'.1 hm'.1⟩⟩
 kshut m j f cl c i h hi hs := by
   change pp.InvE m j f cl at h
   obtain ⟨h1, h2, h3, h4⟩ := PP.Inv.kshut h.inv hi hs
   exact ⟨h1, h2, h3, h.kid h4 (upd_env rfl)⟩
 chans m j f cl h := PP.Inv.chans (PP.InvE.inv h) (by omega)
 prog m j f cl h h1 h2 h3 h4 := PP.Inv.prog (PP.InvE.inv h) hK hK1 h1 h2 h3 h4
 some m h := by
   obtain ⟨m', hm'⟩ := PP.some_succ m.1 h
   exact ⟨(m', lastE m.1 m' m.2), hm', rfl⟩
 less s v h := PP.less s v h
 lessE s h := PP.lessE s h
 lessN s h _ h' := PP.lessN s h h'
 atom m j f cl b y i _ _ h := (PP.act_ne h).elim
 vHire _ _ _ _ _ _ _ _ h := h.elim
 vGot _ _ _ _ _ _ _ _ h := h.elim
 vEnd _ _ _ _ _ _ _ h := h.elim
 vNext _ _ _ _ _ _ _ _ _ h := h.elim
theorem PP.no_ab {pp : PP} {x : Flesh} (b : Nat) : ¬ (pp.net x).AB b := fun ⟨_, h⟩ => h
end Go.Proofs.Ytblpmdolclalnaa
namespace Go.Proofs.Ytblpmdolclalnaa
open Go.Conc
section
variable {P : Program} {main : Bool} {b : Frame} {a : Act} {k : List Item} {cs : List Frame} {c : Frame} {w : World} {l : Nat} {r : Loop}
theorem ev_getObj (h : w.heap[l]? = some (.loop r)) (es : Array Event) : (getObj l).events P w es = es.push ⟨.obj l, false, false⟩ := by
 simp [getObj, Sem.events, Sem.runT, h, Obj.isChan, -Sem.runT_eq]
theorem ev_setObj (h : w.heap[l]? = some (.loop r)) (r' : Loop) (es : Array Event) : (setObj l (.loop r')).events P w es = es.push ⟨.obj l, true, false⟩ := by
 simp [setObj, Sem.events, Sem.runT, h, Obj.isChan, -Sem.runT_eq]
theorem ev_getLoop (h : w.heap[l]? = some (.loop r)) (es : Array Event) : (Instr.getLoop l).events P w es = es.push ⟨.obj l, false, false⟩ := by
 simp [Instr.getLoop, ev_getObj h, run_getObj_loop h]
theorem ev_yield (h : w.heap[l]? = some (.loop r)) {args : Array Value} (hs : args.size = r.params.size) : (Instr.yield l args).events P w #[] = #[⟨.obj l, false, false⟩] := by
 simp [Instr.yield, ev_getLoop h, run_getLoop h, hs]
theorem ev_beginRound (h : w.heap[l]? = some (.loop r)) (hr : r.state = .ready) : (Instr.beginRound l).events P w #[] = #[⟨.obj l, false, false⟩, ⟨.obj l, true, false⟩] := by
 simp [Instr.beginRound, ev_getLoop h, run_getLoop h, ev_setObj h, run_setObj_loop _ h, hr]
theorem ev_endRound (h : w.heap[l]? = some (.loop r)) (j : Option Code) : (Instr.endRound l j).events P w #[] = #[⟨.obj l, false, false⟩, ⟨.obj l, true, false⟩] := by
 simp [Instr.endRound, ev_getLoop h, run_getLoop h, ev_setObj h]
theorem ev_endLoop (h : w.heap[l]? = some (.loop r)) (hr : r.state ≠ .busy) : (Instr.endLoop l).events P w #[] = #[⟨.obj l, false, false⟩, ⟨.obj l, true, false⟩] := by
 simp [Instr.endLoop, ev_getLoop h, run_getLoop h, ev_setObj h, hr]
theorem ev_enterLoop (fn : FuncId) (tmps : Array Value) (ps : Array Tmp) (assign body : Code) : (Instr.enterLoop fn tmps ps assign body none).events P w #[] = #[] := by
 unfold Instr.enterLoop
 simp
/-! ### within a round's frame -/
theorem stepGR_seq {x y : Code} : stepG P main (G (b.atR a (.code (.seq x y) :: k)) cs) w = .go (G (b.atR a (.code x :: .code y :: k)) cs) w #[] := by simp [G, stepG, stepG.exec, Frame.atR]
theorem stepGR_region {id : Nat} {ops : Array Oper} : stepG P main (G (b.atR a (.code (.region id ops false) :: k)) cs) w = .go (G (b.atR a (.inRegion ops (List.range ops.size) :: k)) cs) w #[] := by simp [G, stepG, stepG.exec, Frame.atR]
theorem stepGR_region_end {ops : Array Oper} : stepG P main (G (b.atR a (.inRegion ops [] :: k)) cs) w = .go (G (b.atR a k) cs) w #[] := by simp [G, stepG, stepG.exec, Frame.atR]
theorem stepGR_oper {ops : Array Oper} {i : Nat} {rest : List Nat} {o : Oper} (ho : ops[i]? = some o) (hw : Region.wanted o (yielded ops a.tmps) = true) (hd : ∀ c, o.op ≠ .defer c) :
   stepG P main (G (b.atR a (.inRegion ops (i :: rest) :: k)) cs) w = stepG.apply P true (b.atR a (.inRegion ops (i :: rest) :: k)) cs none (execOp a.eval o) w := by
 have he := Frame.eval_atR b a (.inRegion ops (i :: rest) :: k)
 simp only [Frame.atR] at he
 simp only [G, stepG, stepG.exec, stepG.oper, Frame.oper?, Frame.atR, ho, hw, he, Option.map_some, Option.getD_some, if_true]
 cases hb : b.roundOf <;> cases hop : o.op <;> first | rfl | exact absurd hop (hd _)
theorem stepGR_value {ops : Array Oper} {i : Nat} {rest : List Nat} {o : Oper} {v : Value} {w' : World} (ho : ops[i]? = some o) (hw : Region.wanted o (yielded ops a.tmps) = true) (hd : ∀ c, o.op ≠ .defer c)
   (hk : b.kind ≠ .early) (hr : (execOp a.eval o).run P w = .ok (.value v) w') :
   stepG P main (G (b.atR a (.inRegion ops (i :: rest) :: k)) cs) w = .go (G (b.atR (a.put o.dst v) (.inRegion ops rest :: k)) cs) w' (listed P b.fn a o w) := by
 have hfin : (b.atR a (.inRegion ops (i :: rest) :: k)).finish v = b.atR (a.put o.dst v) (.inRegion ops rest :: k) := by rw [Frame.finish_atR, ho]; rfl
 have hk' : (b.kind == CallKind.early) = false := by simpa using hk
 rw [stepGR_oper ho hw hd, ← hfin]
 simp [stepG.apply, hr, G, Frame.atR, hk', GStep.after, listed]
theorem stepGR_none {ops : Array Oper} {i : Nat} {rest : List Nat} {o : Oper} {w' : World} (ho : ops[i]? = some o) (hw : Region.wanted o (yielded ops a.tmps) = true) (hd : ∀ c, o.op ≠ .defer c)
   (hk : b.kind ≠ .early) (hr : (execOp a.eval o).run P w = .ok .skip w') :
   stepG P main (G (b.atR a (.inRegion ops (i :: rest) :: k)) cs) w = .go (G (b.atR (a.put o.dst undef) (.inRegion ops rest :: k)) cs) w' (listed P b.fn a o w) := by
 have hfin : (b.atR a (.inRegion ops (i :: rest) :: k)).finish undef = b.atR (a.put o.dst undef) (.inRegion ops rest :: k) := by rw [Frame.finish_atR, ho]; rfl
 have hk' : (b.kind == CallKind.early) = false := by simpa using hk
 rw [stepGR_oper ho hw hd, ← hfin]
 simp [stepG.apply, hr, G, Frame.atR, hk', GStep.after, listed]
theorem stepGR_comm {ops : Array Oper} {i : Nat} {rest : List Nat} {o : Oper} {cases : Array CommCase} {blocking : Bool} {shape : CommShape} {w' : World} (ho : ops[i]? = some o) (hw : Region.wanted o (yielded ops a.tmps) = true) (hd : ∀ c, o.op ≠ .defer c)
   (hk : b.kind ≠ .early) (hr : (execOp a.eval o).run P w = .ok (.comm cases blocking shape) w') :
   stepG P main (G (b.atR a (.inRegion ops (i :: rest) :: k)) cs) w = .comm (G (b.atR a (.inRegion ops (i :: rest) :: k)) cs) cases blocking shape w' (listed P b.fn a o w) := by
 have hk' : (b.kind == CallKind.early) = false := by simpa using hk
 rw [stepGR_oper ho hw hd]
 simp [stepG.apply, hr, G, Frame.atR, hk', GStep.after, listed]
/-! ### the statement -/
theorem stepG_rangeFunc {g : Operand} {ps : Array Tmp} {assign body : Code} {l : Nat} {mark : List Deferred} {w₁ w₁' w₂ : World} {d : Deferred} {f : FuncId} {args : Array Value}
   (he : (Instr.enterLoop b.fn a.tmps ps assign body none).run P w = .ok (l, mark) w₁)
   (hres : (resolve a.eval { callee := .value g, args := #[.const (.func (.yield l) #[] #[])], argTypes := #[] } 0).run P w₁ = .ok d w₁') (hinv : (invoke d.target d.args).run P w₁' = .ok (.enter f args) w₂)
   (hev : (resolve a.eval { callee := .value g, args := #[.const (.func (.yield l) #[] #[])], argTypes := #[] } 0).events P w₁ #[] = #[]) (hev2 : (invoke d.target d.args).events P w₁' #[] = #[]) :
   stepG P main (G (b.at a (.code (.rangeFunc g ps assign body) :: k)) cs) w = .go (G (Frame.enter P f args .normal) (b.at { a with defers := mark ++ a.defers } (.inRangeFunc l :: k) :: cs)) w₂ #[] := by
 have h1 : (b.at { a with defers := mark ++ a.defers } (.inRangeFunc l :: k)).eval = a.eval := funext fun x => Frame.eval_at b _ _ x
 simp only [Frame.at] at h1
 simp [G, stepG, stepG.exec, Frame.at, Sem.runT_eq, he, ev_enterLoop, seen_none, GStep.after, stepG.apply, h1, Sem.run_bind, hres, hinv, Result.andThen, Sem.events_bind, hev, hev2, Result.evThen]
theorem stepG_beginRound (hb : b.roundOf = some l) (h : w.heap[l]? = some (.loop r)) (hr : r.state = .ready) (hk : b.kind = .normal) :
   stepG P main (G (b.atR a (.beginRound :: k)) cs) w = .go (G (b.atR a k) cs) (w.putObj l (.loop { r with state := .busy })) (seen P b.fn #[⟨.obj l, false, false⟩, ⟨.obj l, true, false⟩]) := by
 simp [G, stepG, stepG.exec, stepG.apply, Frame.atR, hb, hk, Sem.runT_eq, run_beginRound h hr, ev_beginRound h hr, Result.andThen, Frame.finish, GStep.after]
theorem stepG_round_end (hb : b.roundOf = some l) (h : w.heap[l]? = some (.loop r)) (hk : b.kind = .normal) :
   stepG P main (G (b.atR a []) (c :: cs)) w = .go (G (c.finish (.bool true)) cs) (w.putObj l (.loop { r with state := .ready, pending := none })) (seen P b.fn #[⟨.obj l, false, false⟩, ⟨.obj l, true, false⟩]) := by
 simp [G, stepG, stepG.exec, Frame.atR, hb, hk, Sem.runT_eq, run_endRound none h, ev_endRound h, doReturn, GStep.after]
theorem stepG_endRangeFunc (h : w.heap[l]? = some (.loop r)) (hr : r.state ≠ .busy) (hp : r.pending = none) :
   stepG P main (G (b.at a (.endRangeFunc l :: k)) cs) w = .go (G (b.at a k) cs) (w.putObj l (.loop { r with state := .exhausted })) (seen P b.fn #[⟨.obj l, false, false⟩, ⟨.obj l, true, false⟩]) := by
 simp [G, stepG, stepG.exec, Frame.at, Sem.runT_eq, run_endLoop h hr, ev_endLoop h hr, GStep.after, hp]
theorem stepG_yield {ops : Array Oper} {i : Nat} {rest : List Nat} {o : Oper} {l : Nat} {f : FuncId} {tmps : Array Value} {assign body : Code} {w' : World} (ho : ops[i]? = some o) (hw : Region.wanted o (yielded ops a.tmps) = true)
   (hk : b.kind ≠ .early) (hr : (execOp a.eval o).run P w = .ok (.round l f tmps assign body) w') :
   stepG P main (G (b.at a (.inRegion ops (i :: rest) :: k)) cs) w = .go (G (Frame.round l f tmps assign body .normal) (b.at a (.inRegion ops (i :: rest) :: k) :: cs)) w' (listed P b.fn a o w) := by
 have hk' : (b.kind == CallKind.early) = false := by simpa using hk
 rw [stepG_oper ho hw]
 simp [stepG.apply, hr, G, Frame.at, hk', GStep.after, listed]
theorem round_at (l : Nat) (f : FuncId) (tmps : Array Value) (assign body : Code) : Frame.round l f tmps assign body .normal = (Frame.round l f #[] .skip .skip .normal).atR ⟨tmps, []⟩ [.code assign, .beginRound, .code body] := rfl
theorem ev_takeDeferred {r : Nat} {ds : List Deferred} (h : w.heap[r]? = some (.deferred (some ds))) : (Instr.takeDeferred r).events P w #[] = #[⟨.obj r, false, false⟩, ⟨.obj r, true, false⟩] := by
 have h1 : (getObj r).events P w #[] = #[⟨.obj r, false, false⟩] := by simp [getObj, Sem.events, Sem.runT, h, Obj.isChan, -Sem.runT_eq]
 have h2 : (getObj r).run P w = .ok (.deferred (some ds)) w := by simp [getObj, Sem.run, h]
 have h3 : ∀ es, (setObj r (.deferred none)).events P w es = es.push ⟨.obj r, true, false⟩ := fun es => by simp [setObj, Sem.events, Sem.runT, h, Obj.isChan, -Sem.runT_eq]
 simp [Instr.takeDeferred, h1, h2, h3]
theorem stepG_collected {todo : List Item} {r : Nat} {ds : List Deferred} (hd : a.defers = { target := .collected r, args := #[] } :: ds) (h : w.heap[r]? = some (.deferred (some []))) :
   stepG P main (G { b.at a todo with mode := .returning } cs) w = .go (G { b.at ⟨a.tmps, ds⟩ todo with mode := .returning } cs) (w.putObj r (.deferred none)) (seen P b.fn #[⟨.obj r, false, false⟩, ⟨.obj r, true, false⟩]) := by
 simp [G, stepG, unwind, Frame.at, hd, Sem.runT_eq, run_takeDeferred h, ev_takeDeferred h, GStep.after]
end
end Go.Proofs.Ytblpmdolclalnaa
namespace Go.Proofs.Ytblpmdolclalnaa
open Go.Conc
open Go.ConcR (WgAt KK stA smA rd wr mk DC0)
open Go.ConcN (WgLive sumTo upd upd_same upd_ne)
def ownK (o : Nat → Nat) (i : Nat) : Nat → Prop := fun b => o b = i + 1
def own0 (o : Nat → Nat) : Nat → Prop := fun b => o b = 0
def Agr (n : Nat) (o o' : Nat → Nat) : Prop := ∀ b, b < n → o' b = o b
section
variable (P : Program) (ty : TypeId) (Wg : Nat) (N : Net)
inductive KSit (o : Nat → Nat) (i : Nat) (s : N.S) (kg : KG) : Nat → Nat → Nat → Goroutine → World → Prop
 | run {m : Nat} {g : Goroutine} {w : World} : (∀ o', Agr w.heap.size o o' → Goo P false (ownK o' i) (KR ty Wg (ownK o' i) kg.Got kg.Rd) (KD Wg (ownK o' i) kg.Got kg.Rd) (N.Kid (ownK o' i) s kg.Got kg.Rd) m g w) → KSit o i s kg 8 (m + 2) 0 g w
 | wok {g : Goroutine} {w : World} : (∀ o', Agr w.heap.size o o' → ∀ w₁, KR ty Wg (ownK o' i) kg.Got kg.Rd w w₁ → KStop P ty Wg N (ownK o' i) s kg.Got kg.Rd g w₁) → KSit o i s kg 8 1 0 g w
 | pkR {g : Goroutine} {w : World} {c : Nat} : N.act s = .recv c → (∀ o', Agr w.heap.size o o' → ∀ w₁, KR ty Wg (ownK o' i) kg.Got kg.Rd w w₁ → KStop P ty Wg N (ownK o' i) s kg.Got kg.Rd g w₁) →
     KSit o i s kg 8 0 0 (parked (bare g) #[rcase c (N.zero s)] (N.shape s)) w
 | pkS {g : Goroutine} {w : World} {c : Nat} {v : Value} : N.act s = .send c v → (∀ o', Agr w.heap.size o o' → ∀ w₁, KR ty Wg (ownK o' i) kg.Got kg.Rd w w₁ → KStop P ty Wg N (ownK o' i) s kg.Got kg.Rd g w₁) →
     KSit o i s kg 8 0 0 (parked (bare g) #[scase c v (N.zero s)] .send) w
 | k1 {m : Nat} {g : Goroutine} {w : World} : N.act s = .done → (∀ o', Agr w.heap.size o o' → ∀ w₁, KR ty Wg (ownK o' i) kg.Got kg.Rd w w₁ → N.Fin s w₁) → Goes P false (RL ty Wg) DC0 (AtK1 P ty Wg) m g w → KSit o i s kg 6 m 0 g w
 | d1 {m : Nat} {g : Goroutine} {w : World} : N.act s = .done → (∀ o', Agr w.heap.size o o' → ∀ w₁, KR ty Wg (ownK o' i) kg.Got kg.Rd w w₁ → N.Fin s w₁) → Goes P false (RL ty Wg) DC0 (AtD1 P ty Wg) m g w → KSit o i s kg 5 m 1 g w
 | d2 {m : Nat} {g : Goroutine} {w : World} : N.act s = .done → (∀ o', Agr w.heap.size o o' → ∀ w₁, KR ty Wg (ownK o' i) kg.Got kg.Rd w w₁ → N.Fin s w₁) → Goes P false (RL ty Wg) DC0 (AtD2 P ty Wg) m g w → KSit o i s kg 4 m 1 g w
 | d3 {m : Nat} {g : Goroutine} {w : World} : N.act s = .done → (∀ o', Agr w.heap.size o o' → ∀ w₁, KR ty Wg (ownK o' i) kg.Got kg.Rd w w₁ → N.Fin s w₁) → Goes P false (RL ty Wg) DC0 (AtD3 P ty Wg) m g w → KSit o i s kg 3 m 1 g w
 | d4 {m : Nat} {g : Goroutine} {w : World} : N.act s = .done → (∀ o', Agr w.heap.size o o' → ∀ w₁, KR ty Wg (ownK o' i) kg.Got kg.Rd w w₁ → N.Fin s w₁) → Goes P false (RL ty Wg) DC0 (AtD4 P ty Wg) m g w → KSit o i s kg 2 m 1 g w
 | quit {q d : Nat} {g : Goroutine} {w : World} : N.act s = .done → (∀ o', Agr w.heap.size o o' → ∀ w₁, KR ty Wg (ownK o' i) kg.Got kg.Rd w w₁ → N.Fin s w₁) → QuitsD P q d g → KSit o i s kg 1 q d g w
inductive MTag where
 | run | pk | a1 | ke | go | anch | w1 | w2 (vs : Nat) | w3 | blk | w4 | kw | acq
inductive MSit (o : Nat → Nat) (Given : Cells) (Fz : Nat → Prop) : MTag → (N.M → Prop) → Nat → Nat → Goroutine → World → Prop
 | run {Q : N.M → Prop} {f : Nat} {g : Goroutine} {w : World} : (∀ o', Agr w.heap.size o o' → MGoo P ty Wg (own0 o') Given Fz (fun g w => ∃ m, Q m ∧ N.Main (own0 o') m Given Fz g w) f g w) → MSit o Given Fz .run Q (f + 1) 0 g w
 | pk {m : N.M} {g : Goroutine} {w : World} {c : Nat} {v : Value} : N.mact m = .send c v → (∀ o', Agr w.heap.size o o' → ∀ w₁, MR ty Wg (own0 o') Given w w₁ → MStop P ty Wg N (own0 o') m Given Fz g w₁) →
     MSit o Given Fz .pk (· = m) 0 0 (parked (bare g) #[scase c v (N.mzero m)] .send) w
 | a1 {m : N.M} {f : Nat} {g : Goroutine} {w : World} : N.mact m = .hire → (∀ o', Agr w.heap.size o o' → MGoo P ty Wg (own0 o') Given Fz (AtA1 P ty Wg N (own0 o') m Given Fz) f g w) → MSit o Given Fz .a1 (· = m) f 1 g w
 | ke {m : N.M} {f : Nat} {g : Goroutine} {w : World} : N.mact m = .hire → (∀ o', Agr w.heap.size o o' → MGoo P ty Wg (own0 o') Given Fz (AtKe P ty Wg N (own0 o') m Given Fz) f g w) → MSit o Given Fz .ke (· = m) f 1 g w
 | go {m : N.M} {f : Nat} {g : Goroutine} {w : World} : N.mact m = .hire → (∀ o', Agr w.heap.size o o' → MGoo P ty Wg (own0 o') Given Fz (AtGo P ty Wg N (own0 o') m Given Fz) f g w) → MSit o Given Fz .go (· = m) f 0 g w
 | anch {m : N.M} {f : Nat} {g : Goroutine} {w : World} : N.mact m = .wait → (∀ o', Agr w.heap.size o o' → MGoo P ty Wg (own0 o') Given Fz (N.Anch (own0 o') m Given Fz) f g w) → MSit o Given Fz .anch (· = m) f 1 g w
 | w1 {m : N.M} {f : Nat} {g : Goroutine} {w : World} : N.mact m = .wait → (∀ o', Agr w.heap.size o o' → MGoo P ty Wg (own0 o') Given Fz (AtW1 P ty Wg N (own0 o') m Given Fz) f g w) → MSit o Given Fz .w1 (· = m) f 1 g w
 | w2 {m : N.M} {vs f : Nat} {g : Goroutine} {w : World} : N.mact m = .wait → (∀ o', Agr w.heap.size o o' → MGoo P ty Wg (own0 o') Given Fz (AtW2 P ty Wg N (own0 o') m Given Fz vs) f g w) → MSit o Given Fz (.w2 vs) (· = m) f 1 g w
 | w3 {m : N.M} {f : Nat} {g : Goroutine} {w : World} : N.mact m = .wait → (∀ o', Agr w.heap.size o o' → MGoo P ty Wg (own0 o') Given Fz (AtW3 P ty Wg N (own0 o') m Given Fz) f g w) → MSit o Given Fz .w3 (· = m) (f + 1) 1 g w
 | blk {m : N.M} {g : Goroutine} {w : World} : N.mact m = .wait → (∀ o', Agr w.heap.size o o' → ∀ w₁, MR ty Wg (own0 o') Given w w₁ → AtW3 P ty Wg N (own0 o') m Given Fz g w₁) → MSit o Given Fz .blk (· = m) 0 1 { g with status := .blocked } w
 | w4 {m : N.M} {f : Nat} {g : Goroutine} {w : World} : N.mact m = .wait → (∀ o', Agr w.heap.size o o' → MGoo P ty Wg (own0 o') Given Fz (AtW4 P ty Wg N (own0 o') m Given Fz) f g w) → MSit o Given Fz .w4 (· = m) f 1 g w
 | kw {m : N.M} {f : Nat} {g : Goroutine} {w : World} : N.mact m = .wait → (∀ o', Agr w.heap.size o o' → MGoo P ty Wg (own0 o') Given Fz (AtKw P ty Wg N (own0 o') m Given Fz) f g w) → MSit o Given Fz .kw (· = m) f 1 g w
 | acq {m : N.M} {f : Nat} {g : Goroutine} {w : World} : N.mact m = .wait → (∀ o', Agr w.heap.size o o' → MGoo P ty Wg (own0 o') Given Fz (AtAcq P Wg N m) f g w) → MSit o Given Fz .acq (· = m) f 0 g w
end
theorem Agr.refl (n : Nat) (o : Nat → Nat) : Agr n o o := fun _ _ => rfl
theorem Agr.of {n n' : Nat} {o o₁ o' : Nat → Nat} (h : Agr n o o₁) (hn : n ≤ n') (h' : Agr n' o₁ o') : Agr n o o' := fun b hb => (h' b (by omega)).trans (h b hb)
section
variable {P : Program} {ty : TypeId} {Wg : Nat} {N : Net} {o o₁ : Nat → Nat} {i : Nat} {s : N.S} {kg : KG} {st f d : Nat} {g : Goroutine} {w w₁ : World} {Given : Cells} {Fz : Nat → Prop} {tag : MTag} {Q : N.M → Prop}
theorem KR.agr {o' : Nat → Nat} (h : KR ty Wg (ownK o i) kg.Got kg.Rd w w₁) (ha : Agr w.heap.size o o') : KR ty Wg (ownK o' i) kg.Got kg.Rd w w₁ :=
 Rel.less h fun b x hb hk => hk.imp (fun e => by unfold ownK at *; rw [← ha b hb]; exact e) id
theorem MR.agr {o' : Nat → Nat} (h : MR ty Wg (own0 o) Given w w₁) (ha : Agr w.heap.size o o') : MR ty Wg (own0 o') Given w w₁ :=
 Rel.less h fun b x hb hk => ⟨by have := hk.1; unfold own0 at *; rw [← ha b hb]; exact this, hk.2⟩
theorem KSit.rely (h : KSit P ty Wg N o i s kg st f d g w) (hr : KR ty Wg (ownK o i) kg.Got kg.Rd w w₁) (ha : Agr w.heap.size o o₁) : KSit P ty Wg N o₁ i s kg st f d g w₁ := by
 have key : ∀ o', Agr w₁.heap.size o₁ o' → Agr w.heap.size o o' ∧ KR ty Wg (ownK o' i) kg.Got kg.Rd w w₁ := fun o' h' => ⟨ha.of hr.size h', hr.agr (ha.of hr.size h')⟩
 have hrl : RL ty Wg w w₁ := hr.live
 have trl : ∀ a b c, RL ty Wg a b → RL ty Wg b c → RL ty Wg a c := fun _ _ _ h1 h2 => h2 ∘ h1
 have fin : (∀ o', Agr w.heap.size o o' → ∀ w₁, KR ty Wg (ownK o' i) kg.Got kg.Rd w w₁ → N.Fin s w₁) → ∀ o', Agr w₁.heap.size o₁ o' → ∀ w₂, KR ty Wg (ownK o' i) kg.Got kg.Rd w₁ w₂ → N.Fin s w₂ :=
   fun hf o' h' w₂ h₂ => hf o' (key o' h').1 w₂ ((key o' h').2.trans h₂)
 cases h with
 | run h => exact .run fun o' h' => Goo.rely Rel.tr (h o' (key o' h').1) (key o' h').2
 | wok h => exact .wok fun o' h' w₂ h₂ => h o' (key o' h').1 w₂ ((key o' h').2.trans h₂)
 | pkR ha h => exact .pkR ha fun o' h' w₂ h₂ => h o' (key o' h').1 w₂ ((key o' h').2.trans h₂)
 | pkS ha h => exact .pkS ha fun o' h' w₂ h₂ => h o' (key o' h').1 w₂ ((key o' h').2.trans h₂)
 | k1 h0 hf h => exact .k1 h0 (fin hf) (Goes.rely trl h hrl)
 | d1 h0 hf h => exact .d1 h0 (fin hf) (Goes.rely trl h hrl)
 | d2 h0 hf h => exact .d2 h0 (fin hf) (Goes.rely trl h hrl)
 | d3 h0 hf h => exact .d3 h0 (fin hf) (Goes.rely trl h hrl)
 | d4 h0 hf h => exact .d4 h0 (fin hf) (Goes.rely trl h hrl)
 | quit h0 hf h => exact .quit h0 (fin hf) h
theorem MSit.rely (h : MSit P ty Wg N o Given Fz tag Q f d g w) (hr : MR ty Wg (own0 o) Given w w₁) (ha : Agr w.heap.size o o₁) : MSit P ty Wg N o₁ Given Fz tag Q f d g w₁ := by
 have key : ∀ o', Agr w₁.heap.size o₁ o' → Agr w.heap.size o o' ∧ MR ty Wg (own0 o') Given w w₁ := fun o' h' => ⟨ha.of hr.size h', hr.agr (ha.of hr.size h')⟩
 cases h with
 | run h => exact .run fun o' h' => Goo.rely Rel.tr (h o' (key o' h').1) (key o' h').2
 | pk ha h => exact .pk ha fun o' h' w₂ h₂ => h o' (key o' h').1 w₂ ((key o' h').2.trans h₂)
 | a1 ha h => exact .a1 ha fun o' h' => Goo.rely Rel.tr (h o' (key o' h').1) (key o' h').2
 | ke ha h => exact .ke ha fun o' h' => Goo.rely Rel.tr (h o' (key o' h').1) (key o' h').2
 | go ha h => exact .go ha fun o' h' => Goo.rely Rel.tr (h o' (key o' h').1) (key o' h').2
 | anch ha h => exact .anch ha fun o' h' => Goo.rely Rel.tr (h o' (key o' h').1) (key o' h').2
 | w1 ha h => exact .w1 ha fun o' h' => Goo.rely Rel.tr (h o' (key o' h').1) (key o' h').2
 | w2 ha h => exact .w2 ha fun o' h' => Goo.rely Rel.tr (h o' (key o' h').1) (key o' h').2
 | w3 ha h => exact .w3 ha fun o' h' => Goo.rely Rel.tr (h o' (key o' h').1) (key o' h').2
 | blk ha h => exact .blk ha fun o' h' w₂ h₂ => h o' (key o' h').1 w₂ ((key o' h').2.trans h₂)
 | w4 ha h => exact .w4 ha fun o' h' => Goo.rely Rel.tr (h o' (key o' h').1) (key o' h').2
 | kw ha h => exact .kw ha fun o' h' => Goo.rely Rel.tr (h o' (key o' h').1) (key o' h').2
 | acq ha h => exact .acq ha fun o' h' => Goo.rely Rel.tr (h o' (key o' h').1) (key o' h').2
end
end Go.Proofs.Ytblpmdolclalnaa
