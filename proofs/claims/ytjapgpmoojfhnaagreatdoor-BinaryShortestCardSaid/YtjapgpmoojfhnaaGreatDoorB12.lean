/- The rung that is nearest to a number given as a fraction of units of the least place: what it means, that it is one alone, that it is monotone, and how a rounded significand gives it. The powers of ten of the library's table, and its scaling of a number of 64 bits by one of them: what it yields is the whole part of the product and whether anything is left over. -/
import Derived.Test.YtjapgpmoojfhnaaGreatDoorB01
import GoSem.PinnedTables
import Derived.KernelRfl
namespace Go.Proofs.YtjapgpmoojfhnaaGreatDoor.Fl
open Ieee

/-- 'n / d' units (of 2^-1074) lie nearest to rung r; between two, r is even. -/
def Near (n d r : Nat) : Prop :=
  r ≤ 9218868437227405312 ∧
  (r = 0 ∨ (val double (r - 1) + val double r) * d < 2 * n ∨ ((val double (r - 1) + val double r) * d = 2 * n ∧ r % 2 = 0)) ∧
  (r = 9218868437227405312 ∨ 2 * n < (val double r + val double (r + 1)) * d ∨ (2 * n = (val double r + val double (r + 1)) * d ∧ r % 2 = 0))

theorem mid_lt {r s : Nat} (h : r < s) : val double r + val double (r + 1) < val double s + val double (s + 1) := by
  have h1 := val_lt (f := double) h
  have h2 := val_lt (f := double) (show r + 1 < s + 1 by omega)
  omega
theorem mid_le {r s : Nat} (h : r ≤ s) : val double r + val double (r + 1) ≤ val double s + val double (s + 1) := by
  rcases Nat.lt_or_ge r s with h1 | h1
  · exact Nat.le_of_lt (mid_lt h1)
  · obtain rfl : r = s := by omega
    exact Nat.le_refl _

/-- The greater number has no smaller rung. -/
theorem near_mono {n d r n' d' r' : Nat} (hd : 0 < d) (hd' : 0 < d') (h : Near n d r) (h' : Near n' d' r') (hle : n * d' ≤ n' * d) : r ≤ r' := by
  rcases Nat.lt_or_ge r' r with hlt | hge
  · exfalso
    obtain ⟨r1, hr1⟩ : ∃ q, r = q + 1 := ⟨r - 1, by omega⟩
    subst hr1
    obtain ⟨hmax, hl, _⟩ := h
    obtain ⟨_, _, hu⟩ := h'
    have hlo : (val double r1 + val double (r1 + 1)) * d ≤ 2 * n := by
      rcases hl with h1 | h1 | h1
      · omega
      · simpa using Nat.le_of_lt h1
      · simpa using Nat.le_of_eq h1.1
    have hup : 2 * n' ≤ (val double r' + val double (r' + 1)) * d' := by
      rcases hu with h1 | h1 | h1
      · omega
      · exact Nat.le_of_lt h1
      · exact Nat.le_of_eq h1.1
    have hm := mid_le (show r' ≤ r1 by omega)
    -- mid r1 * d * d' <= 2 n d' <= 2 n' d <= mid r' * d' * d
    have e1 : (val double r1 + val double (r1 + 1)) * d * d' ≤ 2 * n * d' := Nat.mul_le_mul_right _ hlo
    have e2 : 2 * n' * d ≤ (val double r' + val double (r' + 1)) * d' * d := Nat.mul_le_mul_right _ hup
    have e3 : 2 * n * d' ≤ 2 * n' * d := by rw [Nat.mul_assoc, Nat.mul_assoc]; exact Nat.mul_le_mul_left 2 hle
    have e4 : (val double r' + val double (r' + 1)) * d' * d ≤ (val double r1 + val double (r1 + 1)) * d * d' := by
      rw [Nat.mul_assoc, Nat.mul_assoc, Nat.mul_comm d d']
      exact Nat.mul_le_mul_right _ hm
    rcases Nat.lt_or_ge r' r1 with hlt2 | hge2
    · have h5 := mid_lt hlt2
      have h6 : (val double r' + val double (r' + 1)) * (d' * d) < (val double r1 + val double (r1 + 1)) * (d' * d) := Nat.mul_lt_mul_of_pos_right h5 (Nat.mul_pos hd' hd)
      rw [Nat.mul_assoc] at e4
      rw [Nat.mul_assoc, Nat.mul_comm d d'] at e1
      rw [Nat.mul_assoc (val double r' + _)] at e2
      omega
    · obtain rfl : r' = r1 := by omega
      have q1 : (val double r' + val double (r' + 1)) * d = 2 * n := by
        have : (val double r' + val double (r' + 1)) * d * d' = 2 * n * d' := by omega
        exact Nat.eq_of_mul_eq_mul_right hd' this
      have q2 : 2 * n' = (val double r' + val double (r' + 1)) * d' := by
        have : 2 * n' * d = (val double r' + val double (r' + 1)) * d' * d := by omega
        exact Nat.eq_of_mul_eq_mul_right hd this
      rcases hl with h1 | h1 | h1
      · omega
      · simp at h1; omega
      · rcases hu with h2 | h2 | h2
        · omega
        · omega
        · omega
  · exact hge

/-- There is one alone. -/
theorem near_unique {n d r s : Nat} (hd : 0 < d) (h : Near n d r) (h' : Near n d s) : r = s :=
  Nat.le_antisymm (near_mono hd hd h h' (Nat.le_refl _)) (near_mono hd hd h' h (Nat.le_refl _))

/-- The same number, written otherwise. -/
theorem near_eq {n d r n' d' : Nat} (hd : 0 < d) (hd' : 0 < d') (e : n * d' = n' * d) (h : Near n d r) : Near n' d' r := by
  have key : ∀ x : Nat, (x * d < 2 * n ↔ x * d' < 2 * n') ∧ (x * d = 2 * n ↔ x * d' = 2 * n') ∧ (2 * n < x * d ↔ 2 * n' < x * d') := by
    intro x
    have c1 : x * d * d' = x * d' * d := by rw [Nat.mul_assoc, Nat.mul_comm d d', ← Nat.mul_assoc]
    have c2 : 2 * n * d' = 2 * n' * d := by rw [Nat.mul_assoc, e, ← Nat.mul_assoc]
    refine ⟨?_, ?_, ?_⟩
    · rw [← Nat.mul_lt_mul_right (a0 := hd') (b := x * d), ← Nat.mul_lt_mul_right (a0 := hd) (b := x * d'), c1, c2]
    · constructor
      · intro h; exact Nat.eq_of_mul_eq_mul_right hd (by rw [← c1, ← c2, h])
      · intro h; exact Nat.eq_of_mul_eq_mul_right hd' (by rw [c1, c2, h])
    · rw [← Nat.mul_lt_mul_right (a0 := hd') (b := 2 * n), ← Nat.mul_lt_mul_right (a0 := hd) (b := 2 * n'), c1, c2]
  obtain ⟨h1, h2, h3⟩ := h
  refine ⟨h1, ?_, ?_⟩
  · rcases h2 with h | h | ⟨h, hv⟩
    · exact .inl h
    · exact .inr (.inl ((key _).1.1 h))
    · exact .inr (.inr ⟨(key _).2.1.1 h, hv⟩)
  · rcases h3 with h | h | ⟨h, hv⟩
    · exact .inl h
    · exact .inr (.inl ((key _).2.2.1 h))
    · exact .inr (.inr ⟨((key _).2.1.1 h.symm).symm, hv⟩)

/-- The value of the rung of a significand at a place. -/
theorem val_at {k q : Nat} (h : k = 0 ∨ 4503599627370496 ≤ q) (hq : q ≤ 9007199254740992) : val double (k * 4503599627370496 + q) = q * 2 ^ k := by
  rcases Nat.lt_or_ge (k * 4503599627370496 + q) 4503599627370496 with hl | hl
  · have hk : k = 0 := by omega
    subst hk
    rw [val_low (by rw [d_binade]; omega)]
    simp
  · rw [val_high (by rw [d_binade]; omega), d_binade]
    rcases Nat.lt_or_ge q 9007199254740992 with h2 | h2
    · have e1 : (k * 4503599627370496 + q) / 4503599627370496 - 1 = k := by omega
      have e2 : 4503599627370496 + (k * 4503599627370496 + q) % 4503599627370496 = q := by omega
      rw [e1, e2]
    · have hq2 : q = 9007199254740992 := by omega
      subst hq2
      have e1 : (k * 4503599627370496 + 9007199254740992) / 4503599627370496 - 1 = k + 1 := by omega
      have e2 : 4503599627370496 + (k * 4503599627370496 + 9007199254740992) % 4503599627370496 = 4503599627370496 := by omega
      rw [e1, e2, Nat.pow_succ]
      omega

/-- .. with the limit. -/
theorem near_min {n d r : Nat} (hd : 0 < d)
    (lower : r = 0 ∨ (val double (r - 1) + val double r) * d < 2 * n ∨ ((val double (r - 1) + val double r) * d = 2 * n ∧ r % 2 = 0))
    (upper : 2 * n < (val double r + val double (r + 1)) * d ∨ (2 * n = (val double r + val double (r + 1)) * d ∧ r % 2 = 0)) : Near n d (min r 9218868437227405312) := by
  rcases Nat.lt_or_ge r 9218868437227405312 with hlt | hge
  · rw [Nat.min_eq_left (Nat.le_of_lt hlt)]
    exact ⟨Nat.le_of_lt hlt, lower, .inr upper⟩
  · rw [Nat.min_eq_right hge]
    refine ⟨Nat.le_refl _, ?_, .inl rfl⟩
    right
    have hmid : (val double (9218868437227405312 - 1) + val double 9218868437227405312) * d ≤ (val double (r - 1) + val double r) * d := by
      refine Nat.mul_le_mul_right _ ?_
      have := mid_le (show 9218868437227405312 - 1 ≤ r - 1 by omega)
      rwa [show (9218868437227405312 - 1 + 1) = 9218868437227405312 from rfl, show r - 1 + 1 = r by omega] at this
    rcases lower with h | h | ⟨h, he⟩
    · omega
    · exact .inl (Nat.lt_of_le_of_lt hmid h)
    · rcases Nat.lt_or_ge 9218868437227405312 r with h5 | h5
      · left
        have := mid_lt (show 9218868437227405312 - 1 < r - 1 by omega)
        rw [show (9218868437227405312 - 1 + 1) = 9218868437227405312 from rfl, show r - 1 + 1 = r by omega] at this
        exact Nat.lt_of_lt_of_le (Nat.mul_lt_mul_of_pos_right this hd) (Nat.le_of_eq h)
      · obtain rfl : r = 9218868437227405312 := by omega
        exact .inr ⟨h, by decide⟩


/-- A significand that is rounded right gives the nearest rung: q is the whole part at place k, m what the rounding makes of it. -/
theorem near_of_rnd {n d k q m : Nat} (hd : 0 < d) (hk : k = 0 ∨ 4503599627370496 ≤ q) (hq : q < 9007199254740992) (h0 : q * 2 ^ k * d ≤ n) (h1 : n < (q + 1) * 2 ^ k * d)
    (hm : (m = q ∧ (2 * n < (2 * q + 1) * 2 ^ k * d ∨ (2 * n = (2 * q + 1) * 2 ^ k * d ∧ q % 2 = 0))) ∨ (m = q + 1 ∧ ((2 * q + 1) * 2 ^ k * d < 2 * n ∨ (2 * n = (2 * q + 1) * 2 ^ k * d ∧ q % 2 = 1)))) :
    Near n d (min (k * 4503599627370496 + m) 9218868437227405312) := by
  have vq := val_at (k := k) (q := q) hk (by omega)
  have vq1 := val_at (k := k) (q := q + 1) (by omega) (by omega)
  have hpar : (k * 4503599627370496 + m) % 2 = m % 2 := by omega
  -- without the limit
  have lower : k * 4503599627370496 + m = 0 ∨ (val double (k * 4503599627370496 + m - 1) + val double (k * 4503599627370496 + m)) * d < 2 * n ∨ ((val double (k * 4503599627370496 + m - 1) + val double (k * 4503599627370496 + m)) * d = 2 * n ∧ m % 2 = 0) := by
    rcases hm with ⟨rfl, _⟩ | ⟨rfl, hm⟩
    · rcases Nat.eq_zero_or_pos (k * 4503599627370496 + m) with hz | hz
      · exact .inl hz
      · right; left
        have hlt := val_lt (f := double) (show k * 4503599627370496 + m - 1 < k * 4503599627370496 + m by omega)
        have h2 : (val double (k * 4503599627370496 + m - 1) + val double (k * 4503599627370496 + m)) * d < (val double (k * 4503599627370496 + m) + val double (k * 4503599627370496 + m)) * d := Nat.mul_lt_mul_of_pos_right (by omega) hd
        refine Nat.lt_of_lt_of_le h2 ?_
        rw [vq, Nat.add_mul]
        omega
    · right
      have e : (val double (k * 4503599627370496 + (q + 1) - 1) + val double (k * 4503599627370496 + (q + 1))) * d = (2 * q + 1) * 2 ^ k * d := by
        rw [show k * 4503599627370496 + (q + 1) - 1 = k * 4503599627370496 + q by omega, vq, vq1, ← Nat.add_mul]
        congr 2
        omega
      rw [e]
      rcases hm with h | ⟨h, ho⟩
      · exact .inl h
      · exact .inr ⟨h.symm, by omega⟩
  have upper : 2 * n < (val double (k * 4503599627370496 + m) + val double (k * 4503599627370496 + m + 1)) * d ∨ (2 * n = (val double (k * 4503599627370496 + m) + val double (k * 4503599627370496 + m + 1)) * d ∧ m % 2 = 0) := by
    rcases hm with ⟨rfl, hm⟩ | ⟨rfl, hm⟩
    · have e : (val double (k * 4503599627370496 + m) + val double (k * 4503599627370496 + m + 1)) * d = (2 * m + 1) * 2 ^ k * d := by
        rw [Nat.add_assoc, vq, vq1, ← Nat.add_mul]
        congr 2
        omega
      rw [e]
      exact hm
    · left
      have hlt := val_lt (f := double) (show k * 4503599627370496 + (q + 1) < k * 4503599627370496 + (q + 1) + 1 by omega)
      have h2 : (val double (k * 4503599627370496 + (q + 1)) + val double (k * 4503599627370496 + (q + 1))) * d < (val double (k * 4503599627370496 + (q + 1)) + val double (k * 4503599627370496 + (q + 1) + 1)) * d := Nat.mul_lt_mul_of_pos_right (by omega) hd
      refine Nat.lt_of_le_of_lt ?_ h2
      rw [vq1, Nat.add_mul]
      omega
  rw [← hpar] at lower upper
  exact near_min hd lower upper

/-- A number that is a rung's value is nearest to it. -/
theorem near_self {n d r : Nat} (hd : 0 < d) (hr : r < 9218868437227405312) (h : n = val double r * d) : Near n d r := by
  refine ⟨Nat.le_of_lt hr, ?_, .inr (.inl ?_)⟩
  · rcases Nat.eq_zero_or_pos r with h0 | h0
    · exact .inl h0
    · right; left
      have := val_lt (f := double) (show r - 1 < r by omega)
      rw [h, ← Nat.mul_assoc]
      exact Nat.mul_lt_mul_of_pos_right (by omega) hd
  · have := val_lt (f := double) (show r < r + 1 by omega)
    rw [h, ← Nat.mul_assoc]
    exact Nat.mul_lt_mul_of_pos_right (by omega) hd
end Go.Proofs.YtjapgpmoojfhnaaGreatDoor.Fl

namespace Go.Proofs.YtjapgpmoojfhnaaGreatDoor.Fl

/-- The binary place of a power of ten, as the library reckons it. -/
def lp (p : Int) : Int := p * 108853 / 32768
/-- 10 ^ p * 2 ^ (127 - lp p) as a fraction. -/
def tN (p : Int) : Nat := if 0 ≤ p then 10 ^ p.toNat * 2 ^ (127 - lp p).toNat else 2 ^ (127 - lp p).toNat
def tD (p : Int) : Nat := if 0 ≤ p then 2 ^ (lp p - 127).toNat else 10 ^ (-p).toNat
/-- For each power but the small ones: a number that shows that no product lies too near to a whole one. -/
def certs : List Int := [
  -14776042809490538153, 9976691318428319375, 7981353054742655500, 6385082443794124400, 10216131910070599040, 8172905528056479232, 17050216769059818406, -7383611277981415316,
  -20829440686770852853, 6590775389677379459, -10669650006965962891, 3138690310348710989, 14185362564200450093, -7956986877608028629, 15470241648802934797, 4596699283999568193,
  11456853462242434199, -1330157138340789661, 14014255582359078971, -5155969102859263364, -8957082149802152775, -7165665719841722220, -11465065151746755552, 17219873576084080695,
  13775898860867264556, 5437786923735678329, 9933161703946675979, 2740562055609079739, -3013517663060997253, 4987602821586727033, -11804272211119013451, -11804272211119013451,
  10341018956762565943, 12932064072632702899, 6722820397231566957, -5490236264838532521, 4608898166789022911, -15236835457246284109, -7298542007632161301, -7298542007632161301,
  8409365533674358482, 5934278141038372834, -10094204441053226539, 7875577081045304563, -9850265440848918812, 13288587801878379423, -1044498958460691833, -4177995833842767332,
  3291409054817244929, -13925893254746366575, -2785178650949273315, -2228142920759418652, -8912571683037674608, 9838157730118219477, -973387741389544210, -778710193111635368,
  -4538763491708805201, 6923837976097232773, 6923837976097232773, 1803401189052482957, 8785192521172255541, -13056771449346424590, -10445417159477139672, -4510211791451832695,
  -902042358290366539, -1804084716580733078, 8807665845448990765, 7046132676359192612, -9011913273405478405, 5189284040889700227, 7843338111335386270, 6274670489068309016,
  5092627806072006534, 6547524733076249173, 6547524733076249173, 4947157655833868562, -10272185937965742597, -10272185937965742597, -16217922621295403753, 12539188338136754198,
  -1471493713263459822, 3397032250664895875, 2717625800531916700, 2174100640425533360, 1739280512340426688, 10437535069964351834, 347670902875906167, 347670902875906167,
  -13165349183943862894, 3189343281390222446, 8136548626828745359, -13500602554418204063, -12021938714823917847, -8396094300569779681, -8396094300569779681, 14807491948039702123,
  -10472252491303707065, -16755603986085931304, 13161199241474011439, 15078215105267035367, 16560245435286023298, -940800559026823970, -752640447221459176, -7696610811404988645,
  -3078644324561995458, -12314577298247981832, -3549441005075543930, -2839552804060435144, -15302016830903096458, -5726426170895102995, -1145285234179020599, -2290570468358041198,
  -9162281873432164792, -11380435702440633161, -11380435702440633161, -11380435702440633161, 9267645054857736570, 7414116043886189256, 11780937423765287789, -4630726723053500095,
  -3704581378442800076, 5905397629491570159, 5905397629491570159, 16333989579023789579, 3819679239585126275, 6111486783336202040, 4889189426668961632, 4345544743100783551,
  -10428584838352952303, -12515024351112470983, -3615290913634952013, -7230581827269904026, -3703926975465263093, 14248437106147061460, 10544510130681798367, 1767206204442019353,
  -4547754454772996117, -609805032998361998077, 15762928029511226596, -10630678362578645610, 4949160152575839167, -5813802121535165357, -5813802121535165357, -7862637540082247119,
  -15725275080164494238, 7025586358186323042, -5587551396247165391, -13443041041295089981, -1748515218436821274, 10404729789348707730, 16647567662957932368, 607011483106478481,
  9323844507855648149, 10703004222941594994, -6454829883539554973, -12909659767079109946, 12872422059701138233, 12872422059701138233, -4955535454539180805, -7928856727262689288,
  10894995926725758655, 2178999185345151731, 8715996741380606924, -1610726199551357355, -644290479820542942, 10917429531052419251, -8612187254057188965, -6889749803245751172,
  2533168801920759346, -2725314160483765657, -10048761236137499399, 13727267568273473867, -6764958008109694533, -3901093563222548879, -10043714100331001477, 15854421319572125043,
  -9728174032700752346, -2666020155706026399, 6500609922920713997, 1767549829187607279, -7219386184135449293, 12228200452814757745, 9782560362251806196, -6948150079585311585,
  -11117040127336498536, -8015733891653065457, -8015733891653065457, 12046465730168521259, 1890154148382781937, -17006160190210295690, -11714774003785454615, -9371819203028363692,
  -8072396760826080134, -6170446709459169517, -12340893418918339034, 6877217696560247642, 4004025637960986321, 4004025637960986321, 4004025637960986321, -16546207434005712405,
  4235620355014267601, -9742448686760802419, -9742448686760802419, 12622461780079309613, 13720451475030076849, 3731397078090803162, -9374887321663566211, 1365085953537523939,
  1365085953537523939, -12382079838719871453, -12382079838719871453, -15470690376846214997, -13623051591213308326, 2608804448857667161, -11420202162742180093, 3780093371247662878,
  -1165996830973975447, 15827488647109242640, -3540120128040361843, 2940724290250740539, -10957495927315911919, 9088157235327549630, 7270525788262039704, 1251659114976716003,
  14695611838880120083, -6814712519365326445, -1362942503873065289, -5451770015492261156, 9668989894351778262, -10162809949004875882, -5278932996363676989, 1479483528589505842,
  5554681572821496849, -13185934758156981830, 9790769669827295515, 7832615735861836412, 88439532113775841, 6389907933648755307, -23432630639573022093, -7527276733854740813,
  -4346205952711084557, 7571702928033049285, 1514340585606609857, 18160049857826648233, 13318974851666564711, 4118524906071872009, 8237049812143744018, -2099245051594481081,
  -12047676983860646025, -9638141587088516820, -7710513269670813456, -5961090311065069271, 1328383377237511636409, 15623125943290992789, 15623125943290992789, 9778613303868468131,
  9778613303868468131, 231502940952061274487, 750146571347584360967, 108090467904820519, 12896321001990968290, 10317056801592774632, -6231979565185843107, -7539204280836061195,
  -1507840856167212239, -12062726849337697912, 15115421011606313047, -12673265681791420939, -16440089111940046857, -17538325425016481405, -3507665085003296281, -3507665085003296281,
  -3507665085003296281, -14030660340013185124, -14080742485759389757, -2976411363539732777, -7418143812427595569, -6832015378288343563, 5974820216218612557, 11097554454021395005,
  4439021781608558002, -10622021244877778431, -10622021244877778431, 16462465958459242132, -6984562408392599371, -6984562408392599371, -6984562408392599371, -6984562408392599371,
  -8298677754506653829, -12669441133200558927, -10743996180570534341, -10743996180570534341, 11002771711837610557, 11002771711837610557, 8765924639986206157, 8765924639986206157,
  10197506765971104973, -251030048381617111, -8810683538569088467, -8810683538569088467, -157576780097272821991, 13114472948156555659, -5573329417113950893, -13835576008793615063,
  -615981462106152391, -6642997035308520329, -6642997035308520329, 8703372741147379, 15983228399349726733, 2140380717503854102, 12358506575979010566, 10460014722997213487,
  3994889085164598869, -15095557321833928361, -15095557321833928361, -5896783085721656606, -13255802474611474010, -10604641979689179208, 0, 0,
  0, 0, 0, 0, 0, 0, 0, 0,
  0, 0, 0, 0, 0, 0, 0, 0,
  0, 0, 0, 0, 0, 0, 0, 0,
  0, 0, 0, 0, 0, 0, 0, 0,
  0, 0, 0, 0, 0, 0, 0, 0,
  0, 0, 0, 0, 0, 0, 0, 0,
  0, 0, 13991122804113152581, 15009550522878043789, -5446136629611347657, -5446136629611347657, 7202841595437629673, -5832681969203104382,
  2297868441254741431, -7883161393119121509, 8406486341879059195, 6725189073503247356, -6477987557504884013, 9464705006104218967, -17967474373362407223, -10010936112940619765,
  -2002187222588123953, -4004374445176247906, 10024193995532838030, 8019355196426270424, -9213773431031191298, -3241899323151325739, -14093657625019640929, 3269155657969663375,
  2615324526375730700, 2092259621100584560, 1673807696880467648, 15129914451893539795, 3025982890378707959, 12103931561514831836, -786365723404097297, -4533805307344187917,
  -16525611975952477901, 6288322939696136407, -4416837465187391351, 13594786675663731332, 13118675501134836469, -11214230803019257017, -14227352338296308989, -3280443707096882018,
  114186633253824165, 91349306603059332, 5463380801872200659, 3351107926405767861, 3351107926405767861, 14411210743433945523, 7618860460644046007, 7618860460644046007,
  15255135794961809879, -6965949469487146, -12213164370279781193, 7322325862592278999, 11212705630439921887, 1739525376380259866, 3963224639261890795, 1585289855704756318,
  6341159422819025272, 3998523778266022813, 7997047556532045626, 579945552184410289, 579945552184410289, 579945552184410289, 7831730237743217983, -10674942613399035848,
  11637750841355304091, 9047848338570566063, -7762983339883807270, -6210386671907045816, 3249694333198548151, 14486190741529240717, 5893637190527366161, 8052770278906972877,
  11040373560625180433, 11040373560625180433, -15306120703649493322, -3763971288109001958, 11492102305297794266, 6538883098464855203, 6538883098464855203, -14249573113123889250,
  3103065017742987931, 16782655206341921611, -14591562867838862592, 2191092338503059019, 7386254617452229213, 9789510569809118153, 7866905807923607001, 7866905807923607001,
  -5922372650699841355, -9475796241119746168, -5618349199866322405, -2247339679946528962, 8643988913946659879, -5324541270703778315, -4259633016563022652, 3294503067078758649,
  -7474313439916587973, -7120190517612959703, -14240381035225919406, 9628308719246660445, 7702646975397328356, -2844904250625471197, 2179251629442203009, 12154645883220592043,
  12154645883220592043, -14649411523008171571, -6921507328261761559, 1706860212246211693, -6561321989957136263, -13122643979914272526, 829937656239290033, -11660027902666424067,
  -11660027902666424067, 8654256025465779962, -5529436763613147623, -5529436763613147623, 3778591184626843489, -8091380584855667499, 9282298129345216582, -451862795138702025,
  -90372559027740405, -18074511805548081, -72298047222192324, -578384377777538592, 9889554299577120559, -12792880163936606418, 15587371538023660298, -4440296120107365493,
  4465008182852902065, 893001636570580413, 3572006546282321652, 15435156905088165941, 2628179093034081455, 2102543274427265164, -9299437776150998265, -3719775110460399306,
  16271639669264887, 5954894504670491867, 11909789009340983734, 8818450791606492727, -8128592138429072677, 8680479060971008717, 9121988599004557549, -13182351236699935816,
  -14347631394665850535, 1791594352930488769, -8107527480827851081, 15838594934013343760, 6147207959784158303, -13975609544695978349, 17478279606597884343, 4910752227244997517,
  4910752227244997517, -7974268783123931482, 11046911076841568620, -14050069875386794223, 12690051039333321606, -9427043261954714171, 1014581625656829621, -11109535589214291081,
  -13801523312829614137, -7067485020350439717, -1680254386367100181, -4645835384460091665, -7433336615136146664, 2929965044609604187, 2929965044609604187, -10638849645745492403,
  -3402148477556107555, -2721718782044886044, -8919337533903126829, 996852469070058427, -8531063483820583261, -111248746252023169, 6802601037806061975, 1360520207561212395,
  1088416166048969916, 4353664664195879664, -17263184687152886435, 7056747844491786795, 1411349568898357359, 5645398275593429436, 7185620434951919351, 14371240869903838702,
  -4394350632958684507, 15036366885700182315, 6014546754280072926, 9115067677621205539, -5977247735799634466, -2928945438331115697, 11511934614897929479, -9250317119603650245,
  -3700126847841460098, -14800507391365840392, 5205256810712505345, 1041051362142501069, 4164205448570004276, -12602004937641717106, -3824356918065196843, 3916540893494438105,
  783308178698887621, 783308178698887621, 783308178698887621, 3133232714795550484, -7555784487484408317, 3502015446175999111, -7886836644563854374, 9723204186605896995,
  7778563349284717596, 1368324189886658611, 6496515517405105799, 6087228014261717257, -3089751210734108570, -2471800968587286856, -5092077246936020273, 7247688393519585631,
  -8422274833660567597, -5993034052309126131, 290964818776830667, 290964818776830667, -15609854807186047109, -3005585033926477155, -1202234013570590862, -9617872108564726896,
  -13019936790796959122, 2780483939598982759, 11763471783729948314, -1304654383439798287, -2609308766879596574, 13745683153247571161, -12863430330386455197, 5851174390443474850,
  9361879024709559760, 7489503219767647808, -6385821102928598747, 4714438355228398497, 9428876710456796994, 3644753396700270337, 1933257463055265281, 8956650421163493685,
  1791330084232698737, 7165320336930794948, 4246719317866303658, 8916480948369489722, 9723520580679062213, -11030401989560055127, 13874305094726885681, -9915854776233807378,
  -1191480891548145815, -953184713238516652, 11909651082034247699, 4095599566857295333, -7889481038884480026, -11773877939360697911, -11773877939360697911, -7326803620481698475,
  -1465360724096339695, -2344577158554143512, -9378308634216574048, -4499054460863230815, -7198487137381169304, -13081474438843665449, 7337389513007343234, -13081474438843665449,
  1556375423002219962, 7878427994641240115, -7955668698345352359, 11675521572809857819, -8699639273238253451, -549574934819008943, -13259932915398394790, -10607946332318715832,
  -485028632235571473, 15323616782109002323, -13810985048841030572, -5826920366190006579, -2891099526406815247, -14527051733436277971, 11086353942308980369, 16209035077458032037,
  16209035077458032037, 501525759083174641, 1003051518166349282, 15701100886902999655, 3140220177380599931, -395514463400174067, -10206910352977989406, -7303043032444662211]
/-- The places of the small powers. -/
def algM (p : Int) : Nat := if 0 ≤ p then 65 else min (127 - lp p).toNat (136 + (-p).toNat)
def sideA (b : Int) (m : Nat) : Nat := if b < 0 then b.natAbs * m % 2 ^ 136 else (2 ^ 136 - b.natAbs * m % 2 ^ 136) % 2 ^ 136
def chk1 (p : Int) (h l : Nat) (b : Int) : Bool :=
  decide (2 ^ 63 ≤ h) && decide (h < 2 ^ 64) && decide (l < 2 ^ 64) && decide (tN p ≤ (h * 2 ^ 64 - l) * tD p) && decide ((h * 2 ^ 64 - l) * tD p < tN p + tD p) &&
  decide (2 ^ 127 * tD p ≤ tN p) && decide (h * 2 ^ 64 - l + 2 ^ 118 ≤ 2 ^ 128) &&
  (if b = 0 then decide (tN p % 2 ^ algM p = 0) && decide (2 ^ 136 * tD p % 2 ^ algM p = 0) && decide (2 ^ 65 * tD p ≤ 2 ^ algM p)
   else decide (2 * b.natAbs < sideA b (h * 2 ^ 64 - l)) && decide (sideA b (h * 2 ^ 64 - l) + b.natAbs ≤ 2 ^ 72))
def chkAll : Nat → List (Nat × Nat) → List Int → Bool
  | _, _, [] => true
  | i, (h, l) :: rs, b :: bs => chk1 ((i : Int) - 345) h l b && chkAll (i + 1) rs bs
  | _, [], _ :: _ => false
set_option maxRecDepth 100000 in
theorem chk_all : chkAll 0 (Go.Pinned.pow10Rows.drop 3) certs = true := by kernel_rfl
theorem certs_len : certs.length = 656 := by kernel_rfl
theorem chkAll_get : ∀ {bs : List Int} {i j : Nat} {rs : List (Nat × Nat)}, chkAll i rs bs = true → (hj : j < bs.length) → ∃ h l b, rs[j]? = some (h, l) ∧ bs[j]? = some b ∧ chk1 (((i + j : Nat) : Int) - 345) h l b = true
  | [], _, _, _, _, hj => by simp at hj
  | b :: bs, i, j, [], h, _ => by simp [chkAll] at h
  | b :: bs, i, 0, (h, l) :: rs, hc, _ => by
    simp only [chkAll, Bool.and_eq_true] at hc
    exact ⟨h, l, b, rfl, rfl, by simpa using hc.1⟩
  | b :: bs, i, j + 1, (h, l) :: rs, hc, hj => by
    simp only [chkAll, Bool.and_eq_true] at hc
    obtain ⟨h', l', b', e1, e2, e3⟩ := chkAll_get (i := i + 1) (j := j) hc.2 (by simpa using hj)
    exact ⟨h', l', b', by simpa using e1, by simpa using e2, by rw [show i + (j + 1) = i + 1 + j by omega]; exact e3⟩

/-- What is known of one row of the table. -/
structure Row1 (p : Int) (h l : Nat) : Prop where
  h63 : 9223372036854775808 ≤ h
  h64 : h < 18446744073709551616
  l64 : l < 18446744073709551616
  up : tN p ≤ (h * 2 ^ 64 - l) * tD p
  low : (h * 2 ^ 64 - l) * tD p < tN p + tD p
  big : 2 ^ 127 * tD p ≤ tN p
  top : h * 2 ^ 64 - l + 2 ^ 118 ≤ 2 ^ 128
  hit : ∀ x hi mid mid2 low2 : Nat, x < 18446744073709551616 → 9223372036854775808 ≤ x → x * h = hi * 18446744073709551616 + mid → x * l = mid2 * 18446744073709551616 + low2 → low2 < 18446744073709551616 → mid2 ≤ mid → mid ≤ mid2 + 1 → hi % 256 = 0 → x * tN p = hi * 2 ^ 128 * tD p
theorem tD_pos (p : Int) : 0 < tD p := by
  unfold tD
  split
  · exact Nat.two_pow_pos _
  · exact Nat.pow_pos (by decide)

/-- x * pm, parted. -/
theorem parts {x h l hi mid mid2 low2 : Nat} (hl : l ≤ h * 18446744073709551616) (e1 : x * h = hi * 18446744073709551616 + mid) (e2 : x * l = mid2 * 18446744073709551616 + low2) :
    x * (h * 18446744073709551616 - l) + mid2 * 18446744073709551616 + low2 = hi * 340282366920938463463374607431768211456 + mid * 18446744073709551616 := by
  have h1 : x * (h * 18446744073709551616 - l) = x * h * 18446744073709551616 - x * l := by rw [Nat.mul_sub, Nat.mul_assoc]
  have h2 : x * l ≤ x * h * 18446744073709551616 := by rw [Nat.mul_assoc]; exact Nat.mul_le_mul_left _ hl
  rw [h1]
  rw [e1] at h2 ⊢
  rw [e2] at h2 ⊢
  omega

theorem hit_cert {x h l hi mid mid2 low2 : Nat} {b : Int} (hl : l ≤ h * 18446744073709551616) (ha : 2 * b.natAbs < sideA b (h * 18446744073709551616 - l)) (hs : sideA b (h * 18446744073709551616 - l) + b.natAbs ≤ 2 ^ 72)
    (hx : x < 18446744073709551616) (hx3 : 9223372036854775808 ≤ x) (e1 : x * h = hi * 18446744073709551616 + mid) (e2 : x * l = mid2 * 18446744073709551616 + low2) (hlow : low2 < 18446744073709551616) (g1 : mid2 ≤ mid) (g2 : mid ≤ mid2 + 1) (h256 : hi % 256 = 0) : False := by
  have hp := parts hl e1 e2
  generalize hm : h * 18446744073709551616 - l = m at *
  generalize hA : sideA b m = a at *
  -- a + b * m is a multiple of 2^136
  have hdvd : ∃ c : Int, (a : Int) + b * m = c * 87112285931760246646623899502532662132736 := by
    unfold sideA at hA
    have hM : (2 : Nat) ^ 136 = 87112285931760246646623899502532662132736 := by decide
    rw [hM] at hA
    split at hA
    · rename_i hneg
      have hbm : b = -(b.natAbs : Int) := by omega
      refine ⟨-((b.natAbs * m / 87112285931760246646623899502532662132736 : Nat) : Int), ?_⟩
      have hd := Nat.div_add_mod (b.natAbs * m) 87112285931760246646623899502532662132736
      have hcast : ((b.natAbs * m : Nat) : Int) = (b.natAbs : Int) * m := by push_cast; rfl
      have hbmm : b * (m : Int) = -((b.natAbs * m : Nat) : Int) := by
        rw [hcast, ← Int.neg_mul, ← hbm]
      rw [hbmm]
      omega
    · rename_i hneg
      have hbm : b = (b.natAbs : Int) := by omega
      have hd := Nat.div_add_mod (b.natAbs * m) 87112285931760246646623899502532662132736
      have hlt := Nat.mod_lt (b.natAbs * m) (show 87112285931760246646623899502532662132736 > 0 by decide)
      have hcast : ((b.natAbs * m : Nat) : Int) = (b.natAbs : Int) * m := by push_cast; rfl
      have hbmm : b * (m : Int) = ((b.natAbs * m : Nat) : Int) := by
        rw [hcast, ← hbm]
      rw [hbmm]
      rcases Nat.eq_zero_or_pos (b.natAbs * m % 87112285931760246646623899502532662132736) with h0 | h0
      · rw [h0] at hA
        simp at hA
        exact ⟨((b.natAbs * m / 87112285931760246646623899502532662132736 : Nat) : Int), by omega⟩
      · rw [Nat.mod_eq_of_lt (by omega)] at hA
        exact ⟨((b.natAbs * m / 87112285931760246646623899502532662132736 : Nat) : Int) + 1, by omega⟩
  obtain ⟨c, hc⟩ := hdvd
  obtain ⟨t, ht⟩ : ∃ t, hi = 256 * t := ⟨hi / 256, by omega⟩
  -- w := x m - hi 2^128
  obtain ⟨w, hw⟩ : ∃ w : Int, w = (x : Int) * m - (t : Int) * 87112285931760246646623899502532662132736 := ⟨_, rfl⟩
  have hw1 : -18446744073709551616 < w ∧ w ≤ 18446744073709551616 := by
    have : ((x * m : Nat) : Int) = (x : Int) * m := by push_cast; rfl
    rw [hw, ← this]
    omega
  have key : (a : Int) * x + b * w = 87112285931760246646623899502532662132736 * ((x : Int) * c - b * t) := by
    have h1 : b * w = b * ((x : Int) * m) - b * ((t : Int) * 87112285931760246646623899502532662132736) := by rw [hw, Int.mul_sub]
    have h2 : (x : Int) * ((a : Int) + b * m) = (x : Int) * (c * 87112285931760246646623899502532662132736) := by rw [hc]
    rw [Int.mul_add] at h2
    rw [h1, Int.mul_sub]
    have h3 : (a : Int) * x = (x : Int) * a := Int.mul_comm _ _
    have h4 : (x : Int) * (b * m) = b * ((x : Int) * m) := by rw [← Int.mul_assoc, Int.mul_comm (x : Int) b, Int.mul_assoc]
    have h5 : 87112285931760246646623899502532662132736 * ((x : Int) * c) = (x : Int) * (c * 87112285931760246646623899502532662132736) := by rw [Int.mul_comm 87112285931760246646623899502532662132736, Int.mul_assoc]
    have h6 : 87112285931760246646623899502532662132736 * (b * (t : Int)) = b * ((t : Int) * 87112285931760246646623899502532662132736) := by rw [Int.mul_comm 87112285931760246646623899502532662132736, Int.mul_assoc]
    omega
  -- bounds
  have hbw : -((b.natAbs : Int) * 18446744073709551616) ≤ b * w ∧ b * w ≤ (b.natAbs : Int) * 18446744073709551616 := by
    have h1 : (b * w).natAbs = b.natAbs * w.natAbs := Int.natAbs_mul b w
    have h2 : b.natAbs * w.natAbs ≤ b.natAbs * 18446744073709551616 := Nat.mul_le_mul_left _ (by omega)
    have h3 : ((b.natAbs * 18446744073709551616 : Nat) : Int) = (b.natAbs : Int) * 18446744073709551616 := Int.natCast_mul _ _
    omega
  have hax : (a : Int) * 9223372036854775808 ≤ (a : Int) * x ∧ (a : Int) * x ≤ (a : Int) * 18446744073709551616 :=
    ⟨Int.mul_le_mul_of_nonneg_left (by omega) (by omega), Int.mul_le_mul_of_nonneg_left (by omega) (by omega)⟩
  have hpos : 0 < (a : Int) * x + b * w := by
    have : 2 * (b.natAbs : Int) < a := by omega
    omega
  have hlt : (a : Int) * x + b * w < 87112285931760246646623899502532662132736 := by
    have h2 : (a : Int) + b.natAbs ≤ 4722366482869645213696 := by have : (2 : Nat) ^ 72 = 4722366482869645213696 := by decide
                                                                  omega
    have h3 : (a : Int) * x < (a : Int) * 18446744073709551616 := Int.mul_lt_mul_of_pos_left (by omega) (by omega)
    omega
  rw [key] at hpos hlt
  generalize (x : Int) * c - b * t = y at *
  omega

theorem hit_alg {x h l hi mid mid2 low2 N D M : Nat} (hl : l ≤ h * 18446744073709551616) (hN : N % 2 ^ M = 0) (hD : 2 ^ 136 * D % 2 ^ M = 0) (hM : 2 ^ 65 * D ≤ 2 ^ M) (up : N ≤ (h * 18446744073709551616 - l) * D) (low : (h * 18446744073709551616 - l) * D < N + D)
    (hx : x < 18446744073709551616) (e1 : x * h = hi * 18446744073709551616 + mid) (e2 : x * l = mid2 * 18446744073709551616 + low2) (hlow : low2 < 18446744073709551616) (g1 : mid2 ≤ mid) (g2 : mid ≤ mid2 + 1) (h256 : hi % 256 = 0) : x * N = hi * 2 ^ 128 * D := by
  have hp := parts hl e1 e2
  generalize hm : h * 18446744073709551616 - l = m at *
  obtain ⟨t, ht⟩ : ∃ t, hi = 256 * t := ⟨hi / 256, by omega⟩
  obtain ⟨r, hr⟩ : ∃ r, m * D = N + r := ⟨m * D - N, by omega⟩
  have hrD : r < D := by omega
  -- w := x m - t 2^136 in (-2^64, 2^64]
  have hMi : (2 : Int) ^ M = ((2 ^ M : Nat) : Int) := by push_cast; rfl
  obtain ⟨n1, hn1⟩ : ∃ n, N = 2 ^ M * n := ⟨N / 2 ^ M, by rw [Nat.mul_div_cancel' (Nat.dvd_of_mod_eq_zero hN)]⟩
  obtain ⟨d1, hd1⟩ : ∃ n, 2 ^ 136 * D = 2 ^ M * n := ⟨2 ^ 136 * D / 2 ^ M, by rw [Nat.mul_div_cancel' (Nat.dvd_of_mod_eq_zero hD)]⟩
  have h136 : (2 : Nat) ^ 136 = 87112285931760246646623899502532662132736 := by decide
  have h128 : (2 : Nat) ^ 128 = 340282366920938463463374607431768211456 := by decide
  have h65 : (2 : Nat) ^ 65 = 36893488147419103232 := by decide
  rw [h136] at hd1
  rw [h65] at hM
  rw [h128]
  generalize hPM : 2 ^ M = PM at *
  -- x N + x r = x m D
  have k1 : x * N + x * r = x * m * D := by rw [← Nat.mul_add, ← hr, Nat.mul_assoc]
  have k2 : x * r ≤ 18446744073709551616 * D := Nat.mul_le_mul (by omega) (by omega)
  have k2' : x * r < 18446744073709551616 * D ∨ D = 0 := by
    rcases Nat.eq_zero_or_pos D with h | h
    · exact .inr h
    · left
      exact Nat.lt_of_le_of_lt (Nat.mul_le_mul_right r (Nat.le_of_lt hx)) (Nat.mul_lt_mul_of_pos_left hrD (by decide))
  -- x m D between
  have k3 : x * m + 18446744073709551616 ≥ t * 87112285931760246646623899502532662132736 + 1 ∧ x * m ≤ t * 87112285931760246646623899502532662132736 + 18446744073709551616 := by omega
  have k4 : x * m * D ≤ (t * 87112285931760246646623899502532662132736 + 18446744073709551616) * D := Nat.mul_le_mul_right _ k3.2
  have k5 : (t * 87112285931760246646623899502532662132736 + 1) * D ≤ (x * m + 18446744073709551616) * D := Nat.mul_le_mul_right _ k3.1
  rw [Nat.add_mul] at k4 k5
  rw [Nat.add_mul] at k5
  have k6 : t * 87112285931760246646623899502532662132736 * D = PM * (t * d1) := by rw [Nat.mul_assoc, hd1, ← Nat.mul_assoc, Nat.mul_comm t PM, Nat.mul_assoc]
  have k7 : x * N = PM * (x * n1) := by rw [hn1, ← Nat.mul_assoc, Nat.mul_comm x PM, Nat.mul_assoc]
  have k8 : x * N = t * 87112285931760246646623899502532662132736 * D := by
    rw [k6] at k4 k5 ⊢
    rw [k7] at k1 ⊢
    generalize x * n1 = u at *
    generalize t * d1 = v at *
    generalize x * m * D = z at *
    generalize x * r = y at *
    rcases Nat.lt_trichotomy u v with h | h | h
    · exfalso
      have : PM * (u + 1) ≤ PM * v := Nat.mul_le_mul_left _ h
      rw [Nat.mul_add] at this
      rcases k2' with k | k
      · omega
      · subst k; omega
    · rw [h]
    · exfalso
      have : PM * (v + 1) ≤ PM * u := Nat.mul_le_mul_left _ h
      rw [Nat.mul_add] at this
      rcases k2' with k | k
      · omega
      · subst k; omega
  rw [k8, ht]
  rw [show 256 * t * 340282366920938463463374607431768211456 = t * 87112285931760246646623899502532662132736 by omega]

/-- EVERY ROW from 10^-345 to 10^310. -/
theorem row_ok {p : Int} (h0 : -345 ≤ p) (h1 : p ≤ 310) : ∃ h l, Go.Pinned.pow10Rows[(p + 348).toNat]? = some (h, l) ∧ Row1 p h l := by
  obtain ⟨h, l, b, e1, _, e3⟩ := chkAll_get (i := 0) (j := (p + 345).toNat) chk_all (by rw [certs_len]; omega)
  rw [List.getElem?_drop, show 3 + (p + 345).toNat = (p + 348).toNat by omega] at e1
  rw [show (((0 + (p + 345).toNat : Nat) : Int) - 345) = p by omega] at e3
  refine ⟨h, l, e1, ?_⟩
  simp only [chk1, Bool.and_eq_true, decide_eq_true_eq] at e3
  obtain ⟨⟨⟨⟨⟨⟨⟨a1, a2⟩, a3⟩, a4⟩, a5⟩, a6⟩, a7⟩, a8⟩ := e3
  have c63 : (2 : Nat) ^ 63 = 9223372036854775808 := by decide
  have c64 : (2 : Nat) ^ 64 = 18446744073709551616 := by decide
  have hl : l ≤ h * 18446744073709551616 := by omega
  refine ⟨by omega, by omega, by omega, a4, a5, a6, a7, ?_⟩
  intro x hi mid mid2 low2 hx hx3 q1 q2 q3 q4 q5 q6
  rw [c64] at a4 a5 a8
  split at a8
  · simp only [Bool.and_eq_true, decide_eq_true_eq] at a8
    exact hit_alg hl a8.1.1 a8.1.2 a8.2 a4 a5 hx q1 q2 q3 q4 q5 q6
  · simp only [Bool.and_eq_true, decide_eq_true_eq] at a8
    exact (hit_cert hl a8.1 a8.2 hx hx3 q1 q2 q3 q4 q5 q6).elim

/-- What the library's scaling reckons: x by the row (h, l), s places dropped. -/
def usc (x h l s : Nat) : Nat :=
  let hi := x * h / 18446744073709551616
  let mid := x * h % 18446744073709551616
  let mid2 := x * l / 18446744073709551616
  if hi % 2 ^ s ≠ 0 then (hi / 2 ^ s) ||| 1
  else (if mid < mid2 then (hi - 1) / 2 ^ s else hi / 2 ^ s) ||| (if 1 < (mid + 18446744073709551616 - mid2) % 18446744073709551616 then 1 else 0)
/-- The whole part, its last bit 1 where anything is left over. -/
def sticky (n d : Nat) : Nat := n / d ||| (if n % d = 0 then 0 else 1)
theorem sticky_is {n d q : Nat} (_hd : 0 < d) (h0 : q * d < n) (h1 : n < (q + 1) * d) : sticky n d = q ||| 1 := by
  have e1 : n / d = q := by
    refine Nat.div_eq_of_lt_le (Nat.le_of_lt h0) h1
  have e2 : n % d ≠ 0 := by
    intro h
    have := Nat.div_add_mod n d
    rw [e1, h, Nat.mul_comm] at this
    omega
  rw [sticky, e1, if_neg e2]
theorem sticky_exact {n d q : Nat} (hd : 0 < d) (h : n = q * d) : sticky n d = q := by
  subst h
  simp [sticky, Nat.mul_div_cancel _ hd]

theorem usc_spec {p : Int} {x h l s : Nat} (R : Row1 p h l) (hx : x < 18446744073709551616) (hx3 : 9223372036854775808 ≤ x) (hs : 8 ≤ s) : usc x h l s = sticky (x * tN p) (tD p * 2 ^ (128 + s)) := by
  have c64 : (2 : Nat) ^ 64 = 18446744073709551616 := by decide
  have c128 : (2 : Nat) ^ 128 = 340282366920938463463374607431768211456 := by decide
  have hD := tD_pos p
  have hl : l ≤ h * 18446744073709551616 := by have := R.h63; have := R.l64; omega
  have up := R.up
  have low := R.low
  rw [c64] at up low
  unfold usc
  obtain ⟨hi, hhi⟩ : ∃ a, x * h / 18446744073709551616 = a := ⟨_, rfl⟩
  obtain ⟨mid, hmid⟩ : ∃ a, x * h % 18446744073709551616 = a := ⟨_, rfl⟩
  obtain ⟨mid2, hmid2⟩ : ∃ a, x * l / 18446744073709551616 = a := ⟨_, rfl⟩
  obtain ⟨low2, hlow2⟩ : ∃ a, x * l % 18446744073709551616 = a := ⟨_, rfl⟩
  have e1 : x * h = hi * 18446744073709551616 + mid := by omega
  have e2 : x * l = mid2 * 18446744073709551616 + low2 := by omega
  have lt1 : mid < 18446744073709551616 := by omega
  have lt2 : low2 < 18446744073709551616 := by omega
  simp only [hhi, hmid, hmid2]
  have hp := parts hl e1 e2
  have hxl : x * l + x ≤ 18446744073709551615 * 18446744073709551616 := by
    have : x * (l + 1) ≤ 18446744073709551615 * 18446744073709551616 := Nat.mul_le_mul (by omega) (by have := R.l64; omega)
    rwa [Nat.mul_add, Nat.mul_one] at this
  have hhi62 : 4611686018427387904 ≤ hi := by
    have : 9223372036854775808 * 9223372036854775808 ≤ x * h := Nat.mul_le_mul hx3 R.h63
    omega
  obtain ⟨m, hm⟩ : ∃ m, h * 18446744073709551616 - l = m := ⟨_, rfl⟩
  rw [hm] at up low hp
  have nUp : x * tN p ≤ x * m * tD p := by rw [Nat.mul_assoc]; exact Nat.mul_le_mul_left _ up
  have nLow : x * m * tD p < x * tN p + x * tD p := by
    rw [Nat.mul_assoc, ← Nat.mul_add]
    exact Nat.mul_lt_mul_of_pos_left low (by omega)
  have hP : 0 < 2 ^ s := Nat.two_pow_pos s
  have hpow : 2 ^ (128 + s) = 340282366920938463463374607431768211456 * 2 ^ s := by rw [Nat.pow_add, c128]
  have hdpos : 0 < tD p * 2 ^ (128 + s) := Nat.mul_pos hD (Nat.two_pow_pos _)
  -- from bounds on the whole product to bounds on the number
  have lift : ∀ q B : Nat, B + x ≤ x * m → q * 2 ^ s * 340282366920938463463374607431768211456 ≤ B → q * (tD p * 2 ^ (128 + s)) < x * tN p := by
    intro q B hB hq
    have h1 : (B + x) * tD p ≤ x * m * tD p := Nat.mul_le_mul_right _ hB
    rw [Nat.add_mul] at h1
    have h2 : q * 2 ^ s * 340282366920938463463374607431768211456 * tD p ≤ B * tD p := Nat.mul_le_mul_right _ hq
    have h3 : q * (tD p * 2 ^ (128 + s)) = q * 2 ^ s * 340282366920938463463374607431768211456 * tD p := by
      rw [hpow]
      simp only [Nat.mul_assoc, Nat.mul_comm]
    omega
  have drop : ∀ q B : Nat, x * m ≤ B → B < (q + 1) * 2 ^ s * 340282366920938463463374607431768211456 → x * tN p < (q + 1) * (tD p * 2 ^ (128 + s)) := by
    intro q B hB hq
    have h1 : x * m * tD p ≤ B * tD p := Nat.mul_le_mul_right _ hB
    have h2 : B * tD p < (q + 1) * 2 ^ s * 340282366920938463463374607431768211456 * tD p := Nat.mul_lt_mul_of_pos_right hq hD
    have h3 : (q + 1) * (tD p * 2 ^ (128 + s)) = (q + 1) * 2 ^ s * 340282366920938463463374607431768211456 * tD p := by
      rw [hpow]
      simp only [Nat.mul_assoc, Nat.mul_comm]
    omega
  have hdm := Nat.div_add_mod hi (2 ^ s)
  rw [Nat.mul_comm] at hdm
  split
  · rename_i hne
    have hr := Nat.mod_lt hi hP
    symm
    refine sticky_is hdpos (lift _ ((hi - 1) * 340282366920938463463374607431768211456) ?_ ?_) (drop _ (hi * 340282366920938463463374607431768211456 + mid * 18446744073709551616) ?_ ?_)
    · omega
    · refine Nat.mul_le_mul_right _ ?_
      omega
    · omega
    · rw [Nat.add_mul, Nat.one_mul]
      omega
  · rename_i hne
    have hz : hi % 2 ^ s = 0 := by omega
    rw [hz, Nat.add_zero] at hdm
    have h256 : hi % 256 = 0 := by
      obtain ⟨k, rfl⟩ : ∃ k, s = 8 + k := ⟨s - 8, by omega⟩
      have : (256 : Nat) ∣ 2 ^ (8 + k) := ⟨2 ^ k, by rw [Nat.pow_add]⟩
      exact Nat.mod_eq_zero_of_dvd (Nat.dvd_trans this (Nat.dvd_of_mod_eq_zero hz))
    have hge : 2 ^ s ≤ hi := Nat.le_of_dvd (by omega) (Nat.dvd_of_mod_eq_zero hz)
    obtain ⟨Q, hQ⟩ : ∃ Q, hi / 2 ^ s = Q := ⟨_, rfl⟩
    rw [hQ] at hdm ⊢
    have hQ1 : 1 ≤ Q := by
      rcases Nat.eq_zero_or_pos Q with h | h
      · rw [h] at hdm; omega
      · exact h
    by_cases hc : mid < mid2
    · rw [if_pos hc]
      have hm2 : mid2 ≤ 18446744073709551614 := by omega
      have eq1 : (hi - 1) / 2 ^ s = Q - 1 := by
        obtain ⟨Q', rfl⟩ : ∃ Q', Q = Q' + 1 := ⟨Q - 1, by omega⟩
        rw [Nat.add_mul, Nat.one_mul] at hdm
        refine Nat.div_eq_of_lt_le ?_ ?_
        · simp; omega
        · simp [Nat.add_mul]; omega
      rw [eq1, Nat.mod_eq_of_lt (by omega), if_pos (by omega)]
      obtain ⟨Q', rfl⟩ : ∃ Q', Q = Q' + 1 := ⟨Q - 1, by omega⟩
      simp only [Nat.add_sub_cancel]
      symm
      refine sticky_is hdpos (lift _ ((hi - 1) * 340282366920938463463374607431768211456) ?_ ?_) (drop _ (hi * 340282366920938463463374607431768211456 - 1) ?_ ?_)
      · omega
      · refine Nat.mul_le_mul_right _ ?_
        rw [Nat.add_mul, Nat.one_mul] at hdm
        omega
      · omega
      · rw [hdm]
        omega
    · rw [if_neg hc]
      by_cases h2 : mid ≤ mid2 + 1
      · have hN := R.hit x hi mid mid2 low2 hx hx3 e1 e2 lt2 (by omega) h2 h256
        have eS : (mid + 18446744073709551616 - mid2) % 18446744073709551616 = mid - mid2 := by omega
        rw [eS, if_neg (by omega), Nat.or_zero]
        symm
        refine sticky_exact hdpos ?_
        rw [hN, ← hdm, hpow, c128]
        simp only [Nat.mul_assoc, Nat.mul_comm]
      · have eS : (mid + 18446744073709551616 - mid2) % 18446744073709551616 = mid - mid2 := by omega
        rw [eS, if_pos (by omega)]
        symm
        refine sticky_is hdpos (lift _ (hi * 340282366920938463463374607431768211456) ?_ ?_) (drop _ (hi * 340282366920938463463374607431768211456 + mid * 18446744073709551616) ?_ ?_)
        · omega
        · rw [← hdm]; exact Nat.le_refl _
        · omega
        · rw [Nat.add_mul, Nat.one_mul, hdm]
          have : 1 ≤ 2 ^ s := hP
          omega
end Go.Proofs.YtjapgpmoojfhnaaGreatDoor.Fl
