import JvmDerived
import JvmDerived.Pilot.@@N@@Statement
import JvmDerived.Pilot.@@N@@Code
set_option linter.unusedVariables false
set_option linter.unusedSimpArgs false
namespace Jvm.RoadKit
open Sem ClassFile Op Lib Jvm.Stand Jvm.Free Jvm.LawKit
section New
variable {p : Program} {l : Launch} {e : Env} {R : Room} {s : State} {m : MethodId} {args : Array Value} {below : List Frame} {meth : Method} {c : Code} {T : State} {locs : List Loc} {cells slots : Nat}
theorem retI (X : Stand p l e R s m args below meth c T locs cells slots) (hx : p.tables.exec = Jvm.exec) {pc : Nat} {Ls : Array Slot} {z : Int32} {rest : List Value} (hret : meth.sig.returnType = some .int) (hd : decode c.code pc = .ok (.ireturn, 1)) {fs : List Frame}
    (hl : ∀ (f : JFrame) (acts : List Action), f.method = m → f.locked = none → f.entered = [] → (doReturn e (T.setTop f) acts (some (.int z))).1 = T.setFrames fs) : Steps p.tables e below (T.setTop (mkF m pc Ls (.int z :: rest))) (T.setFrames fs) := by
  have hm' : T.vm.method? m = some meth := X.method'
  have hn : narrow .int (.int z) = .int z := rfl
  show Steps p.tables e below (T.setTop { method := m, pc := pc, locals := Ls, stack := _ :: rest, locked := none }) _
  jvm_step X.here [X.here.top, hx, hd, hm', hret, hn]
  first | (intro acts; rw [hl _ acts rfl rfl rfl]) | rw [hl _ _ rfl rfl rfl]
  exact Steps.refl _
end New
end Jvm.RoadKit
namespace Jvm.Pilot.@@N@@
open Jvm Jvm.ClassFile Sem Op Lib Jvm.Free Jvm.Stand Jvm.LawKit Jvm.RoadKit Bundle Jvm.Free.Fl Jvm.Pilot.@@N@@.Jvm.D
/-! whole numbers rounded to 53 digits: plain laws -/
def own_rn (n : Nat) : Nat := FP.Core.nearest n (2 ^ (n.log2 - 52)) * 2 ^ (n.log2 - 52)
def own_rd (i : Int) : Int := FP.Core.signed (decide (i < 0)) (own_rn i.natAbs)
theorem own_p53 : (2 : Nat) ^ FP.Core.b64.p = 2 ^ 53 := by decide +kernel
theorem own_tl : FP.Core.b64.tails = 2 ^ 52 := by decide +kernel
theorem own_qmin : FP.Core.b64.qmin = -1074 := by decide +kernel
theorem own_qmax : FP.Core.b64.qmax = 971 := by decide +kernel
theorem own_near1 (n : Nat) : FP.Core.nearest n 1 = n := by
  have h := FP.Core.nearest_exact (B := 1) n (by decide)
  rwa [Nat.mul_one] at h
theorem own_round_nat (s : Bool) (n : Nat) (hn : n < 2 ^ 63) : ∃ c q, FP.Core.roundRatio FP.Core.b64 s n 1 0 = .fin s c q ∧ c * 2 ^ q.toNat = own_rn n * 2 ^ (-q).toNat := by
  by_cases h0 : n = 0
  · subst h0
    refine ⟨0, FP.Core.b64.qmin, by unfold FP.Core.roundRatio; rw [if_pos rfl], ?_⟩
    have : own_rn 0 = 0 := by decide
    rw [this, Nat.zero_mul, Nat.zero_mul]
  · have l1 : 2 ^ n.log2 ≤ n := Nat.log2_self_le h0
    have l2 : n < 2 ^ (n.log2 + 1) := Nat.lt_log2_self
    have l3 : n.log2 < 63 := (Nat.pow_lt_pow_iff_right (by decide : 1 < 2)).mp (Nat.lt_of_le_of_lt l1 hn)
    have hq : FP.Core.quantum FP.Core.b64 n 1 0 = (n.log2 : Int) - 52 := by
      unfold FP.Core.quantum FP.Core.leading
      have e1 : ((n.log2 : Int) - ((Nat.log2 1 : Nat) : Int)) = (n.log2 : Int) := by rw [show Nat.log2 1 = 0 by decide]; omega
      simp only [e1]
      rw [if_pos (by rw [show ((n.log2 : Int)).toNat = n.log2 by omega, show (-(n.log2 : Int)).toNat = 0 by omega]; simpa using l1), own_qmin, show ((FP.Core.b64.p : Nat) : Int) = 53 by decide +kernel]
      omega
    unfold FP.Core.roundRatio
    rw [if_neg h0, hq]
    unfold FP.Core.roundAt FP.Core.unitsNum FP.Core.unitsDen FP.Core.settle FP.Core.bound own_rn
    rw [own_p53, own_tl, own_qmax]
    by_cases hL : n.log2 ≤ 52
    · rw [show ((0 : Int) - ((n.log2 : Int) - 52)).toNat = 52 - n.log2 by omega, show ((n.log2 : Int) - 52 - 0).toNat = 0 by omega, Nat.pow_zero, Nat.mul_one, own_near1, show n.log2 - 52 = 0 by omega, Nat.pow_zero, own_near1, Nat.mul_one]
      have h1 : n * 2 ^ (52 - n.log2) < 2 ^ 53 := by
        calc n * 2 ^ (52 - n.log2) < 2 ^ (n.log2 + 1) * 2 ^ (52 - n.log2) := Nat.mul_lt_mul_of_pos_right l2 (Nat.two_pow_pos _)
          _ = 2 ^ (n.log2 + 1 + (52 - n.log2)) := (Nat.pow_add ..).symm
          _ = 2 ^ 53 := by congr 1; omega
      rw [if_pos h1, if_pos (by omega)]
      exact ⟨_, _, rfl, by rw [show ((n.log2 : Int) - 52).toNat = 0 by omega, show (-((n.log2 : Int) - 52)).toNat = 52 - n.log2 by omega, Nat.pow_zero, Nat.mul_one]⟩
    · rw [show ((0 : Int) - ((n.log2 : Int) - 52)).toNat = 0 by omega, show ((n.log2 : Int) - 52 - 0).toNat = n.log2 - 52 by omega, Nat.pow_zero, Nat.mul_one, Nat.one_mul]
      have hle : FP.Core.nearest n (2 ^ (n.log2 - 52)) ≤ 2 ^ 53 := FP.Core.nearest_le (Nat.two_pow_pos _) (by
        rw [← Nat.pow_add, show 53 + (n.log2 - 52) = n.log2 + 1 by omega]; exact Nat.le_of_lt l2)
      by_cases hN : FP.Core.nearest n (2 ^ (n.log2 - 52)) < 2 ^ 53
      · rw [if_pos hN, if_pos (by omega)]
        exact ⟨_, _, rfl, by rw [show ((n.log2 : Int) - 52).toNat = n.log2 - 52 by omega, show (-((n.log2 : Int) - 52)).toNat = 0 by omega, Nat.pow_zero, Nat.mul_one]⟩
      · rw [if_neg hN, if_pos (by omega)]
        have hE : FP.Core.nearest n (2 ^ (n.log2 - 52)) = 2 ^ 53 := by omega
        refine ⟨_, _, rfl, ?_⟩
        rw [hE, show ((n.log2 : Int) - 52 + 1).toNat = (n.log2 - 52) + 1 by omega, show (-((n.log2 : Int) - 52 + 1)).toNat = 0 by omega, Nat.pow_zero, Nat.mul_one, ← Nat.pow_add, ← Nat.pow_add]
        congr 1; omega
theorem own_whole_round {i : Int} {d : FP.Core.Datum} (h : FP.Core.Whole i d) (hb : i.natAbs < 2 ^ 63) : FP.Core.Whole (own_rd i) (FP.Core.round FP.Core.b64 d) := by
  cases d with
  | nan => exact h.elim
  | inf s => exact h.elim
  | fin s c q =>
    rw [FP.Core.round_whole h]
    obtain ⟨c', q', e1, e2⟩ := own_round_nat s i.natAbs hb
    rw [e1]
    show FP.Core.signed s (c' * 2 ^ q'.toNat) = own_rd i * _
    rw [e2, FP.Core.signed_mul]
    congr 1
    unfold own_rd
    by_cases hi : i = 0
    · subst hi
      rw [show own_rn (Int.natAbs 0) = 0 by decide, FP.Core.signed_zero, FP.Core.signed_zero]
    · rw [FP.Core.whole_sign h hi]
theorem own_l2d {a : Int64} (h : a.toInt.natAbs < 2 ^ 63) : FP.Core.DInt (own_rd a.toInt) (FP.l2d a) := by
  show FP.Core.Whole _ (FP.Core.val64 (FP.Core.l2d a))
  rw [FP.Core.val64_l2d]
  exact own_whole_round (FP.Core.whole_ofInt _) h
theorem own_dadd {i j : Int} {x y : UInt64} (hx : FP.Core.DInt i x) (hy : FP.Core.DInt j y) (h : (i + j).natAbs < 2 ^ 63) : FP.Core.DInt (own_rd (i + j)) (FP.dadd x y) := by
  show FP.Core.Whole _ (FP.Core.val64 (FP.Core.dadd x y))
  rw [FP.Core.val64_dadd]
  exact own_whole_round (FP.Core.whole_sum hx hy) h
theorem own_noNaN {i : Int} {x : UInt64} (h : FP.Core.DInt i x) : NoNaN64 x := val64_no.mpr (FP.Core.Whole.ne_nan h)
theorem own_cmp {i j : Int} {x y : UInt64} (hx : FP.Core.DInt i x) (hy : FP.Core.DInt j y) (o : CmpOp) : cmpValue (FP.dcmp x y) o = if i < j then (-1 : Int32) else if i = j then 0 else 1 := by
  rw [show FP.dcmp x y = some (compare i j) from FP.Core.dcmp_int hx hy, FP.Core.compare_ite]
  by_cases h1 : i < j
  · rw [if_pos h1, if_pos h1]; rfl
  · rw [if_neg h1, if_neg h1]
    by_cases h2 : i = j
    · rw [if_pos h2, if_pos h2]; rfl
    · rw [if_neg h2, if_neg h2]; rfl
theorem own_rn_split {q k r : Nat} (h1 : 2 ^ 52 ≤ q) (h2 : q < 2 ^ 53) (hr : r < 2 ^ k) : own_rn (q * 2 ^ k + r) = (if 2 * r < 2 ^ k then q else if 2 ^ k < 2 * r then q + 1 else q + q % 2) * 2 ^ k := by
  have hp : 0 < 2 ^ k := Nat.two_pow_pos k
  have a1 : 2 ^ (52 + k) ≤ q * 2 ^ k + r := by
    rw [Nat.pow_add]; exact Nat.le_trans (Nat.mul_le_mul_right _ h1) (Nat.le_add_right _ _)
  have a2 : q * 2 ^ k + r < 2 ^ (52 + k + 1) := by
    have : q * 2 ^ k + 2 ^ k ≤ 2 ^ 53 * 2 ^ k := by rw [← Nat.succ_mul]; exact Nat.mul_le_mul_right _ h2
    rw [show 52 + k + 1 = 53 + k by omega, Nat.pow_add]
    omega
  have hne : q * 2 ^ k + r ≠ 0 := by have := Nat.two_pow_pos (52 + k); omega
  have hl : (q * 2 ^ k + r).log2 = 52 + k := (Nat.log2_eq_iff hne).mpr ⟨a1, a2⟩
  unfold own_rn
  rw [hl, show 52 + k - 52 = k by omega]
  congr 1
  unfold FP.Core.nearest
  rw [show (q * 2 ^ k + r) % 2 ^ k = r by rw [Nat.add_comm, Nat.add_mul_mod_self_right, Nat.mod_eq_of_lt hr], show (q * 2 ^ k + r) / 2 ^ k = q by rw [Nat.add_comm, Nat.add_mul_div_right _ _ hp, Nat.div_eq_of_lt hr, Nat.zero_add]]
theorem own_rn_small {n : Nat} (h : n < 2 ^ 53) : own_rn n = n := by
  unfold own_rn
  have : n.log2 - 52 = 0 := by
    by_cases h0 : n = 0
    · subst h0; decide
    · have l1 : 2 ^ n.log2 ≤ n := Nat.log2_self_le h0
      have := (Nat.pow_lt_pow_iff_right (by decide : 1 < 2)).mp (Nat.lt_of_le_of_lt l1 h)
      omega
  rw [this, Nat.pow_zero, own_near1, Nat.mul_one]
theorem own_rn_mul {m k : Nat} (h : m < 2 ^ 53) : own_rn (m * 2 ^ k) = m * 2 ^ k := by
  by_cases h0 : m = 0
  · subst h0; rw [Nat.zero_mul]; decide
  · have l1 : 2 ^ m.log2 ≤ m := Nat.log2_self_le h0
    have l2 : m < 2 ^ (m.log2 + 1) := Nat.lt_log2_self
    have l3 : m.log2 < 53 := (Nat.pow_lt_pow_iff_right (by decide : 1 < 2)).mp (Nat.lt_of_le_of_lt l1 h)
    by_cases hk : m.log2 + k < 53
    · refine own_rn_small ?_
      calc m * 2 ^ k < 2 ^ (m.log2 + 1) * 2 ^ k := Nat.mul_lt_mul_of_pos_right l2 (Nat.two_pow_pos _)
        _ = 2 ^ (m.log2 + 1 + k) := (Nat.pow_add ..).symm
        _ ≤ 2 ^ 53 := Nat.pow_le_pow_right (by decide) (by omega)
    · obtain ⟨j, hj⟩ : ∃ j, k = (52 - m.log2) + j := ⟨k - (52 - m.log2), by omega⟩
      have e : m * 2 ^ k = (m * 2 ^ (52 - m.log2)) * 2 ^ j + 0 := by rw [hj, Nat.pow_add, Nat.mul_assoc, Nat.add_zero]
      have b1 : 2 ^ 52 ≤ m * 2 ^ (52 - m.log2) := by
        calc 2 ^ 52 = 2 ^ m.log2 * 2 ^ (52 - m.log2) := by rw [← Nat.pow_add]; congr 1; omega
          _ ≤ m * 2 ^ (52 - m.log2) := Nat.mul_le_mul_right _ l1
      have b2 : m * 2 ^ (52 - m.log2) < 2 ^ 53 := by
        calc m * 2 ^ (52 - m.log2) < 2 ^ (m.log2 + 1) * 2 ^ (52 - m.log2) := Nat.mul_lt_mul_of_pos_right l2 (Nat.two_pow_pos _)
          _ = 2 ^ 53 := by rw [← Nat.pow_add]; congr 1; omega
      rw [e, own_rn_split b1 b2 (Nat.two_pow_pos _), if_pos (by have := Nat.two_pow_pos j; omega), Nat.add_zero]
theorem own_lo {q k r : Nat} (h1 : 2 ^ 52 ≤ q) (h2 : q < 2 ^ 53) (hr : 2 * r < 2 ^ k) : own_rn (q * 2 ^ k + r) = q * 2 ^ k := by
  rw [own_rn_split h1 h2 (by omega), if_pos hr]
theorem own_hi {q k r : Nat} (h1 : 2 ^ 52 ≤ q) (h2 : q < 2 ^ 53) (hr : 2 ^ k < 2 * r) (hr2 : r < 2 ^ k) : own_rn (q * 2 ^ k + r) = q * 2 ^ k + 2 ^ k := by
  rw [own_rn_split h1 h2 hr2, if_neg (by omega), if_pos hr, Nat.succ_mul]
theorem own_tie {q k r : Nat} (h1 : 2 ^ 52 ≤ q) (h2 : q < 2 ^ 53) (hr : 2 * r = 2 ^ k) (h0 : 0 < r) : own_rn (q * 2 ^ k + r) = (q + q % 2) * 2 ^ k := by
  rw [own_rn_split h1 h2 (by omega), if_neg (by omega), if_neg (by omega)]
theorem own_or {q k r : Nat} (h1 : 2 ^ 52 ≤ q) (h2 : q < 2 ^ 53) (hr : r < 2 ^ k) : own_rn (q * 2 ^ k + r) = q * 2 ^ k ∨ own_rn (q * 2 ^ k + r) = q * 2 ^ k + 2 ^ k := by
  rw [own_rn_split h1 h2 hr]
  by_cases a1 : 2 * r < 2 ^ k
  · rw [if_pos a1]; exact Or.inl rfl
  · rw [if_neg a1]
    by_cases a2 : 2 ^ k < 2 * r
    · rw [if_pos a2, Nat.succ_mul]; exact Or.inr rfl
    · rw [if_neg a2]
      rcases Nat.mod_two_eq_zero_or_one q with e | e
      · rw [e]; exact Or.inl rfl
      · rw [e, Nat.succ_mul]; exact Or.inr rfl
theorem own_fixN {S a K : Nat} (hS : S % 2 ^ K = 0) (hne : own_rn S ≠ S) (ha : 0 < a) (haK : a < 2 ^ K) :
    a < S ∧ own_rn S < 2 * S ∧ (own_rn S < S → own_rn (S - a) = own_rn S ∧ (own_rn (2 * S - own_rn S) = 2 * S - own_rn S → own_rn (S + a) = 2 * S - own_rn S) ∧ (own_rn (2 * S - own_rn S) ≠ 2 * S - own_rn S → own_rn (S + a) = own_rn S)) ∧
    (S < own_rn S → own_rn (S + a) = own_rn S ∧ (own_rn (2 * S - own_rn S) = 2 * S - own_rn S → own_rn (S - a) = 2 * S - own_rn S) ∧ (own_rn (2 * S - own_rn S) ≠ 2 * S - own_rn S → own_rn (S - a) = own_rn S)) := by
  have hbig : 2 ^ 53 ≤ S := Nat.le_of_not_lt fun h => hne (own_rn_small h)
  have h0 : S ≠ 0 := by have := Nat.two_pow_pos 53; omega
  have l1 : 2 ^ S.log2 ≤ S := Nat.log2_self_le h0
  have l2 : S < 2 ^ (S.log2 + 1) := Nat.lt_log2_self
  have l3 : 53 < S.log2 + 1 := (Nat.pow_lt_pow_iff_right (by decide : 1 < 2)).mp (Nat.lt_of_le_of_lt hbig l2)
  obtain ⟨k, hk⟩ : ∃ k, S.log2 = 52 + k := ⟨S.log2 - 52, by omega⟩
  rw [hk] at l1 l2
  have hkp : 0 < 2 ^ k := Nat.two_pow_pos k
  obtain ⟨q, r, hqr, hrk⟩ : ∃ q r, S = q * 2 ^ k + r ∧ r < 2 ^ k := ⟨S / 2 ^ k, S % 2 ^ k, by rw [Nat.mul_comm]; exact (Nat.div_add_mod S (2 ^ k)).symm, Nat.mod_lt _ hkp⟩
  have q1 : 2 ^ 52 ≤ q := by
    refine Nat.le_of_not_lt fun h => ?_
    have : (q + 1) * 2 ^ k ≤ 2 ^ 52 * 2 ^ k := Nat.mul_le_mul_right _ h
    rw [← Nat.pow_add, Nat.succ_mul] at this
    omega
  have q2 : q < 2 ^ 53 := by
    refine Nat.lt_of_not_le fun h => ?_
    have : 2 ^ 53 * 2 ^ k ≤ q * 2 ^ k := Nat.mul_le_mul_right _ h
    rw [← Nat.pow_add, show 53 + k = 52 + k + 1 by omega] at this
    omega
  have r0 : r ≠ 0 := fun h => hne (by rw [hqr, h]; exact own_lo q1 q2 (by omega))
  have hKk : K < k := by
    refine Nat.lt_of_not_le fun h => r0 ?_
    have d1 : 2 ^ k ∣ S := Nat.dvd_trans (Nat.pow_dvd_pow 2 h) (Nat.dvd_of_mod_eq_zero hS)
    have d2 : 2 ^ k ∣ r := (Nat.dvd_add_right (Nat.dvd_mul_left (2 ^ k) q)).mp (hqr ▸ d1)
    exact Nat.eq_zero_of_dvd_of_lt d2 hrk
  obtain ⟨j, hj⟩ : ∃ j, k = K + 1 + j := ⟨k - (K + 1), by omega⟩
  have ek : 2 ^ k = 2 * (2 ^ K * 2 ^ j) := by rw [hj, Nat.pow_add, Nat.pow_succ]; rw [Nat.mul_comm (2 ^ K) 2, Nat.mul_assoc]
  have dr : 2 ^ K ∣ r := by
    have d1 : 2 ^ K ∣ S := Nat.dvd_of_mod_eq_zero hS
    have d2 : 2 ^ K ∣ q * 2 ^ k := Nat.dvd_trans (Nat.pow_dvd_pow 2 (by omega)) (Nat.dvd_mul_left _ _)
    exact (Nat.dvd_add_right d2).mp (hqr ▸ d1)
  obtain ⟨r', hr'⟩ := dr
  have hM : 0 < 2 ^ K := Nat.two_pow_pos K
  generalize hx : 2 ^ K * r' = x at hr'
  generalize hy : 2 ^ K * 2 ^ j = y at ek
  have c1 : 2 ^ K ≤ x := by
    rw [← hx]; have : 1 ≤ r' := by
      refine Nat.one_le_iff_ne_zero.mpr fun h => r0 ?_
      rw [hr', ← hx, h, Nat.mul_zero]
    calc 2 ^ K = 2 ^ K * 1 := (Nat.mul_one _).symm
      _ ≤ 2 ^ K * r' := Nat.mul_le_mul_left _ this
  have c2 : x + 2 ^ K ≤ 2 * y := by
    have : r' + 1 ≤ 2 * 2 ^ j := by
      refine Nat.lt_of_not_le fun h => ?_
      have := Nat.mul_le_mul_left (2 ^ K) h
      rw [hx, Nat.mul_left_comm, hy] at this
      omega
    have := Nat.mul_le_mul_left (2 ^ K) this
    rw [Nat.mul_add, Nat.mul_one, hx, Nat.mul_left_comm, hy] at this
    exact this
  have tri : x + 2 ^ K ≤ y ∨ y + 2 ^ K ≤ x ∨ x = y := by
    rcases Nat.lt_trichotomy r' (2 ^ j) with h | h | h
    · left; have := Nat.mul_le_mul_left (2 ^ K) (Nat.succ_le_of_lt h); rw [Nat.mul_succ, hx, hy] at this; exact this
    · right; right; rw [← hx, ← hy, h]
    · right; left; have := Nat.mul_le_mul_left (2 ^ K) (Nat.succ_le_of_lt h); rw [Nat.mul_succ, hx, hy] at this; exact this
  have eS1 : S + a = q * 2 ^ k + (r + a) := by omega
  have eS2 : S - a = q * 2 ^ k + (r - a) := by omega
  have hqk : 2 ^ k ≤ q * 2 ^ k := by
    calc 2 ^ k = 1 * 2 ^ k := (Nat.one_mul _).symm
      _ ≤ q * 2 ^ k := Nat.mul_le_mul_right _ (Nat.le_trans (Nat.one_le_two_pow) q1)
  rcases tri with h | h | h
  · have e1 : own_rn S = q * 2 ^ k := by rw [hqr]; exact own_lo q1 q2 (by omega)
    have e2 : own_rn (S + a) = q * 2 ^ k := by rw [eS1]; exact own_lo q1 q2 (by omega)
    have e3 : own_rn (S - a) = q * 2 ^ k := by rw [eS2]; exact own_lo q1 q2 (by omega)
    have e4 : 2 * S - own_rn S = q * 2 ^ k + 2 * r := by omega
    have e5 := own_or q1 q2 (r := 2 * r) (k := k) (by omega)
    rw [e4, e2, e3, e1]
    refine ⟨by omega, by omega, fun _ => ⟨rfl, fun g => ?_, fun _ => rfl⟩, fun g => ⟨rfl, fun g' => by omega, fun _ => rfl⟩⟩
    rcases e5 with e5 | e5 <;> omega
  · have e1 : own_rn S = q * 2 ^ k + 2 ^ k := by rw [hqr]; exact own_hi q1 q2 (by omega) (by omega)
    have e2 : own_rn (S + a) = q * 2 ^ k + 2 ^ k := by rw [eS1]; exact own_hi q1 q2 (by omega) (by omega)
    have e3 : own_rn (S - a) = q * 2 ^ k + 2 ^ k := by rw [eS2]; exact own_hi q1 q2 (by omega) (by omega)
    have e4 : 2 * S - own_rn S = q * 2 ^ k + (2 * r - 2 ^ k) := by omega
    have e5 := own_or q1 q2 (r := 2 * r - 2 ^ k) (k := k) (by omega)
    rw [e4, e2, e3, e1]
    refine ⟨by omega, by omega, fun g => by omega, fun _ => ⟨rfl, fun g => ?_, fun _ => rfl⟩⟩
    rcases e5 with e5 | e5 <;> omega
  · rcases Nat.mod_two_eq_zero_or_one q with hq | hq
    · have e1 : own_rn S = q * 2 ^ k := by rw [hqr, own_tie q1 q2 (by omega) (by omega), hq, Nat.add_zero]
      have e2 : own_rn (S + a) = q * 2 ^ k + 2 ^ k := by rw [eS1]; exact own_hi q1 q2 (by omega) (by omega)
      have e3 : own_rn (S - a) = q * 2 ^ k := by rw [eS2]; exact own_lo q1 q2 (by omega)
      have e4 : 2 * S - own_rn S = q * 2 ^ k + 2 ^ k := by omega
      have e5 : own_rn (q * 2 ^ k + 2 ^ k) = q * 2 ^ k + 2 ^ k := by
        rw [← Nat.succ_mul]; exact own_rn_mul (by omega)
      rw [e4, e2, e3, e1, e5]
      exact ⟨by omega, by omega, fun _ => ⟨rfl, fun _ => rfl, fun g => absurd rfl g⟩, fun g => by omega⟩
    · have e1 : own_rn S = q * 2 ^ k + 2 ^ k := by rw [hqr, own_tie q1 q2 (by omega) (by omega), hq, Nat.succ_mul]
      have e2 : own_rn (S + a) = q * 2 ^ k + 2 ^ k := by rw [eS1]; exact own_hi q1 q2 (by omega) (by omega)
      have e3 : own_rn (S - a) = q * 2 ^ k := by rw [eS2]; exact own_lo q1 q2 (by omega)
      have e4 : 2 * S - own_rn S = q * 2 ^ k := by omega
      have e5 : own_rn (q * 2 ^ k) = q * 2 ^ k := own_rn_mul q2
      rw [e4, e2, e3, e1, e5]
      exact ⟨by omega, by omega, fun g => by omega, fun _ => ⟨rfl, fun _ => rfl, fun g => absurd rfl g⟩⟩
theorem own_rd_nat (n : Nat) : own_rd (n : Int) = (own_rn n : Int) := by
  unfold own_rd FP.Core.signed
  rw [show decide ((n : Int) < 0) = false from decide_eq_false (by omega), Int.natAbs_natCast]; rfl
theorem own_rd_negn (n : Nat) : own_rd (-(n : Int)) = -(own_rn n : Int) := by
  by_cases h : n = 0
  · subst h; decide
  · unfold own_rd FP.Core.signed
    rw [show decide (-(n : Int) < 0) = true from decide_eq_true (by omega), Int.natAbs_neg, Int.natAbs_natCast]; rfl
theorem own_fix {S a : Int} {K : Nat} (hS : S.natAbs % 2 ^ K = 0) (hne : own_rd S ≠ S) (ha : a ≠ 0) (haK : a.natAbs < 2 ^ K) :
    ((S - own_rd S < 0 ↔ a < 0) → (own_rd (2 * S - own_rd S) = 2 * S - own_rd S → own_rd (S + a) = 2 * S - own_rd S) ∧ (own_rd (2 * S - own_rd S) ≠ 2 * S - own_rd S → own_rd (S + a) = own_rd S)) ∧
    (¬ (S - own_rd S < 0 ↔ a < 0) → own_rd (S + a) = own_rd S) := by
  obtain ⟨b, hb⟩ : ∃ b : Nat, a.natAbs = b := ⟨_, rfl⟩
  have b0 : 0 < b := by omega
  rcases Int.natAbs_eq S with e | e
  · generalize S.natAbs = n at e hS
    subst e
    rw [own_rd_nat] at *
    obtain ⟨f1, f2, f3, f4⟩ := own_fixN (S := n) (a := b) hS (fun h => hne (by rw [h])) b0 (by omega)
    have e1 : 2 * (n : Int) - (own_rn n : Int) = ((2 * n - own_rn n : Nat) : Int) := by omega
    have hnn : own_rn n ≠ n := fun h => hne (by rw [h])
    rw [e1, own_rd_nat]
    rcases Int.natAbs_eq a with ea | ea
    · rw [hb] at ea
      have e2 : (n : Int) + a = ((n + b : Nat) : Int) := by omega
      rw [e2, own_rd_nat]
      refine ⟨fun g => ?_, fun g => ?_⟩
      · obtain ⟨g1, g2, g3⟩ := f3 (by omega)
        exact ⟨fun z => by rw [g2 (by omega)], fun z => by rw [g3 (fun y => z (by rw [y]))]⟩
      · obtain ⟨g1, g2, g3⟩ := f4 (by omega)
        rw [g1]
    · rw [hb] at ea
      have e2 : (n : Int) + a = ((n - b : Nat) : Int) := by omega
      rw [e2, own_rd_nat]
      refine ⟨fun g => ?_, fun g => ?_⟩
      · obtain ⟨g1, g2, g3⟩ := f4 (by omega)
        exact ⟨fun z => by rw [g2 (by omega)], fun z => by rw [g3 (fun y => z (by rw [y]))]⟩
      · obtain ⟨g1, g2, g3⟩ := f3 (by omega)
        rw [g1]
  · generalize S.natAbs = n at e hS
    subst e
    rw [own_rd_negn] at *
    have hnn : own_rn n ≠ n := fun h => hne (by rw [h])
    obtain ⟨f1, f2, f3, f4⟩ := own_fixN (S := n) (a := b) hS hnn b0 (by omega)
    have e1 : 2 * (-(n : Int)) - (-(own_rn n : Int)) = -((2 * n - own_rn n : Nat) : Int) := by omega
    rw [e1, own_rd_negn]
    rcases Int.natAbs_eq a with ea | ea
    · rw [hb] at ea
      have e2 : -(n : Int) + a = -((n - b : Nat) : Int) := by omega
      rw [e2, own_rd_negn]
      refine ⟨fun g => ?_, fun g => ?_⟩
      · obtain ⟨g1, g2, g3⟩ := f4 (by omega)
        exact ⟨fun z => by rw [g2 (by omega)], fun z => by rw [g3 (fun y => z (by rw [y]))]⟩
      · obtain ⟨g1, g2, g3⟩ := f3 (by omega)
        rw [g1]
    · rw [hb] at ea
      have e2 : -(n : Int) + a = -((n + b : Nat) : Int) := by omega
      rw [e2, own_rd_negn]
      refine ⟨fun g => ?_, fun g => ?_⟩
      · obtain ⟨g1, g2, g3⟩ := f3 (by omega)
        exact ⟨fun z => by rw [g2 (by omega)], fun z => by rw [g3 (fun y => z (by rw [y]))]⟩
      · obtain ⟨g1, g2, g3⟩ := f4 (by omega)
        rw [g1]
theorem own_zero : FP.Core.DInt 0 0 := by
  unfold FP.Core.DInt; rw [show FP.Core.val64 0 = .fin false 0 FP.Core.b64.qmin by decide +kernel]
  show FP.Core.signed false (0 * 2 ^ FP.Core.b64.qmin.toNat) = 0 * _
  rw [Nat.zero_mul, Int.zero_mul, FP.Core.signed_zero]
theorem own_twoI : FP.Core.DInt 2 4611686018427387904 := by
  unfold FP.Core.DInt; rw [show FP.Core.val64 4611686018427387904 = .fin false 4503599627370496 (-51) by decide +kernel]
  show FP.Core.signed false (4503599627370496 * 2 ^ (-51 : Int).toNat) = 2 * ((2 ^ (-(-51 : Int)).toNat : Nat) : Int); decide +kernel
theorem own_fin {i : Int} {x : UInt64} (h : FP.Core.DInt i x) : Fin64 x := fin64_core.mpr (by
  unfold FP.Core.DInt at h
  cases hv : FP.Core.val64 x with
  | nan => rw [hv] at h; exact h.elim
  | inf s => rw [hv] at h; exact h.elim
  | fin s c q => exact ⟨s, c, q, hv⟩)
theorem own_rn_near {n : Nat} (h : n < 2 ^ 62) : own_rn n ≤ n + 512 ∧ n ≤ own_rn n + 512 := by
  by_cases h53 : n < 2 ^ 53
  · rw [own_rn_small h53]; omega
  · have h0 : n ≠ 0 := by have := Nat.two_pow_pos 53; omega
    have l1 : 2 ^ n.log2 ≤ n := Nat.log2_self_le h0
    have l2 : n < 2 ^ (n.log2 + 1) := Nat.lt_log2_self
    have l3 : n.log2 < 62 := (Nat.pow_lt_pow_iff_right (by decide : 1 < 2)).mp (Nat.lt_of_le_of_lt l1 h)
    have l4 : 53 < n.log2 + 1 := (Nat.pow_lt_pow_iff_right (by decide : 1 < 2)).mp (Nat.lt_of_le_of_lt (Nat.le_of_not_lt h53) l2)
    obtain ⟨k, hk⟩ : ∃ k, n.log2 = 52 + k := ⟨n.log2 - 52, by omega⟩
    rw [hk] at l1 l2
    have hkp : 0 < 2 ^ k := Nat.two_pow_pos k
    have hk9 : 2 ^ k ≤ 512 := by
      calc 2 ^ k ≤ 2 ^ 9 := Nat.pow_le_pow_right (by decide) (by omega)
        _ = 512 := by decide
    obtain ⟨q, r, hqr, hrk⟩ : ∃ q r, n = q * 2 ^ k + r ∧ r < 2 ^ k := ⟨n / 2 ^ k, n % 2 ^ k, by rw [Nat.mul_comm]; exact (Nat.div_add_mod n (2 ^ k)).symm, Nat.mod_lt _ hkp⟩
    have q1 : 2 ^ 52 ≤ q := by
      refine Nat.le_of_not_lt fun h => ?_
      have : (q + 1) * 2 ^ k ≤ 2 ^ 52 * 2 ^ k := Nat.mul_le_mul_right _ h
      rw [← Nat.pow_add, Nat.succ_mul] at this
      omega
    have q2 : q < 2 ^ 53 := by
      refine Nat.lt_of_not_le fun h => ?_
      have : 2 ^ 53 * 2 ^ k ≤ q * 2 ^ k := Nat.mul_le_mul_right _ h
      rw [← Nat.pow_add, show 53 + k = 52 + k + 1 by omega] at this
      omega
    have := own_or q1 q2 hrk
    rw [← hqr] at this
    rcases this with e | e <;> omega
theorem own_rd_near {i : Int} (h : i.natAbs < 2 ^ 62) : i - 512 ≤ own_rd i ∧ own_rd i ≤ i + 512 := by
  have q := own_rn_near h
  rcases Int.natAbs_eq i with e | e
  · generalize i.natAbs = n at *
    subst e; rw [own_rd_nat]; omega
  · generalize i.natAbs = n at *
    subst e; rw [own_rd_negn]; omega
theorem own_e53 : (2 : Nat) ^ 53 = 9007199254740992 := by decide
theorem own_e62 : (2 : Nat) ^ 62 = 4611686018427387904 := by decide
theorem own_e63 : (2 : Nat) ^ 63 = 9223372036854775808 := by decide
theorem own_e61 : (2 : Nat) ^ 61 = 2305843009213693952 := by decide
theorem own_lt {i j : Int} {x y : UInt64} (hx : FP.Core.DInt i x) (hy : FP.Core.DInt j y) (o : CmpOp) : cmpValue (FP.dcmp x y) o < (0 : Int32) ↔ i < j := by
  rw [own_cmp hx hy]
  by_cases h1 : i < j
  · rw [if_pos h1]; exact ⟨fun _ => h1, fun _ => by decide⟩
  · rw [if_neg h1]
    by_cases h2 : i = j
    · rw [if_pos h2]; exact ⟨fun h => absurd h (by decide), fun h => absurd h h1⟩
    · rw [if_neg h2]; exact ⟨fun h => absurd h (by decide), fun h => absurd h h1⟩
theorem own_eq {i j : Int} {x y : UInt64} (hx : FP.Core.DInt i x) (hy : FP.Core.DInt j y) (o : CmpOp) : cmpValue (FP.dcmp x y) o = (0 : Int32) ↔ i = j := by
  rw [own_cmp hx hy]
  by_cases h1 : i < j
  · rw [if_pos h1]; exact ⟨fun h => absurd h (by decide), fun h => by omega⟩
  · rw [if_neg h1]
    by_cases h2 : i = j
    · rw [if_pos h2]; exact ⟨fun _ => h2, fun _ => rfl⟩
    · rw [if_neg h2]; exact ⟨fun h => absurd h (by decide), fun h => absurd h h2⟩
/-- what the law's three partials are -/
def OwnC (P0 P1 P2 : Int) (K : Nat) : Prop := K ≤ 4 ∧ P0 ≠ 0 ∧ P0.natAbs < 2 ^ K ∧ P1.natAbs ≤ 128 ∧ P2.natAbs < 2 ^ 61 ∧ (P2 + P1).natAbs % 2 ^ K = 0
theorem own_small {P0 P1 P2 : Int} {K : Nat} (h : OwnC P0 P1 P2 K) : P0.natAbs < 16 := by
  have : 2 ^ K ≤ 2 ^ 4 := Nat.pow_le_pow_right (by decide) h.1
  have := h.2.2.1
  omega
section Three
variable {P0 P1 P2 : Int} {K : Nat} {d0 d1 d2 : UInt64} (D0 : FP.Core.DInt P0 d0) (D1 : FP.Core.DInt P1 d1) (D2 : FP.Core.DInt P2 d2) (hC : OwnC P0 P1 P2 K)
theorem own_h1 (D1 : FP.Core.DInt P1 d1) (D2 : FP.Core.DInt P2 d2) (hC : OwnC P0 P1 P2 K) : FP.Core.DInt (own_rd (P2 + P1)) (FP.dadd d2 d1) := own_dadd D2 D1 (by
  obtain ⟨c1, c2, c3, c4, c5, c6⟩ := hC; have := own_e61; have := own_e63; omega)
theorem own_near (hC : OwnC P0 P1 P2 K) : (P2 + P1) - 512 ≤ own_rd (P2 + P1) ∧ own_rd (P2 + P1) ≤ (P2 + P1) + 512 := own_rd_near (by
  obtain ⟨c1, c2, c3, c4, c5, c6⟩ := hC; have := own_e61; have := own_e62; omega)
theorem own_g1 (D1 : FP.Core.DInt P1 d1) (D2 : FP.Core.DInt P2 d2) (hC : OwnC P0 P1 P2 K) : FP.Core.DInt (own_rd (P2 + P1) - P2) (FP.dsub (FP.dadd d2 d1) d2) := FP.Core.dsub_int (own_h1 D1 D2 hC) D2 (by
  have := own_near hC; obtain ⟨c1, c2, c3, c4, c5, c6⟩ := hC; have := own_e53; omega)
theorem own_l1 (D1 : FP.Core.DInt P1 d1) (D2 : FP.Core.DInt P2 d2) (hC : OwnC P0 P1 P2 K) : FP.Core.DInt (P1 - (own_rd (P2 + P1) - P2)) (FP.dsub d1 (FP.dsub (FP.dadd d2 d1) d2)) := FP.Core.dsub_int D1 (own_g1 D1 D2 hC) (by
  have := own_near hC; obtain ⟨c1, c2, c3, c4, c5, c6⟩ := hC; have := own_e53; omega)
theorem own_near2 (hC : OwnC P0 P1 P2 K) {j : Int} (hj : j.natAbs ≤ 4096) : (own_rd (P2 + P1) + j) - 512 ≤ own_rd (own_rd (P2 + P1) + j) ∧ own_rd (own_rd (P2 + P1) + j) ≤ (own_rd (P2 + P1) + j) + 512 := own_rd_near (by
  have := own_near hC; obtain ⟨c1, c2, c3, c4, c5, c6⟩ := hC; have := own_e61; have := own_e62; omega)
theorem own_x1 (hC : OwnC P0 P1 P2 K) {h1 y : UInt64} {j : Int} (hh : FP.Core.DInt (own_rd (P2 + P1)) h1) (hy : FP.Core.DInt j y) (hj : j.natAbs ≤ 4096) : FP.Core.DInt (own_rd (own_rd (P2 + P1) + j)) (FP.dadd h1 y) := own_dadd hh hy (by
  have := own_near hC; obtain ⟨c1, c2, c3, c4, c5, c6⟩ := hC; have := own_e61; have := own_e63; omega)
theorem own_z1 (hC : OwnC P0 P1 P2 K) {h1 y : UInt64} {j : Int} (hh : FP.Core.DInt (own_rd (P2 + P1)) h1) (hy : FP.Core.DInt j y) (hj : j.natAbs ≤ 4096) : FP.Core.DInt (own_rd (own_rd (P2 + P1) + j) - own_rd (P2 + P1)) (FP.dsub (FP.dadd h1 y) h1) := FP.Core.dsub_int (own_x1 hC hh hy hj) hh (by
  have := own_near2 hC hj; have := own_e53; omega)
theorem own_y1 (D1 : FP.Core.DInt P1 d1) (D2 : FP.Core.DInt P2 d2) (hC : OwnC P0 P1 P2 K) : FP.Core.DInt ((P1 - (own_rd (P2 + P1) - P2)) * 2) (FP.dmul (FP.dsub d1 (FP.dsub (FP.dadd d2 d1) d2)) 4611686018427387904) := FP.Core.dmul_int (own_l1 D1 D2 hC) own_twoI (by
  have := own_near hC; obtain ⟨c1, c2, c3, c4, c5, c6⟩ := hC; have := own_e53; omega)
end Three
theorem d0_0 : decode prog_28_method_5_code 0 = .ok (.iload_n 1, 1) := by decide +kernel
theorem d0_1 : decode prog_28_method_5_code 1 = .ok (.ifCond .ne 5, 3) := by decide +kernel
theorem d0_4 : decode prog_28_method_5_code 4 = .ok (.dconst 0, 1) := by decide +kernel
theorem d0_5 : decode prog_28_method_5_code 5 = .ok (.dreturn, 1) := by decide +kernel
theorem pn_0 : plainName "com/example/crestwatch/crestwatch/core/ExactSum" = true := by first | (simp [plainName, overriddenIn]; done) | decide +kernel
def Q_rd0 (Z : State) (ar : Addr) (ka : ClassId) (d0 : UInt64) (d1 : UInt64) (d2 : UInt64) (d3 : UInt64) (h0 : Heap) (n0 : Nat) (v : Option Value) (h : Heap) (L : List Loc) : Prop := v = some (.double 0) ∧ Fr n0 L ∧ h = h0
theorem ef_rd0 (m : MethodId) (ar : Addr) : entryFrame m #[(.ref ar), (.int (0 : Int32))] 11 = mkF m 0 #[.val (.ref ar), .val (.int (0 : Int32)), .unset, .unset, .unset, .unset, .unset, .unset, .unset, .unset, .unset] [] := by first | (simp [entryFrame, mkF, argsToLocals, Value.category]; done) | rfl
set_option maxRecDepth 65536 in
set_option maxHeartbeats 40000000 in
theorem rd0 (l : Launch) (Z : State) (a0 : Array Value) (hw : ∀ d ∈ tables_1, d.before a0 Z = true) (ws : List Jvm.Cond) (ar : Addr) (ka : ClassId) (d0 : UInt64) (d1 : UInt64) (d2 : UInt64) (d3 : UInt64) (h0 : Heap) (n0 : Nat) (Z0 : n0 ≤ h0.size) (V_ar : Arv Z h0 ar ka .double (4 : Int32) [(.double d0), (.double d1), (.double d2), (.double d3)] (.double 0)) :
    MetFree l (⟨"com/example/crestwatch/crestwatch/core/ExactSum", "rounded", "([DI)D"⟩ : MethodName) (head1 (Jvm.Cond.code (⟨"com/example/crestwatch/crestwatch/core/ExactSum", "rounded", "([DI)D"⟩ : MethodName) prog_28_method_5_code 11 (some .double) :: ws) ({ frames := 0, cells := 0, slots := 0, locals := 0 } : Room)) (fun a U => a = #[(.ref ar), (.int (0 : Int32))] ∧ Z.Warmed39 U.vm ∧ U.heap = h0) (fun _ _ _ _ _ => True) (fun _ U o U' => ∃ v L, o = .returned v ∧ Q_rd0 Z ar ka d0 d1 d2 d3 h0 n0 v U'.heap L ∧ FrameEnd U o U' L ({ frames := 0, cells := 0, slots := 0, locals := 0 } : Room).cells ({ frames := 0, cells := 0, slots := 0, locals := 0 } : Room).slots) := by
  refine MetFree.of_bodySF (plainFor_of_name pn_0) hisR ?_
  intro p e s m args below meth c s₁ Bd hml0 hP hK
  obtain ⟨rfl, hZ, hh⟩ := hP
  have hx := Bd.exec
  have hby := Bd.bytes
  have hml : c.maxLocals = 11 := hml0
  have hown : s.vm.findClass "com/example/crestwatch/crestwatch/core/ExactSum" = some m.cls := findClass_of_methodNamed Bd.named
  have hnm := (name_of_methodNamed Bd.named Bd.method).1
  have X0 : Stand p l e ({ frames := 0, cells := 0, slots := 0, locals := 0 } : Room) s m #[(.ref ar), (.int (0 : Int32))] below meth c s₁ [] 0 0 := Stand.of_body Bd
  have e0 : s₁.heap = h0 := by rw [← hh, Bd.state]; rfl
  have N0 := Fr.nil n0
  have pre0 : ∀ t, Steps p.tables e below (s₁.setTop (mkF m 0 #[.val (.ref ar), .val (.int (0 : Int32)), .unset, .unset, .unset, .unset, .unset, .unset, .unset, .unset, .unset] [])) t → Steps p.tables e below (s₁.setTop (entryFrame m #[(.ref ar), (.int (0 : Int32))] 11)) t := fun t k => castTop (ef_rd0 m ar) k
  obtain ⟨fs, hr, hrun, hended, hW, hsame⟩ := X0.leave (v := some (.double 0)) (fun h => by rw [Bd.returns] at h; cases h)
  refine ⟨_, _, pre0 _ ?_, hrun, hended, _, _, rfl, ?_, ⟨_, rfl⟩, hW, hsame.mono (by decide) (by decide)⟩
  · show Steps p.tables e below (s₁.setTop (mkF m 0 #[.val (.ref ar), .val (.int (0 : Int32)), .unset, .unset, .unset, .unset, .unset, .unset, .unset, .unset, .unset] [])) _
    refine XS.iloadN X0.here hx rfl (hb hby d0_0) rfl ?_
    show Steps p.tables e below (s₁.setTop (mkF m 1 #[.val (.ref ar), .val (.int (0 : Int32)), .unset, .unset, .unset, .unset, .unset, .unset, .unset, .unset, .unset] [(.int (0 : Int32))])) _
    refine XS.ifNo X0.here hx rfl (hb hby d0_1) rfl ((if0 _ _).trans (teq (rfl : (0 : Int32) = (0 : Int32))).2) ?_
    show Steps p.tables e below (s₁.setTop (mkF m 4 #[.val (.ref ar), .val (.int (0 : Int32)), .unset, .unset, .unset, .unset, .unset, .unset, .unset, .unset, .unset] [])) _
    refine XS.dconst0 X0.here hx rfl (hb hby d0_4) (v := 0) rfl ?_
    show Steps p.tables e below (s₁.setTop (mkF m 5 #[.val (.ref ar), .val (.int (0 : Int32)), .unset, .unset, .unset, .unset, .unset, .unset, .unset, .unset, .unset] [(.double 0)])) _
    exact retOut X0 hx Bd.returns rfl (Or.inr (Or.inr (Or.inl ⟨rfl, rfl, _, rfl⟩))) (hb hby d0_5) hr
  · show Q_rd0 Z ar ka d0 d1 d2 d3 h0 n0 _ s₁.heap _
    rw [e0]
    exact ⟨rfl, N0, rfl⟩
theorem d0_6 : decode prog_28_method_5_code 6 = .ok (.iload_n 1, 1) := by decide +kernel
theorem d0_7 : decode prog_28_method_5_code 7 = .ok (.iconst 1, 1) := by decide +kernel
theorem d0_8 : decode prog_28_method_5_code 8 = .ok (.isub, 1) := by decide +kernel
theorem d0_9 : decode prog_28_method_5_code 9 = .ok (.istore_n 2, 1) := by decide +kernel
theorem d0_10 : decode prog_28_method_5_code 10 = .ok (.aload_n 0, 1) := by decide +kernel
theorem d0_11 : decode prog_28_method_5_code 11 = .ok (.iload_n 2, 1) := by decide +kernel
theorem d0_12 : decode prog_28_method_5_code 12 = .ok (.daload, 1) := by decide +kernel
theorem d0_13 : decode prog_28_method_5_code 13 = .ok (.dstore_n 3, 1) := by decide +kernel
theorem d0_14 : decode prog_28_method_5_code 14 = .ok (.dconst 0, 1) := by decide +kernel
theorem d0_15 : decode prog_28_method_5_code 15 = .ok (.dstore 5, 2) := by decide +kernel
theorem d0_17 : decode prog_28_method_5_code 17 = .ok (.iload_n 2, 1) := by decide +kernel
theorem d0_18 : decode prog_28_method_5_code 18 = .ok (.ifCond .le 39, 3) := by decide +kernel
theorem d0_57 : decode prog_28_method_5_code 57 = .ok (.iload_n 2, 1) := by decide +kernel
theorem d0_58 : decode prog_28_method_5_code 58 = .ok (.ifCond .le 60, 3) := by decide +kernel
theorem d0_118 : decode prog_28_method_5_code 118 = .ok (.dload_n 3, 1) := by decide +kernel
theorem d0_119 : decode prog_28_method_5_code 119 = .ok (.dreturn, 1) := by decide +kernel
def Q_rd1 (Z : State) (ar : Addr) (ka : ClassId) (d0 : UInt64) (d1 : UInt64) (d2 : UInt64) (d3 : UInt64) (h0 : Heap) (n0 : Nat) (v : Option Value) (h : Heap) (L : List Loc) : Prop := v = some (.double d0) ∧ Fr n0 L ∧ h = h0
theorem ef_rd1 (m : MethodId) (ar : Addr) : entryFrame m #[(.ref ar), (.int (1 : Int32))] 11 = mkF m 0 #[.val (.ref ar), .val (.int (1 : Int32)), .unset, .unset, .unset, .unset, .unset, .unset, .unset, .unset, .unset] [] := by first | (simp [entryFrame, mkF, argsToLocals, Value.category]; done) | rfl
set_option maxRecDepth 65536 in
set_option maxHeartbeats 40000000 in
theorem rd1 (l : Launch) (Z : State) (a0 : Array Value) (hw : ∀ d ∈ tables_1, d.before a0 Z = true) (ws : List Jvm.Cond) (ar : Addr) (ka : ClassId) (d0 : UInt64) (d1 : UInt64) (d2 : UInt64) (d3 : UInt64) (h0 : Heap) (n0 : Nat) (Z0 : n0 ≤ h0.size) (V_ar : Arv Z h0 ar ka .double (4 : Int32) [(.double d0), (.double d1), (.double d2), (.double d3)] (.double 0)) :
    MetFree l (⟨"com/example/crestwatch/crestwatch/core/ExactSum", "rounded", "([DI)D"⟩ : MethodName) (head1 (Jvm.Cond.code (⟨"com/example/crestwatch/crestwatch/core/ExactSum", "rounded", "([DI)D"⟩ : MethodName) prog_28_method_5_code 11 (some .double) :: ws) ({ frames := 0, cells := 0, slots := 0, locals := 0 } : Room)) (fun a U => a = #[(.ref ar), (.int (1 : Int32))] ∧ Z.Warmed39 U.vm ∧ U.heap = h0) (fun _ _ _ _ _ => True) (fun _ U o U' => ∃ v L, o = .returned v ∧ Q_rd1 Z ar ka d0 d1 d2 d3 h0 n0 v U'.heap L ∧ FrameEnd U o U' L ({ frames := 0, cells := 0, slots := 0, locals := 0 } : Room).cells ({ frames := 0, cells := 0, slots := 0, locals := 0 } : Room).slots) := by
  refine MetFree.of_bodySF (plainFor_of_name pn_0) hisR ?_
  intro p e s m args below meth c s₁ Bd hml0 hP hK
  obtain ⟨rfl, hZ, hh⟩ := hP
  have hx := Bd.exec
  have hby := Bd.bytes
  have hml : c.maxLocals = 11 := hml0
  have hown : s.vm.findClass "com/example/crestwatch/crestwatch/core/ExactSum" = some m.cls := findClass_of_methodNamed Bd.named
  have hnm := (name_of_methodNamed Bd.named Bd.method).1
  have X0 : Stand p l e ({ frames := 0, cells := 0, slots := 0, locals := 0 } : Room) s m #[(.ref ar), (.int (1 : Int32))] below meth c s₁ [] 0 0 := Stand.of_body Bd
  have e0 : s₁.heap = h0 := by rw [← hh, Bd.state]; rfl
  have N0 := Fr.nil n0
  have pre0 : ∀ t, Steps p.tables e below (s₁.setTop (mkF m 0 #[.val (.ref ar), .val (.int (1 : Int32)), .unset, .unset, .unset, .unset, .unset, .unset, .unset, .unset, .unset] [])) t → Steps p.tables e below (s₁.setTop (entryFrame m #[(.ref ar), (.int (1 : Int32))] 11)) t := fun t k => castTop (ef_rd1 m ar) k
  have Vc1 := V_ar
  obtain ⟨cl1, Ar1, q1, S1, M1, H1, G1⟩ := Vc1
  have hin1 : ¬ ((0 : Int32) < 0 ∨ cl1.slots.size ≤ ((0 : Int32)).toNatClampNeg) := inb_of S1 ⟨by decide, by decide⟩
  have hat1 : cl1.slots[((0 : Int32)).toNatClampNeg]? = some (.double d0) := Has.at H1 hin1 rfl
  obtain ⟨fs, hr, hrun, hended, hW, hsame⟩ := X0.leave (v := some (.double d0)) (fun h => by rw [Bd.returns] at h; cases h)
  refine ⟨_, _, pre0 _ ?_, hrun, hended, _, _, rfl, ?_, ⟨_, rfl⟩, hW, hsame.mono (by decide) (by decide)⟩
  · show Steps p.tables e below (s₁.setTop (mkF m 0 #[.val (.ref ar), .val (.int (1 : Int32)), .unset, .unset, .unset, .unset, .unset, .unset, .unset, .unset, .unset] [])) _
    refine XS.iloadN X0.here hx rfl (hb hby d0_0) rfl ?_
    show Steps p.tables e below (s₁.setTop (mkF m 1 #[.val (.ref ar), .val (.int (1 : Int32)), .unset, .unset, .unset, .unset, .unset, .unset, .unset, .unset, .unset] [(.int (1 : Int32))])) _
    refine XS.ifYes X0.here hx rfl (pc0 := 1) (pc' := 6) rfl (hb hby d0_1) rfl ((if0 _ _).trans (feq (by decide : ¬ ((1 : Int32) = (0 : Int32)))).2) (by decide) (by decide) ?_
    show Steps p.tables e below (s₁.setTop (mkF m 6 #[.val (.ref ar), .val (.int (1 : Int32)), .unset, .unset, .unset, .unset, .unset, .unset, .unset, .unset, .unset] [])) _
    refine XS.iloadN X0.here hx rfl (hb hby d0_6) rfl ?_
    show Steps p.tables e below (s₁.setTop (mkF m 7 #[.val (.ref ar), .val (.int (1 : Int32)), .unset, .unset, .unset, .unset, .unset, .unset, .unset, .unset, .unset] [(.int (1 : Int32))])) _
    refine XS.iconst X0.here hx rfl (hb hby d0_7) ?_
    show Steps p.tables e below (s₁.setTop (mkF m 8 #[.val (.ref ar), .val (.int (1 : Int32)), .unset, .unset, .unset, .unset, .unset, .unset, .unset, .unset, .unset] [(.int (1 : Int32)), (.int (1 : Int32))])) _
    refine XS.isub X0.here hx rfl (hb hby d0_8) rfl ?_
    show Steps p.tables e below (s₁.setTop (mkF m 9 #[.val (.ref ar), .val (.int (1 : Int32)), .unset, .unset, .unset, .unset, .unset, .unset, .unset, .unset, .unset] [(.int ((1 : Int32) - (1 : Int32)))])) _
    rw [show ((1 : Int32) - (1 : Int32)) = (0 : Int32) from by decide]
    show Steps p.tables e below (s₁.setTop (mkF m 9 #[.val (.ref ar), .val (.int (1 : Int32)), .unset, .unset, .unset, .unset, .unset, .unset, .unset, .unset, .unset] [(.int (0 : Int32))])) _
    refine XS.istoreN X0.here hx rfl (hb hby d0_9) rfl (l' := #[.val (.ref ar), .val (.int (1 : Int32)), .val (.int (0 : Int32)), .unset, .unset, .unset, .unset, .unset, .unset, .unset, .unset]) rfl ?_
    show Steps p.tables e below (s₁.setTop (mkF m 10 #[.val (.ref ar), .val (.int (1 : Int32)), .val (.int (0 : Int32)), .unset, .unset, .unset, .unset, .unset, .unset, .unset, .unset] [])) _
    refine XS.aloadN X0.here hx rfl (hb hby d0_10) rfl rfl ?_
    show Steps p.tables e below (s₁.setTop (mkF m 11 #[.val (.ref ar), .val (.int (1 : Int32)), .val (.int (0 : Int32)), .unset, .unset, .unset, .unset, .unset, .unset, .unset, .unset] [(.ref ar)])) _
    refine XS.iloadN X0.here hx rfl (hb hby d0_11) rfl ?_
    show Steps p.tables e below (s₁.setTop (mkF m 12 #[.val (.ref ar), .val (.int (1 : Int32)), .val (.int (0 : Int32)), .unset, .unset, .unset, .unset, .unset, .unset, .unset, .unset] [(.int (0 : Int32)), (.ref ar)])) _
    refine X0.daload hx (j := (0 : Int32)) (v := (.double d0)) (by rw [e0]; exact Ar1.1) (State.isArrayOf_alike hZ.alike Ar1.2.1) Ar1.2.2 hin1 hat1 (g := (mkF m 12 #[.val (.ref ar), .val (.int (1 : Int32)), .val (.int (0 : Int32)), .unset, .unset, .unset, .unset, .unset, .unset, .unset, .unset] [(.int (0 : Int32)), (.ref ar)])) rfl rfl (hb hby d0_12) _ ?_
    show Steps p.tables e below (s₁.setTop (mkF m 13 #[.val (.ref ar), .val (.int (1 : Int32)), .val (.int (0 : Int32)), .unset, .unset, .unset, .unset, .unset, .unset, .unset, .unset] [(.double d0)])) _
    refine XS.dstoreN X0.here hx rfl (hb hby d0_13) rfl (l' := #[.val (.ref ar), .val (.int (1 : Int32)), .val (.int (0 : Int32)), .val (.double d0), .second, .unset, .unset, .unset, .unset, .unset, .unset]) rfl ?_
    show Steps p.tables e below (s₁.setTop (mkF m 14 #[.val (.ref ar), .val (.int (1 : Int32)), .val (.int (0 : Int32)), .val (.double d0), .second, .unset, .unset, .unset, .unset, .unset, .unset] [])) _
    refine XS.dconst0 X0.here hx rfl (hb hby d0_14) (v := 0) rfl ?_
    show Steps p.tables e below (s₁.setTop (mkF m 15 #[.val (.ref ar), .val (.int (1 : Int32)), .val (.int (0 : Int32)), .val (.double d0), .second, .unset, .unset, .unset, .unset, .unset, .unset] [(.double 0)])) _
    refine XS.dstore X0.here hx rfl (hb hby d0_15) rfl (l' := #[.val (.ref ar), .val (.int (1 : Int32)), .val (.int (0 : Int32)), .val (.double d0), .second, .val (.double 0), .second, .unset, .unset, .unset, .unset]) rfl ?_
    show Steps p.tables e below (s₁.setTop (mkF m 17 #[.val (.ref ar), .val (.int (1 : Int32)), .val (.int (0 : Int32)), .val (.double d0), .second, .val (.double 0), .second, .unset, .unset, .unset, .unset] [])) _
    refine XS.iloadN X0.here hx rfl (hb hby d0_17) rfl ?_
    show Steps p.tables e below (s₁.setTop (mkF m 18 #[.val (.ref ar), .val (.int (1 : Int32)), .val (.int (0 : Int32)), .val (.double d0), .second, .val (.double 0), .second, .unset, .unset, .unset, .unset] [(.int (0 : Int32))])) _
    refine XS.ifYes X0.here hx rfl (pc0 := 18) (pc' := 57) rfl (hb hby d0_18) rfl ((if0 _ _).trans (flt (by decide : ¬ ((0 : Int32) < (0 : Int32)))).2.2.2) (by decide) (by decide) ?_
    show Steps p.tables e below (s₁.setTop (mkF m 57 #[.val (.ref ar), .val (.int (1 : Int32)), .val (.int (0 : Int32)), .val (.double d0), .second, .val (.double 0), .second, .unset, .unset, .unset, .unset] [])) _
    refine XS.iloadN X0.here hx rfl (hb hby d0_57) rfl ?_
    show Steps p.tables e below (s₁.setTop (mkF m 58 #[.val (.ref ar), .val (.int (1 : Int32)), .val (.int (0 : Int32)), .val (.double d0), .second, .val (.double 0), .second, .unset, .unset, .unset, .unset] [(.int (0 : Int32))])) _
    refine XS.ifYes X0.here hx rfl (pc0 := 58) (pc' := 118) rfl (hb hby d0_58) rfl ((if0 _ _).trans (flt (by decide : ¬ ((0 : Int32) < (0 : Int32)))).2.2.2) (by decide) (by decide) ?_
    show Steps p.tables e below (s₁.setTop (mkF m 118 #[.val (.ref ar), .val (.int (1 : Int32)), .val (.int (0 : Int32)), .val (.double d0), .second, .val (.double 0), .second, .unset, .unset, .unset, .unset] [])) _
    refine XS.dloadN X0.here hx rfl (hb hby d0_118) rfl ?_
    show Steps p.tables e below (s₁.setTop (mkF m 119 #[.val (.ref ar), .val (.int (1 : Int32)), .val (.int (0 : Int32)), .val (.double d0), .second, .val (.double 0), .second, .unset, .unset, .unset, .unset] [(.double d0)])) _
    exact retOut X0 hx Bd.returns rfl (Or.inr (Or.inr (Or.inl ⟨rfl, rfl, _, rfl⟩))) (hb hby d0_119) hr
  · show Q_rd1 Z ar ka d0 d1 d2 d3 h0 n0 _ s₁.heap _
    rw [e0]
    exact ⟨rfl, N0, rfl⟩
theorem d0_21 : decode prog_28_method_5_code 21 = .ok (.iinc 2 (-1), 3) := by decide +kernel
theorem d0_24 : decode prog_28_method_5_code 24 = .ok (.dload_n 3, 1) := by decide +kernel
theorem d0_25 : decode prog_28_method_5_code 25 = .ok (.dstore 7, 2) := by decide +kernel
theorem d0_27 : decode prog_28_method_5_code 27 = .ok (.dload 7, 2) := by decide +kernel
theorem d0_29 : decode prog_28_method_5_code 29 = .ok (.aload_n 0, 1) := by decide +kernel
theorem d0_30 : decode prog_28_method_5_code 30 = .ok (.iload_n 2, 1) := by decide +kernel
theorem d0_31 : decode prog_28_method_5_code 31 = .ok (.daload, 1) := by decide +kernel
theorem d0_32 : decode prog_28_method_5_code 32 = .ok (.dadd, 1) := by decide +kernel
theorem d0_33 : decode prog_28_method_5_code 33 = .ok (.dstore_n 3, 1) := by decide +kernel
theorem d0_34 : decode prog_28_method_5_code 34 = .ok (.aload_n 0, 1) := by decide +kernel
theorem d0_35 : decode prog_28_method_5_code 35 = .ok (.iload_n 2, 1) := by decide +kernel
theorem d0_36 : decode prog_28_method_5_code 36 = .ok (.daload, 1) := by decide +kernel
theorem d0_37 : decode prog_28_method_5_code 37 = .ok (.dload_n 3, 1) := by decide +kernel
theorem d0_38 : decode prog_28_method_5_code 38 = .ok (.dload 7, 2) := by decide +kernel
theorem d0_40 : decode prog_28_method_5_code 40 = .ok (.dsub, 1) := by decide +kernel
theorem d0_41 : decode prog_28_method_5_code 41 = .ok (.dsub, 1) := by decide +kernel
theorem d0_42 : decode prog_28_method_5_code 42 = .ok (.dstore 5, 2) := by decide +kernel
theorem d0_44 : decode prog_28_method_5_code 44 = .ok (.dload 5, 2) := by decide +kernel
theorem d0_46 : decode prog_28_method_5_code 46 = .ok (.dconst 0, 1) := by decide +kernel
theorem d0_47 : decode prog_28_method_5_code 47 = .ok (.dcmp .l, 1) := by decide +kernel
theorem d0_48 : decode prog_28_method_5_code 48 = .ok (.ifCond .eq 6, 3) := by decide +kernel
theorem d0_54 : decode prog_28_method_5_code 54 = .ok (.goto (-37), 3) := by decide +kernel
def Q_rd2t (Z : State) (ar : Addr) (ka : ClassId) (d0 : UInt64) (d1 : UInt64) (d2 : UInt64) (d3 : UInt64) (h1 : UInt64) (g1 : UInt64) (l1 : UInt64) (h0 : Heap) (n0 : Nat) (v : Option Value) (h : Heap) (L : List Loc) : Prop := v = some (.double h1) ∧ Fr n0 L ∧ h = h0
theorem ef_rd2t (m : MethodId) (ar : Addr) : entryFrame m #[(.ref ar), (.int (2 : Int32))] 11 = mkF m 0 #[.val (.ref ar), .val (.int (2 : Int32)), .unset, .unset, .unset, .unset, .unset, .unset, .unset, .unset, .unset] [] := by first | (simp [entryFrame, mkF, argsToLocals, Value.category]; done) | rfl
set_option maxRecDepth 65536 in
set_option maxHeartbeats 40000000 in
theorem rd2t (l : Launch) (Z : State) (a0 : Array Value) (hw : ∀ d ∈ tables_1, d.before a0 Z = true) (ws : List Jvm.Cond) (ar : Addr) (ka : ClassId) (d0 : UInt64) (d1 : UInt64) (d2 : UInt64) (d3 : UInt64) (h1 : UInt64) (g1 : UInt64) (l1 : UInt64) (h0 : Heap) (n0 : Nat) (Z0 : n0 ≤ h0.size) (V_ar : Arv Z h0 ar ka .double (4 : Int32) [(.double d0), (.double d1), (.double d2), (.double d3)] (.double 0)) (e1 : FP.dadd d1 d0 = h1) (e2 : FP.dsub h1 d1 = g1) (e3 : FP.dsub d0 g1 = l1) (nn32 : NoNaN64 (FP.dadd d1 d0)) (nn40 : NoNaN64 (FP.dsub h1 d1)) (nn41 : NoNaN64 (FP.dsub d0 g1)) (hc48 : (cmpValue (FP.dcmp l1 0) .l) = (0 : Int32)) :
    MetFree l (⟨"com/example/crestwatch/crestwatch/core/ExactSum", "rounded", "([DI)D"⟩ : MethodName) (head1 (Jvm.Cond.code (⟨"com/example/crestwatch/crestwatch/core/ExactSum", "rounded", "([DI)D"⟩ : MethodName) prog_28_method_5_code 11 (some .double) :: ws) ({ frames := 0, cells := 0, slots := 0, locals := 0 } : Room)) (fun a U => a = #[(.ref ar), (.int (2 : Int32))] ∧ Z.Warmed39 U.vm ∧ U.heap = h0) (fun _ _ _ _ _ => True) (fun _ U o U' => ∃ v L, o = .returned v ∧ Q_rd2t Z ar ka d0 d1 d2 d3 h1 g1 l1 h0 n0 v U'.heap L ∧ FrameEnd U o U' L ({ frames := 0, cells := 0, slots := 0, locals := 0 } : Room).cells ({ frames := 0, cells := 0, slots := 0, locals := 0 } : Room).slots) := by
  refine MetFree.of_bodySF (plainFor_of_name pn_0) hisR ?_
  intro p e s m args below meth c s₁ Bd hml0 hP hK
  obtain ⟨rfl, hZ, hh⟩ := hP
  have hx := Bd.exec
  have hby := Bd.bytes
  have hml : c.maxLocals = 11 := hml0
  have hown : s.vm.findClass "com/example/crestwatch/crestwatch/core/ExactSum" = some m.cls := findClass_of_methodNamed Bd.named
  have hnm := (name_of_methodNamed Bd.named Bd.method).1
  have X0 : Stand p l e ({ frames := 0, cells := 0, slots := 0, locals := 0 } : Room) s m #[(.ref ar), (.int (2 : Int32))] below meth c s₁ [] 0 0 := Stand.of_body Bd
  have e0 : s₁.heap = h0 := by rw [← hh, Bd.state]; rfl
  have N0 := Fr.nil n0
  have pre0 : ∀ t, Steps p.tables e below (s₁.setTop (mkF m 0 #[.val (.ref ar), .val (.int (2 : Int32)), .unset, .unset, .unset, .unset, .unset, .unset, .unset, .unset, .unset] [])) t → Steps p.tables e below (s₁.setTop (entryFrame m #[(.ref ar), (.int (2 : Int32))] 11)) t := fun t k => castTop (ef_rd2t m ar) k
  have Vc1 := V_ar
  obtain ⟨cl1, Ar1, q1, S1, M1, H1, G1⟩ := Vc1
  have hin1 : ¬ ((1 : Int32) < 0 ∨ cl1.slots.size ≤ ((1 : Int32)).toNatClampNeg) := inb_of S1 ⟨by decide, by decide⟩
  have hat1 : cl1.slots[((1 : Int32)).toNatClampNeg]? = some (.double d1) := Has.at H1 hin1 rfl
  have Vc2 := V_ar
  obtain ⟨cl2, Ar2, q2, S2, M2, H2, G2⟩ := Vc2
  have hin2 : ¬ ((0 : Int32) < 0 ∨ cl2.slots.size ≤ ((0 : Int32)).toNatClampNeg) := inb_of S2 ⟨by decide, by decide⟩
  have hat2 : cl2.slots[((0 : Int32)).toNatClampNeg]? = some (.double d0) := Has.at H2 hin2 rfl
  have Vc3 := V_ar
  obtain ⟨cl3, Ar3, q3, S3, M3, H3, G3⟩ := Vc3
  have hin3 : ¬ ((0 : Int32) < 0 ∨ cl3.slots.size ≤ ((0 : Int32)).toNatClampNeg) := inb_of S3 ⟨by decide, by decide⟩
  have hat3 : cl3.slots[((0 : Int32)).toNatClampNeg]? = some (.double d0) := Has.at H3 hin3 rfl
  obtain ⟨fs, hr, hrun, hended, hW, hsame⟩ := X0.leave (v := some (.double h1)) (fun h => by rw [Bd.returns] at h; cases h)
  refine ⟨_, _, pre0 _ ?_, hrun, hended, _, _, rfl, ?_, ⟨_, rfl⟩, hW, hsame.mono (by decide) (by decide)⟩
  · show Steps p.tables e below (s₁.setTop (mkF m 0 #[.val (.ref ar), .val (.int (2 : Int32)), .unset, .unset, .unset, .unset, .unset, .unset, .unset, .unset, .unset] [])) _
    refine XS.iloadN X0.here hx rfl (hb hby d0_0) rfl ?_
    show Steps p.tables e below (s₁.setTop (mkF m 1 #[.val (.ref ar), .val (.int (2 : Int32)), .unset, .unset, .unset, .unset, .unset, .unset, .unset, .unset, .unset] [(.int (2 : Int32))])) _
    refine XS.ifYes X0.here hx rfl (pc0 := 1) (pc' := 6) rfl (hb hby d0_1) rfl ((if0 _ _).trans (feq (by decide : ¬ ((2 : Int32) = (0 : Int32)))).2) (by decide) (by decide) ?_
    show Steps p.tables e below (s₁.setTop (mkF m 6 #[.val (.ref ar), .val (.int (2 : Int32)), .unset, .unset, .unset, .unset, .unset, .unset, .unset, .unset, .unset] [])) _
    refine XS.iloadN X0.here hx rfl (hb hby d0_6) rfl ?_
    show Steps p.tables e below (s₁.setTop (mkF m 7 #[.val (.ref ar), .val (.int (2 : Int32)), .unset, .unset, .unset, .unset, .unset, .unset, .unset, .unset, .unset] [(.int (2 : Int32))])) _
    refine XS.iconst X0.here hx rfl (hb hby d0_7) ?_
    show Steps p.tables e below (s₁.setTop (mkF m 8 #[.val (.ref ar), .val (.int (2 : Int32)), .unset, .unset, .unset, .unset, .unset, .unset, .unset, .unset, .unset] [(.int (1 : Int32)), (.int (2 : Int32))])) _
    refine XS.isub X0.here hx rfl (hb hby d0_8) rfl ?_
    show Steps p.tables e below (s₁.setTop (mkF m 9 #[.val (.ref ar), .val (.int (2 : Int32)), .unset, .unset, .unset, .unset, .unset, .unset, .unset, .unset, .unset] [(.int ((2 : Int32) - (1 : Int32)))])) _
    rw [show ((2 : Int32) - (1 : Int32)) = (1 : Int32) from by decide]
    show Steps p.tables e below (s₁.setTop (mkF m 9 #[.val (.ref ar), .val (.int (2 : Int32)), .unset, .unset, .unset, .unset, .unset, .unset, .unset, .unset, .unset] [(.int (1 : Int32))])) _
    refine XS.istoreN X0.here hx rfl (hb hby d0_9) rfl (l' := #[.val (.ref ar), .val (.int (2 : Int32)), .val (.int (1 : Int32)), .unset, .unset, .unset, .unset, .unset, .unset, .unset, .unset]) rfl ?_
    show Steps p.tables e below (s₁.setTop (mkF m 10 #[.val (.ref ar), .val (.int (2 : Int32)), .val (.int (1 : Int32)), .unset, .unset, .unset, .unset, .unset, .unset, .unset, .unset] [])) _
    refine XS.aloadN X0.here hx rfl (hb hby d0_10) rfl rfl ?_
    show Steps p.tables e below (s₁.setTop (mkF m 11 #[.val (.ref ar), .val (.int (2 : Int32)), .val (.int (1 : Int32)), .unset, .unset, .unset, .unset, .unset, .unset, .unset, .unset] [(.ref ar)])) _
    refine XS.iloadN X0.here hx rfl (hb hby d0_11) rfl ?_
    show Steps p.tables e below (s₁.setTop (mkF m 12 #[.val (.ref ar), .val (.int (2 : Int32)), .val (.int (1 : Int32)), .unset, .unset, .unset, .unset, .unset, .unset, .unset, .unset] [(.int (1 : Int32)), (.ref ar)])) _
    refine X0.daload hx (j := (1 : Int32)) (v := (.double d1)) (by rw [e0]; exact Ar1.1) (State.isArrayOf_alike hZ.alike Ar1.2.1) Ar1.2.2 hin1 hat1 (g := (mkF m 12 #[.val (.ref ar), .val (.int (2 : Int32)), .val (.int (1 : Int32)), .unset, .unset, .unset, .unset, .unset, .unset, .unset, .unset] [(.int (1 : Int32)), (.ref ar)])) rfl rfl (hb hby d0_12) _ ?_
    show Steps p.tables e below (s₁.setTop (mkF m 13 #[.val (.ref ar), .val (.int (2 : Int32)), .val (.int (1 : Int32)), .unset, .unset, .unset, .unset, .unset, .unset, .unset, .unset] [(.double d1)])) _
    refine XS.dstoreN X0.here hx rfl (hb hby d0_13) rfl (l' := #[.val (.ref ar), .val (.int (2 : Int32)), .val (.int (1 : Int32)), .val (.double d1), .second, .unset, .unset, .unset, .unset, .unset, .unset]) rfl ?_
    show Steps p.tables e below (s₁.setTop (mkF m 14 #[.val (.ref ar), .val (.int (2 : Int32)), .val (.int (1 : Int32)), .val (.double d1), .second, .unset, .unset, .unset, .unset, .unset, .unset] [])) _
    refine XS.dconst0 X0.here hx rfl (hb hby d0_14) (v := 0) rfl ?_
    show Steps p.tables e below (s₁.setTop (mkF m 15 #[.val (.ref ar), .val (.int (2 : Int32)), .val (.int (1 : Int32)), .val (.double d1), .second, .unset, .unset, .unset, .unset, .unset, .unset] [(.double 0)])) _
    refine XS.dstore X0.here hx rfl (hb hby d0_15) rfl (l' := #[.val (.ref ar), .val (.int (2 : Int32)), .val (.int (1 : Int32)), .val (.double d1), .second, .val (.double 0), .second, .unset, .unset, .unset, .unset]) rfl ?_
    show Steps p.tables e below (s₁.setTop (mkF m 17 #[.val (.ref ar), .val (.int (2 : Int32)), .val (.int (1 : Int32)), .val (.double d1), .second, .val (.double 0), .second, .unset, .unset, .unset, .unset] [])) _
    refine XS.iloadN X0.here hx rfl (hb hby d0_17) rfl ?_
    show Steps p.tables e below (s₁.setTop (mkF m 18 #[.val (.ref ar), .val (.int (2 : Int32)), .val (.int (1 : Int32)), .val (.double d1), .second, .val (.double 0), .second, .unset, .unset, .unset, .unset] [(.int (1 : Int32))])) _
    refine XS.ifNo X0.here hx rfl (hb hby d0_18) rfl ((if0 _ _).trans (tlt (by decide : (0 : Int32) < (1 : Int32))).2.2.2) ?_
    show Steps p.tables e below (s₁.setTop (mkF m 21 #[.val (.ref ar), .val (.int (2 : Int32)), .val (.int (1 : Int32)), .val (.double d1), .second, .val (.double 0), .second, .unset, .unset, .unset, .unset] [])) _
    refine XS.iinc X0.here hx rfl (hb hby d0_21) rfl (l' := #[.val (.ref ar), .val (.int (2 : Int32)), .val (.int ((1 : Int32) + (-1 : Int32))), .val (.double d1), .second, .val (.double 0), .second, .unset, .unset, .unset, .unset]) rfl ?_
    show Steps p.tables e below (s₁.setTop (mkF m 24 #[.val (.ref ar), .val (.int (2 : Int32)), .val (.int ((1 : Int32) + (-1 : Int32))), .val (.double d1), .second, .val (.double 0), .second, .unset, .unset, .unset, .unset] [])) _
    rw [show ((1 : Int32) + (-1 : Int32)) = (0 : Int32) from by decide]
    show Steps p.tables e below (s₁.setTop (mkF m 24 #[.val (.ref ar), .val (.int (2 : Int32)), .val (.int (0 : Int32)), .val (.double d1), .second, .val (.double 0), .second, .unset, .unset, .unset, .unset] [])) _
    refine XS.dloadN X0.here hx rfl (hb hby d0_24) rfl ?_
    show Steps p.tables e below (s₁.setTop (mkF m 25 #[.val (.ref ar), .val (.int (2 : Int32)), .val (.int (0 : Int32)), .val (.double d1), .second, .val (.double 0), .second, .unset, .unset, .unset, .unset] [(.double d1)])) _
    refine XS.dstore X0.here hx rfl (hb hby d0_25) rfl (l' := #[.val (.ref ar), .val (.int (2 : Int32)), .val (.int (0 : Int32)), .val (.double d1), .second, .val (.double 0), .second, .val (.double d1), .second, .unset, .unset]) rfl ?_
    show Steps p.tables e below (s₁.setTop (mkF m 27 #[.val (.ref ar), .val (.int (2 : Int32)), .val (.int (0 : Int32)), .val (.double d1), .second, .val (.double 0), .second, .val (.double d1), .second, .unset, .unset] [])) _
    refine XS.dload X0.here hx rfl (hb hby d0_27) rfl ?_
    show Steps p.tables e below (s₁.setTop (mkF m 29 #[.val (.ref ar), .val (.int (2 : Int32)), .val (.int (0 : Int32)), .val (.double d1), .second, .val (.double 0), .second, .val (.double d1), .second, .unset, .unset] [(.double d1)])) _
    refine XS.aloadN X0.here hx rfl (hb hby d0_29) rfl rfl ?_
    show Steps p.tables e below (s₁.setTop (mkF m 30 #[.val (.ref ar), .val (.int (2 : Int32)), .val (.int (0 : Int32)), .val (.double d1), .second, .val (.double 0), .second, .val (.double d1), .second, .unset, .unset] [(.ref ar), (.double d1)])) _
    refine XS.iloadN X0.here hx rfl (hb hby d0_30) rfl ?_
    show Steps p.tables e below (s₁.setTop (mkF m 31 #[.val (.ref ar), .val (.int (2 : Int32)), .val (.int (0 : Int32)), .val (.double d1), .second, .val (.double 0), .second, .val (.double d1), .second, .unset, .unset] [(.int (0 : Int32)), (.ref ar), (.double d1)])) _
    refine X0.daload hx (j := (0 : Int32)) (v := (.double d0)) (by rw [e0]; exact Ar2.1) (State.isArrayOf_alike hZ.alike Ar2.2.1) Ar2.2.2 hin2 hat2 (g := (mkF m 31 #[.val (.ref ar), .val (.int (2 : Int32)), .val (.int (0 : Int32)), .val (.double d1), .second, .val (.double 0), .second, .val (.double d1), .second, .unset, .unset] [(.int (0 : Int32)), (.ref ar), (.double d1)])) rfl rfl (hb hby d0_31) _ ?_
    show Steps p.tables e below (s₁.setTop (mkF m 32 #[.val (.ref ar), .val (.int (2 : Int32)), .val (.int (0 : Int32)), .val (.double d1), .second, .val (.double 0), .second, .val (.double d1), .second, .unset, .unset] [(.double d0), (.double d1)])) _
    refine XS.daddS X0.here hx rfl (hb hby d0_32) rfl nn32 rfl ?_
    show Steps p.tables e below (s₁.setTop (mkF m 33 #[.val (.ref ar), .val (.int (2 : Int32)), .val (.int (0 : Int32)), .val (.double d1), .second, .val (.double 0), .second, .val (.double d1), .second, .unset, .unset] [(.double (FP.dadd d1 d0))])) _
    rw [e1]
    show Steps p.tables e below (s₁.setTop (mkF m 33 #[.val (.ref ar), .val (.int (2 : Int32)), .val (.int (0 : Int32)), .val (.double d1), .second, .val (.double 0), .second, .val (.double d1), .second, .unset, .unset] [(.double h1)])) _
    refine XS.dstoreN X0.here hx rfl (hb hby d0_33) rfl (l' := #[.val (.ref ar), .val (.int (2 : Int32)), .val (.int (0 : Int32)), .val (.double h1), .second, .val (.double 0), .second, .val (.double d1), .second, .unset, .unset]) rfl ?_
    show Steps p.tables e below (s₁.setTop (mkF m 34 #[.val (.ref ar), .val (.int (2 : Int32)), .val (.int (0 : Int32)), .val (.double h1), .second, .val (.double 0), .second, .val (.double d1), .second, .unset, .unset] [])) _
    refine XS.aloadN X0.here hx rfl (hb hby d0_34) rfl rfl ?_
    show Steps p.tables e below (s₁.setTop (mkF m 35 #[.val (.ref ar), .val (.int (2 : Int32)), .val (.int (0 : Int32)), .val (.double h1), .second, .val (.double 0), .second, .val (.double d1), .second, .unset, .unset] [(.ref ar)])) _
    refine XS.iloadN X0.here hx rfl (hb hby d0_35) rfl ?_
    show Steps p.tables e below (s₁.setTop (mkF m 36 #[.val (.ref ar), .val (.int (2 : Int32)), .val (.int (0 : Int32)), .val (.double h1), .second, .val (.double 0), .second, .val (.double d1), .second, .unset, .unset] [(.int (0 : Int32)), (.ref ar)])) _
    refine X0.daload hx (j := (0 : Int32)) (v := (.double d0)) (by rw [e0]; exact Ar3.1) (State.isArrayOf_alike hZ.alike Ar3.2.1) Ar3.2.2 hin3 hat3 (g := (mkF m 36 #[.val (.ref ar), .val (.int (2 : Int32)), .val (.int (0 : Int32)), .val (.double h1), .second, .val (.double 0), .second, .val (.double d1), .second, .unset, .unset] [(.int (0 : Int32)), (.ref ar)])) rfl rfl (hb hby d0_36) _ ?_
    show Steps p.tables e below (s₁.setTop (mkF m 37 #[.val (.ref ar), .val (.int (2 : Int32)), .val (.int (0 : Int32)), .val (.double h1), .second, .val (.double 0), .second, .val (.double d1), .second, .unset, .unset] [(.double d0)])) _
    refine XS.dloadN X0.here hx rfl (hb hby d0_37) rfl ?_
    show Steps p.tables e below (s₁.setTop (mkF m 38 #[.val (.ref ar), .val (.int (2 : Int32)), .val (.int (0 : Int32)), .val (.double h1), .second, .val (.double 0), .second, .val (.double d1), .second, .unset, .unset] [(.double h1), (.double d0)])) _
    refine XS.dload X0.here hx rfl (hb hby d0_38) rfl ?_
    show Steps p.tables e below (s₁.setTop (mkF m 40 #[.val (.ref ar), .val (.int (2 : Int32)), .val (.int (0 : Int32)), .val (.double h1), .second, .val (.double 0), .second, .val (.double d1), .second, .unset, .unset] [(.double d1), (.double h1), (.double d0)])) _
    refine XS.dsubS X0.here hx rfl (hb hby d0_40) rfl nn40 rfl ?_
    show Steps p.tables e below (s₁.setTop (mkF m 41 #[.val (.ref ar), .val (.int (2 : Int32)), .val (.int (0 : Int32)), .val (.double h1), .second, .val (.double 0), .second, .val (.double d1), .second, .unset, .unset] [(.double (FP.dsub h1 d1)), (.double d0)])) _
    rw [e2]
    show Steps p.tables e below (s₁.setTop (mkF m 41 #[.val (.ref ar), .val (.int (2 : Int32)), .val (.int (0 : Int32)), .val (.double h1), .second, .val (.double 0), .second, .val (.double d1), .second, .unset, .unset] [(.double g1), (.double d0)])) _
    refine XS.dsubS X0.here hx rfl (hb hby d0_41) rfl nn41 rfl ?_
    show Steps p.tables e below (s₁.setTop (mkF m 42 #[.val (.ref ar), .val (.int (2 : Int32)), .val (.int (0 : Int32)), .val (.double h1), .second, .val (.double 0), .second, .val (.double d1), .second, .unset, .unset] [(.double (FP.dsub d0 g1))])) _
    rw [e3]
    show Steps p.tables e below (s₁.setTop (mkF m 42 #[.val (.ref ar), .val (.int (2 : Int32)), .val (.int (0 : Int32)), .val (.double h1), .second, .val (.double 0), .second, .val (.double d1), .second, .unset, .unset] [(.double l1)])) _
    refine XS.dstore X0.here hx rfl (hb hby d0_42) rfl (l' := #[.val (.ref ar), .val (.int (2 : Int32)), .val (.int (0 : Int32)), .val (.double h1), .second, .val (.double l1), .second, .val (.double d1), .second, .unset, .unset]) rfl ?_
    show Steps p.tables e below (s₁.setTop (mkF m 44 #[.val (.ref ar), .val (.int (2 : Int32)), .val (.int (0 : Int32)), .val (.double h1), .second, .val (.double l1), .second, .val (.double d1), .second, .unset, .unset] [])) _
    refine XS.dload X0.here hx rfl (hb hby d0_44) rfl ?_
    show Steps p.tables e below (s₁.setTop (mkF m 46 #[.val (.ref ar), .val (.int (2 : Int32)), .val (.int (0 : Int32)), .val (.double h1), .second, .val (.double l1), .second, .val (.double d1), .second, .unset, .unset] [(.double l1)])) _
    refine XS.dconst0 X0.here hx rfl (hb hby d0_46) (v := 0) rfl ?_
    show Steps p.tables e below (s₁.setTop (mkF m 47 #[.val (.ref ar), .val (.int (2 : Int32)), .val (.int (0 : Int32)), .val (.double h1), .second, .val (.double l1), .second, .val (.double d1), .second, .unset, .unset] [(.double 0), (.double l1)])) _
    refine XS.dcmpS X0.here hx rfl (hb hby d0_47) rfl rfl ?_
    show Steps p.tables e below (s₁.setTop (mkF m 48 #[.val (.ref ar), .val (.int (2 : Int32)), .val (.int (0 : Int32)), .val (.double h1), .second, .val (.double l1), .second, .val (.double d1), .second, .unset, .unset] [(.int (cmpValue (FP.dcmp l1 0) .l))])) _
    refine XS.ifYes X0.here hx rfl (pc0 := 48) (pc' := 54) rfl (hb hby d0_48) rfl ((if0 _ _).trans (teq hc48).1) (by decide) (by decide) ?_
    show Steps p.tables e below (s₁.setTop (mkF m 54 #[.val (.ref ar), .val (.int (2 : Int32)), .val (.int (0 : Int32)), .val (.double h1), .second, .val (.double l1), .second, .val (.double d1), .second, .unset, .unset] [])) _
    refine XS.goto X0.here hx rfl (pc0 := 54) (pc' := 17) rfl (hb hby d0_54) (by decide) (by decide) ?_
    show Steps p.tables e below (s₁.setTop (mkF m 17 #[.val (.ref ar), .val (.int (2 : Int32)), .val (.int (0 : Int32)), .val (.double h1), .second, .val (.double l1), .second, .val (.double d1), .second, .unset, .unset] [])) _
    refine XS.iloadN X0.here hx rfl (hb hby d0_17) rfl ?_
    show Steps p.tables e below (s₁.setTop (mkF m 18 #[.val (.ref ar), .val (.int (2 : Int32)), .val (.int (0 : Int32)), .val (.double h1), .second, .val (.double l1), .second, .val (.double d1), .second, .unset, .unset] [(.int (0 : Int32))])) _
    refine XS.ifYes X0.here hx rfl (pc0 := 18) (pc' := 57) rfl (hb hby d0_18) rfl ((if0 _ _).trans (flt (by decide : ¬ ((0 : Int32) < (0 : Int32)))).2.2.2) (by decide) (by decide) ?_
    show Steps p.tables e below (s₁.setTop (mkF m 57 #[.val (.ref ar), .val (.int (2 : Int32)), .val (.int (0 : Int32)), .val (.double h1), .second, .val (.double l1), .second, .val (.double d1), .second, .unset, .unset] [])) _
    refine XS.iloadN X0.here hx rfl (hb hby d0_57) rfl ?_
    show Steps p.tables e below (s₁.setTop (mkF m 58 #[.val (.ref ar), .val (.int (2 : Int32)), .val (.int (0 : Int32)), .val (.double h1), .second, .val (.double l1), .second, .val (.double d1), .second, .unset, .unset] [(.int (0 : Int32))])) _
    refine XS.ifYes X0.here hx rfl (pc0 := 58) (pc' := 118) rfl (hb hby d0_58) rfl ((if0 _ _).trans (flt (by decide : ¬ ((0 : Int32) < (0 : Int32)))).2.2.2) (by decide) (by decide) ?_
    show Steps p.tables e below (s₁.setTop (mkF m 118 #[.val (.ref ar), .val (.int (2 : Int32)), .val (.int (0 : Int32)), .val (.double h1), .second, .val (.double l1), .second, .val (.double d1), .second, .unset, .unset] [])) _
    refine XS.dloadN X0.here hx rfl (hb hby d0_118) rfl ?_
    show Steps p.tables e below (s₁.setTop (mkF m 119 #[.val (.ref ar), .val (.int (2 : Int32)), .val (.int (0 : Int32)), .val (.double h1), .second, .val (.double l1), .second, .val (.double d1), .second, .unset, .unset] [(.double h1)])) _
    exact retOut X0 hx Bd.returns rfl (Or.inr (Or.inr (Or.inl ⟨rfl, rfl, _, rfl⟩))) (hb hby d0_119) hr
  · show Q_rd2t Z ar ka d0 d1 d2 d3 h1 g1 l1 h0 n0 _ s₁.heap _
    rw [e0]
    exact ⟨rfl, N0, rfl⟩
theorem d0_51 : decode prog_28_method_5_code 51 = .ok (.goto 6, 3) := by decide +kernel
def Q_rd2f (Z : State) (ar : Addr) (ka : ClassId) (d0 : UInt64) (d1 : UInt64) (d2 : UInt64) (d3 : UInt64) (h1 : UInt64) (g1 : UInt64) (l1 : UInt64) (h0 : Heap) (n0 : Nat) (v : Option Value) (h : Heap) (L : List Loc) : Prop := v = some (.double h1) ∧ Fr n0 L ∧ h = h0
theorem ef_rd2f (m : MethodId) (ar : Addr) : entryFrame m #[(.ref ar), (.int (2 : Int32))] 11 = mkF m 0 #[.val (.ref ar), .val (.int (2 : Int32)), .unset, .unset, .unset, .unset, .unset, .unset, .unset, .unset, .unset] [] := by first | (simp [entryFrame, mkF, argsToLocals, Value.category]; done) | rfl
set_option maxRecDepth 65536 in
set_option maxHeartbeats 40000000 in
theorem rd2f (l : Launch) (Z : State) (a0 : Array Value) (hw : ∀ d ∈ tables_1, d.before a0 Z = true) (ws : List Jvm.Cond) (ar : Addr) (ka : ClassId) (d0 : UInt64) (d1 : UInt64) (d2 : UInt64) (d3 : UInt64) (h1 : UInt64) (g1 : UInt64) (l1 : UInt64) (h0 : Heap) (n0 : Nat) (Z0 : n0 ≤ h0.size) (V_ar : Arv Z h0 ar ka .double (4 : Int32) [(.double d0), (.double d1), (.double d2), (.double d3)] (.double 0)) (e1 : FP.dadd d1 d0 = h1) (e2 : FP.dsub h1 d1 = g1) (e3 : FP.dsub d0 g1 = l1) (nn32 : NoNaN64 (FP.dadd d1 d0)) (nn40 : NoNaN64 (FP.dsub h1 d1)) (nn41 : NoNaN64 (FP.dsub d0 g1)) (hc48 : ¬ ((cmpValue (FP.dcmp l1 0) .l) = (0 : Int32))) :
    MetFree l (⟨"com/example/crestwatch/crestwatch/core/ExactSum", "rounded", "([DI)D"⟩ : MethodName) (head1 (Jvm.Cond.code (⟨"com/example/crestwatch/crestwatch/core/ExactSum", "rounded", "([DI)D"⟩ : MethodName) prog_28_method_5_code 11 (some .double) :: ws) ({ frames := 0, cells := 0, slots := 0, locals := 0 } : Room)) (fun a U => a = #[(.ref ar), (.int (2 : Int32))] ∧ Z.Warmed39 U.vm ∧ U.heap = h0) (fun _ _ _ _ _ => True) (fun _ U o U' => ∃ v L, o = .returned v ∧ Q_rd2f Z ar ka d0 d1 d2 d3 h1 g1 l1 h0 n0 v U'.heap L ∧ FrameEnd U o U' L ({ frames := 0, cells := 0, slots := 0, locals := 0 } : Room).cells ({ frames := 0, cells := 0, slots := 0, locals := 0 } : Room).slots) := by
  refine MetFree.of_bodySF (plainFor_of_name pn_0) hisR ?_
  intro p e s m args below meth c s₁ Bd hml0 hP hK
  obtain ⟨rfl, hZ, hh⟩ := hP
  have hx := Bd.exec
  have hby := Bd.bytes
  have hml : c.maxLocals = 11 := hml0
  have hown : s.vm.findClass "com/example/crestwatch/crestwatch/core/ExactSum" = some m.cls := findClass_of_methodNamed Bd.named
  have hnm := (name_of_methodNamed Bd.named Bd.method).1
  have X0 : Stand p l e ({ frames := 0, cells := 0, slots := 0, locals := 0 } : Room) s m #[(.ref ar), (.int (2 : Int32))] below meth c s₁ [] 0 0 := Stand.of_body Bd
  have e0 : s₁.heap = h0 := by rw [← hh, Bd.state]; rfl
  have N0 := Fr.nil n0
  have pre0 : ∀ t, Steps p.tables e below (s₁.setTop (mkF m 0 #[.val (.ref ar), .val (.int (2 : Int32)), .unset, .unset, .unset, .unset, .unset, .unset, .unset, .unset, .unset] [])) t → Steps p.tables e below (s₁.setTop (entryFrame m #[(.ref ar), (.int (2 : Int32))] 11)) t := fun t k => castTop (ef_rd2f m ar) k
  have Vc1 := V_ar
  obtain ⟨cl1, Ar1, q1, S1, M1, H1, G1⟩ := Vc1
  have hin1 : ¬ ((1 : Int32) < 0 ∨ cl1.slots.size ≤ ((1 : Int32)).toNatClampNeg) := inb_of S1 ⟨by decide, by decide⟩
  have hat1 : cl1.slots[((1 : Int32)).toNatClampNeg]? = some (.double d1) := Has.at H1 hin1 rfl
  have Vc2 := V_ar
  obtain ⟨cl2, Ar2, q2, S2, M2, H2, G2⟩ := Vc2
  have hin2 : ¬ ((0 : Int32) < 0 ∨ cl2.slots.size ≤ ((0 : Int32)).toNatClampNeg) := inb_of S2 ⟨by decide, by decide⟩
  have hat2 : cl2.slots[((0 : Int32)).toNatClampNeg]? = some (.double d0) := Has.at H2 hin2 rfl
  have Vc3 := V_ar
  obtain ⟨cl3, Ar3, q3, S3, M3, H3, G3⟩ := Vc3
  have hin3 : ¬ ((0 : Int32) < 0 ∨ cl3.slots.size ≤ ((0 : Int32)).toNatClampNeg) := inb_of S3 ⟨by decide, by decide⟩
  have hat3 : cl3.slots[((0 : Int32)).toNatClampNeg]? = some (.double d0) := Has.at H3 hin3 rfl
  obtain ⟨fs, hr, hrun, hended, hW, hsame⟩ := X0.leave (v := some (.double h1)) (fun h => by rw [Bd.returns] at h; cases h)
  refine ⟨_, _, pre0 _ ?_, hrun, hended, _, _, rfl, ?_, ⟨_, rfl⟩, hW, hsame.mono (by decide) (by decide)⟩
  · show Steps p.tables e below (s₁.setTop (mkF m 0 #[.val (.ref ar), .val (.int (2 : Int32)), .unset, .unset, .unset, .unset, .unset, .unset, .unset, .unset, .unset] [])) _
    refine XS.iloadN X0.here hx rfl (hb hby d0_0) rfl ?_
    show Steps p.tables e below (s₁.setTop (mkF m 1 #[.val (.ref ar), .val (.int (2 : Int32)), .unset, .unset, .unset, .unset, .unset, .unset, .unset, .unset, .unset] [(.int (2 : Int32))])) _
    refine XS.ifYes X0.here hx rfl (pc0 := 1) (pc' := 6) rfl (hb hby d0_1) rfl ((if0 _ _).trans (feq (by decide : ¬ ((2 : Int32) = (0 : Int32)))).2) (by decide) (by decide) ?_
    show Steps p.tables e below (s₁.setTop (mkF m 6 #[.val (.ref ar), .val (.int (2 : Int32)), .unset, .unset, .unset, .unset, .unset, .unset, .unset, .unset, .unset] [])) _
    refine XS.iloadN X0.here hx rfl (hb hby d0_6) rfl ?_
    show Steps p.tables e below (s₁.setTop (mkF m 7 #[.val (.ref ar), .val (.int (2 : Int32)), .unset, .unset, .unset, .unset, .unset, .unset, .unset, .unset, .unset] [(.int (2 : Int32))])) _
    refine XS.iconst X0.here hx rfl (hb hby d0_7) ?_
    show Steps p.tables e below (s₁.setTop (mkF m 8 #[.val (.ref ar), .val (.int (2 : Int32)), .unset, .unset, .unset, .unset, .unset, .unset, .unset, .unset, .unset] [(.int (1 : Int32)), (.int (2 : Int32))])) _
    refine XS.isub X0.here hx rfl (hb hby d0_8) rfl ?_
    show Steps p.tables e below (s₁.setTop (mkF m 9 #[.val (.ref ar), .val (.int (2 : Int32)), .unset, .unset, .unset, .unset, .unset, .unset, .unset, .unset, .unset] [(.int ((2 : Int32) - (1 : Int32)))])) _
    rw [show ((2 : Int32) - (1 : Int32)) = (1 : Int32) from by decide]
    show Steps p.tables e below (s₁.setTop (mkF m 9 #[.val (.ref ar), .val (.int (2 : Int32)), .unset, .unset, .unset, .unset, .unset, .unset, .unset, .unset, .unset] [(.int (1 : Int32))])) _
    refine XS.istoreN X0.here hx rfl (hb hby d0_9) rfl (l' := #[.val (.ref ar), .val (.int (2 : Int32)), .val (.int (1 : Int32)), .unset, .unset, .unset, .unset, .unset, .unset, .unset, .unset]) rfl ?_
    show Steps p.tables e below (s₁.setTop (mkF m 10 #[.val (.ref ar), .val (.int (2 : Int32)), .val (.int (1 : Int32)), .unset, .unset, .unset, .unset, .unset, .unset, .unset, .unset] [])) _
    refine XS.aloadN X0.here hx rfl (hb hby d0_10) rfl rfl ?_
    show Steps p.tables e below (s₁.setTop (mkF m 11 #[.val (.ref ar), .val (.int (2 : Int32)), .val (.int (1 : Int32)), .unset, .unset, .unset, .unset, .unset, .unset, .unset, .unset] [(.ref ar)])) _
    refine XS.iloadN X0.here hx rfl (hb hby d0_11) rfl ?_
    show Steps p.tables e below (s₁.setTop (mkF m 12 #[.val (.ref ar), .val (.int (2 : Int32)), .val (.int (1 : Int32)), .unset, .unset, .unset, .unset, .unset, .unset, .unset, .unset] [(.int (1 : Int32)), (.ref ar)])) _
    refine X0.daload hx (j := (1 : Int32)) (v := (.double d1)) (by rw [e0]; exact Ar1.1) (State.isArrayOf_alike hZ.alike Ar1.2.1) Ar1.2.2 hin1 hat1 (g := (mkF m 12 #[.val (.ref ar), .val (.int (2 : Int32)), .val (.int (1 : Int32)), .unset, .unset, .unset, .unset, .unset, .unset, .unset, .unset] [(.int (1 : Int32)), (.ref ar)])) rfl rfl (hb hby d0_12) _ ?_
    show Steps p.tables e below (s₁.setTop (mkF m 13 #[.val (.ref ar), .val (.int (2 : Int32)), .val (.int (1 : Int32)), .unset, .unset, .unset, .unset, .unset, .unset, .unset, .unset] [(.double d1)])) _
    refine XS.dstoreN X0.here hx rfl (hb hby d0_13) rfl (l' := #[.val (.ref ar), .val (.int (2 : Int32)), .val (.int (1 : Int32)), .val (.double d1), .second, .unset, .unset, .unset, .unset, .unset, .unset]) rfl ?_
    show Steps p.tables e below (s₁.setTop (mkF m 14 #[.val (.ref ar), .val (.int (2 : Int32)), .val (.int (1 : Int32)), .val (.double d1), .second, .unset, .unset, .unset, .unset, .unset, .unset] [])) _
    refine XS.dconst0 X0.here hx rfl (hb hby d0_14) (v := 0) rfl ?_
    show Steps p.tables e below (s₁.setTop (mkF m 15 #[.val (.ref ar), .val (.int (2 : Int32)), .val (.int (1 : Int32)), .val (.double d1), .second, .unset, .unset, .unset, .unset, .unset, .unset] [(.double 0)])) _
    refine XS.dstore X0.here hx rfl (hb hby d0_15) rfl (l' := #[.val (.ref ar), .val (.int (2 : Int32)), .val (.int (1 : Int32)), .val (.double d1), .second, .val (.double 0), .second, .unset, .unset, .unset, .unset]) rfl ?_
    show Steps p.tables e below (s₁.setTop (mkF m 17 #[.val (.ref ar), .val (.int (2 : Int32)), .val (.int (1 : Int32)), .val (.double d1), .second, .val (.double 0), .second, .unset, .unset, .unset, .unset] [])) _
    refine XS.iloadN X0.here hx rfl (hb hby d0_17) rfl ?_
    show Steps p.tables e below (s₁.setTop (mkF m 18 #[.val (.ref ar), .val (.int (2 : Int32)), .val (.int (1 : Int32)), .val (.double d1), .second, .val (.double 0), .second, .unset, .unset, .unset, .unset] [(.int (1 : Int32))])) _
    refine XS.ifNo X0.here hx rfl (hb hby d0_18) rfl ((if0 _ _).trans (tlt (by decide : (0 : Int32) < (1 : Int32))).2.2.2) ?_
    show Steps p.tables e below (s₁.setTop (mkF m 21 #[.val (.ref ar), .val (.int (2 : Int32)), .val (.int (1 : Int32)), .val (.double d1), .second, .val (.double 0), .second, .unset, .unset, .unset, .unset] [])) _
    refine XS.iinc X0.here hx rfl (hb hby d0_21) rfl (l' := #[.val (.ref ar), .val (.int (2 : Int32)), .val (.int ((1 : Int32) + (-1 : Int32))), .val (.double d1), .second, .val (.double 0), .second, .unset, .unset, .unset, .unset]) rfl ?_
    show Steps p.tables e below (s₁.setTop (mkF m 24 #[.val (.ref ar), .val (.int (2 : Int32)), .val (.int ((1 : Int32) + (-1 : Int32))), .val (.double d1), .second, .val (.double 0), .second, .unset, .unset, .unset, .unset] [])) _
    rw [show ((1 : Int32) + (-1 : Int32)) = (0 : Int32) from by decide]
    show Steps p.tables e below (s₁.setTop (mkF m 24 #[.val (.ref ar), .val (.int (2 : Int32)), .val (.int (0 : Int32)), .val (.double d1), .second, .val (.double 0), .second, .unset, .unset, .unset, .unset] [])) _
    refine XS.dloadN X0.here hx rfl (hb hby d0_24) rfl ?_
    show Steps p.tables e below (s₁.setTop (mkF m 25 #[.val (.ref ar), .val (.int (2 : Int32)), .val (.int (0 : Int32)), .val (.double d1), .second, .val (.double 0), .second, .unset, .unset, .unset, .unset] [(.double d1)])) _
    refine XS.dstore X0.here hx rfl (hb hby d0_25) rfl (l' := #[.val (.ref ar), .val (.int (2 : Int32)), .val (.int (0 : Int32)), .val (.double d1), .second, .val (.double 0), .second, .val (.double d1), .second, .unset, .unset]) rfl ?_
    show Steps p.tables e below (s₁.setTop (mkF m 27 #[.val (.ref ar), .val (.int (2 : Int32)), .val (.int (0 : Int32)), .val (.double d1), .second, .val (.double 0), .second, .val (.double d1), .second, .unset, .unset] [])) _
    refine XS.dload X0.here hx rfl (hb hby d0_27) rfl ?_
    show Steps p.tables e below (s₁.setTop (mkF m 29 #[.val (.ref ar), .val (.int (2 : Int32)), .val (.int (0 : Int32)), .val (.double d1), .second, .val (.double 0), .second, .val (.double d1), .second, .unset, .unset] [(.double d1)])) _
    refine XS.aloadN X0.here hx rfl (hb hby d0_29) rfl rfl ?_
    show Steps p.tables e below (s₁.setTop (mkF m 30 #[.val (.ref ar), .val (.int (2 : Int32)), .val (.int (0 : Int32)), .val (.double d1), .second, .val (.double 0), .second, .val (.double d1), .second, .unset, .unset] [(.ref ar), (.double d1)])) _
    refine XS.iloadN X0.here hx rfl (hb hby d0_30) rfl ?_
    show Steps p.tables e below (s₁.setTop (mkF m 31 #[.val (.ref ar), .val (.int (2 : Int32)), .val (.int (0 : Int32)), .val (.double d1), .second, .val (.double 0), .second, .val (.double d1), .second, .unset, .unset] [(.int (0 : Int32)), (.ref ar), (.double d1)])) _
    refine X0.daload hx (j := (0 : Int32)) (v := (.double d0)) (by rw [e0]; exact Ar2.1) (State.isArrayOf_alike hZ.alike Ar2.2.1) Ar2.2.2 hin2 hat2 (g := (mkF m 31 #[.val (.ref ar), .val (.int (2 : Int32)), .val (.int (0 : Int32)), .val (.double d1), .second, .val (.double 0), .second, .val (.double d1), .second, .unset, .unset] [(.int (0 : Int32)), (.ref ar), (.double d1)])) rfl rfl (hb hby d0_31) _ ?_
    show Steps p.tables e below (s₁.setTop (mkF m 32 #[.val (.ref ar), .val (.int (2 : Int32)), .val (.int (0 : Int32)), .val (.double d1), .second, .val (.double 0), .second, .val (.double d1), .second, .unset, .unset] [(.double d0), (.double d1)])) _
    refine XS.daddS X0.here hx rfl (hb hby d0_32) rfl nn32 rfl ?_
    show Steps p.tables e below (s₁.setTop (mkF m 33 #[.val (.ref ar), .val (.int (2 : Int32)), .val (.int (0 : Int32)), .val (.double d1), .second, .val (.double 0), .second, .val (.double d1), .second, .unset, .unset] [(.double (FP.dadd d1 d0))])) _
    rw [e1]
    show Steps p.tables e below (s₁.setTop (mkF m 33 #[.val (.ref ar), .val (.int (2 : Int32)), .val (.int (0 : Int32)), .val (.double d1), .second, .val (.double 0), .second, .val (.double d1), .second, .unset, .unset] [(.double h1)])) _
    refine XS.dstoreN X0.here hx rfl (hb hby d0_33) rfl (l' := #[.val (.ref ar), .val (.int (2 : Int32)), .val (.int (0 : Int32)), .val (.double h1), .second, .val (.double 0), .second, .val (.double d1), .second, .unset, .unset]) rfl ?_
    show Steps p.tables e below (s₁.setTop (mkF m 34 #[.val (.ref ar), .val (.int (2 : Int32)), .val (.int (0 : Int32)), .val (.double h1), .second, .val (.double 0), .second, .val (.double d1), .second, .unset, .unset] [])) _
    refine XS.aloadN X0.here hx rfl (hb hby d0_34) rfl rfl ?_
    show Steps p.tables e below (s₁.setTop (mkF m 35 #[.val (.ref ar), .val (.int (2 : Int32)), .val (.int (0 : Int32)), .val (.double h1), .second, .val (.double 0), .second, .val (.double d1), .second, .unset, .unset] [(.ref ar)])) _
    refine XS.iloadN X0.here hx rfl (hb hby d0_35) rfl ?_
    show Steps p.tables e below (s₁.setTop (mkF m 36 #[.val (.ref ar), .val (.int (2 : Int32)), .val (.int (0 : Int32)), .val (.double h1), .second, .val (.double 0), .second, .val (.double d1), .second, .unset, .unset] [(.int (0 : Int32)), (.ref ar)])) _
    refine X0.daload hx (j := (0 : Int32)) (v := (.double d0)) (by rw [e0]; exact Ar3.1) (State.isArrayOf_alike hZ.alike Ar3.2.1) Ar3.2.2 hin3 hat3 (g := (mkF m 36 #[.val (.ref ar), .val (.int (2 : Int32)), .val (.int (0 : Int32)), .val (.double h1), .second, .val (.double 0), .second, .val (.double d1), .second, .unset, .unset] [(.int (0 : Int32)), (.ref ar)])) rfl rfl (hb hby d0_36) _ ?_
    show Steps p.tables e below (s₁.setTop (mkF m 37 #[.val (.ref ar), .val (.int (2 : Int32)), .val (.int (0 : Int32)), .val (.double h1), .second, .val (.double 0), .second, .val (.double d1), .second, .unset, .unset] [(.double d0)])) _
    refine XS.dloadN X0.here hx rfl (hb hby d0_37) rfl ?_
    show Steps p.tables e below (s₁.setTop (mkF m 38 #[.val (.ref ar), .val (.int (2 : Int32)), .val (.int (0 : Int32)), .val (.double h1), .second, .val (.double 0), .second, .val (.double d1), .second, .unset, .unset] [(.double h1), (.double d0)])) _
    refine XS.dload X0.here hx rfl (hb hby d0_38) rfl ?_
    show Steps p.tables e below (s₁.setTop (mkF m 40 #[.val (.ref ar), .val (.int (2 : Int32)), .val (.int (0 : Int32)), .val (.double h1), .second, .val (.double 0), .second, .val (.double d1), .second, .unset, .unset] [(.double d1), (.double h1), (.double d0)])) _
    refine XS.dsubS X0.here hx rfl (hb hby d0_40) rfl nn40 rfl ?_
    show Steps p.tables e below (s₁.setTop (mkF m 41 #[.val (.ref ar), .val (.int (2 : Int32)), .val (.int (0 : Int32)), .val (.double h1), .second, .val (.double 0), .second, .val (.double d1), .second, .unset, .unset] [(.double (FP.dsub h1 d1)), (.double d0)])) _
    rw [e2]
    show Steps p.tables e below (s₁.setTop (mkF m 41 #[.val (.ref ar), .val (.int (2 : Int32)), .val (.int (0 : Int32)), .val (.double h1), .second, .val (.double 0), .second, .val (.double d1), .second, .unset, .unset] [(.double g1), (.double d0)])) _
    refine XS.dsubS X0.here hx rfl (hb hby d0_41) rfl nn41 rfl ?_
    show Steps p.tables e below (s₁.setTop (mkF m 42 #[.val (.ref ar), .val (.int (2 : Int32)), .val (.int (0 : Int32)), .val (.double h1), .second, .val (.double 0), .second, .val (.double d1), .second, .unset, .unset] [(.double (FP.dsub d0 g1))])) _
    rw [e3]
    show Steps p.tables e below (s₁.setTop (mkF m 42 #[.val (.ref ar), .val (.int (2 : Int32)), .val (.int (0 : Int32)), .val (.double h1), .second, .val (.double 0), .second, .val (.double d1), .second, .unset, .unset] [(.double l1)])) _
    refine XS.dstore X0.here hx rfl (hb hby d0_42) rfl (l' := #[.val (.ref ar), .val (.int (2 : Int32)), .val (.int (0 : Int32)), .val (.double h1), .second, .val (.double l1), .second, .val (.double d1), .second, .unset, .unset]) rfl ?_
    show Steps p.tables e below (s₁.setTop (mkF m 44 #[.val (.ref ar), .val (.int (2 : Int32)), .val (.int (0 : Int32)), .val (.double h1), .second, .val (.double l1), .second, .val (.double d1), .second, .unset, .unset] [])) _
    refine XS.dload X0.here hx rfl (hb hby d0_44) rfl ?_
    show Steps p.tables e below (s₁.setTop (mkF m 46 #[.val (.ref ar), .val (.int (2 : Int32)), .val (.int (0 : Int32)), .val (.double h1), .second, .val (.double l1), .second, .val (.double d1), .second, .unset, .unset] [(.double l1)])) _
    refine XS.dconst0 X0.here hx rfl (hb hby d0_46) (v := 0) rfl ?_
    show Steps p.tables e below (s₁.setTop (mkF m 47 #[.val (.ref ar), .val (.int (2 : Int32)), .val (.int (0 : Int32)), .val (.double h1), .second, .val (.double l1), .second, .val (.double d1), .second, .unset, .unset] [(.double 0), (.double l1)])) _
    refine XS.dcmpS X0.here hx rfl (hb hby d0_47) rfl rfl ?_
    show Steps p.tables e below (s₁.setTop (mkF m 48 #[.val (.ref ar), .val (.int (2 : Int32)), .val (.int (0 : Int32)), .val (.double h1), .second, .val (.double l1), .second, .val (.double d1), .second, .unset, .unset] [(.int (cmpValue (FP.dcmp l1 0) .l))])) _
    refine XS.ifNo X0.here hx rfl (hb hby d0_48) rfl ((if0 _ _).trans (feq hc48).1) ?_
    show Steps p.tables e below (s₁.setTop (mkF m 51 #[.val (.ref ar), .val (.int (2 : Int32)), .val (.int (0 : Int32)), .val (.double h1), .second, .val (.double l1), .second, .val (.double d1), .second, .unset, .unset] [])) _
    refine XS.goto X0.here hx rfl (pc0 := 51) (pc' := 57) rfl (hb hby d0_51) (by decide) (by decide) ?_
    show Steps p.tables e below (s₁.setTop (mkF m 57 #[.val (.ref ar), .val (.int (2 : Int32)), .val (.int (0 : Int32)), .val (.double h1), .second, .val (.double l1), .second, .val (.double d1), .second, .unset, .unset] [])) _
    refine XS.iloadN X0.here hx rfl (hb hby d0_57) rfl ?_
    show Steps p.tables e below (s₁.setTop (mkF m 58 #[.val (.ref ar), .val (.int (2 : Int32)), .val (.int (0 : Int32)), .val (.double h1), .second, .val (.double l1), .second, .val (.double d1), .second, .unset, .unset] [(.int (0 : Int32))])) _
    refine XS.ifYes X0.here hx rfl (pc0 := 58) (pc' := 118) rfl (hb hby d0_58) rfl ((if0 _ _).trans (flt (by decide : ¬ ((0 : Int32) < (0 : Int32)))).2.2.2) (by decide) (by decide) ?_
    show Steps p.tables e below (s₁.setTop (mkF m 118 #[.val (.ref ar), .val (.int (2 : Int32)), .val (.int (0 : Int32)), .val (.double h1), .second, .val (.double l1), .second, .val (.double d1), .second, .unset, .unset] [])) _
    refine XS.dloadN X0.here hx rfl (hb hby d0_118) rfl ?_
    show Steps p.tables e below (s₁.setTop (mkF m 119 #[.val (.ref ar), .val (.int (2 : Int32)), .val (.int (0 : Int32)), .val (.double h1), .second, .val (.double l1), .second, .val (.double d1), .second, .unset, .unset] [(.double h1)])) _
    exact retOut X0 hx Bd.returns rfl (Or.inr (Or.inr (Or.inl ⟨rfl, rfl, _, rfl⟩))) (hb hby d0_119) hr
  · show Q_rd2f Z ar ka d0 d1 d2 d3 h1 g1 l1 h0 n0 _ s₁.heap _
    rw [e0]
    exact ⟨rfl, N0, rfl⟩
def Q_rd3tt (Z : State) (ar : Addr) (ka : ClassId) (d0 : UInt64) (d1 : UInt64) (d2 : UInt64) (d3 : UInt64) (h1 : UInt64) (g1 : UInt64) (l1 : UInt64) (h2 : UInt64) (g2 : UInt64) (l2 : UInt64) (h0 : Heap) (n0 : Nat) (v : Option Value) (h : Heap) (L : List Loc) : Prop := v = some (.double h2) ∧ Fr n0 L ∧ h = h0
theorem ef_rd3tt (m : MethodId) (ar : Addr) : entryFrame m #[(.ref ar), (.int (3 : Int32))] 11 = mkF m 0 #[.val (.ref ar), .val (.int (3 : Int32)), .unset, .unset, .unset, .unset, .unset, .unset, .unset, .unset, .unset] [] := by first | (simp [entryFrame, mkF, argsToLocals, Value.category]; done) | rfl
set_option maxRecDepth 65536 in
set_option maxHeartbeats 40000000 in
theorem rd3tt (l : Launch) (Z : State) (a0 : Array Value) (hw : ∀ d ∈ tables_1, d.before a0 Z = true) (ws : List Jvm.Cond) (ar : Addr) (ka : ClassId) (d0 : UInt64) (d1 : UInt64) (d2 : UInt64) (d3 : UInt64) (h1 : UInt64) (g1 : UInt64) (l1 : UInt64) (h2 : UInt64) (g2 : UInt64) (l2 : UInt64) (h0 : Heap) (n0 : Nat) (Z0 : n0 ≤ h0.size) (V_ar : Arv Z h0 ar ka .double (4 : Int32) [(.double d0), (.double d1), (.double d2), (.double d3)] (.double 0)) (e1 : FP.dadd d2 d1 = h1) (e2 : FP.dsub h1 d2 = g1) (e3 : FP.dsub d1 g1 = l1) (e4 : FP.dadd h1 d0 = h2) (e5 : FP.dsub h2 h1 = g2) (e6 : FP.dsub d0 g2 = l2) (nn32 : NoNaN64 (FP.dadd d2 d1)) (nn40 : NoNaN64 (FP.dsub h1 d2)) (nn41 : NoNaN64 (FP.dsub d1 g1)) (hc48 : (cmpValue (FP.dcmp l1 0) .l) = (0 : Int32)) (nn32_2 : NoNaN64 (FP.dadd h1 d0)) (nn40_2 : NoNaN64 (FP.dsub h2 h1)) (nn41_2 : NoNaN64 (FP.dsub d0 g2)) (hc48_2 : (cmpValue (FP.dcmp l2 0) .l) = (0 : Int32)) :
    MetFree l (⟨"com/example/crestwatch/crestwatch/core/ExactSum", "rounded", "([DI)D"⟩ : MethodName) (head1 (Jvm.Cond.code (⟨"com/example/crestwatch/crestwatch/core/ExactSum", "rounded", "([DI)D"⟩ : MethodName) prog_28_method_5_code 11 (some .double) :: ws) ({ frames := 0, cells := 0, slots := 0, locals := 0 } : Room)) (fun a U => a = #[(.ref ar), (.int (3 : Int32))] ∧ Z.Warmed39 U.vm ∧ U.heap = h0) (fun _ _ _ _ _ => True) (fun _ U o U' => ∃ v L, o = .returned v ∧ Q_rd3tt Z ar ka d0 d1 d2 d3 h1 g1 l1 h2 g2 l2 h0 n0 v U'.heap L ∧ FrameEnd U o U' L ({ frames := 0, cells := 0, slots := 0, locals := 0 } : Room).cells ({ frames := 0, cells := 0, slots := 0, locals := 0 } : Room).slots) := by
  refine MetFree.of_bodySF (plainFor_of_name pn_0) hisR ?_
  intro p e s m args below meth c s₁ Bd hml0 hP hK
  obtain ⟨rfl, hZ, hh⟩ := hP
  have hx := Bd.exec
  have hby := Bd.bytes
  have hml : c.maxLocals = 11 := hml0
  have hown : s.vm.findClass "com/example/crestwatch/crestwatch/core/ExactSum" = some m.cls := findClass_of_methodNamed Bd.named
  have hnm := (name_of_methodNamed Bd.named Bd.method).1
  have X0 : Stand p l e ({ frames := 0, cells := 0, slots := 0, locals := 0 } : Room) s m #[(.ref ar), (.int (3 : Int32))] below meth c s₁ [] 0 0 := Stand.of_body Bd
  have e0 : s₁.heap = h0 := by rw [← hh, Bd.state]; rfl
  have N0 := Fr.nil n0
  have pre0 : ∀ t, Steps p.tables e below (s₁.setTop (mkF m 0 #[.val (.ref ar), .val (.int (3 : Int32)), .unset, .unset, .unset, .unset, .unset, .unset, .unset, .unset, .unset] [])) t → Steps p.tables e below (s₁.setTop (entryFrame m #[(.ref ar), (.int (3 : Int32))] 11)) t := fun t k => castTop (ef_rd3tt m ar) k
  have Vc1 := V_ar
  obtain ⟨cl1, Ar1, q1, S1, M1, H1, G1⟩ := Vc1
  have hin1 : ¬ ((2 : Int32) < 0 ∨ cl1.slots.size ≤ ((2 : Int32)).toNatClampNeg) := inb_of S1 ⟨by decide, by decide⟩
  have hat1 : cl1.slots[((2 : Int32)).toNatClampNeg]? = some (.double d2) := Has.at H1 hin1 rfl
  have Vc2 := V_ar
  obtain ⟨cl2, Ar2, q2, S2, M2, H2, G2⟩ := Vc2
  have hin2 : ¬ ((1 : Int32) < 0 ∨ cl2.slots.size ≤ ((1 : Int32)).toNatClampNeg) := inb_of S2 ⟨by decide, by decide⟩
  have hat2 : cl2.slots[((1 : Int32)).toNatClampNeg]? = some (.double d1) := Has.at H2 hin2 rfl
  have Vc3 := V_ar
  obtain ⟨cl3, Ar3, q3, S3, M3, H3, G3⟩ := Vc3
  have hin3 : ¬ ((1 : Int32) < 0 ∨ cl3.slots.size ≤ ((1 : Int32)).toNatClampNeg) := inb_of S3 ⟨by decide, by decide⟩
  have hat3 : cl3.slots[((1 : Int32)).toNatClampNeg]? = some (.double d1) := Has.at H3 hin3 rfl
  have Vc4 := V_ar
  obtain ⟨cl4, Ar4, q4, S4, M4, H4, G4⟩ := Vc4
  have hin4 : ¬ ((0 : Int32) < 0 ∨ cl4.slots.size ≤ ((0 : Int32)).toNatClampNeg) := inb_of S4 ⟨by decide, by decide⟩
  have hat4 : cl4.slots[((0 : Int32)).toNatClampNeg]? = some (.double d0) := Has.at H4 hin4 rfl
  have Vc5 := V_ar
  obtain ⟨cl5, Ar5, q5, S5, M5, H5, G5⟩ := Vc5
  have hin5 : ¬ ((0 : Int32) < 0 ∨ cl5.slots.size ≤ ((0 : Int32)).toNatClampNeg) := inb_of S5 ⟨by decide, by decide⟩
  have hat5 : cl5.slots[((0 : Int32)).toNatClampNeg]? = some (.double d0) := Has.at H5 hin5 rfl
  obtain ⟨fs, hr, hrun, hended, hW, hsame⟩ := X0.leave (v := some (.double h2)) (fun h => by rw [Bd.returns] at h; cases h)
  refine ⟨_, _, pre0 _ ?_, hrun, hended, _, _, rfl, ?_, ⟨_, rfl⟩, hW, hsame.mono (by decide) (by decide)⟩
  · show Steps p.tables e below (s₁.setTop (mkF m 0 #[.val (.ref ar), .val (.int (3 : Int32)), .unset, .unset, .unset, .unset, .unset, .unset, .unset, .unset, .unset] [])) _
    refine XS.iloadN X0.here hx rfl (hb hby d0_0) rfl ?_
    show Steps p.tables e below (s₁.setTop (mkF m 1 #[.val (.ref ar), .val (.int (3 : Int32)), .unset, .unset, .unset, .unset, .unset, .unset, .unset, .unset, .unset] [(.int (3 : Int32))])) _
    refine XS.ifYes X0.here hx rfl (pc0 := 1) (pc' := 6) rfl (hb hby d0_1) rfl ((if0 _ _).trans (feq (by decide : ¬ ((3 : Int32) = (0 : Int32)))).2) (by decide) (by decide) ?_
    show Steps p.tables e below (s₁.setTop (mkF m 6 #[.val (.ref ar), .val (.int (3 : Int32)), .unset, .unset, .unset, .unset, .unset, .unset, .unset, .unset, .unset] [])) _
    refine XS.iloadN X0.here hx rfl (hb hby d0_6) rfl ?_
    show Steps p.tables e below (s₁.setTop (mkF m 7 #[.val (.ref ar), .val (.int (3 : Int32)), .unset, .unset, .unset, .unset, .unset, .unset, .unset, .unset, .unset] [(.int (3 : Int32))])) _
    refine XS.iconst X0.here hx rfl (hb hby d0_7) ?_
    show Steps p.tables e below (s₁.setTop (mkF m 8 #[.val (.ref ar), .val (.int (3 : Int32)), .unset, .unset, .unset, .unset, .unset, .unset, .unset, .unset, .unset] [(.int (1 : Int32)), (.int (3 : Int32))])) _
    refine XS.isub X0.here hx rfl (hb hby d0_8) rfl ?_
    show Steps p.tables e below (s₁.setTop (mkF m 9 #[.val (.ref ar), .val (.int (3 : Int32)), .unset, .unset, .unset, .unset, .unset, .unset, .unset, .unset, .unset] [(.int ((3 : Int32) - (1 : Int32)))])) _
    rw [show ((3 : Int32) - (1 : Int32)) = (2 : Int32) from by decide]
    show Steps p.tables e below (s₁.setTop (mkF m 9 #[.val (.ref ar), .val (.int (3 : Int32)), .unset, .unset, .unset, .unset, .unset, .unset, .unset, .unset, .unset] [(.int (2 : Int32))])) _
    refine XS.istoreN X0.here hx rfl (hb hby d0_9) rfl (l' := #[.val (.ref ar), .val (.int (3 : Int32)), .val (.int (2 : Int32)), .unset, .unset, .unset, .unset, .unset, .unset, .unset, .unset]) rfl ?_
    show Steps p.tables e below (s₁.setTop (mkF m 10 #[.val (.ref ar), .val (.int (3 : Int32)), .val (.int (2 : Int32)), .unset, .unset, .unset, .unset, .unset, .unset, .unset, .unset] [])) _
    refine XS.aloadN X0.here hx rfl (hb hby d0_10) rfl rfl ?_
    show Steps p.tables e below (s₁.setTop (mkF m 11 #[.val (.ref ar), .val (.int (3 : Int32)), .val (.int (2 : Int32)), .unset, .unset, .unset, .unset, .unset, .unset, .unset, .unset] [(.ref ar)])) _
    refine XS.iloadN X0.here hx rfl (hb hby d0_11) rfl ?_
    show Steps p.tables e below (s₁.setTop (mkF m 12 #[.val (.ref ar), .val (.int (3 : Int32)), .val (.int (2 : Int32)), .unset, .unset, .unset, .unset, .unset, .unset, .unset, .unset] [(.int (2 : Int32)), (.ref ar)])) _
    refine X0.daload hx (j := (2 : Int32)) (v := (.double d2)) (by rw [e0]; exact Ar1.1) (State.isArrayOf_alike hZ.alike Ar1.2.1) Ar1.2.2 hin1 hat1 (g := (mkF m 12 #[.val (.ref ar), .val (.int (3 : Int32)), .val (.int (2 : Int32)), .unset, .unset, .unset, .unset, .unset, .unset, .unset, .unset] [(.int (2 : Int32)), (.ref ar)])) rfl rfl (hb hby d0_12) _ ?_
    show Steps p.tables e below (s₁.setTop (mkF m 13 #[.val (.ref ar), .val (.int (3 : Int32)), .val (.int (2 : Int32)), .unset, .unset, .unset, .unset, .unset, .unset, .unset, .unset] [(.double d2)])) _
    refine XS.dstoreN X0.here hx rfl (hb hby d0_13) rfl (l' := #[.val (.ref ar), .val (.int (3 : Int32)), .val (.int (2 : Int32)), .val (.double d2), .second, .unset, .unset, .unset, .unset, .unset, .unset]) rfl ?_
    show Steps p.tables e below (s₁.setTop (mkF m 14 #[.val (.ref ar), .val (.int (3 : Int32)), .val (.int (2 : Int32)), .val (.double d2), .second, .unset, .unset, .unset, .unset, .unset, .unset] [])) _
    refine XS.dconst0 X0.here hx rfl (hb hby d0_14) (v := 0) rfl ?_
    show Steps p.tables e below (s₁.setTop (mkF m 15 #[.val (.ref ar), .val (.int (3 : Int32)), .val (.int (2 : Int32)), .val (.double d2), .second, .unset, .unset, .unset, .unset, .unset, .unset] [(.double 0)])) _
    refine XS.dstore X0.here hx rfl (hb hby d0_15) rfl (l' := #[.val (.ref ar), .val (.int (3 : Int32)), .val (.int (2 : Int32)), .val (.double d2), .second, .val (.double 0), .second, .unset, .unset, .unset, .unset]) rfl ?_
    show Steps p.tables e below (s₁.setTop (mkF m 17 #[.val (.ref ar), .val (.int (3 : Int32)), .val (.int (2 : Int32)), .val (.double d2), .second, .val (.double 0), .second, .unset, .unset, .unset, .unset] [])) _
    refine XS.iloadN X0.here hx rfl (hb hby d0_17) rfl ?_
    show Steps p.tables e below (s₁.setTop (mkF m 18 #[.val (.ref ar), .val (.int (3 : Int32)), .val (.int (2 : Int32)), .val (.double d2), .second, .val (.double 0), .second, .unset, .unset, .unset, .unset] [(.int (2 : Int32))])) _
    refine XS.ifNo X0.here hx rfl (hb hby d0_18) rfl ((if0 _ _).trans (tlt (by decide : (0 : Int32) < (2 : Int32))).2.2.2) ?_
    show Steps p.tables e below (s₁.setTop (mkF m 21 #[.val (.ref ar), .val (.int (3 : Int32)), .val (.int (2 : Int32)), .val (.double d2), .second, .val (.double 0), .second, .unset, .unset, .unset, .unset] [])) _
    refine XS.iinc X0.here hx rfl (hb hby d0_21) rfl (l' := #[.val (.ref ar), .val (.int (3 : Int32)), .val (.int ((2 : Int32) + (-1 : Int32))), .val (.double d2), .second, .val (.double 0), .second, .unset, .unset, .unset, .unset]) rfl ?_
    show Steps p.tables e below (s₁.setTop (mkF m 24 #[.val (.ref ar), .val (.int (3 : Int32)), .val (.int ((2 : Int32) + (-1 : Int32))), .val (.double d2), .second, .val (.double 0), .second, .unset, .unset, .unset, .unset] [])) _
    rw [show ((2 : Int32) + (-1 : Int32)) = (1 : Int32) from by decide]
    show Steps p.tables e below (s₁.setTop (mkF m 24 #[.val (.ref ar), .val (.int (3 : Int32)), .val (.int (1 : Int32)), .val (.double d2), .second, .val (.double 0), .second, .unset, .unset, .unset, .unset] [])) _
    refine XS.dloadN X0.here hx rfl (hb hby d0_24) rfl ?_
    show Steps p.tables e below (s₁.setTop (mkF m 25 #[.val (.ref ar), .val (.int (3 : Int32)), .val (.int (1 : Int32)), .val (.double d2), .second, .val (.double 0), .second, .unset, .unset, .unset, .unset] [(.double d2)])) _
    refine XS.dstore X0.here hx rfl (hb hby d0_25) rfl (l' := #[.val (.ref ar), .val (.int (3 : Int32)), .val (.int (1 : Int32)), .val (.double d2), .second, .val (.double 0), .second, .val (.double d2), .second, .unset, .unset]) rfl ?_
    show Steps p.tables e below (s₁.setTop (mkF m 27 #[.val (.ref ar), .val (.int (3 : Int32)), .val (.int (1 : Int32)), .val (.double d2), .second, .val (.double 0), .second, .val (.double d2), .second, .unset, .unset] [])) _
    refine XS.dload X0.here hx rfl (hb hby d0_27) rfl ?_
    show Steps p.tables e below (s₁.setTop (mkF m 29 #[.val (.ref ar), .val (.int (3 : Int32)), .val (.int (1 : Int32)), .val (.double d2), .second, .val (.double 0), .second, .val (.double d2), .second, .unset, .unset] [(.double d2)])) _
    refine XS.aloadN X0.here hx rfl (hb hby d0_29) rfl rfl ?_
    show Steps p.tables e below (s₁.setTop (mkF m 30 #[.val (.ref ar), .val (.int (3 : Int32)), .val (.int (1 : Int32)), .val (.double d2), .second, .val (.double 0), .second, .val (.double d2), .second, .unset, .unset] [(.ref ar), (.double d2)])) _
    refine XS.iloadN X0.here hx rfl (hb hby d0_30) rfl ?_
    show Steps p.tables e below (s₁.setTop (mkF m 31 #[.val (.ref ar), .val (.int (3 : Int32)), .val (.int (1 : Int32)), .val (.double d2), .second, .val (.double 0), .second, .val (.double d2), .second, .unset, .unset] [(.int (1 : Int32)), (.ref ar), (.double d2)])) _
    refine X0.daload hx (j := (1 : Int32)) (v := (.double d1)) (by rw [e0]; exact Ar2.1) (State.isArrayOf_alike hZ.alike Ar2.2.1) Ar2.2.2 hin2 hat2 (g := (mkF m 31 #[.val (.ref ar), .val (.int (3 : Int32)), .val (.int (1 : Int32)), .val (.double d2), .second, .val (.double 0), .second, .val (.double d2), .second, .unset, .unset] [(.int (1 : Int32)), (.ref ar), (.double d2)])) rfl rfl (hb hby d0_31) _ ?_
    show Steps p.tables e below (s₁.setTop (mkF m 32 #[.val (.ref ar), .val (.int (3 : Int32)), .val (.int (1 : Int32)), .val (.double d2), .second, .val (.double 0), .second, .val (.double d2), .second, .unset, .unset] [(.double d1), (.double d2)])) _
    refine XS.daddS X0.here hx rfl (hb hby d0_32) rfl nn32 rfl ?_
    show Steps p.tables e below (s₁.setTop (mkF m 33 #[.val (.ref ar), .val (.int (3 : Int32)), .val (.int (1 : Int32)), .val (.double d2), .second, .val (.double 0), .second, .val (.double d2), .second, .unset, .unset] [(.double (FP.dadd d2 d1))])) _
    rw [e1]
    show Steps p.tables e below (s₁.setTop (mkF m 33 #[.val (.ref ar), .val (.int (3 : Int32)), .val (.int (1 : Int32)), .val (.double d2), .second, .val (.double 0), .second, .val (.double d2), .second, .unset, .unset] [(.double h1)])) _
    refine XS.dstoreN X0.here hx rfl (hb hby d0_33) rfl (l' := #[.val (.ref ar), .val (.int (3 : Int32)), .val (.int (1 : Int32)), .val (.double h1), .second, .val (.double 0), .second, .val (.double d2), .second, .unset, .unset]) rfl ?_
    show Steps p.tables e below (s₁.setTop (mkF m 34 #[.val (.ref ar), .val (.int (3 : Int32)), .val (.int (1 : Int32)), .val (.double h1), .second, .val (.double 0), .second, .val (.double d2), .second, .unset, .unset] [])) _
    refine XS.aloadN X0.here hx rfl (hb hby d0_34) rfl rfl ?_
    show Steps p.tables e below (s₁.setTop (mkF m 35 #[.val (.ref ar), .val (.int (3 : Int32)), .val (.int (1 : Int32)), .val (.double h1), .second, .val (.double 0), .second, .val (.double d2), .second, .unset, .unset] [(.ref ar)])) _
    refine XS.iloadN X0.here hx rfl (hb hby d0_35) rfl ?_
    show Steps p.tables e below (s₁.setTop (mkF m 36 #[.val (.ref ar), .val (.int (3 : Int32)), .val (.int (1 : Int32)), .val (.double h1), .second, .val (.double 0), .second, .val (.double d2), .second, .unset, .unset] [(.int (1 : Int32)), (.ref ar)])) _
    refine X0.daload hx (j := (1 : Int32)) (v := (.double d1)) (by rw [e0]; exact Ar3.1) (State.isArrayOf_alike hZ.alike Ar3.2.1) Ar3.2.2 hin3 hat3 (g := (mkF m 36 #[.val (.ref ar), .val (.int (3 : Int32)), .val (.int (1 : Int32)), .val (.double h1), .second, .val (.double 0), .second, .val (.double d2), .second, .unset, .unset] [(.int (1 : Int32)), (.ref ar)])) rfl rfl (hb hby d0_36) _ ?_
    show Steps p.tables e below (s₁.setTop (mkF m 37 #[.val (.ref ar), .val (.int (3 : Int32)), .val (.int (1 : Int32)), .val (.double h1), .second, .val (.double 0), .second, .val (.double d2), .second, .unset, .unset] [(.double d1)])) _
    refine XS.dloadN X0.here hx rfl (hb hby d0_37) rfl ?_
    show Steps p.tables e below (s₁.setTop (mkF m 38 #[.val (.ref ar), .val (.int (3 : Int32)), .val (.int (1 : Int32)), .val (.double h1), .second, .val (.double 0), .second, .val (.double d2), .second, .unset, .unset] [(.double h1), (.double d1)])) _
    refine XS.dload X0.here hx rfl (hb hby d0_38) rfl ?_
    show Steps p.tables e below (s₁.setTop (mkF m 40 #[.val (.ref ar), .val (.int (3 : Int32)), .val (.int (1 : Int32)), .val (.double h1), .second, .val (.double 0), .second, .val (.double d2), .second, .unset, .unset] [(.double d2), (.double h1), (.double d1)])) _
    refine XS.dsubS X0.here hx rfl (hb hby d0_40) rfl nn40 rfl ?_
    show Steps p.tables e below (s₁.setTop (mkF m 41 #[.val (.ref ar), .val (.int (3 : Int32)), .val (.int (1 : Int32)), .val (.double h1), .second, .val (.double 0), .second, .val (.double d2), .second, .unset, .unset] [(.double (FP.dsub h1 d2)), (.double d1)])) _
    rw [e2]
    show Steps p.tables e below (s₁.setTop (mkF m 41 #[.val (.ref ar), .val (.int (3 : Int32)), .val (.int (1 : Int32)), .val (.double h1), .second, .val (.double 0), .second, .val (.double d2), .second, .unset, .unset] [(.double g1), (.double d1)])) _
    refine XS.dsubS X0.here hx rfl (hb hby d0_41) rfl nn41 rfl ?_
    show Steps p.tables e below (s₁.setTop (mkF m 42 #[.val (.ref ar), .val (.int (3 : Int32)), .val (.int (1 : Int32)), .val (.double h1), .second, .val (.double 0), .second, .val (.double d2), .second, .unset, .unset] [(.double (FP.dsub d1 g1))])) _
    rw [e3]
    show Steps p.tables e below (s₁.setTop (mkF m 42 #[.val (.ref ar), .val (.int (3 : Int32)), .val (.int (1 : Int32)), .val (.double h1), .second, .val (.double 0), .second, .val (.double d2), .second, .unset, .unset] [(.double l1)])) _
    refine XS.dstore X0.here hx rfl (hb hby d0_42) rfl (l' := #[.val (.ref ar), .val (.int (3 : Int32)), .val (.int (1 : Int32)), .val (.double h1), .second, .val (.double l1), .second, .val (.double d2), .second, .unset, .unset]) rfl ?_
    show Steps p.tables e below (s₁.setTop (mkF m 44 #[.val (.ref ar), .val (.int (3 : Int32)), .val (.int (1 : Int32)), .val (.double h1), .second, .val (.double l1), .second, .val (.double d2), .second, .unset, .unset] [])) _
    refine XS.dload X0.here hx rfl (hb hby d0_44) rfl ?_
    show Steps p.tables e below (s₁.setTop (mkF m 46 #[.val (.ref ar), .val (.int (3 : Int32)), .val (.int (1 : Int32)), .val (.double h1), .second, .val (.double l1), .second, .val (.double d2), .second, .unset, .unset] [(.double l1)])) _
    refine XS.dconst0 X0.here hx rfl (hb hby d0_46) (v := 0) rfl ?_
    show Steps p.tables e below (s₁.setTop (mkF m 47 #[.val (.ref ar), .val (.int (3 : Int32)), .val (.int (1 : Int32)), .val (.double h1), .second, .val (.double l1), .second, .val (.double d2), .second, .unset, .unset] [(.double 0), (.double l1)])) _
    refine XS.dcmpS X0.here hx rfl (hb hby d0_47) rfl rfl ?_
    show Steps p.tables e below (s₁.setTop (mkF m 48 #[.val (.ref ar), .val (.int (3 : Int32)), .val (.int (1 : Int32)), .val (.double h1), .second, .val (.double l1), .second, .val (.double d2), .second, .unset, .unset] [(.int (cmpValue (FP.dcmp l1 0) .l))])) _
    refine XS.ifYes X0.here hx rfl (pc0 := 48) (pc' := 54) rfl (hb hby d0_48) rfl ((if0 _ _).trans (teq hc48).1) (by decide) (by decide) ?_
    show Steps p.tables e below (s₁.setTop (mkF m 54 #[.val (.ref ar), .val (.int (3 : Int32)), .val (.int (1 : Int32)), .val (.double h1), .second, .val (.double l1), .second, .val (.double d2), .second, .unset, .unset] [])) _
    refine XS.goto X0.here hx rfl (pc0 := 54) (pc' := 17) rfl (hb hby d0_54) (by decide) (by decide) ?_
    show Steps p.tables e below (s₁.setTop (mkF m 17 #[.val (.ref ar), .val (.int (3 : Int32)), .val (.int (1 : Int32)), .val (.double h1), .second, .val (.double l1), .second, .val (.double d2), .second, .unset, .unset] [])) _
    refine XS.iloadN X0.here hx rfl (hb hby d0_17) rfl ?_
    show Steps p.tables e below (s₁.setTop (mkF m 18 #[.val (.ref ar), .val (.int (3 : Int32)), .val (.int (1 : Int32)), .val (.double h1), .second, .val (.double l1), .second, .val (.double d2), .second, .unset, .unset] [(.int (1 : Int32))])) _
    refine XS.ifNo X0.here hx rfl (hb hby d0_18) rfl ((if0 _ _).trans (tlt (by decide : (0 : Int32) < (1 : Int32))).2.2.2) ?_
    show Steps p.tables e below (s₁.setTop (mkF m 21 #[.val (.ref ar), .val (.int (3 : Int32)), .val (.int (1 : Int32)), .val (.double h1), .second, .val (.double l1), .second, .val (.double d2), .second, .unset, .unset] [])) _
    refine XS.iinc X0.here hx rfl (hb hby d0_21) rfl (l' := #[.val (.ref ar), .val (.int (3 : Int32)), .val (.int ((1 : Int32) + (-1 : Int32))), .val (.double h1), .second, .val (.double l1), .second, .val (.double d2), .second, .unset, .unset]) rfl ?_
    show Steps p.tables e below (s₁.setTop (mkF m 24 #[.val (.ref ar), .val (.int (3 : Int32)), .val (.int ((1 : Int32) + (-1 : Int32))), .val (.double h1), .second, .val (.double l1), .second, .val (.double d2), .second, .unset, .unset] [])) _
    rw [show ((1 : Int32) + (-1 : Int32)) = (0 : Int32) from by decide]
    show Steps p.tables e below (s₁.setTop (mkF m 24 #[.val (.ref ar), .val (.int (3 : Int32)), .val (.int (0 : Int32)), .val (.double h1), .second, .val (.double l1), .second, .val (.double d2), .second, .unset, .unset] [])) _
    refine XS.dloadN X0.here hx rfl (hb hby d0_24) rfl ?_
    show Steps p.tables e below (s₁.setTop (mkF m 25 #[.val (.ref ar), .val (.int (3 : Int32)), .val (.int (0 : Int32)), .val (.double h1), .second, .val (.double l1), .second, .val (.double d2), .second, .unset, .unset] [(.double h1)])) _
    refine XS.dstore X0.here hx rfl (hb hby d0_25) rfl (l' := #[.val (.ref ar), .val (.int (3 : Int32)), .val (.int (0 : Int32)), .val (.double h1), .second, .val (.double l1), .second, .val (.double h1), .second, .unset, .unset]) rfl ?_
    show Steps p.tables e below (s₁.setTop (mkF m 27 #[.val (.ref ar), .val (.int (3 : Int32)), .val (.int (0 : Int32)), .val (.double h1), .second, .val (.double l1), .second, .val (.double h1), .second, .unset, .unset] [])) _
    refine XS.dload X0.here hx rfl (hb hby d0_27) rfl ?_
    show Steps p.tables e below (s₁.setTop (mkF m 29 #[.val (.ref ar), .val (.int (3 : Int32)), .val (.int (0 : Int32)), .val (.double h1), .second, .val (.double l1), .second, .val (.double h1), .second, .unset, .unset] [(.double h1)])) _
    refine XS.aloadN X0.here hx rfl (hb hby d0_29) rfl rfl ?_
    show Steps p.tables e below (s₁.setTop (mkF m 30 #[.val (.ref ar), .val (.int (3 : Int32)), .val (.int (0 : Int32)), .val (.double h1), .second, .val (.double l1), .second, .val (.double h1), .second, .unset, .unset] [(.ref ar), (.double h1)])) _
    refine XS.iloadN X0.here hx rfl (hb hby d0_30) rfl ?_
    show Steps p.tables e below (s₁.setTop (mkF m 31 #[.val (.ref ar), .val (.int (3 : Int32)), .val (.int (0 : Int32)), .val (.double h1), .second, .val (.double l1), .second, .val (.double h1), .second, .unset, .unset] [(.int (0 : Int32)), (.ref ar), (.double h1)])) _
    refine X0.daload hx (j := (0 : Int32)) (v := (.double d0)) (by rw [e0]; exact Ar4.1) (State.isArrayOf_alike hZ.alike Ar4.2.1) Ar4.2.2 hin4 hat4 (g := (mkF m 31 #[.val (.ref ar), .val (.int (3 : Int32)), .val (.int (0 : Int32)), .val (.double h1), .second, .val (.double l1), .second, .val (.double h1), .second, .unset, .unset] [(.int (0 : Int32)), (.ref ar), (.double h1)])) rfl rfl (hb hby d0_31) _ ?_
    show Steps p.tables e below (s₁.setTop (mkF m 32 #[.val (.ref ar), .val (.int (3 : Int32)), .val (.int (0 : Int32)), .val (.double h1), .second, .val (.double l1), .second, .val (.double h1), .second, .unset, .unset] [(.double d0), (.double h1)])) _
    refine XS.daddS X0.here hx rfl (hb hby d0_32) rfl nn32_2 rfl ?_
    show Steps p.tables e below (s₁.setTop (mkF m 33 #[.val (.ref ar), .val (.int (3 : Int32)), .val (.int (0 : Int32)), .val (.double h1), .second, .val (.double l1), .second, .val (.double h1), .second, .unset, .unset] [(.double (FP.dadd h1 d0))])) _
    rw [e4]
    show Steps p.tables e below (s₁.setTop (mkF m 33 #[.val (.ref ar), .val (.int (3 : Int32)), .val (.int (0 : Int32)), .val (.double h1), .second, .val (.double l1), .second, .val (.double h1), .second, .unset, .unset] [(.double h2)])) _
    refine XS.dstoreN X0.here hx rfl (hb hby d0_33) rfl (l' := #[.val (.ref ar), .val (.int (3 : Int32)), .val (.int (0 : Int32)), .val (.double h2), .second, .val (.double l1), .second, .val (.double h1), .second, .unset, .unset]) rfl ?_
    show Steps p.tables e below (s₁.setTop (mkF m 34 #[.val (.ref ar), .val (.int (3 : Int32)), .val (.int (0 : Int32)), .val (.double h2), .second, .val (.double l1), .second, .val (.double h1), .second, .unset, .unset] [])) _
    refine XS.aloadN X0.here hx rfl (hb hby d0_34) rfl rfl ?_
    show Steps p.tables e below (s₁.setTop (mkF m 35 #[.val (.ref ar), .val (.int (3 : Int32)), .val (.int (0 : Int32)), .val (.double h2), .second, .val (.double l1), .second, .val (.double h1), .second, .unset, .unset] [(.ref ar)])) _
    refine XS.iloadN X0.here hx rfl (hb hby d0_35) rfl ?_
    show Steps p.tables e below (s₁.setTop (mkF m 36 #[.val (.ref ar), .val (.int (3 : Int32)), .val (.int (0 : Int32)), .val (.double h2), .second, .val (.double l1), .second, .val (.double h1), .second, .unset, .unset] [(.int (0 : Int32)), (.ref ar)])) _
    refine X0.daload hx (j := (0 : Int32)) (v := (.double d0)) (by rw [e0]; exact Ar5.1) (State.isArrayOf_alike hZ.alike Ar5.2.1) Ar5.2.2 hin5 hat5 (g := (mkF m 36 #[.val (.ref ar), .val (.int (3 : Int32)), .val (.int (0 : Int32)), .val (.double h2), .second, .val (.double l1), .second, .val (.double h1), .second, .unset, .unset] [(.int (0 : Int32)), (.ref ar)])) rfl rfl (hb hby d0_36) _ ?_
    show Steps p.tables e below (s₁.setTop (mkF m 37 #[.val (.ref ar), .val (.int (3 : Int32)), .val (.int (0 : Int32)), .val (.double h2), .second, .val (.double l1), .second, .val (.double h1), .second, .unset, .unset] [(.double d0)])) _
    refine XS.dloadN X0.here hx rfl (hb hby d0_37) rfl ?_
    show Steps p.tables e below (s₁.setTop (mkF m 38 #[.val (.ref ar), .val (.int (3 : Int32)), .val (.int (0 : Int32)), .val (.double h2), .second, .val (.double l1), .second, .val (.double h1), .second, .unset, .unset] [(.double h2), (.double d0)])) _
    refine XS.dload X0.here hx rfl (hb hby d0_38) rfl ?_
    show Steps p.tables e below (s₁.setTop (mkF m 40 #[.val (.ref ar), .val (.int (3 : Int32)), .val (.int (0 : Int32)), .val (.double h2), .second, .val (.double l1), .second, .val (.double h1), .second, .unset, .unset] [(.double h1), (.double h2), (.double d0)])) _
    refine XS.dsubS X0.here hx rfl (hb hby d0_40) rfl nn40_2 rfl ?_
    show Steps p.tables e below (s₁.setTop (mkF m 41 #[.val (.ref ar), .val (.int (3 : Int32)), .val (.int (0 : Int32)), .val (.double h2), .second, .val (.double l1), .second, .val (.double h1), .second, .unset, .unset] [(.double (FP.dsub h2 h1)), (.double d0)])) _
    rw [e5]
    show Steps p.tables e below (s₁.setTop (mkF m 41 #[.val (.ref ar), .val (.int (3 : Int32)), .val (.int (0 : Int32)), .val (.double h2), .second, .val (.double l1), .second, .val (.double h1), .second, .unset, .unset] [(.double g2), (.double d0)])) _
    refine XS.dsubS X0.here hx rfl (hb hby d0_41) rfl nn41_2 rfl ?_
    show Steps p.tables e below (s₁.setTop (mkF m 42 #[.val (.ref ar), .val (.int (3 : Int32)), .val (.int (0 : Int32)), .val (.double h2), .second, .val (.double l1), .second, .val (.double h1), .second, .unset, .unset] [(.double (FP.dsub d0 g2))])) _
    rw [e6]
    show Steps p.tables e below (s₁.setTop (mkF m 42 #[.val (.ref ar), .val (.int (3 : Int32)), .val (.int (0 : Int32)), .val (.double h2), .second, .val (.double l1), .second, .val (.double h1), .second, .unset, .unset] [(.double l2)])) _
    refine XS.dstore X0.here hx rfl (hb hby d0_42) rfl (l' := #[.val (.ref ar), .val (.int (3 : Int32)), .val (.int (0 : Int32)), .val (.double h2), .second, .val (.double l2), .second, .val (.double h1), .second, .unset, .unset]) rfl ?_
    show Steps p.tables e below (s₁.setTop (mkF m 44 #[.val (.ref ar), .val (.int (3 : Int32)), .val (.int (0 : Int32)), .val (.double h2), .second, .val (.double l2), .second, .val (.double h1), .second, .unset, .unset] [])) _
    refine XS.dload X0.here hx rfl (hb hby d0_44) rfl ?_
    show Steps p.tables e below (s₁.setTop (mkF m 46 #[.val (.ref ar), .val (.int (3 : Int32)), .val (.int (0 : Int32)), .val (.double h2), .second, .val (.double l2), .second, .val (.double h1), .second, .unset, .unset] [(.double l2)])) _
    refine XS.dconst0 X0.here hx rfl (hb hby d0_46) (v := 0) rfl ?_
    show Steps p.tables e below (s₁.setTop (mkF m 47 #[.val (.ref ar), .val (.int (3 : Int32)), .val (.int (0 : Int32)), .val (.double h2), .second, .val (.double l2), .second, .val (.double h1), .second, .unset, .unset] [(.double 0), (.double l2)])) _
    refine XS.dcmpS X0.here hx rfl (hb hby d0_47) rfl rfl ?_
    show Steps p.tables e below (s₁.setTop (mkF m 48 #[.val (.ref ar), .val (.int (3 : Int32)), .val (.int (0 : Int32)), .val (.double h2), .second, .val (.double l2), .second, .val (.double h1), .second, .unset, .unset] [(.int (cmpValue (FP.dcmp l2 0) .l))])) _
    refine XS.ifYes X0.here hx rfl (pc0 := 48) (pc' := 54) rfl (hb hby d0_48) rfl ((if0 _ _).trans (teq hc48_2).1) (by decide) (by decide) ?_
    show Steps p.tables e below (s₁.setTop (mkF m 54 #[.val (.ref ar), .val (.int (3 : Int32)), .val (.int (0 : Int32)), .val (.double h2), .second, .val (.double l2), .second, .val (.double h1), .second, .unset, .unset] [])) _
    refine XS.goto X0.here hx rfl (pc0 := 54) (pc' := 17) rfl (hb hby d0_54) (by decide) (by decide) ?_
    show Steps p.tables e below (s₁.setTop (mkF m 17 #[.val (.ref ar), .val (.int (3 : Int32)), .val (.int (0 : Int32)), .val (.double h2), .second, .val (.double l2), .second, .val (.double h1), .second, .unset, .unset] [])) _
    refine XS.iloadN X0.here hx rfl (hb hby d0_17) rfl ?_
    show Steps p.tables e below (s₁.setTop (mkF m 18 #[.val (.ref ar), .val (.int (3 : Int32)), .val (.int (0 : Int32)), .val (.double h2), .second, .val (.double l2), .second, .val (.double h1), .second, .unset, .unset] [(.int (0 : Int32))])) _
    refine XS.ifYes X0.here hx rfl (pc0 := 18) (pc' := 57) rfl (hb hby d0_18) rfl ((if0 _ _).trans (flt (by decide : ¬ ((0 : Int32) < (0 : Int32)))).2.2.2) (by decide) (by decide) ?_
    show Steps p.tables e below (s₁.setTop (mkF m 57 #[.val (.ref ar), .val (.int (3 : Int32)), .val (.int (0 : Int32)), .val (.double h2), .second, .val (.double l2), .second, .val (.double h1), .second, .unset, .unset] [])) _
    refine XS.iloadN X0.here hx rfl (hb hby d0_57) rfl ?_
    show Steps p.tables e below (s₁.setTop (mkF m 58 #[.val (.ref ar), .val (.int (3 : Int32)), .val (.int (0 : Int32)), .val (.double h2), .second, .val (.double l2), .second, .val (.double h1), .second, .unset, .unset] [(.int (0 : Int32))])) _
    refine XS.ifYes X0.here hx rfl (pc0 := 58) (pc' := 118) rfl (hb hby d0_58) rfl ((if0 _ _).trans (flt (by decide : ¬ ((0 : Int32) < (0 : Int32)))).2.2.2) (by decide) (by decide) ?_
    show Steps p.tables e below (s₁.setTop (mkF m 118 #[.val (.ref ar), .val (.int (3 : Int32)), .val (.int (0 : Int32)), .val (.double h2), .second, .val (.double l2), .second, .val (.double h1), .second, .unset, .unset] [])) _
    refine XS.dloadN X0.here hx rfl (hb hby d0_118) rfl ?_
    show Steps p.tables e below (s₁.setTop (mkF m 119 #[.val (.ref ar), .val (.int (3 : Int32)), .val (.int (0 : Int32)), .val (.double h2), .second, .val (.double l2), .second, .val (.double h1), .second, .unset, .unset] [(.double h2)])) _
    exact retOut X0 hx Bd.returns rfl (Or.inr (Or.inr (Or.inl ⟨rfl, rfl, _, rfl⟩))) (hb hby d0_119) hr
  · show Q_rd3tt Z ar ka d0 d1 d2 d3 h1 g1 l1 h2 g2 l2 h0 n0 _ s₁.heap _
    rw [e0]
    exact ⟨rfl, N0, rfl⟩
def Q_rd3tf (Z : State) (ar : Addr) (ka : ClassId) (d0 : UInt64) (d1 : UInt64) (d2 : UInt64) (d3 : UInt64) (h1 : UInt64) (g1 : UInt64) (l1 : UInt64) (h2 : UInt64) (g2 : UInt64) (l2 : UInt64) (h0 : Heap) (n0 : Nat) (v : Option Value) (h : Heap) (L : List Loc) : Prop := v = some (.double h2) ∧ Fr n0 L ∧ h = h0
theorem ef_rd3tf (m : MethodId) (ar : Addr) : entryFrame m #[(.ref ar), (.int (3 : Int32))] 11 = mkF m 0 #[.val (.ref ar), .val (.int (3 : Int32)), .unset, .unset, .unset, .unset, .unset, .unset, .unset, .unset, .unset] [] := by first | (simp [entryFrame, mkF, argsToLocals, Value.category]; done) | rfl
set_option maxRecDepth 65536 in
set_option maxHeartbeats 40000000 in
theorem rd3tf (l : Launch) (Z : State) (a0 : Array Value) (hw : ∀ d ∈ tables_1, d.before a0 Z = true) (ws : List Jvm.Cond) (ar : Addr) (ka : ClassId) (d0 : UInt64) (d1 : UInt64) (d2 : UInt64) (d3 : UInt64) (h1 : UInt64) (g1 : UInt64) (l1 : UInt64) (h2 : UInt64) (g2 : UInt64) (l2 : UInt64) (h0 : Heap) (n0 : Nat) (Z0 : n0 ≤ h0.size) (V_ar : Arv Z h0 ar ka .double (4 : Int32) [(.double d0), (.double d1), (.double d2), (.double d3)] (.double 0)) (e1 : FP.dadd d2 d1 = h1) (e2 : FP.dsub h1 d2 = g1) (e3 : FP.dsub d1 g1 = l1) (e4 : FP.dadd h1 d0 = h2) (e5 : FP.dsub h2 h1 = g2) (e6 : FP.dsub d0 g2 = l2) (nn32 : NoNaN64 (FP.dadd d2 d1)) (nn40 : NoNaN64 (FP.dsub h1 d2)) (nn41 : NoNaN64 (FP.dsub d1 g1)) (hc48 : (cmpValue (FP.dcmp l1 0) .l) = (0 : Int32)) (nn32_2 : NoNaN64 (FP.dadd h1 d0)) (nn40_2 : NoNaN64 (FP.dsub h2 h1)) (nn41_2 : NoNaN64 (FP.dsub d0 g2)) (hc48_2 : ¬ ((cmpValue (FP.dcmp l2 0) .l) = (0 : Int32))) :
    MetFree l (⟨"com/example/crestwatch/crestwatch/core/ExactSum", "rounded", "([DI)D"⟩ : MethodName) (head1 (Jvm.Cond.code (⟨"com/example/crestwatch/crestwatch/core/ExactSum", "rounded", "([DI)D"⟩ : MethodName) prog_28_method_5_code 11 (some .double) :: ws) ({ frames := 0, cells := 0, slots := 0, locals := 0 } : Room)) (fun a U => a = #[(.ref ar), (.int (3 : Int32))] ∧ Z.Warmed39 U.vm ∧ U.heap = h0) (fun _ _ _ _ _ => True) (fun _ U o U' => ∃ v L, o = .returned v ∧ Q_rd3tf Z ar ka d0 d1 d2 d3 h1 g1 l1 h2 g2 l2 h0 n0 v U'.heap L ∧ FrameEnd U o U' L ({ frames := 0, cells := 0, slots := 0, locals := 0 } : Room).cells ({ frames := 0, cells := 0, slots := 0, locals := 0 } : Room).slots) := by
  refine MetFree.of_bodySF (plainFor_of_name pn_0) hisR ?_
  intro p e s m args below meth c s₁ Bd hml0 hP hK
  obtain ⟨rfl, hZ, hh⟩ := hP
  have hx := Bd.exec
  have hby := Bd.bytes
  have hml : c.maxLocals = 11 := hml0
  have hown : s.vm.findClass "com/example/crestwatch/crestwatch/core/ExactSum" = some m.cls := findClass_of_methodNamed Bd.named
  have hnm := (name_of_methodNamed Bd.named Bd.method).1
  have X0 : Stand p l e ({ frames := 0, cells := 0, slots := 0, locals := 0 } : Room) s m #[(.ref ar), (.int (3 : Int32))] below meth c s₁ [] 0 0 := Stand.of_body Bd
  have e0 : s₁.heap = h0 := by rw [← hh, Bd.state]; rfl
  have N0 := Fr.nil n0
  have pre0 : ∀ t, Steps p.tables e below (s₁.setTop (mkF m 0 #[.val (.ref ar), .val (.int (3 : Int32)), .unset, .unset, .unset, .unset, .unset, .unset, .unset, .unset, .unset] [])) t → Steps p.tables e below (s₁.setTop (entryFrame m #[(.ref ar), (.int (3 : Int32))] 11)) t := fun t k => castTop (ef_rd3tf m ar) k
  have Vc1 := V_ar
  obtain ⟨cl1, Ar1, q1, S1, M1, H1, G1⟩ := Vc1
  have hin1 : ¬ ((2 : Int32) < 0 ∨ cl1.slots.size ≤ ((2 : Int32)).toNatClampNeg) := inb_of S1 ⟨by decide, by decide⟩
  have hat1 : cl1.slots[((2 : Int32)).toNatClampNeg]? = some (.double d2) := Has.at H1 hin1 rfl
  have Vc2 := V_ar
  obtain ⟨cl2, Ar2, q2, S2, M2, H2, G2⟩ := Vc2
  have hin2 : ¬ ((1 : Int32) < 0 ∨ cl2.slots.size ≤ ((1 : Int32)).toNatClampNeg) := inb_of S2 ⟨by decide, by decide⟩
  have hat2 : cl2.slots[((1 : Int32)).toNatClampNeg]? = some (.double d1) := Has.at H2 hin2 rfl
  have Vc3 := V_ar
  obtain ⟨cl3, Ar3, q3, S3, M3, H3, G3⟩ := Vc3
  have hin3 : ¬ ((1 : Int32) < 0 ∨ cl3.slots.size ≤ ((1 : Int32)).toNatClampNeg) := inb_of S3 ⟨by decide, by decide⟩
  have hat3 : cl3.slots[((1 : Int32)).toNatClampNeg]? = some (.double d1) := Has.at H3 hin3 rfl
  have Vc4 := V_ar
  obtain ⟨cl4, Ar4, q4, S4, M4, H4, G4⟩ := Vc4
  have hin4 : ¬ ((0 : Int32) < 0 ∨ cl4.slots.size ≤ ((0 : Int32)).toNatClampNeg) := inb_of S4 ⟨by decide, by decide⟩
  have hat4 : cl4.slots[((0 : Int32)).toNatClampNeg]? = some (.double d0) := Has.at H4 hin4 rfl
  have Vc5 := V_ar
  obtain ⟨cl5, Ar5, q5, S5, M5, H5, G5⟩ := Vc5
  have hin5 : ¬ ((0 : Int32) < 0 ∨ cl5.slots.size ≤ ((0 : Int32)).toNatClampNeg) := inb_of S5 ⟨by decide, by decide⟩
  have hat5 : cl5.slots[((0 : Int32)).toNatClampNeg]? = some (.double d0) := Has.at H5 hin5 rfl
  obtain ⟨fs, hr, hrun, hended, hW, hsame⟩ := X0.leave (v := some (.double h2)) (fun h => by rw [Bd.returns] at h; cases h)
  refine ⟨_, _, pre0 _ ?_, hrun, hended, _, _, rfl, ?_, ⟨_, rfl⟩, hW, hsame.mono (by decide) (by decide)⟩
  · show Steps p.tables e below (s₁.setTop (mkF m 0 #[.val (.ref ar), .val (.int (3 : Int32)), .unset, .unset, .unset, .unset, .unset, .unset, .unset, .unset, .unset] [])) _
    refine XS.iloadN X0.here hx rfl (hb hby d0_0) rfl ?_
    show Steps p.tables e below (s₁.setTop (mkF m 1 #[.val (.ref ar), .val (.int (3 : Int32)), .unset, .unset, .unset, .unset, .unset, .unset, .unset, .unset, .unset] [(.int (3 : Int32))])) _
    refine XS.ifYes X0.here hx rfl (pc0 := 1) (pc' := 6) rfl (hb hby d0_1) rfl ((if0 _ _).trans (feq (by decide : ¬ ((3 : Int32) = (0 : Int32)))).2) (by decide) (by decide) ?_
    show Steps p.tables e below (s₁.setTop (mkF m 6 #[.val (.ref ar), .val (.int (3 : Int32)), .unset, .unset, .unset, .unset, .unset, .unset, .unset, .unset, .unset] [])) _
    refine XS.iloadN X0.here hx rfl (hb hby d0_6) rfl ?_
    show Steps p.tables e below (s₁.setTop (mkF m 7 #[.val (.ref ar), .val (.int (3 : Int32)), .unset, .unset, .unset, .unset, .unset, .unset, .unset, .unset, .unset] [(.int (3 : Int32))])) _
    refine XS.iconst X0.here hx rfl (hb hby d0_7) ?_
    show Steps p.tables e below (s₁.setTop (mkF m 8 #[.val (.ref ar), .val (.int (3 : Int32)), .unset, .unset, .unset, .unset, .unset, .unset, .unset, .unset, .unset] [(.int (1 : Int32)), (.int (3 : Int32))])) _
    refine XS.isub X0.here hx rfl (hb hby d0_8) rfl ?_
    show Steps p.tables e below (s₁.setTop (mkF m 9 #[.val (.ref ar), .val (.int (3 : Int32)), .unset, .unset, .unset, .unset, .unset, .unset, .unset, .unset, .unset] [(.int ((3 : Int32) - (1 : Int32)))])) _
    rw [show ((3 : Int32) - (1 : Int32)) = (2 : Int32) from by decide]
    show Steps p.tables e below (s₁.setTop (mkF m 9 #[.val (.ref ar), .val (.int (3 : Int32)), .unset, .unset, .unset, .unset, .unset, .unset, .unset, .unset, .unset] [(.int (2 : Int32))])) _
    refine XS.istoreN X0.here hx rfl (hb hby d0_9) rfl (l' := #[.val (.ref ar), .val (.int (3 : Int32)), .val (.int (2 : Int32)), .unset, .unset, .unset, .unset, .unset, .unset, .unset, .unset]) rfl ?_
    show Steps p.tables e below (s₁.setTop (mkF m 10 #[.val (.ref ar), .val (.int (3 : Int32)), .val (.int (2 : Int32)), .unset, .unset, .unset, .unset, .unset, .unset, .unset, .unset] [])) _
    refine XS.aloadN X0.here hx rfl (hb hby d0_10) rfl rfl ?_
    show Steps p.tables e below (s₁.setTop (mkF m 11 #[.val (.ref ar), .val (.int (3 : Int32)), .val (.int (2 : Int32)), .unset, .unset, .unset, .unset, .unset, .unset, .unset, .unset] [(.ref ar)])) _
    refine XS.iloadN X0.here hx rfl (hb hby d0_11) rfl ?_
    show Steps p.tables e below (s₁.setTop (mkF m 12 #[.val (.ref ar), .val (.int (3 : Int32)), .val (.int (2 : Int32)), .unset, .unset, .unset, .unset, .unset, .unset, .unset, .unset] [(.int (2 : Int32)), (.ref ar)])) _
    refine X0.daload hx (j := (2 : Int32)) (v := (.double d2)) (by rw [e0]; exact Ar1.1) (State.isArrayOf_alike hZ.alike Ar1.2.1) Ar1.2.2 hin1 hat1 (g := (mkF m 12 #[.val (.ref ar), .val (.int (3 : Int32)), .val (.int (2 : Int32)), .unset, .unset, .unset, .unset, .unset, .unset, .unset, .unset] [(.int (2 : Int32)), (.ref ar)])) rfl rfl (hb hby d0_12) _ ?_
    show Steps p.tables e below (s₁.setTop (mkF m 13 #[.val (.ref ar), .val (.int (3 : Int32)), .val (.int (2 : Int32)), .unset, .unset, .unset, .unset, .unset, .unset, .unset, .unset] [(.double d2)])) _
    refine XS.dstoreN X0.here hx rfl (hb hby d0_13) rfl (l' := #[.val (.ref ar), .val (.int (3 : Int32)), .val (.int (2 : Int32)), .val (.double d2), .second, .unset, .unset, .unset, .unset, .unset, .unset]) rfl ?_
    show Steps p.tables e below (s₁.setTop (mkF m 14 #[.val (.ref ar), .val (.int (3 : Int32)), .val (.int (2 : Int32)), .val (.double d2), .second, .unset, .unset, .unset, .unset, .unset, .unset] [])) _
    refine XS.dconst0 X0.here hx rfl (hb hby d0_14) (v := 0) rfl ?_
    show Steps p.tables e below (s₁.setTop (mkF m 15 #[.val (.ref ar), .val (.int (3 : Int32)), .val (.int (2 : Int32)), .val (.double d2), .second, .unset, .unset, .unset, .unset, .unset, .unset] [(.double 0)])) _
    refine XS.dstore X0.here hx rfl (hb hby d0_15) rfl (l' := #[.val (.ref ar), .val (.int (3 : Int32)), .val (.int (2 : Int32)), .val (.double d2), .second, .val (.double 0), .second, .unset, .unset, .unset, .unset]) rfl ?_
    show Steps p.tables e below (s₁.setTop (mkF m 17 #[.val (.ref ar), .val (.int (3 : Int32)), .val (.int (2 : Int32)), .val (.double d2), .second, .val (.double 0), .second, .unset, .unset, .unset, .unset] [])) _
    refine XS.iloadN X0.here hx rfl (hb hby d0_17) rfl ?_
    show Steps p.tables e below (s₁.setTop (mkF m 18 #[.val (.ref ar), .val (.int (3 : Int32)), .val (.int (2 : Int32)), .val (.double d2), .second, .val (.double 0), .second, .unset, .unset, .unset, .unset] [(.int (2 : Int32))])) _
    refine XS.ifNo X0.here hx rfl (hb hby d0_18) rfl ((if0 _ _).trans (tlt (by decide : (0 : Int32) < (2 : Int32))).2.2.2) ?_
    show Steps p.tables e below (s₁.setTop (mkF m 21 #[.val (.ref ar), .val (.int (3 : Int32)), .val (.int (2 : Int32)), .val (.double d2), .second, .val (.double 0), .second, .unset, .unset, .unset, .unset] [])) _
    refine XS.iinc X0.here hx rfl (hb hby d0_21) rfl (l' := #[.val (.ref ar), .val (.int (3 : Int32)), .val (.int ((2 : Int32) + (-1 : Int32))), .val (.double d2), .second, .val (.double 0), .second, .unset, .unset, .unset, .unset]) rfl ?_
    show Steps p.tables e below (s₁.setTop (mkF m 24 #[.val (.ref ar), .val (.int (3 : Int32)), .val (.int ((2 : Int32) + (-1 : Int32))), .val (.double d2), .second, .val (.double 0), .second, .unset, .unset, .unset, .unset] [])) _
    rw [show ((2 : Int32) + (-1 : Int32)) = (1 : Int32) from by decide]
    show Steps p.tables e below (s₁.setTop (mkF m 24 #[.val (.ref ar), .val (.int (3 : Int32)), .val (.int (1 : Int32)), .val (.double d2), .second, .val (.double 0), .second, .unset, .unset, .unset, .unset] [])) _
    refine XS.dloadN X0.here hx rfl (hb hby d0_24) rfl ?_
    show Steps p.tables e below (s₁.setTop (mkF m 25 #[.val (.ref ar), .val (.int (3 : Int32)), .val (.int (1 : Int32)), .val (.double d2), .second, .val (.double 0), .second, .unset, .unset, .unset, .unset] [(.double d2)])) _
    refine XS.dstore X0.here hx rfl (hb hby d0_25) rfl (l' := #[.val (.ref ar), .val (.int (3 : Int32)), .val (.int (1 : Int32)), .val (.double d2), .second, .val (.double 0), .second, .val (.double d2), .second, .unset, .unset]) rfl ?_
    show Steps p.tables e below (s₁.setTop (mkF m 27 #[.val (.ref ar), .val (.int (3 : Int32)), .val (.int (1 : Int32)), .val (.double d2), .second, .val (.double 0), .second, .val (.double d2), .second, .unset, .unset] [])) _
    refine XS.dload X0.here hx rfl (hb hby d0_27) rfl ?_
    show Steps p.tables e below (s₁.setTop (mkF m 29 #[.val (.ref ar), .val (.int (3 : Int32)), .val (.int (1 : Int32)), .val (.double d2), .second, .val (.double 0), .second, .val (.double d2), .second, .unset, .unset] [(.double d2)])) _
    refine XS.aloadN X0.here hx rfl (hb hby d0_29) rfl rfl ?_
    show Steps p.tables e below (s₁.setTop (mkF m 30 #[.val (.ref ar), .val (.int (3 : Int32)), .val (.int (1 : Int32)), .val (.double d2), .second, .val (.double 0), .second, .val (.double d2), .second, .unset, .unset] [(.ref ar), (.double d2)])) _
    refine XS.iloadN X0.here hx rfl (hb hby d0_30) rfl ?_
    show Steps p.tables e below (s₁.setTop (mkF m 31 #[.val (.ref ar), .val (.int (3 : Int32)), .val (.int (1 : Int32)), .val (.double d2), .second, .val (.double 0), .second, .val (.double d2), .second, .unset, .unset] [(.int (1 : Int32)), (.ref ar), (.double d2)])) _
    refine X0.daload hx (j := (1 : Int32)) (v := (.double d1)) (by rw [e0]; exact Ar2.1) (State.isArrayOf_alike hZ.alike Ar2.2.1) Ar2.2.2 hin2 hat2 (g := (mkF m 31 #[.val (.ref ar), .val (.int (3 : Int32)), .val (.int (1 : Int32)), .val (.double d2), .second, .val (.double 0), .second, .val (.double d2), .second, .unset, .unset] [(.int (1 : Int32)), (.ref ar), (.double d2)])) rfl rfl (hb hby d0_31) _ ?_
    show Steps p.tables e below (s₁.setTop (mkF m 32 #[.val (.ref ar), .val (.int (3 : Int32)), .val (.int (1 : Int32)), .val (.double d2), .second, .val (.double 0), .second, .val (.double d2), .second, .unset, .unset] [(.double d1), (.double d2)])) _
    refine XS.daddS X0.here hx rfl (hb hby d0_32) rfl nn32 rfl ?_
    show Steps p.tables e below (s₁.setTop (mkF m 33 #[.val (.ref ar), .val (.int (3 : Int32)), .val (.int (1 : Int32)), .val (.double d2), .second, .val (.double 0), .second, .val (.double d2), .second, .unset, .unset] [(.double (FP.dadd d2 d1))])) _
    rw [e1]
    show Steps p.tables e below (s₁.setTop (mkF m 33 #[.val (.ref ar), .val (.int (3 : Int32)), .val (.int (1 : Int32)), .val (.double d2), .second, .val (.double 0), .second, .val (.double d2), .second, .unset, .unset] [(.double h1)])) _
    refine XS.dstoreN X0.here hx rfl (hb hby d0_33) rfl (l' := #[.val (.ref ar), .val (.int (3 : Int32)), .val (.int (1 : Int32)), .val (.double h1), .second, .val (.double 0), .second, .val (.double d2), .second, .unset, .unset]) rfl ?_
    show Steps p.tables e below (s₁.setTop (mkF m 34 #[.val (.ref ar), .val (.int (3 : Int32)), .val (.int (1 : Int32)), .val (.double h1), .second, .val (.double 0), .second, .val (.double d2), .second, .unset, .unset] [])) _
    refine XS.aloadN X0.here hx rfl (hb hby d0_34) rfl rfl ?_
    show Steps p.tables e below (s₁.setTop (mkF m 35 #[.val (.ref ar), .val (.int (3 : Int32)), .val (.int (1 : Int32)), .val (.double h1), .second, .val (.double 0), .second, .val (.double d2), .second, .unset, .unset] [(.ref ar)])) _
    refine XS.iloadN X0.here hx rfl (hb hby d0_35) rfl ?_
    show Steps p.tables e below (s₁.setTop (mkF m 36 #[.val (.ref ar), .val (.int (3 : Int32)), .val (.int (1 : Int32)), .val (.double h1), .second, .val (.double 0), .second, .val (.double d2), .second, .unset, .unset] [(.int (1 : Int32)), (.ref ar)])) _
    refine X0.daload hx (j := (1 : Int32)) (v := (.double d1)) (by rw [e0]; exact Ar3.1) (State.isArrayOf_alike hZ.alike Ar3.2.1) Ar3.2.2 hin3 hat3 (g := (mkF m 36 #[.val (.ref ar), .val (.int (3 : Int32)), .val (.int (1 : Int32)), .val (.double h1), .second, .val (.double 0), .second, .val (.double d2), .second, .unset, .unset] [(.int (1 : Int32)), (.ref ar)])) rfl rfl (hb hby d0_36) _ ?_
    show Steps p.tables e below (s₁.setTop (mkF m 37 #[.val (.ref ar), .val (.int (3 : Int32)), .val (.int (1 : Int32)), .val (.double h1), .second, .val (.double 0), .second, .val (.double d2), .second, .unset, .unset] [(.double d1)])) _
    refine XS.dloadN X0.here hx rfl (hb hby d0_37) rfl ?_
    show Steps p.tables e below (s₁.setTop (mkF m 38 #[.val (.ref ar), .val (.int (3 : Int32)), .val (.int (1 : Int32)), .val (.double h1), .second, .val (.double 0), .second, .val (.double d2), .second, .unset, .unset] [(.double h1), (.double d1)])) _
    refine XS.dload X0.here hx rfl (hb hby d0_38) rfl ?_
    show Steps p.tables e below (s₁.setTop (mkF m 40 #[.val (.ref ar), .val (.int (3 : Int32)), .val (.int (1 : Int32)), .val (.double h1), .second, .val (.double 0), .second, .val (.double d2), .second, .unset, .unset] [(.double d2), (.double h1), (.double d1)])) _
    refine XS.dsubS X0.here hx rfl (hb hby d0_40) rfl nn40 rfl ?_
    show Steps p.tables e below (s₁.setTop (mkF m 41 #[.val (.ref ar), .val (.int (3 : Int32)), .val (.int (1 : Int32)), .val (.double h1), .second, .val (.double 0), .second, .val (.double d2), .second, .unset, .unset] [(.double (FP.dsub h1 d2)), (.double d1)])) _
    rw [e2]
    show Steps p.tables e below (s₁.setTop (mkF m 41 #[.val (.ref ar), .val (.int (3 : Int32)), .val (.int (1 : Int32)), .val (.double h1), .second, .val (.double 0), .second, .val (.double d2), .second, .unset, .unset] [(.double g1), (.double d1)])) _
    refine XS.dsubS X0.here hx rfl (hb hby d0_41) rfl nn41 rfl ?_
    show Steps p.tables e below (s₁.setTop (mkF m 42 #[.val (.ref ar), .val (.int (3 : Int32)), .val (.int (1 : Int32)), .val (.double h1), .second, .val (.double 0), .second, .val (.double d2), .second, .unset, .unset] [(.double (FP.dsub d1 g1))])) _
    rw [e3]
    show Steps p.tables e below (s₁.setTop (mkF m 42 #[.val (.ref ar), .val (.int (3 : Int32)), .val (.int (1 : Int32)), .val (.double h1), .second, .val (.double 0), .second, .val (.double d2), .second, .unset, .unset] [(.double l1)])) _
    refine XS.dstore X0.here hx rfl (hb hby d0_42) rfl (l' := #[.val (.ref ar), .val (.int (3 : Int32)), .val (.int (1 : Int32)), .val (.double h1), .second, .val (.double l1), .second, .val (.double d2), .second, .unset, .unset]) rfl ?_
    show Steps p.tables e below (s₁.setTop (mkF m 44 #[.val (.ref ar), .val (.int (3 : Int32)), .val (.int (1 : Int32)), .val (.double h1), .second, .val (.double l1), .second, .val (.double d2), .second, .unset, .unset] [])) _
    refine XS.dload X0.here hx rfl (hb hby d0_44) rfl ?_
    show Steps p.tables e below (s₁.setTop (mkF m 46 #[.val (.ref ar), .val (.int (3 : Int32)), .val (.int (1 : Int32)), .val (.double h1), .second, .val (.double l1), .second, .val (.double d2), .second, .unset, .unset] [(.double l1)])) _
    refine XS.dconst0 X0.here hx rfl (hb hby d0_46) (v := 0) rfl ?_
    show Steps p.tables e below (s₁.setTop (mkF m 47 #[.val (.ref ar), .val (.int (3 : Int32)), .val (.int (1 : Int32)), .val (.double h1), .second, .val (.double l1), .second, .val (.double d2), .second, .unset, .unset] [(.double 0), (.double l1)])) _
    refine XS.dcmpS X0.here hx rfl (hb hby d0_47) rfl rfl ?_
    show Steps p.tables e below (s₁.setTop (mkF m 48 #[.val (.ref ar), .val (.int (3 : Int32)), .val (.int (1 : Int32)), .val (.double h1), .second, .val (.double l1), .second, .val (.double d2), .second, .unset, .unset] [(.int (cmpValue (FP.dcmp l1 0) .l))])) _
    refine XS.ifYes X0.here hx rfl (pc0 := 48) (pc' := 54) rfl (hb hby d0_48) rfl ((if0 _ _).trans (teq hc48).1) (by decide) (by decide) ?_
    show Steps p.tables e below (s₁.setTop (mkF m 54 #[.val (.ref ar), .val (.int (3 : Int32)), .val (.int (1 : Int32)), .val (.double h1), .second, .val (.double l1), .second, .val (.double d2), .second, .unset, .unset] [])) _
    refine XS.goto X0.here hx rfl (pc0 := 54) (pc' := 17) rfl (hb hby d0_54) (by decide) (by decide) ?_
    show Steps p.tables e below (s₁.setTop (mkF m 17 #[.val (.ref ar), .val (.int (3 : Int32)), .val (.int (1 : Int32)), .val (.double h1), .second, .val (.double l1), .second, .val (.double d2), .second, .unset, .unset] [])) _
    refine XS.iloadN X0.here hx rfl (hb hby d0_17) rfl ?_
    show Steps p.tables e below (s₁.setTop (mkF m 18 #[.val (.ref ar), .val (.int (3 : Int32)), .val (.int (1 : Int32)), .val (.double h1), .second, .val (.double l1), .second, .val (.double d2), .second, .unset, .unset] [(.int (1 : Int32))])) _
    refine XS.ifNo X0.here hx rfl (hb hby d0_18) rfl ((if0 _ _).trans (tlt (by decide : (0 : Int32) < (1 : Int32))).2.2.2) ?_
    show Steps p.tables e below (s₁.setTop (mkF m 21 #[.val (.ref ar), .val (.int (3 : Int32)), .val (.int (1 : Int32)), .val (.double h1), .second, .val (.double l1), .second, .val (.double d2), .second, .unset, .unset] [])) _
    refine XS.iinc X0.here hx rfl (hb hby d0_21) rfl (l' := #[.val (.ref ar), .val (.int (3 : Int32)), .val (.int ((1 : Int32) + (-1 : Int32))), .val (.double h1), .second, .val (.double l1), .second, .val (.double d2), .second, .unset, .unset]) rfl ?_
    show Steps p.tables e below (s₁.setTop (mkF m 24 #[.val (.ref ar), .val (.int (3 : Int32)), .val (.int ((1 : Int32) + (-1 : Int32))), .val (.double h1), .second, .val (.double l1), .second, .val (.double d2), .second, .unset, .unset] [])) _
    rw [show ((1 : Int32) + (-1 : Int32)) = (0 : Int32) from by decide]
    show Steps p.tables e below (s₁.setTop (mkF m 24 #[.val (.ref ar), .val (.int (3 : Int32)), .val (.int (0 : Int32)), .val (.double h1), .second, .val (.double l1), .second, .val (.double d2), .second, .unset, .unset] [])) _
    refine XS.dloadN X0.here hx rfl (hb hby d0_24) rfl ?_
    show Steps p.tables e below (s₁.setTop (mkF m 25 #[.val (.ref ar), .val (.int (3 : Int32)), .val (.int (0 : Int32)), .val (.double h1), .second, .val (.double l1), .second, .val (.double d2), .second, .unset, .unset] [(.double h1)])) _
    refine XS.dstore X0.here hx rfl (hb hby d0_25) rfl (l' := #[.val (.ref ar), .val (.int (3 : Int32)), .val (.int (0 : Int32)), .val (.double h1), .second, .val (.double l1), .second, .val (.double h1), .second, .unset, .unset]) rfl ?_
    show Steps p.tables e below (s₁.setTop (mkF m 27 #[.val (.ref ar), .val (.int (3 : Int32)), .val (.int (0 : Int32)), .val (.double h1), .second, .val (.double l1), .second, .val (.double h1), .second, .unset, .unset] [])) _
    refine XS.dload X0.here hx rfl (hb hby d0_27) rfl ?_
    show Steps p.tables e below (s₁.setTop (mkF m 29 #[.val (.ref ar), .val (.int (3 : Int32)), .val (.int (0 : Int32)), .val (.double h1), .second, .val (.double l1), .second, .val (.double h1), .second, .unset, .unset] [(.double h1)])) _
    refine XS.aloadN X0.here hx rfl (hb hby d0_29) rfl rfl ?_
    show Steps p.tables e below (s₁.setTop (mkF m 30 #[.val (.ref ar), .val (.int (3 : Int32)), .val (.int (0 : Int32)), .val (.double h1), .second, .val (.double l1), .second, .val (.double h1), .second, .unset, .unset] [(.ref ar), (.double h1)])) _
    refine XS.iloadN X0.here hx rfl (hb hby d0_30) rfl ?_
    show Steps p.tables e below (s₁.setTop (mkF m 31 #[.val (.ref ar), .val (.int (3 : Int32)), .val (.int (0 : Int32)), .val (.double h1), .second, .val (.double l1), .second, .val (.double h1), .second, .unset, .unset] [(.int (0 : Int32)), (.ref ar), (.double h1)])) _
    refine X0.daload hx (j := (0 : Int32)) (v := (.double d0)) (by rw [e0]; exact Ar4.1) (State.isArrayOf_alike hZ.alike Ar4.2.1) Ar4.2.2 hin4 hat4 (g := (mkF m 31 #[.val (.ref ar), .val (.int (3 : Int32)), .val (.int (0 : Int32)), .val (.double h1), .second, .val (.double l1), .second, .val (.double h1), .second, .unset, .unset] [(.int (0 : Int32)), (.ref ar), (.double h1)])) rfl rfl (hb hby d0_31) _ ?_
    show Steps p.tables e below (s₁.setTop (mkF m 32 #[.val (.ref ar), .val (.int (3 : Int32)), .val (.int (0 : Int32)), .val (.double h1), .second, .val (.double l1), .second, .val (.double h1), .second, .unset, .unset] [(.double d0), (.double h1)])) _
    refine XS.daddS X0.here hx rfl (hb hby d0_32) rfl nn32_2 rfl ?_
    show Steps p.tables e below (s₁.setTop (mkF m 33 #[.val (.ref ar), .val (.int (3 : Int32)), .val (.int (0 : Int32)), .val (.double h1), .second, .val (.double l1), .second, .val (.double h1), .second, .unset, .unset] [(.double (FP.dadd h1 d0))])) _
    rw [e4]
    show Steps p.tables e below (s₁.setTop (mkF m 33 #[.val (.ref ar), .val (.int (3 : Int32)), .val (.int (0 : Int32)), .val (.double h1), .second, .val (.double l1), .second, .val (.double h1), .second, .unset, .unset] [(.double h2)])) _
    refine XS.dstoreN X0.here hx rfl (hb hby d0_33) rfl (l' := #[.val (.ref ar), .val (.int (3 : Int32)), .val (.int (0 : Int32)), .val (.double h2), .second, .val (.double l1), .second, .val (.double h1), .second, .unset, .unset]) rfl ?_
    show Steps p.tables e below (s₁.setTop (mkF m 34 #[.val (.ref ar), .val (.int (3 : Int32)), .val (.int (0 : Int32)), .val (.double h2), .second, .val (.double l1), .second, .val (.double h1), .second, .unset, .unset] [])) _
    refine XS.aloadN X0.here hx rfl (hb hby d0_34) rfl rfl ?_
    show Steps p.tables e below (s₁.setTop (mkF m 35 #[.val (.ref ar), .val (.int (3 : Int32)), .val (.int (0 : Int32)), .val (.double h2), .second, .val (.double l1), .second, .val (.double h1), .second, .unset, .unset] [(.ref ar)])) _
    refine XS.iloadN X0.here hx rfl (hb hby d0_35) rfl ?_
    show Steps p.tables e below (s₁.setTop (mkF m 36 #[.val (.ref ar), .val (.int (3 : Int32)), .val (.int (0 : Int32)), .val (.double h2), .second, .val (.double l1), .second, .val (.double h1), .second, .unset, .unset] [(.int (0 : Int32)), (.ref ar)])) _
    refine X0.daload hx (j := (0 : Int32)) (v := (.double d0)) (by rw [e0]; exact Ar5.1) (State.isArrayOf_alike hZ.alike Ar5.2.1) Ar5.2.2 hin5 hat5 (g := (mkF m 36 #[.val (.ref ar), .val (.int (3 : Int32)), .val (.int (0 : Int32)), .val (.double h2), .second, .val (.double l1), .second, .val (.double h1), .second, .unset, .unset] [(.int (0 : Int32)), (.ref ar)])) rfl rfl (hb hby d0_36) _ ?_
    show Steps p.tables e below (s₁.setTop (mkF m 37 #[.val (.ref ar), .val (.int (3 : Int32)), .val (.int (0 : Int32)), .val (.double h2), .second, .val (.double l1), .second, .val (.double h1), .second, .unset, .unset] [(.double d0)])) _
    refine XS.dloadN X0.here hx rfl (hb hby d0_37) rfl ?_
    show Steps p.tables e below (s₁.setTop (mkF m 38 #[.val (.ref ar), .val (.int (3 : Int32)), .val (.int (0 : Int32)), .val (.double h2), .second, .val (.double l1), .second, .val (.double h1), .second, .unset, .unset] [(.double h2), (.double d0)])) _
    refine XS.dload X0.here hx rfl (hb hby d0_38) rfl ?_
    show Steps p.tables e below (s₁.setTop (mkF m 40 #[.val (.ref ar), .val (.int (3 : Int32)), .val (.int (0 : Int32)), .val (.double h2), .second, .val (.double l1), .second, .val (.double h1), .second, .unset, .unset] [(.double h1), (.double h2), (.double d0)])) _
    refine XS.dsubS X0.here hx rfl (hb hby d0_40) rfl nn40_2 rfl ?_
    show Steps p.tables e below (s₁.setTop (mkF m 41 #[.val (.ref ar), .val (.int (3 : Int32)), .val (.int (0 : Int32)), .val (.double h2), .second, .val (.double l1), .second, .val (.double h1), .second, .unset, .unset] [(.double (FP.dsub h2 h1)), (.double d0)])) _
    rw [e5]
    show Steps p.tables e below (s₁.setTop (mkF m 41 #[.val (.ref ar), .val (.int (3 : Int32)), .val (.int (0 : Int32)), .val (.double h2), .second, .val (.double l1), .second, .val (.double h1), .second, .unset, .unset] [(.double g2), (.double d0)])) _
    refine XS.dsubS X0.here hx rfl (hb hby d0_41) rfl nn41_2 rfl ?_
    show Steps p.tables e below (s₁.setTop (mkF m 42 #[.val (.ref ar), .val (.int (3 : Int32)), .val (.int (0 : Int32)), .val (.double h2), .second, .val (.double l1), .second, .val (.double h1), .second, .unset, .unset] [(.double (FP.dsub d0 g2))])) _
    rw [e6]
    show Steps p.tables e below (s₁.setTop (mkF m 42 #[.val (.ref ar), .val (.int (3 : Int32)), .val (.int (0 : Int32)), .val (.double h2), .second, .val (.double l1), .second, .val (.double h1), .second, .unset, .unset] [(.double l2)])) _
    refine XS.dstore X0.here hx rfl (hb hby d0_42) rfl (l' := #[.val (.ref ar), .val (.int (3 : Int32)), .val (.int (0 : Int32)), .val (.double h2), .second, .val (.double l2), .second, .val (.double h1), .second, .unset, .unset]) rfl ?_
    show Steps p.tables e below (s₁.setTop (mkF m 44 #[.val (.ref ar), .val (.int (3 : Int32)), .val (.int (0 : Int32)), .val (.double h2), .second, .val (.double l2), .second, .val (.double h1), .second, .unset, .unset] [])) _
    refine XS.dload X0.here hx rfl (hb hby d0_44) rfl ?_
    show Steps p.tables e below (s₁.setTop (mkF m 46 #[.val (.ref ar), .val (.int (3 : Int32)), .val (.int (0 : Int32)), .val (.double h2), .second, .val (.double l2), .second, .val (.double h1), .second, .unset, .unset] [(.double l2)])) _
    refine XS.dconst0 X0.here hx rfl (hb hby d0_46) (v := 0) rfl ?_
    show Steps p.tables e below (s₁.setTop (mkF m 47 #[.val (.ref ar), .val (.int (3 : Int32)), .val (.int (0 : Int32)), .val (.double h2), .second, .val (.double l2), .second, .val (.double h1), .second, .unset, .unset] [(.double 0), (.double l2)])) _
    refine XS.dcmpS X0.here hx rfl (hb hby d0_47) rfl rfl ?_
    show Steps p.tables e below (s₁.setTop (mkF m 48 #[.val (.ref ar), .val (.int (3 : Int32)), .val (.int (0 : Int32)), .val (.double h2), .second, .val (.double l2), .second, .val (.double h1), .second, .unset, .unset] [(.int (cmpValue (FP.dcmp l2 0) .l))])) _
    refine XS.ifNo X0.here hx rfl (hb hby d0_48) rfl ((if0 _ _).trans (feq hc48_2).1) ?_
    show Steps p.tables e below (s₁.setTop (mkF m 51 #[.val (.ref ar), .val (.int (3 : Int32)), .val (.int (0 : Int32)), .val (.double h2), .second, .val (.double l2), .second, .val (.double h1), .second, .unset, .unset] [])) _
    refine XS.goto X0.here hx rfl (pc0 := 51) (pc' := 57) rfl (hb hby d0_51) (by decide) (by decide) ?_
    show Steps p.tables e below (s₁.setTop (mkF m 57 #[.val (.ref ar), .val (.int (3 : Int32)), .val (.int (0 : Int32)), .val (.double h2), .second, .val (.double l2), .second, .val (.double h1), .second, .unset, .unset] [])) _
    refine XS.iloadN X0.here hx rfl (hb hby d0_57) rfl ?_
    show Steps p.tables e below (s₁.setTop (mkF m 58 #[.val (.ref ar), .val (.int (3 : Int32)), .val (.int (0 : Int32)), .val (.double h2), .second, .val (.double l2), .second, .val (.double h1), .second, .unset, .unset] [(.int (0 : Int32))])) _
    refine XS.ifYes X0.here hx rfl (pc0 := 58) (pc' := 118) rfl (hb hby d0_58) rfl ((if0 _ _).trans (flt (by decide : ¬ ((0 : Int32) < (0 : Int32)))).2.2.2) (by decide) (by decide) ?_
    show Steps p.tables e below (s₁.setTop (mkF m 118 #[.val (.ref ar), .val (.int (3 : Int32)), .val (.int (0 : Int32)), .val (.double h2), .second, .val (.double l2), .second, .val (.double h1), .second, .unset, .unset] [])) _
    refine XS.dloadN X0.here hx rfl (hb hby d0_118) rfl ?_
    show Steps p.tables e below (s₁.setTop (mkF m 119 #[.val (.ref ar), .val (.int (3 : Int32)), .val (.int (0 : Int32)), .val (.double h2), .second, .val (.double l2), .second, .val (.double h1), .second, .unset, .unset] [(.double h2)])) _
    exact retOut X0 hx Bd.returns rfl (Or.inr (Or.inr (Or.inl ⟨rfl, rfl, _, rfl⟩))) (hb hby d0_119) hr
  · show Q_rd3tf Z ar ka d0 d1 d2 d3 h1 g1 l1 h2 g2 l2 h0 n0 _ s₁.heap _
    rw [e0]
    exact ⟨rfl, N0, rfl⟩
theorem d0_61 : decode prog_28_method_5_code 61 = .ok (.dload 5, 2) := by decide +kernel
theorem d0_63 : decode prog_28_method_5_code 63 = .ok (.dconst 0, 1) := by decide +kernel
theorem d0_64 : decode prog_28_method_5_code 64 = .ok (.dcmp .g, 1) := by decide +kernel
theorem d0_65 : decode prog_28_method_5_code 65 = .ok (.ifCond .ge 7, 3) := by decide +kernel
theorem d0_68 : decode prog_28_method_5_code 68 = .ok (.iconst 1, 1) := by decide +kernel
theorem d0_69 : decode prog_28_method_5_code 69 = .ok (.goto 4, 3) := by decide +kernel
theorem d0_73 : decode prog_28_method_5_code 73 = .ok (.aload_n 0, 1) := by decide +kernel
theorem d0_74 : decode prog_28_method_5_code 74 = .ok (.iload_n 2, 1) := by decide +kernel
theorem d0_75 : decode prog_28_method_5_code 75 = .ok (.iconst 1, 1) := by decide +kernel
theorem d0_76 : decode prog_28_method_5_code 76 = .ok (.isub, 1) := by decide +kernel
theorem d0_77 : decode prog_28_method_5_code 77 = .ok (.daload, 1) := by decide +kernel
theorem d0_78 : decode prog_28_method_5_code 78 = .ok (.dconst 0, 1) := by decide +kernel
theorem d0_79 : decode prog_28_method_5_code 79 = .ok (.dcmp .g, 1) := by decide +kernel
theorem d0_80 : decode prog_28_method_5_code 80 = .ok (.ifCond .ge 7, 3) := by decide +kernel
theorem d0_83 : decode prog_28_method_5_code 83 = .ok (.iconst 1, 1) := by decide +kernel
theorem d0_84 : decode prog_28_method_5_code 84 = .ok (.goto 4, 3) := by decide +kernel
theorem d0_88 : decode prog_28_method_5_code 88 = .ok (.if_icmp .ne 30, 3) := by decide +kernel
theorem d0_91 : decode prog_28_method_5_code 91 = .ok (.dload 5, 2) := by decide +kernel
theorem d0_93 : decode prog_28_method_5_code 93 = .ok (.ldc2_w 23, 3) := by decide +kernel
theorem d0_96 : decode prog_28_method_5_code 96 = .ok (.dmul, 1) := by decide +kernel
theorem d0_97 : decode prog_28_method_5_code 97 = .ok (.dstore 7, 2) := by decide +kernel
theorem d0_99 : decode prog_28_method_5_code 99 = .ok (.dload_n 3, 1) := by decide +kernel
theorem d0_100 : decode prog_28_method_5_code 100 = .ok (.dload 7, 2) := by decide +kernel
theorem d0_102 : decode prog_28_method_5_code 102 = .ok (.dadd, 1) := by decide +kernel
theorem d0_103 : decode prog_28_method_5_code 103 = .ok (.dstore 9, 2) := by decide +kernel
theorem d0_105 : decode prog_28_method_5_code 105 = .ok (.dload 9, 2) := by decide +kernel
theorem d0_107 : decode prog_28_method_5_code 107 = .ok (.dload_n 3, 1) := by decide +kernel
theorem d0_108 : decode prog_28_method_5_code 108 = .ok (.dsub, 1) := by decide +kernel
theorem d0_109 : decode prog_28_method_5_code 109 = .ok (.dload 7, 2) := by decide +kernel
theorem d0_111 : decode prog_28_method_5_code 111 = .ok (.dcmp .l, 1) := by decide +kernel
theorem d0_112 : decode prog_28_method_5_code 112 = .ok (.ifCond .ne 6, 3) := by decide +kernel
theorem d0_115 : decode prog_28_method_5_code 115 = .ok (.dload 9, 2) := by decide +kernel
theorem d0_117 : decode prog_28_method_5_code 117 = .ok (.dstore_n 3, 1) := by decide +kernel
def Q_rd3ffff (Z : State) (ar : Addr) (ka : ClassId) (d0 : UInt64) (d1 : UInt64) (d2 : UInt64) (d3 : UInt64) (h1 : UInt64) (g1 : UInt64) (l1 : UInt64) (y1 : UInt64) (x1 : UInt64) (z1 : UInt64) (h0 : Heap) (n0 : Nat) (v : Option Value) (h : Heap) (L : List Loc) : Prop := v = some (.double x1) ∧ Fr n0 L ∧ h = h0
theorem ef_rd3ffff (m : MethodId) (ar : Addr) : entryFrame m #[(.ref ar), (.int (3 : Int32))] 11 = mkF m 0 #[.val (.ref ar), .val (.int (3 : Int32)), .unset, .unset, .unset, .unset, .unset, .unset, .unset, .unset, .unset] [] := by first | (simp [entryFrame, mkF, argsToLocals, Value.category]; done) | rfl
set_option maxRecDepth 65536 in
set_option maxHeartbeats 40000000 in
theorem rd3ffff (l : Launch) (Z : State) (a0 : Array Value) (hw : ∀ d ∈ tables_1, d.before a0 Z = true) (ws : List Jvm.Cond) (ar : Addr) (ka : ClassId) (d0 : UInt64) (d1 : UInt64) (d2 : UInt64) (d3 : UInt64) (h1 : UInt64) (g1 : UInt64) (l1 : UInt64) (y1 : UInt64) (x1 : UInt64) (z1 : UInt64) (h0 : Heap) (n0 : Nat) (Z0 : n0 ≤ h0.size) (V_ar : Arv Z h0 ar ka .double (4 : Int32) [(.double d0), (.double d1), (.double d2), (.double d3)] (.double 0)) (e1 : FP.dadd d2 d1 = h1) (e2 : FP.dsub h1 d2 = g1) (e3 : FP.dsub d1 g1 = l1) (e4 : FP.dmul l1 4611686018427387904 = y1) (e5 : FP.dadd h1 y1 = x1) (e6 : FP.dsub x1 h1 = z1) (nn32 : NoNaN64 (FP.dadd d2 d1)) (nn40 : NoNaN64 (FP.dsub h1 d2)) (nn41 : NoNaN64 (FP.dsub d1 g1)) (hc48 : ¬ ((cmpValue (FP.dcmp l1 0) .l) = (0 : Int32))) (hc65 : (cmpValue (FP.dcmp l1 0) .g) < (0 : Int32)) (hc80 : (cmpValue (FP.dcmp d0 0) .g) < (0 : Int32)) (nn96 : NoNaN64 (FP.dmul l1 4611686018427387904)) (nn102 : NoNaN64 (FP.dadd h1 y1)) (nn108 : NoNaN64 (FP.dsub x1 h1)) (hc112 : (cmpValue (FP.dcmp z1 y1) .l) = (0 : Int32)) :
    MetFree l (⟨"com/example/crestwatch/crestwatch/core/ExactSum", "rounded", "([DI)D"⟩ : MethodName) (head1 (Jvm.Cond.code (⟨"com/example/crestwatch/crestwatch/core/ExactSum", "rounded", "([DI)D"⟩ : MethodName) prog_28_method_5_code 11 (some .double) :: ws) ({ frames := 0, cells := 0, slots := 0, locals := 0 } : Room)) (fun a U => a = #[(.ref ar), (.int (3 : Int32))] ∧ Z.Warmed39 U.vm ∧ U.heap = h0) (fun _ _ _ _ _ => True) (fun _ U o U' => ∃ v L, o = .returned v ∧ Q_rd3ffff Z ar ka d0 d1 d2 d3 h1 g1 l1 y1 x1 z1 h0 n0 v U'.heap L ∧ FrameEnd U o U' L ({ frames := 0, cells := 0, slots := 0, locals := 0 } : Room).cells ({ frames := 0, cells := 0, slots := 0, locals := 0 } : Room).slots) := by
  refine MetFree.of_bodySF (plainFor_of_name pn_0) hisR ?_
  intro p e s m args below meth c s₁ Bd hml0 hP hK
  obtain ⟨rfl, hZ, hh⟩ := hP
  have hx := Bd.exec
  have hby := Bd.bytes
  have hml : c.maxLocals = 11 := hml0
  have hown : s.vm.findClass "com/example/crestwatch/crestwatch/core/ExactSum" = some m.cls := findClass_of_methodNamed Bd.named
  have hnm := (name_of_methodNamed Bd.named Bd.method).1
  have X0 : Stand p l e ({ frames := 0, cells := 0, slots := 0, locals := 0 } : Room) s m #[(.ref ar), (.int (3 : Int32))] below meth c s₁ [] 0 0 := Stand.of_body Bd
  have e0 : s₁.heap = h0 := by rw [← hh, Bd.state]; rfl
  have N0 := Fr.nil n0
  have pre0 : ∀ t, Steps p.tables e below (s₁.setTop (mkF m 0 #[.val (.ref ar), .val (.int (3 : Int32)), .unset, .unset, .unset, .unset, .unset, .unset, .unset, .unset, .unset] [])) t → Steps p.tables e below (s₁.setTop (entryFrame m #[(.ref ar), (.int (3 : Int32))] 11)) t := fun t k => castTop (ef_rd3ffff m ar) k
  have Vc1 := V_ar
  obtain ⟨cl1, Ar1, q1, S1, M1, H1, G1⟩ := Vc1
  have hin1 : ¬ ((2 : Int32) < 0 ∨ cl1.slots.size ≤ ((2 : Int32)).toNatClampNeg) := inb_of S1 ⟨by decide, by decide⟩
  have hat1 : cl1.slots[((2 : Int32)).toNatClampNeg]? = some (.double d2) := Has.at H1 hin1 rfl
  have Vc2 := V_ar
  obtain ⟨cl2, Ar2, q2, S2, M2, H2, G2⟩ := Vc2
  have hin2 : ¬ ((1 : Int32) < 0 ∨ cl2.slots.size ≤ ((1 : Int32)).toNatClampNeg) := inb_of S2 ⟨by decide, by decide⟩
  have hat2 : cl2.slots[((1 : Int32)).toNatClampNeg]? = some (.double d1) := Has.at H2 hin2 rfl
  have Vc3 := V_ar
  obtain ⟨cl3, Ar3, q3, S3, M3, H3, G3⟩ := Vc3
  have hin3 : ¬ ((1 : Int32) < 0 ∨ cl3.slots.size ≤ ((1 : Int32)).toNatClampNeg) := inb_of S3 ⟨by decide, by decide⟩
  have hat3 : cl3.slots[((1 : Int32)).toNatClampNeg]? = some (.double d1) := Has.at H3 hin3 rfl
  have Vc4 := V_ar
  obtain ⟨cl4, Ar4, q4, S4, M4, H4, G4⟩ := Vc4
  have hin4 : ¬ ((0 : Int32) < 0 ∨ cl4.slots.size ≤ ((0 : Int32)).toNatClampNeg) := inb_of S4 ⟨by decide, by decide⟩
  have hat4 : cl4.slots[((0 : Int32)).toNatClampNeg]? = some (.double d0) := Has.at H4 hin4 rfl
  obtain ⟨fs, hr, hrun, hended, hW, hsame⟩ := X0.leave (v := some (.double x1)) (fun h => by rw [Bd.returns] at h; cases h)
  refine ⟨_, _, pre0 _ ?_, hrun, hended, _, _, rfl, ?_, ⟨_, rfl⟩, hW, hsame.mono (by decide) (by decide)⟩
  · show Steps p.tables e below (s₁.setTop (mkF m 0 #[.val (.ref ar), .val (.int (3 : Int32)), .unset, .unset, .unset, .unset, .unset, .unset, .unset, .unset, .unset] [])) _
    refine XS.iloadN X0.here hx rfl (hb hby d0_0) rfl ?_
    show Steps p.tables e below (s₁.setTop (mkF m 1 #[.val (.ref ar), .val (.int (3 : Int32)), .unset, .unset, .unset, .unset, .unset, .unset, .unset, .unset, .unset] [(.int (3 : Int32))])) _
    refine XS.ifYes X0.here hx rfl (pc0 := 1) (pc' := 6) rfl (hb hby d0_1) rfl ((if0 _ _).trans (feq (by decide : ¬ ((3 : Int32) = (0 : Int32)))).2) (by decide) (by decide) ?_
    show Steps p.tables e below (s₁.setTop (mkF m 6 #[.val (.ref ar), .val (.int (3 : Int32)), .unset, .unset, .unset, .unset, .unset, .unset, .unset, .unset, .unset] [])) _
    refine XS.iloadN X0.here hx rfl (hb hby d0_6) rfl ?_
    show Steps p.tables e below (s₁.setTop (mkF m 7 #[.val (.ref ar), .val (.int (3 : Int32)), .unset, .unset, .unset, .unset, .unset, .unset, .unset, .unset, .unset] [(.int (3 : Int32))])) _
    refine XS.iconst X0.here hx rfl (hb hby d0_7) ?_
    show Steps p.tables e below (s₁.setTop (mkF m 8 #[.val (.ref ar), .val (.int (3 : Int32)), .unset, .unset, .unset, .unset, .unset, .unset, .unset, .unset, .unset] [(.int (1 : Int32)), (.int (3 : Int32))])) _
    refine XS.isub X0.here hx rfl (hb hby d0_8) rfl ?_
    show Steps p.tables e below (s₁.setTop (mkF m 9 #[.val (.ref ar), .val (.int (3 : Int32)), .unset, .unset, .unset, .unset, .unset, .unset, .unset, .unset, .unset] [(.int ((3 : Int32) - (1 : Int32)))])) _
    rw [show ((3 : Int32) - (1 : Int32)) = (2 : Int32) from by decide]
    show Steps p.tables e below (s₁.setTop (mkF m 9 #[.val (.ref ar), .val (.int (3 : Int32)), .unset, .unset, .unset, .unset, .unset, .unset, .unset, .unset, .unset] [(.int (2 : Int32))])) _
    refine XS.istoreN X0.here hx rfl (hb hby d0_9) rfl (l' := #[.val (.ref ar), .val (.int (3 : Int32)), .val (.int (2 : Int32)), .unset, .unset, .unset, .unset, .unset, .unset, .unset, .unset]) rfl ?_
    show Steps p.tables e below (s₁.setTop (mkF m 10 #[.val (.ref ar), .val (.int (3 : Int32)), .val (.int (2 : Int32)), .unset, .unset, .unset, .unset, .unset, .unset, .unset, .unset] [])) _
    refine XS.aloadN X0.here hx rfl (hb hby d0_10) rfl rfl ?_
    show Steps p.tables e below (s₁.setTop (mkF m 11 #[.val (.ref ar), .val (.int (3 : Int32)), .val (.int (2 : Int32)), .unset, .unset, .unset, .unset, .unset, .unset, .unset, .unset] [(.ref ar)])) _
    refine XS.iloadN X0.here hx rfl (hb hby d0_11) rfl ?_
    show Steps p.tables e below (s₁.setTop (mkF m 12 #[.val (.ref ar), .val (.int (3 : Int32)), .val (.int (2 : Int32)), .unset, .unset, .unset, .unset, .unset, .unset, .unset, .unset] [(.int (2 : Int32)), (.ref ar)])) _
    refine X0.daload hx (j := (2 : Int32)) (v := (.double d2)) (by rw [e0]; exact Ar1.1) (State.isArrayOf_alike hZ.alike Ar1.2.1) Ar1.2.2 hin1 hat1 (g := (mkF m 12 #[.val (.ref ar), .val (.int (3 : Int32)), .val (.int (2 : Int32)), .unset, .unset, .unset, .unset, .unset, .unset, .unset, .unset] [(.int (2 : Int32)), (.ref ar)])) rfl rfl (hb hby d0_12) _ ?_
    show Steps p.tables e below (s₁.setTop (mkF m 13 #[.val (.ref ar), .val (.int (3 : Int32)), .val (.int (2 : Int32)), .unset, .unset, .unset, .unset, .unset, .unset, .unset, .unset] [(.double d2)])) _
    refine XS.dstoreN X0.here hx rfl (hb hby d0_13) rfl (l' := #[.val (.ref ar), .val (.int (3 : Int32)), .val (.int (2 : Int32)), .val (.double d2), .second, .unset, .unset, .unset, .unset, .unset, .unset]) rfl ?_
    show Steps p.tables e below (s₁.setTop (mkF m 14 #[.val (.ref ar), .val (.int (3 : Int32)), .val (.int (2 : Int32)), .val (.double d2), .second, .unset, .unset, .unset, .unset, .unset, .unset] [])) _
    refine XS.dconst0 X0.here hx rfl (hb hby d0_14) (v := 0) rfl ?_
    show Steps p.tables e below (s₁.setTop (mkF m 15 #[.val (.ref ar), .val (.int (3 : Int32)), .val (.int (2 : Int32)), .val (.double d2), .second, .unset, .unset, .unset, .unset, .unset, .unset] [(.double 0)])) _
    refine XS.dstore X0.here hx rfl (hb hby d0_15) rfl (l' := #[.val (.ref ar), .val (.int (3 : Int32)), .val (.int (2 : Int32)), .val (.double d2), .second, .val (.double 0), .second, .unset, .unset, .unset, .unset]) rfl ?_
    show Steps p.tables e below (s₁.setTop (mkF m 17 #[.val (.ref ar), .val (.int (3 : Int32)), .val (.int (2 : Int32)), .val (.double d2), .second, .val (.double 0), .second, .unset, .unset, .unset, .unset] [])) _
    refine XS.iloadN X0.here hx rfl (hb hby d0_17) rfl ?_
    show Steps p.tables e below (s₁.setTop (mkF m 18 #[.val (.ref ar), .val (.int (3 : Int32)), .val (.int (2 : Int32)), .val (.double d2), .second, .val (.double 0), .second, .unset, .unset, .unset, .unset] [(.int (2 : Int32))])) _
    refine XS.ifNo X0.here hx rfl (hb hby d0_18) rfl ((if0 _ _).trans (tlt (by decide : (0 : Int32) < (2 : Int32))).2.2.2) ?_
    show Steps p.tables e below (s₁.setTop (mkF m 21 #[.val (.ref ar), .val (.int (3 : Int32)), .val (.int (2 : Int32)), .val (.double d2), .second, .val (.double 0), .second, .unset, .unset, .unset, .unset] [])) _
    refine XS.iinc X0.here hx rfl (hb hby d0_21) rfl (l' := #[.val (.ref ar), .val (.int (3 : Int32)), .val (.int ((2 : Int32) + (-1 : Int32))), .val (.double d2), .second, .val (.double 0), .second, .unset, .unset, .unset, .unset]) rfl ?_
    show Steps p.tables e below (s₁.setTop (mkF m 24 #[.val (.ref ar), .val (.int (3 : Int32)), .val (.int ((2 : Int32) + (-1 : Int32))), .val (.double d2), .second, .val (.double 0), .second, .unset, .unset, .unset, .unset] [])) _
    rw [show ((2 : Int32) + (-1 : Int32)) = (1 : Int32) from by decide]
    show Steps p.tables e below (s₁.setTop (mkF m 24 #[.val (.ref ar), .val (.int (3 : Int32)), .val (.int (1 : Int32)), .val (.double d2), .second, .val (.double 0), .second, .unset, .unset, .unset, .unset] [])) _
    refine XS.dloadN X0.here hx rfl (hb hby d0_24) rfl ?_
    show Steps p.tables e below (s₁.setTop (mkF m 25 #[.val (.ref ar), .val (.int (3 : Int32)), .val (.int (1 : Int32)), .val (.double d2), .second, .val (.double 0), .second, .unset, .unset, .unset, .unset] [(.double d2)])) _
    refine XS.dstore X0.here hx rfl (hb hby d0_25) rfl (l' := #[.val (.ref ar), .val (.int (3 : Int32)), .val (.int (1 : Int32)), .val (.double d2), .second, .val (.double 0), .second, .val (.double d2), .second, .unset, .unset]) rfl ?_
    show Steps p.tables e below (s₁.setTop (mkF m 27 #[.val (.ref ar), .val (.int (3 : Int32)), .val (.int (1 : Int32)), .val (.double d2), .second, .val (.double 0), .second, .val (.double d2), .second, .unset, .unset] [])) _
    refine XS.dload X0.here hx rfl (hb hby d0_27) rfl ?_
    show Steps p.tables e below (s₁.setTop (mkF m 29 #[.val (.ref ar), .val (.int (3 : Int32)), .val (.int (1 : Int32)), .val (.double d2), .second, .val (.double 0), .second, .val (.double d2), .second, .unset, .unset] [(.double d2)])) _
    refine XS.aloadN X0.here hx rfl (hb hby d0_29) rfl rfl ?_
    show Steps p.tables e below (s₁.setTop (mkF m 30 #[.val (.ref ar), .val (.int (3 : Int32)), .val (.int (1 : Int32)), .val (.double d2), .second, .val (.double 0), .second, .val (.double d2), .second, .unset, .unset] [(.ref ar), (.double d2)])) _
    refine XS.iloadN X0.here hx rfl (hb hby d0_30) rfl ?_
    show Steps p.tables e below (s₁.setTop (mkF m 31 #[.val (.ref ar), .val (.int (3 : Int32)), .val (.int (1 : Int32)), .val (.double d2), .second, .val (.double 0), .second, .val (.double d2), .second, .unset, .unset] [(.int (1 : Int32)), (.ref ar), (.double d2)])) _
    refine X0.daload hx (j := (1 : Int32)) (v := (.double d1)) (by rw [e0]; exact Ar2.1) (State.isArrayOf_alike hZ.alike Ar2.2.1) Ar2.2.2 hin2 hat2 (g := (mkF m 31 #[.val (.ref ar), .val (.int (3 : Int32)), .val (.int (1 : Int32)), .val (.double d2), .second, .val (.double 0), .second, .val (.double d2), .second, .unset, .unset] [(.int (1 : Int32)), (.ref ar), (.double d2)])) rfl rfl (hb hby d0_31) _ ?_
    show Steps p.tables e below (s₁.setTop (mkF m 32 #[.val (.ref ar), .val (.int (3 : Int32)), .val (.int (1 : Int32)), .val (.double d2), .second, .val (.double 0), .second, .val (.double d2), .second, .unset, .unset] [(.double d1), (.double d2)])) _
    refine XS.daddS X0.here hx rfl (hb hby d0_32) rfl nn32 rfl ?_
    show Steps p.tables e below (s₁.setTop (mkF m 33 #[.val (.ref ar), .val (.int (3 : Int32)), .val (.int (1 : Int32)), .val (.double d2), .second, .val (.double 0), .second, .val (.double d2), .second, .unset, .unset] [(.double (FP.dadd d2 d1))])) _
    rw [e1]
    show Steps p.tables e below (s₁.setTop (mkF m 33 #[.val (.ref ar), .val (.int (3 : Int32)), .val (.int (1 : Int32)), .val (.double d2), .second, .val (.double 0), .second, .val (.double d2), .second, .unset, .unset] [(.double h1)])) _
    refine XS.dstoreN X0.here hx rfl (hb hby d0_33) rfl (l' := #[.val (.ref ar), .val (.int (3 : Int32)), .val (.int (1 : Int32)), .val (.double h1), .second, .val (.double 0), .second, .val (.double d2), .second, .unset, .unset]) rfl ?_
    show Steps p.tables e below (s₁.setTop (mkF m 34 #[.val (.ref ar), .val (.int (3 : Int32)), .val (.int (1 : Int32)), .val (.double h1), .second, .val (.double 0), .second, .val (.double d2), .second, .unset, .unset] [])) _
    refine XS.aloadN X0.here hx rfl (hb hby d0_34) rfl rfl ?_
    show Steps p.tables e below (s₁.setTop (mkF m 35 #[.val (.ref ar), .val (.int (3 : Int32)), .val (.int (1 : Int32)), .val (.double h1), .second, .val (.double 0), .second, .val (.double d2), .second, .unset, .unset] [(.ref ar)])) _
    refine XS.iloadN X0.here hx rfl (hb hby d0_35) rfl ?_
    show Steps p.tables e below (s₁.setTop (mkF m 36 #[.val (.ref ar), .val (.int (3 : Int32)), .val (.int (1 : Int32)), .val (.double h1), .second, .val (.double 0), .second, .val (.double d2), .second, .unset, .unset] [(.int (1 : Int32)), (.ref ar)])) _
    refine X0.daload hx (j := (1 : Int32)) (v := (.double d1)) (by rw [e0]; exact Ar3.1) (State.isArrayOf_alike hZ.alike Ar3.2.1) Ar3.2.2 hin3 hat3 (g := (mkF m 36 #[.val (.ref ar), .val (.int (3 : Int32)), .val (.int (1 : Int32)), .val (.double h1), .second, .val (.double 0), .second, .val (.double d2), .second, .unset, .unset] [(.int (1 : Int32)), (.ref ar)])) rfl rfl (hb hby d0_36) _ ?_
    show Steps p.tables e below (s₁.setTop (mkF m 37 #[.val (.ref ar), .val (.int (3 : Int32)), .val (.int (1 : Int32)), .val (.double h1), .second, .val (.double 0), .second, .val (.double d2), .second, .unset, .unset] [(.double d1)])) _
    refine XS.dloadN X0.here hx rfl (hb hby d0_37) rfl ?_
    show Steps p.tables e below (s₁.setTop (mkF m 38 #[.val (.ref ar), .val (.int (3 : Int32)), .val (.int (1 : Int32)), .val (.double h1), .second, .val (.double 0), .second, .val (.double d2), .second, .unset, .unset] [(.double h1), (.double d1)])) _
    refine XS.dload X0.here hx rfl (hb hby d0_38) rfl ?_
    show Steps p.tables e below (s₁.setTop (mkF m 40 #[.val (.ref ar), .val (.int (3 : Int32)), .val (.int (1 : Int32)), .val (.double h1), .second, .val (.double 0), .second, .val (.double d2), .second, .unset, .unset] [(.double d2), (.double h1), (.double d1)])) _
    refine XS.dsubS X0.here hx rfl (hb hby d0_40) rfl nn40 rfl ?_
    show Steps p.tables e below (s₁.setTop (mkF m 41 #[.val (.ref ar), .val (.int (3 : Int32)), .val (.int (1 : Int32)), .val (.double h1), .second, .val (.double 0), .second, .val (.double d2), .second, .unset, .unset] [(.double (FP.dsub h1 d2)), (.double d1)])) _
    rw [e2]
    show Steps p.tables e below (s₁.setTop (mkF m 41 #[.val (.ref ar), .val (.int (3 : Int32)), .val (.int (1 : Int32)), .val (.double h1), .second, .val (.double 0), .second, .val (.double d2), .second, .unset, .unset] [(.double g1), (.double d1)])) _
    refine XS.dsubS X0.here hx rfl (hb hby d0_41) rfl nn41 rfl ?_
    show Steps p.tables e below (s₁.setTop (mkF m 42 #[.val (.ref ar), .val (.int (3 : Int32)), .val (.int (1 : Int32)), .val (.double h1), .second, .val (.double 0), .second, .val (.double d2), .second, .unset, .unset] [(.double (FP.dsub d1 g1))])) _
    rw [e3]
    show Steps p.tables e below (s₁.setTop (mkF m 42 #[.val (.ref ar), .val (.int (3 : Int32)), .val (.int (1 : Int32)), .val (.double h1), .second, .val (.double 0), .second, .val (.double d2), .second, .unset, .unset] [(.double l1)])) _
    refine XS.dstore X0.here hx rfl (hb hby d0_42) rfl (l' := #[.val (.ref ar), .val (.int (3 : Int32)), .val (.int (1 : Int32)), .val (.double h1), .second, .val (.double l1), .second, .val (.double d2), .second, .unset, .unset]) rfl ?_
    show Steps p.tables e below (s₁.setTop (mkF m 44 #[.val (.ref ar), .val (.int (3 : Int32)), .val (.int (1 : Int32)), .val (.double h1), .second, .val (.double l1), .second, .val (.double d2), .second, .unset, .unset] [])) _
    refine XS.dload X0.here hx rfl (hb hby d0_44) rfl ?_
    show Steps p.tables e below (s₁.setTop (mkF m 46 #[.val (.ref ar), .val (.int (3 : Int32)), .val (.int (1 : Int32)), .val (.double h1), .second, .val (.double l1), .second, .val (.double d2), .second, .unset, .unset] [(.double l1)])) _
    refine XS.dconst0 X0.here hx rfl (hb hby d0_46) (v := 0) rfl ?_
    show Steps p.tables e below (s₁.setTop (mkF m 47 #[.val (.ref ar), .val (.int (3 : Int32)), .val (.int (1 : Int32)), .val (.double h1), .second, .val (.double l1), .second, .val (.double d2), .second, .unset, .unset] [(.double 0), (.double l1)])) _
    refine XS.dcmpS X0.here hx rfl (hb hby d0_47) rfl rfl ?_
    show Steps p.tables e below (s₁.setTop (mkF m 48 #[.val (.ref ar), .val (.int (3 : Int32)), .val (.int (1 : Int32)), .val (.double h1), .second, .val (.double l1), .second, .val (.double d2), .second, .unset, .unset] [(.int (cmpValue (FP.dcmp l1 0) .l))])) _
    refine XS.ifNo X0.here hx rfl (hb hby d0_48) rfl ((if0 _ _).trans (feq hc48).1) ?_
    show Steps p.tables e below (s₁.setTop (mkF m 51 #[.val (.ref ar), .val (.int (3 : Int32)), .val (.int (1 : Int32)), .val (.double h1), .second, .val (.double l1), .second, .val (.double d2), .second, .unset, .unset] [])) _
    refine XS.goto X0.here hx rfl (pc0 := 51) (pc' := 57) rfl (hb hby d0_51) (by decide) (by decide) ?_
    show Steps p.tables e below (s₁.setTop (mkF m 57 #[.val (.ref ar), .val (.int (3 : Int32)), .val (.int (1 : Int32)), .val (.double h1), .second, .val (.double l1), .second, .val (.double d2), .second, .unset, .unset] [])) _
    refine XS.iloadN X0.here hx rfl (hb hby d0_57) rfl ?_
    show Steps p.tables e below (s₁.setTop (mkF m 58 #[.val (.ref ar), .val (.int (3 : Int32)), .val (.int (1 : Int32)), .val (.double h1), .second, .val (.double l1), .second, .val (.double d2), .second, .unset, .unset] [(.int (1 : Int32))])) _
    refine XS.ifNo X0.here hx rfl (hb hby d0_58) rfl ((if0 _ _).trans (tlt (by decide : (0 : Int32) < (1 : Int32))).2.2.2) ?_
    show Steps p.tables e below (s₁.setTop (mkF m 61 #[.val (.ref ar), .val (.int (3 : Int32)), .val (.int (1 : Int32)), .val (.double h1), .second, .val (.double l1), .second, .val (.double d2), .second, .unset, .unset] [])) _
    refine XS.dload X0.here hx rfl (hb hby d0_61) rfl ?_
    show Steps p.tables e below (s₁.setTop (mkF m 63 #[.val (.ref ar), .val (.int (3 : Int32)), .val (.int (1 : Int32)), .val (.double h1), .second, .val (.double l1), .second, .val (.double d2), .second, .unset, .unset] [(.double l1)])) _
    refine XS.dconst0 X0.here hx rfl (hb hby d0_63) (v := 0) rfl ?_
    show Steps p.tables e below (s₁.setTop (mkF m 64 #[.val (.ref ar), .val (.int (3 : Int32)), .val (.int (1 : Int32)), .val (.double h1), .second, .val (.double l1), .second, .val (.double d2), .second, .unset, .unset] [(.double 0), (.double l1)])) _
    refine XS.dcmpS X0.here hx rfl (hb hby d0_64) rfl rfl ?_
    show Steps p.tables e below (s₁.setTop (mkF m 65 #[.val (.ref ar), .val (.int (3 : Int32)), .val (.int (1 : Int32)), .val (.double h1), .second, .val (.double l1), .second, .val (.double d2), .second, .unset, .unset] [(.int (cmpValue (FP.dcmp l1 0) .g))])) _
    refine XS.ifNo X0.here hx rfl (hb hby d0_65) rfl ((if0 _ _).trans (tlt hc65).2.1) ?_
    show Steps p.tables e below (s₁.setTop (mkF m 68 #[.val (.ref ar), .val (.int (3 : Int32)), .val (.int (1 : Int32)), .val (.double h1), .second, .val (.double l1), .second, .val (.double d2), .second, .unset, .unset] [])) _
    refine XS.iconst X0.here hx rfl (hb hby d0_68) ?_
    show Steps p.tables e below (s₁.setTop (mkF m 69 #[.val (.ref ar), .val (.int (3 : Int32)), .val (.int (1 : Int32)), .val (.double h1), .second, .val (.double l1), .second, .val (.double d2), .second, .unset, .unset] [(.int (1 : Int32))])) _
    refine XS.goto X0.here hx rfl (pc0 := 69) (pc' := 73) rfl (hb hby d0_69) (by decide) (by decide) ?_
    show Steps p.tables e below (s₁.setTop (mkF m 73 #[.val (.ref ar), .val (.int (3 : Int32)), .val (.int (1 : Int32)), .val (.double h1), .second, .val (.double l1), .second, .val (.double d2), .second, .unset, .unset] [(.int (1 : Int32))])) _
    refine XS.aloadN X0.here hx rfl (hb hby d0_73) rfl rfl ?_
    show Steps p.tables e below (s₁.setTop (mkF m 74 #[.val (.ref ar), .val (.int (3 : Int32)), .val (.int (1 : Int32)), .val (.double h1), .second, .val (.double l1), .second, .val (.double d2), .second, .unset, .unset] [(.ref ar), (.int (1 : Int32))])) _
    refine XS.iloadN X0.here hx rfl (hb hby d0_74) rfl ?_
    show Steps p.tables e below (s₁.setTop (mkF m 75 #[.val (.ref ar), .val (.int (3 : Int32)), .val (.int (1 : Int32)), .val (.double h1), .second, .val (.double l1), .second, .val (.double d2), .second, .unset, .unset] [(.int (1 : Int32)), (.ref ar), (.int (1 : Int32))])) _
    refine XS.iconst X0.here hx rfl (hb hby d0_75) ?_
    show Steps p.tables e below (s₁.setTop (mkF m 76 #[.val (.ref ar), .val (.int (3 : Int32)), .val (.int (1 : Int32)), .val (.double h1), .second, .val (.double l1), .second, .val (.double d2), .second, .unset, .unset] [(.int (1 : Int32)), (.int (1 : Int32)), (.ref ar), (.int (1 : Int32))])) _
    refine XS.isub X0.here hx rfl (hb hby d0_76) rfl ?_
    show Steps p.tables e below (s₁.setTop (mkF m 77 #[.val (.ref ar), .val (.int (3 : Int32)), .val (.int (1 : Int32)), .val (.double h1), .second, .val (.double l1), .second, .val (.double d2), .second, .unset, .unset] [(.int ((1 : Int32) - (1 : Int32))), (.ref ar), (.int (1 : Int32))])) _
    rw [show ((1 : Int32) - (1 : Int32)) = (0 : Int32) from by decide]
    show Steps p.tables e below (s₁.setTop (mkF m 77 #[.val (.ref ar), .val (.int (3 : Int32)), .val (.int (1 : Int32)), .val (.double h1), .second, .val (.double l1), .second, .val (.double d2), .second, .unset, .unset] [(.int (0 : Int32)), (.ref ar), (.int (1 : Int32))])) _
    refine X0.daload hx (j := (0 : Int32)) (v := (.double d0)) (by rw [e0]; exact Ar4.1) (State.isArrayOf_alike hZ.alike Ar4.2.1) Ar4.2.2 hin4 hat4 (g := (mkF m 77 #[.val (.ref ar), .val (.int (3 : Int32)), .val (.int (1 : Int32)), .val (.double h1), .second, .val (.double l1), .second, .val (.double d2), .second, .unset, .unset] [(.int (0 : Int32)), (.ref ar), (.int (1 : Int32))])) rfl rfl (hb hby d0_77) _ ?_
    show Steps p.tables e below (s₁.setTop (mkF m 78 #[.val (.ref ar), .val (.int (3 : Int32)), .val (.int (1 : Int32)), .val (.double h1), .second, .val (.double l1), .second, .val (.double d2), .second, .unset, .unset] [(.double d0), (.int (1 : Int32))])) _
    refine XS.dconst0 X0.here hx rfl (hb hby d0_78) (v := 0) rfl ?_
    show Steps p.tables e below (s₁.setTop (mkF m 79 #[.val (.ref ar), .val (.int (3 : Int32)), .val (.int (1 : Int32)), .val (.double h1), .second, .val (.double l1), .second, .val (.double d2), .second, .unset, .unset] [(.double 0), (.double d0), (.int (1 : Int32))])) _
    refine XS.dcmpS X0.here hx rfl (hb hby d0_79) rfl rfl ?_
    show Steps p.tables e below (s₁.setTop (mkF m 80 #[.val (.ref ar), .val (.int (3 : Int32)), .val (.int (1 : Int32)), .val (.double h1), .second, .val (.double l1), .second, .val (.double d2), .second, .unset, .unset] [(.int (cmpValue (FP.dcmp d0 0) .g)), (.int (1 : Int32))])) _
    refine XS.ifNo X0.here hx rfl (hb hby d0_80) rfl ((if0 _ _).trans (tlt hc80).2.1) ?_
    show Steps p.tables e below (s₁.setTop (mkF m 83 #[.val (.ref ar), .val (.int (3 : Int32)), .val (.int (1 : Int32)), .val (.double h1), .second, .val (.double l1), .second, .val (.double d2), .second, .unset, .unset] [(.int (1 : Int32))])) _
    refine XS.iconst X0.here hx rfl (hb hby d0_83) ?_
    show Steps p.tables e below (s₁.setTop (mkF m 84 #[.val (.ref ar), .val (.int (3 : Int32)), .val (.int (1 : Int32)), .val (.double h1), .second, .val (.double l1), .second, .val (.double d2), .second, .unset, .unset] [(.int (1 : Int32)), (.int (1 : Int32))])) _
    refine XS.goto X0.here hx rfl (pc0 := 84) (pc' := 88) rfl (hb hby d0_84) (by decide) (by decide) ?_
    show Steps p.tables e below (s₁.setTop (mkF m 88 #[.val (.ref ar), .val (.int (3 : Int32)), .val (.int (1 : Int32)), .val (.double h1), .second, .val (.double l1), .second, .val (.double d2), .second, .unset, .unset] [(.int (1 : Int32)), (.int (1 : Int32))])) _
    refine XS.icmpNo X0.here hx rfl (hb hby d0_88) rfl (teq (rfl : (1 : Int32) = (1 : Int32))).2 ?_
    show Steps p.tables e below (s₁.setTop (mkF m 91 #[.val (.ref ar), .val (.int (3 : Int32)), .val (.int (1 : Int32)), .val (.double h1), .second, .val (.double l1), .second, .val (.double d2), .second, .unset, .unset] [])) _
    refine XS.dload X0.here hx rfl (hb hby d0_91) rfl ?_
    show Steps p.tables e below (s₁.setTop (mkF m 93 #[.val (.ref ar), .val (.int (3 : Int32)), .val (.int (1 : Int32)), .val (.double h1), .second, .val (.double l1), .second, .val (.double d2), .second, .unset, .unset] [(.double l1)])) _
    refine X0.ldc2DoubleC hx hown (mvT hZ (hw _ (List.mem_of_getElem? (i := 8) rfl))) (g := (mkF m 93 #[.val (.ref ar), .val (.int (3 : Int32)), .val (.int (1 : Int32)), .val (.double h1), .second, .val (.double l1), .second, .val (.double d2), .second, .unset, .unset] [(.double l1)])) rfl (hb hby d0_93) _ ?_
    show Steps p.tables e below (s₁.setTop (mkF m 96 #[.val (.ref ar), .val (.int (3 : Int32)), .val (.int (1 : Int32)), .val (.double h1), .second, .val (.double l1), .second, .val (.double d2), .second, .unset, .unset] [(.double 4611686018427387904), (.double l1)])) _
    refine XS.dmulS X0.here hx rfl (hb hby d0_96) rfl nn96 rfl ?_
    show Steps p.tables e below (s₁.setTop (mkF m 97 #[.val (.ref ar), .val (.int (3 : Int32)), .val (.int (1 : Int32)), .val (.double h1), .second, .val (.double l1), .second, .val (.double d2), .second, .unset, .unset] [(.double (FP.dmul l1 4611686018427387904))])) _
    rw [e4]
    show Steps p.tables e below (s₁.setTop (mkF m 97 #[.val (.ref ar), .val (.int (3 : Int32)), .val (.int (1 : Int32)), .val (.double h1), .second, .val (.double l1), .second, .val (.double d2), .second, .unset, .unset] [(.double y1)])) _
    refine XS.dstore X0.here hx rfl (hb hby d0_97) rfl (l' := #[.val (.ref ar), .val (.int (3 : Int32)), .val (.int (1 : Int32)), .val (.double h1), .second, .val (.double l1), .second, .val (.double y1), .second, .unset, .unset]) rfl ?_
    show Steps p.tables e below (s₁.setTop (mkF m 99 #[.val (.ref ar), .val (.int (3 : Int32)), .val (.int (1 : Int32)), .val (.double h1), .second, .val (.double l1), .second, .val (.double y1), .second, .unset, .unset] [])) _
    refine XS.dloadN X0.here hx rfl (hb hby d0_99) rfl ?_
    show Steps p.tables e below (s₁.setTop (mkF m 100 #[.val (.ref ar), .val (.int (3 : Int32)), .val (.int (1 : Int32)), .val (.double h1), .second, .val (.double l1), .second, .val (.double y1), .second, .unset, .unset] [(.double h1)])) _
    refine XS.dload X0.here hx rfl (hb hby d0_100) rfl ?_
    show Steps p.tables e below (s₁.setTop (mkF m 102 #[.val (.ref ar), .val (.int (3 : Int32)), .val (.int (1 : Int32)), .val (.double h1), .second, .val (.double l1), .second, .val (.double y1), .second, .unset, .unset] [(.double y1), (.double h1)])) _
    refine XS.daddS X0.here hx rfl (hb hby d0_102) rfl nn102 rfl ?_
    show Steps p.tables e below (s₁.setTop (mkF m 103 #[.val (.ref ar), .val (.int (3 : Int32)), .val (.int (1 : Int32)), .val (.double h1), .second, .val (.double l1), .second, .val (.double y1), .second, .unset, .unset] [(.double (FP.dadd h1 y1))])) _
    rw [e5]
    show Steps p.tables e below (s₁.setTop (mkF m 103 #[.val (.ref ar), .val (.int (3 : Int32)), .val (.int (1 : Int32)), .val (.double h1), .second, .val (.double l1), .second, .val (.double y1), .second, .unset, .unset] [(.double x1)])) _
    refine XS.dstore X0.here hx rfl (hb hby d0_103) rfl (l' := #[.val (.ref ar), .val (.int (3 : Int32)), .val (.int (1 : Int32)), .val (.double h1), .second, .val (.double l1), .second, .val (.double y1), .second, .val (.double x1), .second]) rfl ?_
    show Steps p.tables e below (s₁.setTop (mkF m 105 #[.val (.ref ar), .val (.int (3 : Int32)), .val (.int (1 : Int32)), .val (.double h1), .second, .val (.double l1), .second, .val (.double y1), .second, .val (.double x1), .second] [])) _
    refine XS.dload X0.here hx rfl (hb hby d0_105) rfl ?_
    show Steps p.tables e below (s₁.setTop (mkF m 107 #[.val (.ref ar), .val (.int (3 : Int32)), .val (.int (1 : Int32)), .val (.double h1), .second, .val (.double l1), .second, .val (.double y1), .second, .val (.double x1), .second] [(.double x1)])) _
    refine XS.dloadN X0.here hx rfl (hb hby d0_107) rfl ?_
    show Steps p.tables e below (s₁.setTop (mkF m 108 #[.val (.ref ar), .val (.int (3 : Int32)), .val (.int (1 : Int32)), .val (.double h1), .second, .val (.double l1), .second, .val (.double y1), .second, .val (.double x1), .second] [(.double h1), (.double x1)])) _
    refine XS.dsubS X0.here hx rfl (hb hby d0_108) rfl nn108 rfl ?_
    show Steps p.tables e below (s₁.setTop (mkF m 109 #[.val (.ref ar), .val (.int (3 : Int32)), .val (.int (1 : Int32)), .val (.double h1), .second, .val (.double l1), .second, .val (.double y1), .second, .val (.double x1), .second] [(.double (FP.dsub x1 h1))])) _
    rw [e6]
    show Steps p.tables e below (s₁.setTop (mkF m 109 #[.val (.ref ar), .val (.int (3 : Int32)), .val (.int (1 : Int32)), .val (.double h1), .second, .val (.double l1), .second, .val (.double y1), .second, .val (.double x1), .second] [(.double z1)])) _
    refine XS.dload X0.here hx rfl (hb hby d0_109) rfl ?_
    show Steps p.tables e below (s₁.setTop (mkF m 111 #[.val (.ref ar), .val (.int (3 : Int32)), .val (.int (1 : Int32)), .val (.double h1), .second, .val (.double l1), .second, .val (.double y1), .second, .val (.double x1), .second] [(.double y1), (.double z1)])) _
    refine XS.dcmpS X0.here hx rfl (hb hby d0_111) rfl rfl ?_
    show Steps p.tables e below (s₁.setTop (mkF m 112 #[.val (.ref ar), .val (.int (3 : Int32)), .val (.int (1 : Int32)), .val (.double h1), .second, .val (.double l1), .second, .val (.double y1), .second, .val (.double x1), .second] [(.int (cmpValue (FP.dcmp z1 y1) .l))])) _
    refine XS.ifNo X0.here hx rfl (hb hby d0_112) rfl ((if0 _ _).trans (teq hc112).2) ?_
    show Steps p.tables e below (s₁.setTop (mkF m 115 #[.val (.ref ar), .val (.int (3 : Int32)), .val (.int (1 : Int32)), .val (.double h1), .second, .val (.double l1), .second, .val (.double y1), .second, .val (.double x1), .second] [])) _
    refine XS.dload X0.here hx rfl (hb hby d0_115) rfl ?_
    show Steps p.tables e below (s₁.setTop (mkF m 117 #[.val (.ref ar), .val (.int (3 : Int32)), .val (.int (1 : Int32)), .val (.double h1), .second, .val (.double l1), .second, .val (.double y1), .second, .val (.double x1), .second] [(.double x1)])) _
    refine XS.dstoreN X0.here hx rfl (hb hby d0_117) rfl (l' := #[.val (.ref ar), .val (.int (3 : Int32)), .val (.int (1 : Int32)), .val (.double x1), .second, .val (.double l1), .second, .val (.double y1), .second, .val (.double x1), .second]) rfl ?_
    show Steps p.tables e below (s₁.setTop (mkF m 118 #[.val (.ref ar), .val (.int (3 : Int32)), .val (.int (1 : Int32)), .val (.double x1), .second, .val (.double l1), .second, .val (.double y1), .second, .val (.double x1), .second] [])) _
    refine XS.dloadN X0.here hx rfl (hb hby d0_118) rfl ?_
    show Steps p.tables e below (s₁.setTop (mkF m 119 #[.val (.ref ar), .val (.int (3 : Int32)), .val (.int (1 : Int32)), .val (.double x1), .second, .val (.double l1), .second, .val (.double y1), .second, .val (.double x1), .second] [(.double x1)])) _
    exact retOut X0 hx Bd.returns rfl (Or.inr (Or.inr (Or.inl ⟨rfl, rfl, _, rfl⟩))) (hb hby d0_119) hr
  · show Q_rd3ffff Z ar ka d0 d1 d2 d3 h1 g1 l1 y1 x1 z1 h0 n0 _ s₁.heap _
    rw [e0]
    exact ⟨rfl, N0, rfl⟩
def Q_rd3ffft (Z : State) (ar : Addr) (ka : ClassId) (d0 : UInt64) (d1 : UInt64) (d2 : UInt64) (d3 : UInt64) (h1 : UInt64) (g1 : UInt64) (l1 : UInt64) (y1 : UInt64) (x1 : UInt64) (z1 : UInt64) (h0 : Heap) (n0 : Nat) (v : Option Value) (h : Heap) (L : List Loc) : Prop := v = some (.double h1) ∧ Fr n0 L ∧ h = h0
theorem ef_rd3ffft (m : MethodId) (ar : Addr) : entryFrame m #[(.ref ar), (.int (3 : Int32))] 11 = mkF m 0 #[.val (.ref ar), .val (.int (3 : Int32)), .unset, .unset, .unset, .unset, .unset, .unset, .unset, .unset, .unset] [] := by first | (simp [entryFrame, mkF, argsToLocals, Value.category]; done) | rfl
set_option maxRecDepth 65536 in
set_option maxHeartbeats 40000000 in
theorem rd3ffft (l : Launch) (Z : State) (a0 : Array Value) (hw : ∀ d ∈ tables_1, d.before a0 Z = true) (ws : List Jvm.Cond) (ar : Addr) (ka : ClassId) (d0 : UInt64) (d1 : UInt64) (d2 : UInt64) (d3 : UInt64) (h1 : UInt64) (g1 : UInt64) (l1 : UInt64) (y1 : UInt64) (x1 : UInt64) (z1 : UInt64) (h0 : Heap) (n0 : Nat) (Z0 : n0 ≤ h0.size) (V_ar : Arv Z h0 ar ka .double (4 : Int32) [(.double d0), (.double d1), (.double d2), (.double d3)] (.double 0)) (e1 : FP.dadd d2 d1 = h1) (e2 : FP.dsub h1 d2 = g1) (e3 : FP.dsub d1 g1 = l1) (e4 : FP.dmul l1 4611686018427387904 = y1) (e5 : FP.dadd h1 y1 = x1) (e6 : FP.dsub x1 h1 = z1) (nn32 : NoNaN64 (FP.dadd d2 d1)) (nn40 : NoNaN64 (FP.dsub h1 d2)) (nn41 : NoNaN64 (FP.dsub d1 g1)) (hc48 : ¬ ((cmpValue (FP.dcmp l1 0) .l) = (0 : Int32))) (hc65 : (cmpValue (FP.dcmp l1 0) .g) < (0 : Int32)) (hc80 : (cmpValue (FP.dcmp d0 0) .g) < (0 : Int32)) (nn96 : NoNaN64 (FP.dmul l1 4611686018427387904)) (nn102 : NoNaN64 (FP.dadd h1 y1)) (nn108 : NoNaN64 (FP.dsub x1 h1)) (hc112 : ¬ ((cmpValue (FP.dcmp z1 y1) .l) = (0 : Int32))) :
    MetFree l (⟨"com/example/crestwatch/crestwatch/core/ExactSum", "rounded", "([DI)D"⟩ : MethodName) (head1 (Jvm.Cond.code (⟨"com/example/crestwatch/crestwatch/core/ExactSum", "rounded", "([DI)D"⟩ : MethodName) prog_28_method_5_code 11 (some .double) :: ws) ({ frames := 0, cells := 0, slots := 0, locals := 0 } : Room)) (fun a U => a = #[(.ref ar), (.int (3 : Int32))] ∧ Z.Warmed39 U.vm ∧ U.heap = h0) (fun _ _ _ _ _ => True) (fun _ U o U' => ∃ v L, o = .returned v ∧ Q_rd3ffft Z ar ka d0 d1 d2 d3 h1 g1 l1 y1 x1 z1 h0 n0 v U'.heap L ∧ FrameEnd U o U' L ({ frames := 0, cells := 0, slots := 0, locals := 0 } : Room).cells ({ frames := 0, cells := 0, slots := 0, locals := 0 } : Room).slots) := by
  refine MetFree.of_bodySF (plainFor_of_name pn_0) hisR ?_
  intro p e s m args below meth c s₁ Bd hml0 hP hK
  obtain ⟨rfl, hZ, hh⟩ := hP
  have hx := Bd.exec
  have hby := Bd.bytes
  have hml : c.maxLocals = 11 := hml0
  have hown : s.vm.findClass "com/example/crestwatch/crestwatch/core/ExactSum" = some m.cls := findClass_of_methodNamed Bd.named
  have hnm := (name_of_methodNamed Bd.named Bd.method).1
  have X0 : Stand p l e ({ frames := 0, cells := 0, slots := 0, locals := 0 } : Room) s m #[(.ref ar), (.int (3 : Int32))] below meth c s₁ [] 0 0 := Stand.of_body Bd
  have e0 : s₁.heap = h0 := by rw [← hh, Bd.state]; rfl
  have N0 := Fr.nil n0
  have pre0 : ∀ t, Steps p.tables e below (s₁.setTop (mkF m 0 #[.val (.ref ar), .val (.int (3 : Int32)), .unset, .unset, .unset, .unset, .unset, .unset, .unset, .unset, .unset] [])) t → Steps p.tables e below (s₁.setTop (entryFrame m #[(.ref ar), (.int (3 : Int32))] 11)) t := fun t k => castTop (ef_rd3ffft m ar) k
  have Vc1 := V_ar
  obtain ⟨cl1, Ar1, q1, S1, M1, H1, G1⟩ := Vc1
  have hin1 : ¬ ((2 : Int32) < 0 ∨ cl1.slots.size ≤ ((2 : Int32)).toNatClampNeg) := inb_of S1 ⟨by decide, by decide⟩
  have hat1 : cl1.slots[((2 : Int32)).toNatClampNeg]? = some (.double d2) := Has.at H1 hin1 rfl
  have Vc2 := V_ar
  obtain ⟨cl2, Ar2, q2, S2, M2, H2, G2⟩ := Vc2
  have hin2 : ¬ ((1 : Int32) < 0 ∨ cl2.slots.size ≤ ((1 : Int32)).toNatClampNeg) := inb_of S2 ⟨by decide, by decide⟩
  have hat2 : cl2.slots[((1 : Int32)).toNatClampNeg]? = some (.double d1) := Has.at H2 hin2 rfl
  have Vc3 := V_ar
  obtain ⟨cl3, Ar3, q3, S3, M3, H3, G3⟩ := Vc3
  have hin3 : ¬ ((1 : Int32) < 0 ∨ cl3.slots.size ≤ ((1 : Int32)).toNatClampNeg) := inb_of S3 ⟨by decide, by decide⟩
  have hat3 : cl3.slots[((1 : Int32)).toNatClampNeg]? = some (.double d1) := Has.at H3 hin3 rfl
  have Vc4 := V_ar
  obtain ⟨cl4, Ar4, q4, S4, M4, H4, G4⟩ := Vc4
  have hin4 : ¬ ((0 : Int32) < 0 ∨ cl4.slots.size ≤ ((0 : Int32)).toNatClampNeg) := inb_of S4 ⟨by decide, by decide⟩
  have hat4 : cl4.slots[((0 : Int32)).toNatClampNeg]? = some (.double d0) := Has.at H4 hin4 rfl
  obtain ⟨fs, hr, hrun, hended, hW, hsame⟩ := X0.leave (v := some (.double h1)) (fun h => by rw [Bd.returns] at h; cases h)
  refine ⟨_, _, pre0 _ ?_, hrun, hended, _, _, rfl, ?_, ⟨_, rfl⟩, hW, hsame.mono (by decide) (by decide)⟩
  · show Steps p.tables e below (s₁.setTop (mkF m 0 #[.val (.ref ar), .val (.int (3 : Int32)), .unset, .unset, .unset, .unset, .unset, .unset, .unset, .unset, .unset] [])) _
    refine XS.iloadN X0.here hx rfl (hb hby d0_0) rfl ?_
    show Steps p.tables e below (s₁.setTop (mkF m 1 #[.val (.ref ar), .val (.int (3 : Int32)), .unset, .unset, .unset, .unset, .unset, .unset, .unset, .unset, .unset] [(.int (3 : Int32))])) _
    refine XS.ifYes X0.here hx rfl (pc0 := 1) (pc' := 6) rfl (hb hby d0_1) rfl ((if0 _ _).trans (feq (by decide : ¬ ((3 : Int32) = (0 : Int32)))).2) (by decide) (by decide) ?_
    show Steps p.tables e below (s₁.setTop (mkF m 6 #[.val (.ref ar), .val (.int (3 : Int32)), .unset, .unset, .unset, .unset, .unset, .unset, .unset, .unset, .unset] [])) _
    refine XS.iloadN X0.here hx rfl (hb hby d0_6) rfl ?_
    show Steps p.tables e below (s₁.setTop (mkF m 7 #[.val (.ref ar), .val (.int (3 : Int32)), .unset, .unset, .unset, .unset, .unset, .unset, .unset, .unset, .unset] [(.int (3 : Int32))])) _
    refine XS.iconst X0.here hx rfl (hb hby d0_7) ?_
    show Steps p.tables e below (s₁.setTop (mkF m 8 #[.val (.ref ar), .val (.int (3 : Int32)), .unset, .unset, .unset, .unset, .unset, .unset, .unset, .unset, .unset] [(.int (1 : Int32)), (.int (3 : Int32))])) _
    refine XS.isub X0.here hx rfl (hb hby d0_8) rfl ?_
    show Steps p.tables e below (s₁.setTop (mkF m 9 #[.val (.ref ar), .val (.int (3 : Int32)), .unset, .unset, .unset, .unset, .unset, .unset, .unset, .unset, .unset] [(.int ((3 : Int32) - (1 : Int32)))])) _
    rw [show ((3 : Int32) - (1 : Int32)) = (2 : Int32) from by decide]
    show Steps p.tables e below (s₁.setTop (mkF m 9 #[.val (.ref ar), .val (.int (3 : Int32)), .unset, .unset, .unset, .unset, .unset, .unset, .unset, .unset, .unset] [(.int (2 : Int32))])) _
    refine XS.istoreN X0.here hx rfl (hb hby d0_9) rfl (l' := #[.val (.ref ar), .val (.int (3 : Int32)), .val (.int (2 : Int32)), .unset, .unset, .unset, .unset, .unset, .unset, .unset, .unset]) rfl ?_
    show Steps p.tables e below (s₁.setTop (mkF m 10 #[.val (.ref ar), .val (.int (3 : Int32)), .val (.int (2 : Int32)), .unset, .unset, .unset, .unset, .unset, .unset, .unset, .unset] [])) _
    refine XS.aloadN X0.here hx rfl (hb hby d0_10) rfl rfl ?_
    show Steps p.tables e below (s₁.setTop (mkF m 11 #[.val (.ref ar), .val (.int (3 : Int32)), .val (.int (2 : Int32)), .unset, .unset, .unset, .unset, .unset, .unset, .unset, .unset] [(.ref ar)])) _
    refine XS.iloadN X0.here hx rfl (hb hby d0_11) rfl ?_
    show Steps p.tables e below (s₁.setTop (mkF m 12 #[.val (.ref ar), .val (.int (3 : Int32)), .val (.int (2 : Int32)), .unset, .unset, .unset, .unset, .unset, .unset, .unset, .unset] [(.int (2 : Int32)), (.ref ar)])) _
    refine X0.daload hx (j := (2 : Int32)) (v := (.double d2)) (by rw [e0]; exact Ar1.1) (State.isArrayOf_alike hZ.alike Ar1.2.1) Ar1.2.2 hin1 hat1 (g := (mkF m 12 #[.val (.ref ar), .val (.int (3 : Int32)), .val (.int (2 : Int32)), .unset, .unset, .unset, .unset, .unset, .unset, .unset, .unset] [(.int (2 : Int32)), (.ref ar)])) rfl rfl (hb hby d0_12) _ ?_
    show Steps p.tables e below (s₁.setTop (mkF m 13 #[.val (.ref ar), .val (.int (3 : Int32)), .val (.int (2 : Int32)), .unset, .unset, .unset, .unset, .unset, .unset, .unset, .unset] [(.double d2)])) _
    refine XS.dstoreN X0.here hx rfl (hb hby d0_13) rfl (l' := #[.val (.ref ar), .val (.int (3 : Int32)), .val (.int (2 : Int32)), .val (.double d2), .second, .unset, .unset, .unset, .unset, .unset, .unset]) rfl ?_
    show Steps p.tables e below (s₁.setTop (mkF m 14 #[.val (.ref ar), .val (.int (3 : Int32)), .val (.int (2 : Int32)), .val (.double d2), .second, .unset, .unset, .unset, .unset, .unset, .unset] [])) _
    refine XS.dconst0 X0.here hx rfl (hb hby d0_14) (v := 0) rfl ?_
    show Steps p.tables e below (s₁.setTop (mkF m 15 #[.val (.ref ar), .val (.int (3 : Int32)), .val (.int (2 : Int32)), .val (.double d2), .second, .unset, .unset, .unset, .unset, .unset, .unset] [(.double 0)])) _
    refine XS.dstore X0.here hx rfl (hb hby d0_15) rfl (l' := #[.val (.ref ar), .val (.int (3 : Int32)), .val (.int (2 : Int32)), .val (.double d2), .second, .val (.double 0), .second, .unset, .unset, .unset, .unset]) rfl ?_
    show Steps p.tables e below (s₁.setTop (mkF m 17 #[.val (.ref ar), .val (.int (3 : Int32)), .val (.int (2 : Int32)), .val (.double d2), .second, .val (.double 0), .second, .unset, .unset, .unset, .unset] [])) _
    refine XS.iloadN X0.here hx rfl (hb hby d0_17) rfl ?_
    show Steps p.tables e below (s₁.setTop (mkF m 18 #[.val (.ref ar), .val (.int (3 : Int32)), .val (.int (2 : Int32)), .val (.double d2), .second, .val (.double 0), .second, .unset, .unset, .unset, .unset] [(.int (2 : Int32))])) _
    refine XS.ifNo X0.here hx rfl (hb hby d0_18) rfl ((if0 _ _).trans (tlt (by decide : (0 : Int32) < (2 : Int32))).2.2.2) ?_
    show Steps p.tables e below (s₁.setTop (mkF m 21 #[.val (.ref ar), .val (.int (3 : Int32)), .val (.int (2 : Int32)), .val (.double d2), .second, .val (.double 0), .second, .unset, .unset, .unset, .unset] [])) _
    refine XS.iinc X0.here hx rfl (hb hby d0_21) rfl (l' := #[.val (.ref ar), .val (.int (3 : Int32)), .val (.int ((2 : Int32) + (-1 : Int32))), .val (.double d2), .second, .val (.double 0), .second, .unset, .unset, .unset, .unset]) rfl ?_
    show Steps p.tables e below (s₁.setTop (mkF m 24 #[.val (.ref ar), .val (.int (3 : Int32)), .val (.int ((2 : Int32) + (-1 : Int32))), .val (.double d2), .second, .val (.double 0), .second, .unset, .unset, .unset, .unset] [])) _
    rw [show ((2 : Int32) + (-1 : Int32)) = (1 : Int32) from by decide]
    show Steps p.tables e below (s₁.setTop (mkF m 24 #[.val (.ref ar), .val (.int (3 : Int32)), .val (.int (1 : Int32)), .val (.double d2), .second, .val (.double 0), .second, .unset, .unset, .unset, .unset] [])) _
    refine XS.dloadN X0.here hx rfl (hb hby d0_24) rfl ?_
    show Steps p.tables e below (s₁.setTop (mkF m 25 #[.val (.ref ar), .val (.int (3 : Int32)), .val (.int (1 : Int32)), .val (.double d2), .second, .val (.double 0), .second, .unset, .unset, .unset, .unset] [(.double d2)])) _
    refine XS.dstore X0.here hx rfl (hb hby d0_25) rfl (l' := #[.val (.ref ar), .val (.int (3 : Int32)), .val (.int (1 : Int32)), .val (.double d2), .second, .val (.double 0), .second, .val (.double d2), .second, .unset, .unset]) rfl ?_
    show Steps p.tables e below (s₁.setTop (mkF m 27 #[.val (.ref ar), .val (.int (3 : Int32)), .val (.int (1 : Int32)), .val (.double d2), .second, .val (.double 0), .second, .val (.double d2), .second, .unset, .unset] [])) _
    refine XS.dload X0.here hx rfl (hb hby d0_27) rfl ?_
    show Steps p.tables e below (s₁.setTop (mkF m 29 #[.val (.ref ar), .val (.int (3 : Int32)), .val (.int (1 : Int32)), .val (.double d2), .second, .val (.double 0), .second, .val (.double d2), .second, .unset, .unset] [(.double d2)])) _
    refine XS.aloadN X0.here hx rfl (hb hby d0_29) rfl rfl ?_
    show Steps p.tables e below (s₁.setTop (mkF m 30 #[.val (.ref ar), .val (.int (3 : Int32)), .val (.int (1 : Int32)), .val (.double d2), .second, .val (.double 0), .second, .val (.double d2), .second, .unset, .unset] [(.ref ar), (.double d2)])) _
    refine XS.iloadN X0.here hx rfl (hb hby d0_30) rfl ?_
    show Steps p.tables e below (s₁.setTop (mkF m 31 #[.val (.ref ar), .val (.int (3 : Int32)), .val (.int (1 : Int32)), .val (.double d2), .second, .val (.double 0), .second, .val (.double d2), .second, .unset, .unset] [(.int (1 : Int32)), (.ref ar), (.double d2)])) _
    refine X0.daload hx (j := (1 : Int32)) (v := (.double d1)) (by rw [e0]; exact Ar2.1) (State.isArrayOf_alike hZ.alike Ar2.2.1) Ar2.2.2 hin2 hat2 (g := (mkF m 31 #[.val (.ref ar), .val (.int (3 : Int32)), .val (.int (1 : Int32)), .val (.double d2), .second, .val (.double 0), .second, .val (.double d2), .second, .unset, .unset] [(.int (1 : Int32)), (.ref ar), (.double d2)])) rfl rfl (hb hby d0_31) _ ?_
    show Steps p.tables e below (s₁.setTop (mkF m 32 #[.val (.ref ar), .val (.int (3 : Int32)), .val (.int (1 : Int32)), .val (.double d2), .second, .val (.double 0), .second, .val (.double d2), .second, .unset, .unset] [(.double d1), (.double d2)])) _
    refine XS.daddS X0.here hx rfl (hb hby d0_32) rfl nn32 rfl ?_
    show Steps p.tables e below (s₁.setTop (mkF m 33 #[.val (.ref ar), .val (.int (3 : Int32)), .val (.int (1 : Int32)), .val (.double d2), .second, .val (.double 0), .second, .val (.double d2), .second, .unset, .unset] [(.double (FP.dadd d2 d1))])) _
    rw [e1]
    show Steps p.tables e below (s₁.setTop (mkF m 33 #[.val (.ref ar), .val (.int (3 : Int32)), .val (.int (1 : Int32)), .val (.double d2), .second, .val (.double 0), .second, .val (.double d2), .second, .unset, .unset] [(.double h1)])) _
    refine XS.dstoreN X0.here hx rfl (hb hby d0_33) rfl (l' := #[.val (.ref ar), .val (.int (3 : Int32)), .val (.int (1 : Int32)), .val (.double h1), .second, .val (.double 0), .second, .val (.double d2), .second, .unset, .unset]) rfl ?_
    show Steps p.tables e below (s₁.setTop (mkF m 34 #[.val (.ref ar), .val (.int (3 : Int32)), .val (.int (1 : Int32)), .val (.double h1), .second, .val (.double 0), .second, .val (.double d2), .second, .unset, .unset] [])) _
    refine XS.aloadN X0.here hx rfl (hb hby d0_34) rfl rfl ?_
    show Steps p.tables e below (s₁.setTop (mkF m 35 #[.val (.ref ar), .val (.int (3 : Int32)), .val (.int (1 : Int32)), .val (.double h1), .second, .val (.double 0), .second, .val (.double d2), .second, .unset, .unset] [(.ref ar)])) _
    refine XS.iloadN X0.here hx rfl (hb hby d0_35) rfl ?_
    show Steps p.tables e below (s₁.setTop (mkF m 36 #[.val (.ref ar), .val (.int (3 : Int32)), .val (.int (1 : Int32)), .val (.double h1), .second, .val (.double 0), .second, .val (.double d2), .second, .unset, .unset] [(.int (1 : Int32)), (.ref ar)])) _
    refine X0.daload hx (j := (1 : Int32)) (v := (.double d1)) (by rw [e0]; exact Ar3.1) (State.isArrayOf_alike hZ.alike Ar3.2.1) Ar3.2.2 hin3 hat3 (g := (mkF m 36 #[.val (.ref ar), .val (.int (3 : Int32)), .val (.int (1 : Int32)), .val (.double h1), .second, .val (.double 0), .second, .val (.double d2), .second, .unset, .unset] [(.int (1 : Int32)), (.ref ar)])) rfl rfl (hb hby d0_36) _ ?_
    show Steps p.tables e below (s₁.setTop (mkF m 37 #[.val (.ref ar), .val (.int (3 : Int32)), .val (.int (1 : Int32)), .val (.double h1), .second, .val (.double 0), .second, .val (.double d2), .second, .unset, .unset] [(.double d1)])) _
    refine XS.dloadN X0.here hx rfl (hb hby d0_37) rfl ?_
    show Steps p.tables e below (s₁.setTop (mkF m 38 #[.val (.ref ar), .val (.int (3 : Int32)), .val (.int (1 : Int32)), .val (.double h1), .second, .val (.double 0), .second, .val (.double d2), .second, .unset, .unset] [(.double h1), (.double d1)])) _
    refine XS.dload X0.here hx rfl (hb hby d0_38) rfl ?_
    show Steps p.tables e below (s₁.setTop (mkF m 40 #[.val (.ref ar), .val (.int (3 : Int32)), .val (.int (1 : Int32)), .val (.double h1), .second, .val (.double 0), .second, .val (.double d2), .second, .unset, .unset] [(.double d2), (.double h1), (.double d1)])) _
    refine XS.dsubS X0.here hx rfl (hb hby d0_40) rfl nn40 rfl ?_
    show Steps p.tables e below (s₁.setTop (mkF m 41 #[.val (.ref ar), .val (.int (3 : Int32)), .val (.int (1 : Int32)), .val (.double h1), .second, .val (.double 0), .second, .val (.double d2), .second, .unset, .unset] [(.double (FP.dsub h1 d2)), (.double d1)])) _
    rw [e2]
    show Steps p.tables e below (s₁.setTop (mkF m 41 #[.val (.ref ar), .val (.int (3 : Int32)), .val (.int (1 : Int32)), .val (.double h1), .second, .val (.double 0), .second, .val (.double d2), .second, .unset, .unset] [(.double g1), (.double d1)])) _
    refine XS.dsubS X0.here hx rfl (hb hby d0_41) rfl nn41 rfl ?_
    show Steps p.tables e below (s₁.setTop (mkF m 42 #[.val (.ref ar), .val (.int (3 : Int32)), .val (.int (1 : Int32)), .val (.double h1), .second, .val (.double 0), .second, .val (.double d2), .second, .unset, .unset] [(.double (FP.dsub d1 g1))])) _
    rw [e3]
    show Steps p.tables e below (s₁.setTop (mkF m 42 #[.val (.ref ar), .val (.int (3 : Int32)), .val (.int (1 : Int32)), .val (.double h1), .second, .val (.double 0), .second, .val (.double d2), .second, .unset, .unset] [(.double l1)])) _
    refine XS.dstore X0.here hx rfl (hb hby d0_42) rfl (l' := #[.val (.ref ar), .val (.int (3 : Int32)), .val (.int (1 : Int32)), .val (.double h1), .second, .val (.double l1), .second, .val (.double d2), .second, .unset, .unset]) rfl ?_
    show Steps p.tables e below (s₁.setTop (mkF m 44 #[.val (.ref ar), .val (.int (3 : Int32)), .val (.int (1 : Int32)), .val (.double h1), .second, .val (.double l1), .second, .val (.double d2), .second, .unset, .unset] [])) _
    refine XS.dload X0.here hx rfl (hb hby d0_44) rfl ?_
    show Steps p.tables e below (s₁.setTop (mkF m 46 #[.val (.ref ar), .val (.int (3 : Int32)), .val (.int (1 : Int32)), .val (.double h1), .second, .val (.double l1), .second, .val (.double d2), .second, .unset, .unset] [(.double l1)])) _
    refine XS.dconst0 X0.here hx rfl (hb hby d0_46) (v := 0) rfl ?_
    show Steps p.tables e below (s₁.setTop (mkF m 47 #[.val (.ref ar), .val (.int (3 : Int32)), .val (.int (1 : Int32)), .val (.double h1), .second, .val (.double l1), .second, .val (.double d2), .second, .unset, .unset] [(.double 0), (.double l1)])) _
    refine XS.dcmpS X0.here hx rfl (hb hby d0_47) rfl rfl ?_
    show Steps p.tables e below (s₁.setTop (mkF m 48 #[.val (.ref ar), .val (.int (3 : Int32)), .val (.int (1 : Int32)), .val (.double h1), .second, .val (.double l1), .second, .val (.double d2), .second, .unset, .unset] [(.int (cmpValue (FP.dcmp l1 0) .l))])) _
    refine XS.ifNo X0.here hx rfl (hb hby d0_48) rfl ((if0 _ _).trans (feq hc48).1) ?_
    show Steps p.tables e below (s₁.setTop (mkF m 51 #[.val (.ref ar), .val (.int (3 : Int32)), .val (.int (1 : Int32)), .val (.double h1), .second, .val (.double l1), .second, .val (.double d2), .second, .unset, .unset] [])) _
    refine XS.goto X0.here hx rfl (pc0 := 51) (pc' := 57) rfl (hb hby d0_51) (by decide) (by decide) ?_
    show Steps p.tables e below (s₁.setTop (mkF m 57 #[.val (.ref ar), .val (.int (3 : Int32)), .val (.int (1 : Int32)), .val (.double h1), .second, .val (.double l1), .second, .val (.double d2), .second, .unset, .unset] [])) _
    refine XS.iloadN X0.here hx rfl (hb hby d0_57) rfl ?_
    show Steps p.tables e below (s₁.setTop (mkF m 58 #[.val (.ref ar), .val (.int (3 : Int32)), .val (.int (1 : Int32)), .val (.double h1), .second, .val (.double l1), .second, .val (.double d2), .second, .unset, .unset] [(.int (1 : Int32))])) _
    refine XS.ifNo X0.here hx rfl (hb hby d0_58) rfl ((if0 _ _).trans (tlt (by decide : (0 : Int32) < (1 : Int32))).2.2.2) ?_
    show Steps p.tables e below (s₁.setTop (mkF m 61 #[.val (.ref ar), .val (.int (3 : Int32)), .val (.int (1 : Int32)), .val (.double h1), .second, .val (.double l1), .second, .val (.double d2), .second, .unset, .unset] [])) _
    refine XS.dload X0.here hx rfl (hb hby d0_61) rfl ?_
    show Steps p.tables e below (s₁.setTop (mkF m 63 #[.val (.ref ar), .val (.int (3 : Int32)), .val (.int (1 : Int32)), .val (.double h1), .second, .val (.double l1), .second, .val (.double d2), .second, .unset, .unset] [(.double l1)])) _
    refine XS.dconst0 X0.here hx rfl (hb hby d0_63) (v := 0) rfl ?_
    show Steps p.tables e below (s₁.setTop (mkF m 64 #[.val (.ref ar), .val (.int (3 : Int32)), .val (.int (1 : Int32)), .val (.double h1), .second, .val (.double l1), .second, .val (.double d2), .second, .unset, .unset] [(.double 0), (.double l1)])) _
    refine XS.dcmpS X0.here hx rfl (hb hby d0_64) rfl rfl ?_
    show Steps p.tables e below (s₁.setTop (mkF m 65 #[.val (.ref ar), .val (.int (3 : Int32)), .val (.int (1 : Int32)), .val (.double h1), .second, .val (.double l1), .second, .val (.double d2), .second, .unset, .unset] [(.int (cmpValue (FP.dcmp l1 0) .g))])) _
    refine XS.ifNo X0.here hx rfl (hb hby d0_65) rfl ((if0 _ _).trans (tlt hc65).2.1) ?_
    show Steps p.tables e below (s₁.setTop (mkF m 68 #[.val (.ref ar), .val (.int (3 : Int32)), .val (.int (1 : Int32)), .val (.double h1), .second, .val (.double l1), .second, .val (.double d2), .second, .unset, .unset] [])) _
    refine XS.iconst X0.here hx rfl (hb hby d0_68) ?_
    show Steps p.tables e below (s₁.setTop (mkF m 69 #[.val (.ref ar), .val (.int (3 : Int32)), .val (.int (1 : Int32)), .val (.double h1), .second, .val (.double l1), .second, .val (.double d2), .second, .unset, .unset] [(.int (1 : Int32))])) _
    refine XS.goto X0.here hx rfl (pc0 := 69) (pc' := 73) rfl (hb hby d0_69) (by decide) (by decide) ?_
    show Steps p.tables e below (s₁.setTop (mkF m 73 #[.val (.ref ar), .val (.int (3 : Int32)), .val (.int (1 : Int32)), .val (.double h1), .second, .val (.double l1), .second, .val (.double d2), .second, .unset, .unset] [(.int (1 : Int32))])) _
    refine XS.aloadN X0.here hx rfl (hb hby d0_73) rfl rfl ?_
    show Steps p.tables e below (s₁.setTop (mkF m 74 #[.val (.ref ar), .val (.int (3 : Int32)), .val (.int (1 : Int32)), .val (.double h1), .second, .val (.double l1), .second, .val (.double d2), .second, .unset, .unset] [(.ref ar), (.int (1 : Int32))])) _
    refine XS.iloadN X0.here hx rfl (hb hby d0_74) rfl ?_
    show Steps p.tables e below (s₁.setTop (mkF m 75 #[.val (.ref ar), .val (.int (3 : Int32)), .val (.int (1 : Int32)), .val (.double h1), .second, .val (.double l1), .second, .val (.double d2), .second, .unset, .unset] [(.int (1 : Int32)), (.ref ar), (.int (1 : Int32))])) _
    refine XS.iconst X0.here hx rfl (hb hby d0_75) ?_
    show Steps p.tables e below (s₁.setTop (mkF m 76 #[.val (.ref ar), .val (.int (3 : Int32)), .val (.int (1 : Int32)), .val (.double h1), .second, .val (.double l1), .second, .val (.double d2), .second, .unset, .unset] [(.int (1 : Int32)), (.int (1 : Int32)), (.ref ar), (.int (1 : Int32))])) _
    refine XS.isub X0.here hx rfl (hb hby d0_76) rfl ?_
    show Steps p.tables e below (s₁.setTop (mkF m 77 #[.val (.ref ar), .val (.int (3 : Int32)), .val (.int (1 : Int32)), .val (.double h1), .second, .val (.double l1), .second, .val (.double d2), .second, .unset, .unset] [(.int ((1 : Int32) - (1 : Int32))), (.ref ar), (.int (1 : Int32))])) _
    rw [show ((1 : Int32) - (1 : Int32)) = (0 : Int32) from by decide]
    show Steps p.tables e below (s₁.setTop (mkF m 77 #[.val (.ref ar), .val (.int (3 : Int32)), .val (.int (1 : Int32)), .val (.double h1), .second, .val (.double l1), .second, .val (.double d2), .second, .unset, .unset] [(.int (0 : Int32)), (.ref ar), (.int (1 : Int32))])) _
    refine X0.daload hx (j := (0 : Int32)) (v := (.double d0)) (by rw [e0]; exact Ar4.1) (State.isArrayOf_alike hZ.alike Ar4.2.1) Ar4.2.2 hin4 hat4 (g := (mkF m 77 #[.val (.ref ar), .val (.int (3 : Int32)), .val (.int (1 : Int32)), .val (.double h1), .second, .val (.double l1), .second, .val (.double d2), .second, .unset, .unset] [(.int (0 : Int32)), (.ref ar), (.int (1 : Int32))])) rfl rfl (hb hby d0_77) _ ?_
    show Steps p.tables e below (s₁.setTop (mkF m 78 #[.val (.ref ar), .val (.int (3 : Int32)), .val (.int (1 : Int32)), .val (.double h1), .second, .val (.double l1), .second, .val (.double d2), .second, .unset, .unset] [(.double d0), (.int (1 : Int32))])) _
    refine XS.dconst0 X0.here hx rfl (hb hby d0_78) (v := 0) rfl ?_
    show Steps p.tables e below (s₁.setTop (mkF m 79 #[.val (.ref ar), .val (.int (3 : Int32)), .val (.int (1 : Int32)), .val (.double h1), .second, .val (.double l1), .second, .val (.double d2), .second, .unset, .unset] [(.double 0), (.double d0), (.int (1 : Int32))])) _
    refine XS.dcmpS X0.here hx rfl (hb hby d0_79) rfl rfl ?_
    show Steps p.tables e below (s₁.setTop (mkF m 80 #[.val (.ref ar), .val (.int (3 : Int32)), .val (.int (1 : Int32)), .val (.double h1), .second, .val (.double l1), .second, .val (.double d2), .second, .unset, .unset] [(.int (cmpValue (FP.dcmp d0 0) .g)), (.int (1 : Int32))])) _
    refine XS.ifNo X0.here hx rfl (hb hby d0_80) rfl ((if0 _ _).trans (tlt hc80).2.1) ?_
    show Steps p.tables e below (s₁.setTop (mkF m 83 #[.val (.ref ar), .val (.int (3 : Int32)), .val (.int (1 : Int32)), .val (.double h1), .second, .val (.double l1), .second, .val (.double d2), .second, .unset, .unset] [(.int (1 : Int32))])) _
    refine XS.iconst X0.here hx rfl (hb hby d0_83) ?_
    show Steps p.tables e below (s₁.setTop (mkF m 84 #[.val (.ref ar), .val (.int (3 : Int32)), .val (.int (1 : Int32)), .val (.double h1), .second, .val (.double l1), .second, .val (.double d2), .second, .unset, .unset] [(.int (1 : Int32)), (.int (1 : Int32))])) _
    refine XS.goto X0.here hx rfl (pc0 := 84) (pc' := 88) rfl (hb hby d0_84) (by decide) (by decide) ?_
    show Steps p.tables e below (s₁.setTop (mkF m 88 #[.val (.ref ar), .val (.int (3 : Int32)), .val (.int (1 : Int32)), .val (.double h1), .second, .val (.double l1), .second, .val (.double d2), .second, .unset, .unset] [(.int (1 : Int32)), (.int (1 : Int32))])) _
    refine XS.icmpNo X0.here hx rfl (hb hby d0_88) rfl (teq (rfl : (1 : Int32) = (1 : Int32))).2 ?_
    show Steps p.tables e below (s₁.setTop (mkF m 91 #[.val (.ref ar), .val (.int (3 : Int32)), .val (.int (1 : Int32)), .val (.double h1), .second, .val (.double l1), .second, .val (.double d2), .second, .unset, .unset] [])) _
    refine XS.dload X0.here hx rfl (hb hby d0_91) rfl ?_
    show Steps p.tables e below (s₁.setTop (mkF m 93 #[.val (.ref ar), .val (.int (3 : Int32)), .val (.int (1 : Int32)), .val (.double h1), .second, .val (.double l1), .second, .val (.double d2), .second, .unset, .unset] [(.double l1)])) _
    refine X0.ldc2DoubleC hx hown (mvT hZ (hw _ (List.mem_of_getElem? (i := 8) rfl))) (g := (mkF m 93 #[.val (.ref ar), .val (.int (3 : Int32)), .val (.int (1 : Int32)), .val (.double h1), .second, .val (.double l1), .second, .val (.double d2), .second, .unset, .unset] [(.double l1)])) rfl (hb hby d0_93) _ ?_
    show Steps p.tables e below (s₁.setTop (mkF m 96 #[.val (.ref ar), .val (.int (3 : Int32)), .val (.int (1 : Int32)), .val (.double h1), .second, .val (.double l1), .second, .val (.double d2), .second, .unset, .unset] [(.double 4611686018427387904), (.double l1)])) _
    refine XS.dmulS X0.here hx rfl (hb hby d0_96) rfl nn96 rfl ?_
    show Steps p.tables e below (s₁.setTop (mkF m 97 #[.val (.ref ar), .val (.int (3 : Int32)), .val (.int (1 : Int32)), .val (.double h1), .second, .val (.double l1), .second, .val (.double d2), .second, .unset, .unset] [(.double (FP.dmul l1 4611686018427387904))])) _
    rw [e4]
    show Steps p.tables e below (s₁.setTop (mkF m 97 #[.val (.ref ar), .val (.int (3 : Int32)), .val (.int (1 : Int32)), .val (.double h1), .second, .val (.double l1), .second, .val (.double d2), .second, .unset, .unset] [(.double y1)])) _
    refine XS.dstore X0.here hx rfl (hb hby d0_97) rfl (l' := #[.val (.ref ar), .val (.int (3 : Int32)), .val (.int (1 : Int32)), .val (.double h1), .second, .val (.double l1), .second, .val (.double y1), .second, .unset, .unset]) rfl ?_
    show Steps p.tables e below (s₁.setTop (mkF m 99 #[.val (.ref ar), .val (.int (3 : Int32)), .val (.int (1 : Int32)), .val (.double h1), .second, .val (.double l1), .second, .val (.double y1), .second, .unset, .unset] [])) _
    refine XS.dloadN X0.here hx rfl (hb hby d0_99) rfl ?_
    show Steps p.tables e below (s₁.setTop (mkF m 100 #[.val (.ref ar), .val (.int (3 : Int32)), .val (.int (1 : Int32)), .val (.double h1), .second, .val (.double l1), .second, .val (.double y1), .second, .unset, .unset] [(.double h1)])) _
    refine XS.dload X0.here hx rfl (hb hby d0_100) rfl ?_
    show Steps p.tables e below (s₁.setTop (mkF m 102 #[.val (.ref ar), .val (.int (3 : Int32)), .val (.int (1 : Int32)), .val (.double h1), .second, .val (.double l1), .second, .val (.double y1), .second, .unset, .unset] [(.double y1), (.double h1)])) _
    refine XS.daddS X0.here hx rfl (hb hby d0_102) rfl nn102 rfl ?_
    show Steps p.tables e below (s₁.setTop (mkF m 103 #[.val (.ref ar), .val (.int (3 : Int32)), .val (.int (1 : Int32)), .val (.double h1), .second, .val (.double l1), .second, .val (.double y1), .second, .unset, .unset] [(.double (FP.dadd h1 y1))])) _
    rw [e5]
    show Steps p.tables e below (s₁.setTop (mkF m 103 #[.val (.ref ar), .val (.int (3 : Int32)), .val (.int (1 : Int32)), .val (.double h1), .second, .val (.double l1), .second, .val (.double y1), .second, .unset, .unset] [(.double x1)])) _
    refine XS.dstore X0.here hx rfl (hb hby d0_103) rfl (l' := #[.val (.ref ar), .val (.int (3 : Int32)), .val (.int (1 : Int32)), .val (.double h1), .second, .val (.double l1), .second, .val (.double y1), .second, .val (.double x1), .second]) rfl ?_
    show Steps p.tables e below (s₁.setTop (mkF m 105 #[.val (.ref ar), .val (.int (3 : Int32)), .val (.int (1 : Int32)), .val (.double h1), .second, .val (.double l1), .second, .val (.double y1), .second, .val (.double x1), .second] [])) _
    refine XS.dload X0.here hx rfl (hb hby d0_105) rfl ?_
    show Steps p.tables e below (s₁.setTop (mkF m 107 #[.val (.ref ar), .val (.int (3 : Int32)), .val (.int (1 : Int32)), .val (.double h1), .second, .val (.double l1), .second, .val (.double y1), .second, .val (.double x1), .second] [(.double x1)])) _
    refine XS.dloadN X0.here hx rfl (hb hby d0_107) rfl ?_
    show Steps p.tables e below (s₁.setTop (mkF m 108 #[.val (.ref ar), .val (.int (3 : Int32)), .val (.int (1 : Int32)), .val (.double h1), .second, .val (.double l1), .second, .val (.double y1), .second, .val (.double x1), .second] [(.double h1), (.double x1)])) _
    refine XS.dsubS X0.here hx rfl (hb hby d0_108) rfl nn108 rfl ?_
    show Steps p.tables e below (s₁.setTop (mkF m 109 #[.val (.ref ar), .val (.int (3 : Int32)), .val (.int (1 : Int32)), .val (.double h1), .second, .val (.double l1), .second, .val (.double y1), .second, .val (.double x1), .second] [(.double (FP.dsub x1 h1))])) _
    rw [e6]
    show Steps p.tables e below (s₁.setTop (mkF m 109 #[.val (.ref ar), .val (.int (3 : Int32)), .val (.int (1 : Int32)), .val (.double h1), .second, .val (.double l1), .second, .val (.double y1), .second, .val (.double x1), .second] [(.double z1)])) _
    refine XS.dload X0.here hx rfl (hb hby d0_109) rfl ?_
    show Steps p.tables e below (s₁.setTop (mkF m 111 #[.val (.ref ar), .val (.int (3 : Int32)), .val (.int (1 : Int32)), .val (.double h1), .second, .val (.double l1), .second, .val (.double y1), .second, .val (.double x1), .second] [(.double y1), (.double z1)])) _
    refine XS.dcmpS X0.here hx rfl (hb hby d0_111) rfl rfl ?_
    show Steps p.tables e below (s₁.setTop (mkF m 112 #[.val (.ref ar), .val (.int (3 : Int32)), .val (.int (1 : Int32)), .val (.double h1), .second, .val (.double l1), .second, .val (.double y1), .second, .val (.double x1), .second] [(.int (cmpValue (FP.dcmp z1 y1) .l))])) _
    refine XS.ifYes X0.here hx rfl (pc0 := 112) (pc' := 118) rfl (hb hby d0_112) rfl ((if0 _ _).trans (feq hc112).2) (by decide) (by decide) ?_
    show Steps p.tables e below (s₁.setTop (mkF m 118 #[.val (.ref ar), .val (.int (3 : Int32)), .val (.int (1 : Int32)), .val (.double h1), .second, .val (.double l1), .second, .val (.double y1), .second, .val (.double x1), .second] [])) _
    refine XS.dloadN X0.here hx rfl (hb hby d0_118) rfl ?_
    show Steps p.tables e below (s₁.setTop (mkF m 119 #[.val (.ref ar), .val (.int (3 : Int32)), .val (.int (1 : Int32)), .val (.double h1), .second, .val (.double l1), .second, .val (.double y1), .second, .val (.double x1), .second] [(.double h1)])) _
    exact retOut X0 hx Bd.returns rfl (Or.inr (Or.inr (Or.inl ⟨rfl, rfl, _, rfl⟩))) (hb hby d0_119) hr
  · show Q_rd3ffft Z ar ka d0 d1 d2 d3 h1 g1 l1 y1 x1 z1 h0 n0 _ s₁.heap _
    rw [e0]
    exact ⟨rfl, N0, rfl⟩
theorem d0_72 : decode prog_28_method_5_code 72 = .ok (.iconst 0, 1) := by decide +kernel
theorem d0_87 : decode prog_28_method_5_code 87 = .ok (.iconst 0, 1) := by decide +kernel
def Q_rd3fttf (Z : State) (ar : Addr) (ka : ClassId) (d0 : UInt64) (d1 : UInt64) (d2 : UInt64) (d3 : UInt64) (h1 : UInt64) (g1 : UInt64) (l1 : UInt64) (y1 : UInt64) (x1 : UInt64) (z1 : UInt64) (h0 : Heap) (n0 : Nat) (v : Option Value) (h : Heap) (L : List Loc) : Prop := v = some (.double x1) ∧ Fr n0 L ∧ h = h0
theorem ef_rd3fttf (m : MethodId) (ar : Addr) : entryFrame m #[(.ref ar), (.int (3 : Int32))] 11 = mkF m 0 #[.val (.ref ar), .val (.int (3 : Int32)), .unset, .unset, .unset, .unset, .unset, .unset, .unset, .unset, .unset] [] := by first | (simp [entryFrame, mkF, argsToLocals, Value.category]; done) | rfl
set_option maxRecDepth 65536 in
set_option maxHeartbeats 40000000 in
theorem rd3fttf (l : Launch) (Z : State) (a0 : Array Value) (hw : ∀ d ∈ tables_1, d.before a0 Z = true) (ws : List Jvm.Cond) (ar : Addr) (ka : ClassId) (d0 : UInt64) (d1 : UInt64) (d2 : UInt64) (d3 : UInt64) (h1 : UInt64) (g1 : UInt64) (l1 : UInt64) (y1 : UInt64) (x1 : UInt64) (z1 : UInt64) (h0 : Heap) (n0 : Nat) (Z0 : n0 ≤ h0.size) (V_ar : Arv Z h0 ar ka .double (4 : Int32) [(.double d0), (.double d1), (.double d2), (.double d3)] (.double 0)) (e1 : FP.dadd d2 d1 = h1) (e2 : FP.dsub h1 d2 = g1) (e3 : FP.dsub d1 g1 = l1) (e4 : FP.dmul l1 4611686018427387904 = y1) (e5 : FP.dadd h1 y1 = x1) (e6 : FP.dsub x1 h1 = z1) (nn32 : NoNaN64 (FP.dadd d2 d1)) (nn40 : NoNaN64 (FP.dsub h1 d2)) (nn41 : NoNaN64 (FP.dsub d1 g1)) (hc48 : ¬ ((cmpValue (FP.dcmp l1 0) .l) = (0 : Int32))) (hc65 : ¬ ((cmpValue (FP.dcmp l1 0) .g) < (0 : Int32))) (hc80 : ¬ ((cmpValue (FP.dcmp d0 0) .g) < (0 : Int32))) (nn96 : NoNaN64 (FP.dmul l1 4611686018427387904)) (nn102 : NoNaN64 (FP.dadd h1 y1)) (nn108 : NoNaN64 (FP.dsub x1 h1)) (hc112 : (cmpValue (FP.dcmp z1 y1) .l) = (0 : Int32)) :
    MetFree l (⟨"com/example/crestwatch/crestwatch/core/ExactSum", "rounded", "([DI)D"⟩ : MethodName) (head1 (Jvm.Cond.code (⟨"com/example/crestwatch/crestwatch/core/ExactSum", "rounded", "([DI)D"⟩ : MethodName) prog_28_method_5_code 11 (some .double) :: ws) ({ frames := 0, cells := 0, slots := 0, locals := 0 } : Room)) (fun a U => a = #[(.ref ar), (.int (3 : Int32))] ∧ Z.Warmed39 U.vm ∧ U.heap = h0) (fun _ _ _ _ _ => True) (fun _ U o U' => ∃ v L, o = .returned v ∧ Q_rd3fttf Z ar ka d0 d1 d2 d3 h1 g1 l1 y1 x1 z1 h0 n0 v U'.heap L ∧ FrameEnd U o U' L ({ frames := 0, cells := 0, slots := 0, locals := 0 } : Room).cells ({ frames := 0, cells := 0, slots := 0, locals := 0 } : Room).slots) := by
  refine MetFree.of_bodySF (plainFor_of_name pn_0) hisR ?_
  intro p e s m args below meth c s₁ Bd hml0 hP hK
  obtain ⟨rfl, hZ, hh⟩ := hP
  have hx := Bd.exec
  have hby := Bd.bytes
  have hml : c.maxLocals = 11 := hml0
  have hown : s.vm.findClass "com/example/crestwatch/crestwatch/core/ExactSum" = some m.cls := findClass_of_methodNamed Bd.named
  have hnm := (name_of_methodNamed Bd.named Bd.method).1
  have X0 : Stand p l e ({ frames := 0, cells := 0, slots := 0, locals := 0 } : Room) s m #[(.ref ar), (.int (3 : Int32))] below meth c s₁ [] 0 0 := Stand.of_body Bd
  have e0 : s₁.heap = h0 := by rw [← hh, Bd.state]; rfl
  have N0 := Fr.nil n0
  have pre0 : ∀ t, Steps p.tables e below (s₁.setTop (mkF m 0 #[.val (.ref ar), .val (.int (3 : Int32)), .unset, .unset, .unset, .unset, .unset, .unset, .unset, .unset, .unset] [])) t → Steps p.tables e below (s₁.setTop (entryFrame m #[(.ref ar), (.int (3 : Int32))] 11)) t := fun t k => castTop (ef_rd3fttf m ar) k
  have Vc1 := V_ar
  obtain ⟨cl1, Ar1, q1, S1, M1, H1, G1⟩ := Vc1
  have hin1 : ¬ ((2 : Int32) < 0 ∨ cl1.slots.size ≤ ((2 : Int32)).toNatClampNeg) := inb_of S1 ⟨by decide, by decide⟩
  have hat1 : cl1.slots[((2 : Int32)).toNatClampNeg]? = some (.double d2) := Has.at H1 hin1 rfl
  have Vc2 := V_ar
  obtain ⟨cl2, Ar2, q2, S2, M2, H2, G2⟩ := Vc2
  have hin2 : ¬ ((1 : Int32) < 0 ∨ cl2.slots.size ≤ ((1 : Int32)).toNatClampNeg) := inb_of S2 ⟨by decide, by decide⟩
  have hat2 : cl2.slots[((1 : Int32)).toNatClampNeg]? = some (.double d1) := Has.at H2 hin2 rfl
  have Vc3 := V_ar
  obtain ⟨cl3, Ar3, q3, S3, M3, H3, G3⟩ := Vc3
  have hin3 : ¬ ((1 : Int32) < 0 ∨ cl3.slots.size ≤ ((1 : Int32)).toNatClampNeg) := inb_of S3 ⟨by decide, by decide⟩
  have hat3 : cl3.slots[((1 : Int32)).toNatClampNeg]? = some (.double d1) := Has.at H3 hin3 rfl
  have Vc4 := V_ar
  obtain ⟨cl4, Ar4, q4, S4, M4, H4, G4⟩ := Vc4
  have hin4 : ¬ ((0 : Int32) < 0 ∨ cl4.slots.size ≤ ((0 : Int32)).toNatClampNeg) := inb_of S4 ⟨by decide, by decide⟩
  have hat4 : cl4.slots[((0 : Int32)).toNatClampNeg]? = some (.double d0) := Has.at H4 hin4 rfl
  obtain ⟨fs, hr, hrun, hended, hW, hsame⟩ := X0.leave (v := some (.double x1)) (fun h => by rw [Bd.returns] at h; cases h)
  refine ⟨_, _, pre0 _ ?_, hrun, hended, _, _, rfl, ?_, ⟨_, rfl⟩, hW, hsame.mono (by decide) (by decide)⟩
  · show Steps p.tables e below (s₁.setTop (mkF m 0 #[.val (.ref ar), .val (.int (3 : Int32)), .unset, .unset, .unset, .unset, .unset, .unset, .unset, .unset, .unset] [])) _
    refine XS.iloadN X0.here hx rfl (hb hby d0_0) rfl ?_
    show Steps p.tables e below (s₁.setTop (mkF m 1 #[.val (.ref ar), .val (.int (3 : Int32)), .unset, .unset, .unset, .unset, .unset, .unset, .unset, .unset, .unset] [(.int (3 : Int32))])) _
    refine XS.ifYes X0.here hx rfl (pc0 := 1) (pc' := 6) rfl (hb hby d0_1) rfl ((if0 _ _).trans (feq (by decide : ¬ ((3 : Int32) = (0 : Int32)))).2) (by decide) (by decide) ?_
    show Steps p.tables e below (s₁.setTop (mkF m 6 #[.val (.ref ar), .val (.int (3 : Int32)), .unset, .unset, .unset, .unset, .unset, .unset, .unset, .unset, .unset] [])) _
    refine XS.iloadN X0.here hx rfl (hb hby d0_6) rfl ?_
    show Steps p.tables e below (s₁.setTop (mkF m 7 #[.val (.ref ar), .val (.int (3 : Int32)), .unset, .unset, .unset, .unset, .unset, .unset, .unset, .unset, .unset] [(.int (3 : Int32))])) _
    refine XS.iconst X0.here hx rfl (hb hby d0_7) ?_
    show Steps p.tables e below (s₁.setTop (mkF m 8 #[.val (.ref ar), .val (.int (3 : Int32)), .unset, .unset, .unset, .unset, .unset, .unset, .unset, .unset, .unset] [(.int (1 : Int32)), (.int (3 : Int32))])) _
    refine XS.isub X0.here hx rfl (hb hby d0_8) rfl ?_
    show Steps p.tables e below (s₁.setTop (mkF m 9 #[.val (.ref ar), .val (.int (3 : Int32)), .unset, .unset, .unset, .unset, .unset, .unset, .unset, .unset, .unset] [(.int ((3 : Int32) - (1 : Int32)))])) _
    rw [show ((3 : Int32) - (1 : Int32)) = (2 : Int32) from by decide]
    show Steps p.tables e below (s₁.setTop (mkF m 9 #[.val (.ref ar), .val (.int (3 : Int32)), .unset, .unset, .unset, .unset, .unset, .unset, .unset, .unset, .unset] [(.int (2 : Int32))])) _
    refine XS.istoreN X0.here hx rfl (hb hby d0_9) rfl (l' := #[.val (.ref ar), .val (.int (3 : Int32)), .val (.int (2 : Int32)), .unset, .unset, .unset, .unset, .unset, .unset, .unset, .unset]) rfl ?_
    show Steps p.tables e below (s₁.setTop (mkF m 10 #[.val (.ref ar), .val (.int (3 : Int32)), .val (.int (2 : Int32)), .unset, .unset, .unset, .unset, .unset, .unset, .unset, .unset] [])) _
    refine XS.aloadN X0.here hx rfl (hb hby d0_10) rfl rfl ?_
    show Steps p.tables e below (s₁.setTop (mkF m 11 #[.val (.ref ar), .val (.int (3 : Int32)), .val (.int (2 : Int32)), .unset, .unset, .unset, .unset, .unset, .unset, .unset, .unset] [(.ref ar)])) _
    refine XS.iloadN X0.here hx rfl (hb hby d0_11) rfl ?_
    show Steps p.tables e below (s₁.setTop (mkF m 12 #[.val (.ref ar), .val (.int (3 : Int32)), .val (.int (2 : Int32)), .unset, .unset, .unset, .unset, .unset, .unset, .unset, .unset] [(.int (2 : Int32)), (.ref ar)])) _
    refine X0.daload hx (j := (2 : Int32)) (v := (.double d2)) (by rw [e0]; exact Ar1.1) (State.isArrayOf_alike hZ.alike Ar1.2.1) Ar1.2.2 hin1 hat1 (g := (mkF m 12 #[.val (.ref ar), .val (.int (3 : Int32)), .val (.int (2 : Int32)), .unset, .unset, .unset, .unset, .unset, .unset, .unset, .unset] [(.int (2 : Int32)), (.ref ar)])) rfl rfl (hb hby d0_12) _ ?_
    show Steps p.tables e below (s₁.setTop (mkF m 13 #[.val (.ref ar), .val (.int (3 : Int32)), .val (.int (2 : Int32)), .unset, .unset, .unset, .unset, .unset, .unset, .unset, .unset] [(.double d2)])) _
    refine XS.dstoreN X0.here hx rfl (hb hby d0_13) rfl (l' := #[.val (.ref ar), .val (.int (3 : Int32)), .val (.int (2 : Int32)), .val (.double d2), .second, .unset, .unset, .unset, .unset, .unset, .unset]) rfl ?_
    show Steps p.tables e below (s₁.setTop (mkF m 14 #[.val (.ref ar), .val (.int (3 : Int32)), .val (.int (2 : Int32)), .val (.double d2), .second, .unset, .unset, .unset, .unset, .unset, .unset] [])) _
    refine XS.dconst0 X0.here hx rfl (hb hby d0_14) (v := 0) rfl ?_
    show Steps p.tables e below (s₁.setTop (mkF m 15 #[.val (.ref ar), .val (.int (3 : Int32)), .val (.int (2 : Int32)), .val (.double d2), .second, .unset, .unset, .unset, .unset, .unset, .unset] [(.double 0)])) _
    refine XS.dstore X0.here hx rfl (hb hby d0_15) rfl (l' := #[.val (.ref ar), .val (.int (3 : Int32)), .val (.int (2 : Int32)), .val (.double d2), .second, .val (.double 0), .second, .unset, .unset, .unset, .unset]) rfl ?_
    show Steps p.tables e below (s₁.setTop (mkF m 17 #[.val (.ref ar), .val (.int (3 : Int32)), .val (.int (2 : Int32)), .val (.double d2), .second, .val (.double 0), .second, .unset, .unset, .unset, .unset] [])) _
    refine XS.iloadN X0.here hx rfl (hb hby d0_17) rfl ?_
    show Steps p.tables e below (s₁.setTop (mkF m 18 #[.val (.ref ar), .val (.int (3 : Int32)), .val (.int (2 : Int32)), .val (.double d2), .second, .val (.double 0), .second, .unset, .unset, .unset, .unset] [(.int (2 : Int32))])) _
    refine XS.ifNo X0.here hx rfl (hb hby d0_18) rfl ((if0 _ _).trans (tlt (by decide : (0 : Int32) < (2 : Int32))).2.2.2) ?_
    show Steps p.tables e below (s₁.setTop (mkF m 21 #[.val (.ref ar), .val (.int (3 : Int32)), .val (.int (2 : Int32)), .val (.double d2), .second, .val (.double 0), .second, .unset, .unset, .unset, .unset] [])) _
    refine XS.iinc X0.here hx rfl (hb hby d0_21) rfl (l' := #[.val (.ref ar), .val (.int (3 : Int32)), .val (.int ((2 : Int32) + (-1 : Int32))), .val (.double d2), .second, .val (.double 0), .second, .unset, .unset, .unset, .unset]) rfl ?_
    show Steps p.tables e below (s₁.setTop (mkF m 24 #[.val (.ref ar), .val (.int (3 : Int32)), .val (.int ((2 : Int32) + (-1 : Int32))), .val (.double d2), .second, .val (.double 0), .second, .unset, .unset, .unset, .unset] [])) _
    rw [show ((2 : Int32) + (-1 : Int32)) = (1 : Int32) from by decide]
    show Steps p.tables e below (s₁.setTop (mkF m 24 #[.val (.ref ar), .val (.int (3 : Int32)), .val (.int (1 : Int32)), .val (.double d2), .second, .val (.double 0), .second, .unset, .unset, .unset, .unset] [])) _
    refine XS.dloadN X0.here hx rfl (hb hby d0_24) rfl ?_
    show Steps p.tables e below (s₁.setTop (mkF m 25 #[.val (.ref ar), .val (.int (3 : Int32)), .val (.int (1 : Int32)), .val (.double d2), .second, .val (.double 0), .second, .unset, .unset, .unset, .unset] [(.double d2)])) _
    refine XS.dstore X0.here hx rfl (hb hby d0_25) rfl (l' := #[.val (.ref ar), .val (.int (3 : Int32)), .val (.int (1 : Int32)), .val (.double d2), .second, .val (.double 0), .second, .val (.double d2), .second, .unset, .unset]) rfl ?_
    show Steps p.tables e below (s₁.setTop (mkF m 27 #[.val (.ref ar), .val (.int (3 : Int32)), .val (.int (1 : Int32)), .val (.double d2), .second, .val (.double 0), .second, .val (.double d2), .second, .unset, .unset] [])) _
    refine XS.dload X0.here hx rfl (hb hby d0_27) rfl ?_
    show Steps p.tables e below (s₁.setTop (mkF m 29 #[.val (.ref ar), .val (.int (3 : Int32)), .val (.int (1 : Int32)), .val (.double d2), .second, .val (.double 0), .second, .val (.double d2), .second, .unset, .unset] [(.double d2)])) _
    refine XS.aloadN X0.here hx rfl (hb hby d0_29) rfl rfl ?_
    show Steps p.tables e below (s₁.setTop (mkF m 30 #[.val (.ref ar), .val (.int (3 : Int32)), .val (.int (1 : Int32)), .val (.double d2), .second, .val (.double 0), .second, .val (.double d2), .second, .unset, .unset] [(.ref ar), (.double d2)])) _
    refine XS.iloadN X0.here hx rfl (hb hby d0_30) rfl ?_
    show Steps p.tables e below (s₁.setTop (mkF m 31 #[.val (.ref ar), .val (.int (3 : Int32)), .val (.int (1 : Int32)), .val (.double d2), .second, .val (.double 0), .second, .val (.double d2), .second, .unset, .unset] [(.int (1 : Int32)), (.ref ar), (.double d2)])) _
    refine X0.daload hx (j := (1 : Int32)) (v := (.double d1)) (by rw [e0]; exact Ar2.1) (State.isArrayOf_alike hZ.alike Ar2.2.1) Ar2.2.2 hin2 hat2 (g := (mkF m 31 #[.val (.ref ar), .val (.int (3 : Int32)), .val (.int (1 : Int32)), .val (.double d2), .second, .val (.double 0), .second, .val (.double d2), .second, .unset, .unset] [(.int (1 : Int32)), (.ref ar), (.double d2)])) rfl rfl (hb hby d0_31) _ ?_
    show Steps p.tables e below (s₁.setTop (mkF m 32 #[.val (.ref ar), .val (.int (3 : Int32)), .val (.int (1 : Int32)), .val (.double d2), .second, .val (.double 0), .second, .val (.double d2), .second, .unset, .unset] [(.double d1), (.double d2)])) _
    refine XS.daddS X0.here hx rfl (hb hby d0_32) rfl nn32 rfl ?_
    show Steps p.tables e below (s₁.setTop (mkF m 33 #[.val (.ref ar), .val (.int (3 : Int32)), .val (.int (1 : Int32)), .val (.double d2), .second, .val (.double 0), .second, .val (.double d2), .second, .unset, .unset] [(.double (FP.dadd d2 d1))])) _
    rw [e1]
    show Steps p.tables e below (s₁.setTop (mkF m 33 #[.val (.ref ar), .val (.int (3 : Int32)), .val (.int (1 : Int32)), .val (.double d2), .second, .val (.double 0), .second, .val (.double d2), .second, .unset, .unset] [(.double h1)])) _
    refine XS.dstoreN X0.here hx rfl (hb hby d0_33) rfl (l' := #[.val (.ref ar), .val (.int (3 : Int32)), .val (.int (1 : Int32)), .val (.double h1), .second, .val (.double 0), .second, .val (.double d2), .second, .unset, .unset]) rfl ?_
    show Steps p.tables e below (s₁.setTop (mkF m 34 #[.val (.ref ar), .val (.int (3 : Int32)), .val (.int (1 : Int32)), .val (.double h1), .second, .val (.double 0), .second, .val (.double d2), .second, .unset, .unset] [])) _
    refine XS.aloadN X0.here hx rfl (hb hby d0_34) rfl rfl ?_
    show Steps p.tables e below (s₁.setTop (mkF m 35 #[.val (.ref ar), .val (.int (3 : Int32)), .val (.int (1 : Int32)), .val (.double h1), .second, .val (.double 0), .second, .val (.double d2), .second, .unset, .unset] [(.ref ar)])) _
    refine XS.iloadN X0.here hx rfl (hb hby d0_35) rfl ?_
    show Steps p.tables e below (s₁.setTop (mkF m 36 #[.val (.ref ar), .val (.int (3 : Int32)), .val (.int (1 : Int32)), .val (.double h1), .second, .val (.double 0), .second, .val (.double d2), .second, .unset, .unset] [(.int (1 : Int32)), (.ref ar)])) _
    refine X0.daload hx (j := (1 : Int32)) (v := (.double d1)) (by rw [e0]; exact Ar3.1) (State.isArrayOf_alike hZ.alike Ar3.2.1) Ar3.2.2 hin3 hat3 (g := (mkF m 36 #[.val (.ref ar), .val (.int (3 : Int32)), .val (.int (1 : Int32)), .val (.double h1), .second, .val (.double 0), .second, .val (.double d2), .second, .unset, .unset] [(.int (1 : Int32)), (.ref ar)])) rfl rfl (hb hby d0_36) _ ?_
    show Steps p.tables e below (s₁.setTop (mkF m 37 #[.val (.ref ar), .val (.int (3 : Int32)), .val (.int (1 : Int32)), .val (.double h1), .second, .val (.double 0), .second, .val (.double d2), .second, .unset, .unset] [(.double d1)])) _
    refine XS.dloadN X0.here hx rfl (hb hby d0_37) rfl ?_
    show Steps p.tables e below (s₁.setTop (mkF m 38 #[.val (.ref ar), .val (.int (3 : Int32)), .val (.int (1 : Int32)), .val (.double h1), .second, .val (.double 0), .second, .val (.double d2), .second, .unset, .unset] [(.double h1), (.double d1)])) _
    refine XS.dload X0.here hx rfl (hb hby d0_38) rfl ?_
    show Steps p.tables e below (s₁.setTop (mkF m 40 #[.val (.ref ar), .val (.int (3 : Int32)), .val (.int (1 : Int32)), .val (.double h1), .second, .val (.double 0), .second, .val (.double d2), .second, .unset, .unset] [(.double d2), (.double h1), (.double d1)])) _
    refine XS.dsubS X0.here hx rfl (hb hby d0_40) rfl nn40 rfl ?_
    show Steps p.tables e below (s₁.setTop (mkF m 41 #[.val (.ref ar), .val (.int (3 : Int32)), .val (.int (1 : Int32)), .val (.double h1), .second, .val (.double 0), .second, .val (.double d2), .second, .unset, .unset] [(.double (FP.dsub h1 d2)), (.double d1)])) _
    rw [e2]
    show Steps p.tables e below (s₁.setTop (mkF m 41 #[.val (.ref ar), .val (.int (3 : Int32)), .val (.int (1 : Int32)), .val (.double h1), .second, .val (.double 0), .second, .val (.double d2), .second, .unset, .unset] [(.double g1), (.double d1)])) _
    refine XS.dsubS X0.here hx rfl (hb hby d0_41) rfl nn41 rfl ?_
    show Steps p.tables e below (s₁.setTop (mkF m 42 #[.val (.ref ar), .val (.int (3 : Int32)), .val (.int (1 : Int32)), .val (.double h1), .second, .val (.double 0), .second, .val (.double d2), .second, .unset, .unset] [(.double (FP.dsub d1 g1))])) _
    rw [e3]
    show Steps p.tables e below (s₁.setTop (mkF m 42 #[.val (.ref ar), .val (.int (3 : Int32)), .val (.int (1 : Int32)), .val (.double h1), .second, .val (.double 0), .second, .val (.double d2), .second, .unset, .unset] [(.double l1)])) _
    refine XS.dstore X0.here hx rfl (hb hby d0_42) rfl (l' := #[.val (.ref ar), .val (.int (3 : Int32)), .val (.int (1 : Int32)), .val (.double h1), .second, .val (.double l1), .second, .val (.double d2), .second, .unset, .unset]) rfl ?_
    show Steps p.tables e below (s₁.setTop (mkF m 44 #[.val (.ref ar), .val (.int (3 : Int32)), .val (.int (1 : Int32)), .val (.double h1), .second, .val (.double l1), .second, .val (.double d2), .second, .unset, .unset] [])) _
    refine XS.dload X0.here hx rfl (hb hby d0_44) rfl ?_
    show Steps p.tables e below (s₁.setTop (mkF m 46 #[.val (.ref ar), .val (.int (3 : Int32)), .val (.int (1 : Int32)), .val (.double h1), .second, .val (.double l1), .second, .val (.double d2), .second, .unset, .unset] [(.double l1)])) _
    refine XS.dconst0 X0.here hx rfl (hb hby d0_46) (v := 0) rfl ?_
    show Steps p.tables e below (s₁.setTop (mkF m 47 #[.val (.ref ar), .val (.int (3 : Int32)), .val (.int (1 : Int32)), .val (.double h1), .second, .val (.double l1), .second, .val (.double d2), .second, .unset, .unset] [(.double 0), (.double l1)])) _
    refine XS.dcmpS X0.here hx rfl (hb hby d0_47) rfl rfl ?_
    show Steps p.tables e below (s₁.setTop (mkF m 48 #[.val (.ref ar), .val (.int (3 : Int32)), .val (.int (1 : Int32)), .val (.double h1), .second, .val (.double l1), .second, .val (.double d2), .second, .unset, .unset] [(.int (cmpValue (FP.dcmp l1 0) .l))])) _
    refine XS.ifNo X0.here hx rfl (hb hby d0_48) rfl ((if0 _ _).trans (feq hc48).1) ?_
    show Steps p.tables e below (s₁.setTop (mkF m 51 #[.val (.ref ar), .val (.int (3 : Int32)), .val (.int (1 : Int32)), .val (.double h1), .second, .val (.double l1), .second, .val (.double d2), .second, .unset, .unset] [])) _
    refine XS.goto X0.here hx rfl (pc0 := 51) (pc' := 57) rfl (hb hby d0_51) (by decide) (by decide) ?_
    show Steps p.tables e below (s₁.setTop (mkF m 57 #[.val (.ref ar), .val (.int (3 : Int32)), .val (.int (1 : Int32)), .val (.double h1), .second, .val (.double l1), .second, .val (.double d2), .second, .unset, .unset] [])) _
    refine XS.iloadN X0.here hx rfl (hb hby d0_57) rfl ?_
    show Steps p.tables e below (s₁.setTop (mkF m 58 #[.val (.ref ar), .val (.int (3 : Int32)), .val (.int (1 : Int32)), .val (.double h1), .second, .val (.double l1), .second, .val (.double d2), .second, .unset, .unset] [(.int (1 : Int32))])) _
    refine XS.ifNo X0.here hx rfl (hb hby d0_58) rfl ((if0 _ _).trans (tlt (by decide : (0 : Int32) < (1 : Int32))).2.2.2) ?_
    show Steps p.tables e below (s₁.setTop (mkF m 61 #[.val (.ref ar), .val (.int (3 : Int32)), .val (.int (1 : Int32)), .val (.double h1), .second, .val (.double l1), .second, .val (.double d2), .second, .unset, .unset] [])) _
    refine XS.dload X0.here hx rfl (hb hby d0_61) rfl ?_
    show Steps p.tables e below (s₁.setTop (mkF m 63 #[.val (.ref ar), .val (.int (3 : Int32)), .val (.int (1 : Int32)), .val (.double h1), .second, .val (.double l1), .second, .val (.double d2), .second, .unset, .unset] [(.double l1)])) _
    refine XS.dconst0 X0.here hx rfl (hb hby d0_63) (v := 0) rfl ?_
    show Steps p.tables e below (s₁.setTop (mkF m 64 #[.val (.ref ar), .val (.int (3 : Int32)), .val (.int (1 : Int32)), .val (.double h1), .second, .val (.double l1), .second, .val (.double d2), .second, .unset, .unset] [(.double 0), (.double l1)])) _
    refine XS.dcmpS X0.here hx rfl (hb hby d0_64) rfl rfl ?_
    show Steps p.tables e below (s₁.setTop (mkF m 65 #[.val (.ref ar), .val (.int (3 : Int32)), .val (.int (1 : Int32)), .val (.double h1), .second, .val (.double l1), .second, .val (.double d2), .second, .unset, .unset] [(.int (cmpValue (FP.dcmp l1 0) .g))])) _
    refine XS.ifYes X0.here hx rfl (pc0 := 65) (pc' := 72) rfl (hb hby d0_65) rfl ((if0 _ _).trans (flt hc65).2.1) (by decide) (by decide) ?_
    show Steps p.tables e below (s₁.setTop (mkF m 72 #[.val (.ref ar), .val (.int (3 : Int32)), .val (.int (1 : Int32)), .val (.double h1), .second, .val (.double l1), .second, .val (.double d2), .second, .unset, .unset] [])) _
    refine XS.iconst X0.here hx rfl (hb hby d0_72) ?_
    show Steps p.tables e below (s₁.setTop (mkF m 73 #[.val (.ref ar), .val (.int (3 : Int32)), .val (.int (1 : Int32)), .val (.double h1), .second, .val (.double l1), .second, .val (.double d2), .second, .unset, .unset] [(.int (0 : Int32))])) _
    refine XS.aloadN X0.here hx rfl (hb hby d0_73) rfl rfl ?_
    show Steps p.tables e below (s₁.setTop (mkF m 74 #[.val (.ref ar), .val (.int (3 : Int32)), .val (.int (1 : Int32)), .val (.double h1), .second, .val (.double l1), .second, .val (.double d2), .second, .unset, .unset] [(.ref ar), (.int (0 : Int32))])) _
    refine XS.iloadN X0.here hx rfl (hb hby d0_74) rfl ?_
    show Steps p.tables e below (s₁.setTop (mkF m 75 #[.val (.ref ar), .val (.int (3 : Int32)), .val (.int (1 : Int32)), .val (.double h1), .second, .val (.double l1), .second, .val (.double d2), .second, .unset, .unset] [(.int (1 : Int32)), (.ref ar), (.int (0 : Int32))])) _
    refine XS.iconst X0.here hx rfl (hb hby d0_75) ?_
    show Steps p.tables e below (s₁.setTop (mkF m 76 #[.val (.ref ar), .val (.int (3 : Int32)), .val (.int (1 : Int32)), .val (.double h1), .second, .val (.double l1), .second, .val (.double d2), .second, .unset, .unset] [(.int (1 : Int32)), (.int (1 : Int32)), (.ref ar), (.int (0 : Int32))])) _
    refine XS.isub X0.here hx rfl (hb hby d0_76) rfl ?_
    show Steps p.tables e below (s₁.setTop (mkF m 77 #[.val (.ref ar), .val (.int (3 : Int32)), .val (.int (1 : Int32)), .val (.double h1), .second, .val (.double l1), .second, .val (.double d2), .second, .unset, .unset] [(.int ((1 : Int32) - (1 : Int32))), (.ref ar), (.int (0 : Int32))])) _
    rw [show ((1 : Int32) - (1 : Int32)) = (0 : Int32) from by decide]
    show Steps p.tables e below (s₁.setTop (mkF m 77 #[.val (.ref ar), .val (.int (3 : Int32)), .val (.int (1 : Int32)), .val (.double h1), .second, .val (.double l1), .second, .val (.double d2), .second, .unset, .unset] [(.int (0 : Int32)), (.ref ar), (.int (0 : Int32))])) _
    refine X0.daload hx (j := (0 : Int32)) (v := (.double d0)) (by rw [e0]; exact Ar4.1) (State.isArrayOf_alike hZ.alike Ar4.2.1) Ar4.2.2 hin4 hat4 (g := (mkF m 77 #[.val (.ref ar), .val (.int (3 : Int32)), .val (.int (1 : Int32)), .val (.double h1), .second, .val (.double l1), .second, .val (.double d2), .second, .unset, .unset] [(.int (0 : Int32)), (.ref ar), (.int (0 : Int32))])) rfl rfl (hb hby d0_77) _ ?_
    show Steps p.tables e below (s₁.setTop (mkF m 78 #[.val (.ref ar), .val (.int (3 : Int32)), .val (.int (1 : Int32)), .val (.double h1), .second, .val (.double l1), .second, .val (.double d2), .second, .unset, .unset] [(.double d0), (.int (0 : Int32))])) _
    refine XS.dconst0 X0.here hx rfl (hb hby d0_78) (v := 0) rfl ?_
    show Steps p.tables e below (s₁.setTop (mkF m 79 #[.val (.ref ar), .val (.int (3 : Int32)), .val (.int (1 : Int32)), .val (.double h1), .second, .val (.double l1), .second, .val (.double d2), .second, .unset, .unset] [(.double 0), (.double d0), (.int (0 : Int32))])) _
    refine XS.dcmpS X0.here hx rfl (hb hby d0_79) rfl rfl ?_
    show Steps p.tables e below (s₁.setTop (mkF m 80 #[.val (.ref ar), .val (.int (3 : Int32)), .val (.int (1 : Int32)), .val (.double h1), .second, .val (.double l1), .second, .val (.double d2), .second, .unset, .unset] [(.int (cmpValue (FP.dcmp d0 0) .g)), (.int (0 : Int32))])) _
    refine XS.ifYes X0.here hx rfl (pc0 := 80) (pc' := 87) rfl (hb hby d0_80) rfl ((if0 _ _).trans (flt hc80).2.1) (by decide) (by decide) ?_
    show Steps p.tables e below (s₁.setTop (mkF m 87 #[.val (.ref ar), .val (.int (3 : Int32)), .val (.int (1 : Int32)), .val (.double h1), .second, .val (.double l1), .second, .val (.double d2), .second, .unset, .unset] [(.int (0 : Int32))])) _
    refine XS.iconst X0.here hx rfl (hb hby d0_87) ?_
    show Steps p.tables e below (s₁.setTop (mkF m 88 #[.val (.ref ar), .val (.int (3 : Int32)), .val (.int (1 : Int32)), .val (.double h1), .second, .val (.double l1), .second, .val (.double d2), .second, .unset, .unset] [(.int (0 : Int32)), (.int (0 : Int32))])) _
    refine XS.icmpNo X0.here hx rfl (hb hby d0_88) rfl (teq (rfl : (0 : Int32) = (0 : Int32))).2 ?_
    show Steps p.tables e below (s₁.setTop (mkF m 91 #[.val (.ref ar), .val (.int (3 : Int32)), .val (.int (1 : Int32)), .val (.double h1), .second, .val (.double l1), .second, .val (.double d2), .second, .unset, .unset] [])) _
    refine XS.dload X0.here hx rfl (hb hby d0_91) rfl ?_
    show Steps p.tables e below (s₁.setTop (mkF m 93 #[.val (.ref ar), .val (.int (3 : Int32)), .val (.int (1 : Int32)), .val (.double h1), .second, .val (.double l1), .second, .val (.double d2), .second, .unset, .unset] [(.double l1)])) _
    refine X0.ldc2DoubleC hx hown (mvT hZ (hw _ (List.mem_of_getElem? (i := 8) rfl))) (g := (mkF m 93 #[.val (.ref ar), .val (.int (3 : Int32)), .val (.int (1 : Int32)), .val (.double h1), .second, .val (.double l1), .second, .val (.double d2), .second, .unset, .unset] [(.double l1)])) rfl (hb hby d0_93) _ ?_
    show Steps p.tables e below (s₁.setTop (mkF m 96 #[.val (.ref ar), .val (.int (3 : Int32)), .val (.int (1 : Int32)), .val (.double h1), .second, .val (.double l1), .second, .val (.double d2), .second, .unset, .unset] [(.double 4611686018427387904), (.double l1)])) _
    refine XS.dmulS X0.here hx rfl (hb hby d0_96) rfl nn96 rfl ?_
    show Steps p.tables e below (s₁.setTop (mkF m 97 #[.val (.ref ar), .val (.int (3 : Int32)), .val (.int (1 : Int32)), .val (.double h1), .second, .val (.double l1), .second, .val (.double d2), .second, .unset, .unset] [(.double (FP.dmul l1 4611686018427387904))])) _
    rw [e4]
    show Steps p.tables e below (s₁.setTop (mkF m 97 #[.val (.ref ar), .val (.int (3 : Int32)), .val (.int (1 : Int32)), .val (.double h1), .second, .val (.double l1), .second, .val (.double d2), .second, .unset, .unset] [(.double y1)])) _
    refine XS.dstore X0.here hx rfl (hb hby d0_97) rfl (l' := #[.val (.ref ar), .val (.int (3 : Int32)), .val (.int (1 : Int32)), .val (.double h1), .second, .val (.double l1), .second, .val (.double y1), .second, .unset, .unset]) rfl ?_
    show Steps p.tables e below (s₁.setTop (mkF m 99 #[.val (.ref ar), .val (.int (3 : Int32)), .val (.int (1 : Int32)), .val (.double h1), .second, .val (.double l1), .second, .val (.double y1), .second, .unset, .unset] [])) _
    refine XS.dloadN X0.here hx rfl (hb hby d0_99) rfl ?_
    show Steps p.tables e below (s₁.setTop (mkF m 100 #[.val (.ref ar), .val (.int (3 : Int32)), .val (.int (1 : Int32)), .val (.double h1), .second, .val (.double l1), .second, .val (.double y1), .second, .unset, .unset] [(.double h1)])) _
    refine XS.dload X0.here hx rfl (hb hby d0_100) rfl ?_
    show Steps p.tables e below (s₁.setTop (mkF m 102 #[.val (.ref ar), .val (.int (3 : Int32)), .val (.int (1 : Int32)), .val (.double h1), .second, .val (.double l1), .second, .val (.double y1), .second, .unset, .unset] [(.double y1), (.double h1)])) _
    refine XS.daddS X0.here hx rfl (hb hby d0_102) rfl nn102 rfl ?_
    show Steps p.tables e below (s₁.setTop (mkF m 103 #[.val (.ref ar), .val (.int (3 : Int32)), .val (.int (1 : Int32)), .val (.double h1), .second, .val (.double l1), .second, .val (.double y1), .second, .unset, .unset] [(.double (FP.dadd h1 y1))])) _
    rw [e5]
    show Steps p.tables e below (s₁.setTop (mkF m 103 #[.val (.ref ar), .val (.int (3 : Int32)), .val (.int (1 : Int32)), .val (.double h1), .second, .val (.double l1), .second, .val (.double y1), .second, .unset, .unset] [(.double x1)])) _
    refine XS.dstore X0.here hx rfl (hb hby d0_103) rfl (l' := #[.val (.ref ar), .val (.int (3 : Int32)), .val (.int (1 : Int32)), .val (.double h1), .second, .val (.double l1), .second, .val (.double y1), .second, .val (.double x1), .second]) rfl ?_
    show Steps p.tables e below (s₁.setTop (mkF m 105 #[.val (.ref ar), .val (.int (3 : Int32)), .val (.int (1 : Int32)), .val (.double h1), .second, .val (.double l1), .second, .val (.double y1), .second, .val (.double x1), .second] [])) _
    refine XS.dload X0.here hx rfl (hb hby d0_105) rfl ?_
    show Steps p.tables e below (s₁.setTop (mkF m 107 #[.val (.ref ar), .val (.int (3 : Int32)), .val (.int (1 : Int32)), .val (.double h1), .second, .val (.double l1), .second, .val (.double y1), .second, .val (.double x1), .second] [(.double x1)])) _
    refine XS.dloadN X0.here hx rfl (hb hby d0_107) rfl ?_
    show Steps p.tables e below (s₁.setTop (mkF m 108 #[.val (.ref ar), .val (.int (3 : Int32)), .val (.int (1 : Int32)), .val (.double h1), .second, .val (.double l1), .second, .val (.double y1), .second, .val (.double x1), .second] [(.double h1), (.double x1)])) _
    refine XS.dsubS X0.here hx rfl (hb hby d0_108) rfl nn108 rfl ?_
    show Steps p.tables e below (s₁.setTop (mkF m 109 #[.val (.ref ar), .val (.int (3 : Int32)), .val (.int (1 : Int32)), .val (.double h1), .second, .val (.double l1), .second, .val (.double y1), .second, .val (.double x1), .second] [(.double (FP.dsub x1 h1))])) _
    rw [e6]
    show Steps p.tables e below (s₁.setTop (mkF m 109 #[.val (.ref ar), .val (.int (3 : Int32)), .val (.int (1 : Int32)), .val (.double h1), .second, .val (.double l1), .second, .val (.double y1), .second, .val (.double x1), .second] [(.double z1)])) _
    refine XS.dload X0.here hx rfl (hb hby d0_109) rfl ?_
    show Steps p.tables e below (s₁.setTop (mkF m 111 #[.val (.ref ar), .val (.int (3 : Int32)), .val (.int (1 : Int32)), .val (.double h1), .second, .val (.double l1), .second, .val (.double y1), .second, .val (.double x1), .second] [(.double y1), (.double z1)])) _
    refine XS.dcmpS X0.here hx rfl (hb hby d0_111) rfl rfl ?_
    show Steps p.tables e below (s₁.setTop (mkF m 112 #[.val (.ref ar), .val (.int (3 : Int32)), .val (.int (1 : Int32)), .val (.double h1), .second, .val (.double l1), .second, .val (.double y1), .second, .val (.double x1), .second] [(.int (cmpValue (FP.dcmp z1 y1) .l))])) _
    refine XS.ifNo X0.here hx rfl (hb hby d0_112) rfl ((if0 _ _).trans (teq hc112).2) ?_
    show Steps p.tables e below (s₁.setTop (mkF m 115 #[.val (.ref ar), .val (.int (3 : Int32)), .val (.int (1 : Int32)), .val (.double h1), .second, .val (.double l1), .second, .val (.double y1), .second, .val (.double x1), .second] [])) _
    refine XS.dload X0.here hx rfl (hb hby d0_115) rfl ?_
    show Steps p.tables e below (s₁.setTop (mkF m 117 #[.val (.ref ar), .val (.int (3 : Int32)), .val (.int (1 : Int32)), .val (.double h1), .second, .val (.double l1), .second, .val (.double y1), .second, .val (.double x1), .second] [(.double x1)])) _
    refine XS.dstoreN X0.here hx rfl (hb hby d0_117) rfl (l' := #[.val (.ref ar), .val (.int (3 : Int32)), .val (.int (1 : Int32)), .val (.double x1), .second, .val (.double l1), .second, .val (.double y1), .second, .val (.double x1), .second]) rfl ?_
    show Steps p.tables e below (s₁.setTop (mkF m 118 #[.val (.ref ar), .val (.int (3 : Int32)), .val (.int (1 : Int32)), .val (.double x1), .second, .val (.double l1), .second, .val (.double y1), .second, .val (.double x1), .second] [])) _
    refine XS.dloadN X0.here hx rfl (hb hby d0_118) rfl ?_
    show Steps p.tables e below (s₁.setTop (mkF m 119 #[.val (.ref ar), .val (.int (3 : Int32)), .val (.int (1 : Int32)), .val (.double x1), .second, .val (.double l1), .second, .val (.double y1), .second, .val (.double x1), .second] [(.double x1)])) _
    exact retOut X0 hx Bd.returns rfl (Or.inr (Or.inr (Or.inl ⟨rfl, rfl, _, rfl⟩))) (hb hby d0_119) hr
  · show Q_rd3fttf Z ar ka d0 d1 d2 d3 h1 g1 l1 y1 x1 z1 h0 n0 _ s₁.heap _
    rw [e0]
    exact ⟨rfl, N0, rfl⟩
def Q_rd3fttt (Z : State) (ar : Addr) (ka : ClassId) (d0 : UInt64) (d1 : UInt64) (d2 : UInt64) (d3 : UInt64) (h1 : UInt64) (g1 : UInt64) (l1 : UInt64) (y1 : UInt64) (x1 : UInt64) (z1 : UInt64) (h0 : Heap) (n0 : Nat) (v : Option Value) (h : Heap) (L : List Loc) : Prop := v = some (.double h1) ∧ Fr n0 L ∧ h = h0
theorem ef_rd3fttt (m : MethodId) (ar : Addr) : entryFrame m #[(.ref ar), (.int (3 : Int32))] 11 = mkF m 0 #[.val (.ref ar), .val (.int (3 : Int32)), .unset, .unset, .unset, .unset, .unset, .unset, .unset, .unset, .unset] [] := by first | (simp [entryFrame, mkF, argsToLocals, Value.category]; done) | rfl
set_option maxRecDepth 65536 in
set_option maxHeartbeats 40000000 in
theorem rd3fttt (l : Launch) (Z : State) (a0 : Array Value) (hw : ∀ d ∈ tables_1, d.before a0 Z = true) (ws : List Jvm.Cond) (ar : Addr) (ka : ClassId) (d0 : UInt64) (d1 : UInt64) (d2 : UInt64) (d3 : UInt64) (h1 : UInt64) (g1 : UInt64) (l1 : UInt64) (y1 : UInt64) (x1 : UInt64) (z1 : UInt64) (h0 : Heap) (n0 : Nat) (Z0 : n0 ≤ h0.size) (V_ar : Arv Z h0 ar ka .double (4 : Int32) [(.double d0), (.double d1), (.double d2), (.double d3)] (.double 0)) (e1 : FP.dadd d2 d1 = h1) (e2 : FP.dsub h1 d2 = g1) (e3 : FP.dsub d1 g1 = l1) (e4 : FP.dmul l1 4611686018427387904 = y1) (e5 : FP.dadd h1 y1 = x1) (e6 : FP.dsub x1 h1 = z1) (nn32 : NoNaN64 (FP.dadd d2 d1)) (nn40 : NoNaN64 (FP.dsub h1 d2)) (nn41 : NoNaN64 (FP.dsub d1 g1)) (hc48 : ¬ ((cmpValue (FP.dcmp l1 0) .l) = (0 : Int32))) (hc65 : ¬ ((cmpValue (FP.dcmp l1 0) .g) < (0 : Int32))) (hc80 : ¬ ((cmpValue (FP.dcmp d0 0) .g) < (0 : Int32))) (nn96 : NoNaN64 (FP.dmul l1 4611686018427387904)) (nn102 : NoNaN64 (FP.dadd h1 y1)) (nn108 : NoNaN64 (FP.dsub x1 h1)) (hc112 : ¬ ((cmpValue (FP.dcmp z1 y1) .l) = (0 : Int32))) :
    MetFree l (⟨"com/example/crestwatch/crestwatch/core/ExactSum", "rounded", "([DI)D"⟩ : MethodName) (head1 (Jvm.Cond.code (⟨"com/example/crestwatch/crestwatch/core/ExactSum", "rounded", "([DI)D"⟩ : MethodName) prog_28_method_5_code 11 (some .double) :: ws) ({ frames := 0, cells := 0, slots := 0, locals := 0 } : Room)) (fun a U => a = #[(.ref ar), (.int (3 : Int32))] ∧ Z.Warmed39 U.vm ∧ U.heap = h0) (fun _ _ _ _ _ => True) (fun _ U o U' => ∃ v L, o = .returned v ∧ Q_rd3fttt Z ar ka d0 d1 d2 d3 h1 g1 l1 y1 x1 z1 h0 n0 v U'.heap L ∧ FrameEnd U o U' L ({ frames := 0, cells := 0, slots := 0, locals := 0 } : Room).cells ({ frames := 0, cells := 0, slots := 0, locals := 0 } : Room).slots) := by
  refine MetFree.of_bodySF (plainFor_of_name pn_0) hisR ?_
  intro p e s m args below meth c s₁ Bd hml0 hP hK
  obtain ⟨rfl, hZ, hh⟩ := hP
  have hx := Bd.exec
  have hby := Bd.bytes
  have hml : c.maxLocals = 11 := hml0
  have hown : s.vm.findClass "com/example/crestwatch/crestwatch/core/ExactSum" = some m.cls := findClass_of_methodNamed Bd.named
  have hnm := (name_of_methodNamed Bd.named Bd.method).1
  have X0 : Stand p l e ({ frames := 0, cells := 0, slots := 0, locals := 0 } : Room) s m #[(.ref ar), (.int (3 : Int32))] below meth c s₁ [] 0 0 := Stand.of_body Bd
  have e0 : s₁.heap = h0 := by rw [← hh, Bd.state]; rfl
  have N0 := Fr.nil n0
  have pre0 : ∀ t, Steps p.tables e below (s₁.setTop (mkF m 0 #[.val (.ref ar), .val (.int (3 : Int32)), .unset, .unset, .unset, .unset, .unset, .unset, .unset, .unset, .unset] [])) t → Steps p.tables e below (s₁.setTop (entryFrame m #[(.ref ar), (.int (3 : Int32))] 11)) t := fun t k => castTop (ef_rd3fttt m ar) k
  have Vc1 := V_ar
  obtain ⟨cl1, Ar1, q1, S1, M1, H1, G1⟩ := Vc1
  have hin1 : ¬ ((2 : Int32) < 0 ∨ cl1.slots.size ≤ ((2 : Int32)).toNatClampNeg) := inb_of S1 ⟨by decide, by decide⟩
  have hat1 : cl1.slots[((2 : Int32)).toNatClampNeg]? = some (.double d2) := Has.at H1 hin1 rfl
  have Vc2 := V_ar
  obtain ⟨cl2, Ar2, q2, S2, M2, H2, G2⟩ := Vc2
  have hin2 : ¬ ((1 : Int32) < 0 ∨ cl2.slots.size ≤ ((1 : Int32)).toNatClampNeg) := inb_of S2 ⟨by decide, by decide⟩
  have hat2 : cl2.slots[((1 : Int32)).toNatClampNeg]? = some (.double d1) := Has.at H2 hin2 rfl
  have Vc3 := V_ar
  obtain ⟨cl3, Ar3, q3, S3, M3, H3, G3⟩ := Vc3
  have hin3 : ¬ ((1 : Int32) < 0 ∨ cl3.slots.size ≤ ((1 : Int32)).toNatClampNeg) := inb_of S3 ⟨by decide, by decide⟩
  have hat3 : cl3.slots[((1 : Int32)).toNatClampNeg]? = some (.double d1) := Has.at H3 hin3 rfl
  have Vc4 := V_ar
  obtain ⟨cl4, Ar4, q4, S4, M4, H4, G4⟩ := Vc4
  have hin4 : ¬ ((0 : Int32) < 0 ∨ cl4.slots.size ≤ ((0 : Int32)).toNatClampNeg) := inb_of S4 ⟨by decide, by decide⟩
  have hat4 : cl4.slots[((0 : Int32)).toNatClampNeg]? = some (.double d0) := Has.at H4 hin4 rfl
  obtain ⟨fs, hr, hrun, hended, hW, hsame⟩ := X0.leave (v := some (.double h1)) (fun h => by rw [Bd.returns] at h; cases h)
  refine ⟨_, _, pre0 _ ?_, hrun, hended, _, _, rfl, ?_, ⟨_, rfl⟩, hW, hsame.mono (by decide) (by decide)⟩
  · show Steps p.tables e below (s₁.setTop (mkF m 0 #[.val (.ref ar), .val (.int (3 : Int32)), .unset, .unset, .unset, .unset, .unset, .unset, .unset, .unset, .unset] [])) _
    refine XS.iloadN X0.here hx rfl (hb hby d0_0) rfl ?_
    show Steps p.tables e below (s₁.setTop (mkF m 1 #[.val (.ref ar), .val (.int (3 : Int32)), .unset, .unset, .unset, .unset, .unset, .unset, .unset, .unset, .unset] [(.int (3 : Int32))])) _
    refine XS.ifYes X0.here hx rfl (pc0 := 1) (pc' := 6) rfl (hb hby d0_1) rfl ((if0 _ _).trans (feq (by decide : ¬ ((3 : Int32) = (0 : Int32)))).2) (by decide) (by decide) ?_
    show Steps p.tables e below (s₁.setTop (mkF m 6 #[.val (.ref ar), .val (.int (3 : Int32)), .unset, .unset, .unset, .unset, .unset, .unset, .unset, .unset, .unset] [])) _
    refine XS.iloadN X0.here hx rfl (hb hby d0_6) rfl ?_
    show Steps p.tables e below (s₁.setTop (mkF m 7 #[.val (.ref ar), .val (.int (3 : Int32)), .unset, .unset, .unset, .unset, .unset, .unset, .unset, .unset, .unset] [(.int (3 : Int32))])) _
    refine XS.iconst X0.here hx rfl (hb hby d0_7) ?_
    show Steps p.tables e below (s₁.setTop (mkF m 8 #[.val (.ref ar), .val (.int (3 : Int32)), .unset, .unset, .unset, .unset, .unset, .unset, .unset, .unset, .unset] [(.int (1 : Int32)), (.int (3 : Int32))])) _
    refine XS.isub X0.here hx rfl (hb hby d0_8) rfl ?_
    show Steps p.tables e below (s₁.setTop (mkF m 9 #[.val (.ref ar), .val (.int (3 : Int32)), .unset, .unset, .unset, .unset, .unset, .unset, .unset, .unset, .unset] [(.int ((3 : Int32) - (1 : Int32)))])) _
    rw [show ((3 : Int32) - (1 : Int32)) = (2 : Int32) from by decide]
    show Steps p.tables e below (s₁.setTop (mkF m 9 #[.val (.ref ar), .val (.int (3 : Int32)), .unset, .unset, .unset, .unset, .unset, .unset, .unset, .unset, .unset] [(.int (2 : Int32))])) _
    refine XS.istoreN X0.here hx rfl (hb hby d0_9) rfl (l' := #[.val (.ref ar), .val (.int (3 : Int32)), .val (.int (2 : Int32)), .unset, .unset, .unset, .unset, .unset, .unset, .unset, .unset]) rfl ?_
    show Steps p.tables e below (s₁.setTop (mkF m 10 #[.val (.ref ar), .val (.int (3 : Int32)), .val (.int (2 : Int32)), .unset, .unset, .unset, .unset, .unset, .unset, .unset, .unset] [])) _
    refine XS.aloadN X0.here hx rfl (hb hby d0_10) rfl rfl ?_
    show Steps p.tables e below (s₁.setTop (mkF m 11 #[.val (.ref ar), .val (.int (3 : Int32)), .val (.int (2 : Int32)), .unset, .unset, .unset, .unset, .unset, .unset, .unset, .unset] [(.ref ar)])) _
    refine XS.iloadN X0.here hx rfl (hb hby d0_11) rfl ?_
    show Steps p.tables e below (s₁.setTop (mkF m 12 #[.val (.ref ar), .val (.int (3 : Int32)), .val (.int (2 : Int32)), .unset, .unset, .unset, .unset, .unset, .unset, .unset, .unset] [(.int (2 : Int32)), (.ref ar)])) _
    refine X0.daload hx (j := (2 : Int32)) (v := (.double d2)) (by rw [e0]; exact Ar1.1) (State.isArrayOf_alike hZ.alike Ar1.2.1) Ar1.2.2 hin1 hat1 (g := (mkF m 12 #[.val (.ref ar), .val (.int (3 : Int32)), .val (.int (2 : Int32)), .unset, .unset, .unset, .unset, .unset, .unset, .unset, .unset] [(.int (2 : Int32)), (.ref ar)])) rfl rfl (hb hby d0_12) _ ?_
    show Steps p.tables e below (s₁.setTop (mkF m 13 #[.val (.ref ar), .val (.int (3 : Int32)), .val (.int (2 : Int32)), .unset, .unset, .unset, .unset, .unset, .unset, .unset, .unset] [(.double d2)])) _
    refine XS.dstoreN X0.here hx rfl (hb hby d0_13) rfl (l' := #[.val (.ref ar), .val (.int (3 : Int32)), .val (.int (2 : Int32)), .val (.double d2), .second, .unset, .unset, .unset, .unset, .unset, .unset]) rfl ?_
    show Steps p.tables e below (s₁.setTop (mkF m 14 #[.val (.ref ar), .val (.int (3 : Int32)), .val (.int (2 : Int32)), .val (.double d2), .second, .unset, .unset, .unset, .unset, .unset, .unset] [])) _
    refine XS.dconst0 X0.here hx rfl (hb hby d0_14) (v := 0) rfl ?_
    show Steps p.tables e below (s₁.setTop (mkF m 15 #[.val (.ref ar), .val (.int (3 : Int32)), .val (.int (2 : Int32)), .val (.double d2), .second, .unset, .unset, .unset, .unset, .unset, .unset] [(.double 0)])) _
    refine XS.dstore X0.here hx rfl (hb hby d0_15) rfl (l' := #[.val (.ref ar), .val (.int (3 : Int32)), .val (.int (2 : Int32)), .val (.double d2), .second, .val (.double 0), .second, .unset, .unset, .unset, .unset]) rfl ?_
    show Steps p.tables e below (s₁.setTop (mkF m 17 #[.val (.ref ar), .val (.int (3 : Int32)), .val (.int (2 : Int32)), .val (.double d2), .second, .val (.double 0), .second, .unset, .unset, .unset, .unset] [])) _
    refine XS.iloadN X0.here hx rfl (hb hby d0_17) rfl ?_
    show Steps p.tables e below (s₁.setTop (mkF m 18 #[.val (.ref ar), .val (.int (3 : Int32)), .val (.int (2 : Int32)), .val (.double d2), .second, .val (.double 0), .second, .unset, .unset, .unset, .unset] [(.int (2 : Int32))])) _
    refine XS.ifNo X0.here hx rfl (hb hby d0_18) rfl ((if0 _ _).trans (tlt (by decide : (0 : Int32) < (2 : Int32))).2.2.2) ?_
    show Steps p.tables e below (s₁.setTop (mkF m 21 #[.val (.ref ar), .val (.int (3 : Int32)), .val (.int (2 : Int32)), .val (.double d2), .second, .val (.double 0), .second, .unset, .unset, .unset, .unset] [])) _
    refine XS.iinc X0.here hx rfl (hb hby d0_21) rfl (l' := #[.val (.ref ar), .val (.int (3 : Int32)), .val (.int ((2 : Int32) + (-1 : Int32))), .val (.double d2), .second, .val (.double 0), .second, .unset, .unset, .unset, .unset]) rfl ?_
    show Steps p.tables e below (s₁.setTop (mkF m 24 #[.val (.ref ar), .val (.int (3 : Int32)), .val (.int ((2 : Int32) + (-1 : Int32))), .val (.double d2), .second, .val (.double 0), .second, .unset, .unset, .unset, .unset] [])) _
    rw [show ((2 : Int32) + (-1 : Int32)) = (1 : Int32) from by decide]
    show Steps p.tables e below (s₁.setTop (mkF m 24 #[.val (.ref ar), .val (.int (3 : Int32)), .val (.int (1 : Int32)), .val (.double d2), .second, .val (.double 0), .second, .unset, .unset, .unset, .unset] [])) _
    refine XS.dloadN X0.here hx rfl (hb hby d0_24) rfl ?_
    show Steps p.tables e below (s₁.setTop (mkF m 25 #[.val (.ref ar), .val (.int (3 : Int32)), .val (.int (1 : Int32)), .val (.double d2), .second, .val (.double 0), .second, .unset, .unset, .unset, .unset] [(.double d2)])) _
    refine XS.dstore X0.here hx rfl (hb hby d0_25) rfl (l' := #[.val (.ref ar), .val (.int (3 : Int32)), .val (.int (1 : Int32)), .val (.double d2), .second, .val (.double 0), .second, .val (.double d2), .second, .unset, .unset]) rfl ?_
    show Steps p.tables e below (s₁.setTop (mkF m 27 #[.val (.ref ar), .val (.int (3 : Int32)), .val (.int (1 : Int32)), .val (.double d2), .second, .val (.double 0), .second, .val (.double d2), .second, .unset, .unset] [])) _
    refine XS.dload X0.here hx rfl (hb hby d0_27) rfl ?_
    show Steps p.tables e below (s₁.setTop (mkF m 29 #[.val (.ref ar), .val (.int (3 : Int32)), .val (.int (1 : Int32)), .val (.double d2), .second, .val (.double 0), .second, .val (.double d2), .second, .unset, .unset] [(.double d2)])) _
    refine XS.aloadN X0.here hx rfl (hb hby d0_29) rfl rfl ?_
    show Steps p.tables e below (s₁.setTop (mkF m 30 #[.val (.ref ar), .val (.int (3 : Int32)), .val (.int (1 : Int32)), .val (.double d2), .second, .val (.double 0), .second, .val (.double d2), .second, .unset, .unset] [(.ref ar), (.double d2)])) _
    refine XS.iloadN X0.here hx rfl (hb hby d0_30) rfl ?_
    show Steps p.tables e below (s₁.setTop (mkF m 31 #[.val (.ref ar), .val (.int (3 : Int32)), .val (.int (1 : Int32)), .val (.double d2), .second, .val (.double 0), .second, .val (.double d2), .second, .unset, .unset] [(.int (1 : Int32)), (.ref ar), (.double d2)])) _
    refine X0.daload hx (j := (1 : Int32)) (v := (.double d1)) (by rw [e0]; exact Ar2.1) (State.isArrayOf_alike hZ.alike Ar2.2.1) Ar2.2.2 hin2 hat2 (g := (mkF m 31 #[.val (.ref ar), .val (.int (3 : Int32)), .val (.int (1 : Int32)), .val (.double d2), .second, .val (.double 0), .second, .val (.double d2), .second, .unset, .unset] [(.int (1 : Int32)), (.ref ar), (.double d2)])) rfl rfl (hb hby d0_31) _ ?_
    show Steps p.tables e below (s₁.setTop (mkF m 32 #[.val (.ref ar), .val (.int (3 : Int32)), .val (.int (1 : Int32)), .val (.double d2), .second, .val (.double 0), .second, .val (.double d2), .second, .unset, .unset] [(.double d1), (.double d2)])) _
    refine XS.daddS X0.here hx rfl (hb hby d0_32) rfl nn32 rfl ?_
    show Steps p.tables e below (s₁.setTop (mkF m 33 #[.val (.ref ar), .val (.int (3 : Int32)), .val (.int (1 : Int32)), .val (.double d2), .second, .val (.double 0), .second, .val (.double d2), .second, .unset, .unset] [(.double (FP.dadd d2 d1))])) _
    rw [e1]
    show Steps p.tables e below (s₁.setTop (mkF m 33 #[.val (.ref ar), .val (.int (3 : Int32)), .val (.int (1 : Int32)), .val (.double d2), .second, .val (.double 0), .second, .val (.double d2), .second, .unset, .unset] [(.double h1)])) _
    refine XS.dstoreN X0.here hx rfl (hb hby d0_33) rfl (l' := #[.val (.ref ar), .val (.int (3 : Int32)), .val (.int (1 : Int32)), .val (.double h1), .second, .val (.double 0), .second, .val (.double d2), .second, .unset, .unset]) rfl ?_
    show Steps p.tables e below (s₁.setTop (mkF m 34 #[.val (.ref ar), .val (.int (3 : Int32)), .val (.int (1 : Int32)), .val (.double h1), .second, .val (.double 0), .second, .val (.double d2), .second, .unset, .unset] [])) _
    refine XS.aloadN X0.here hx rfl (hb hby d0_34) rfl rfl ?_
    show Steps p.tables e below (s₁.setTop (mkF m 35 #[.val (.ref ar), .val (.int (3 : Int32)), .val (.int (1 : Int32)), .val (.double h1), .second, .val (.double 0), .second, .val (.double d2), .second, .unset, .unset] [(.ref ar)])) _
    refine XS.iloadN X0.here hx rfl (hb hby d0_35) rfl ?_
    show Steps p.tables e below (s₁.setTop (mkF m 36 #[.val (.ref ar), .val (.int (3 : Int32)), .val (.int (1 : Int32)), .val (.double h1), .second, .val (.double 0), .second, .val (.double d2), .second, .unset, .unset] [(.int (1 : Int32)), (.ref ar)])) _
    refine X0.daload hx (j := (1 : Int32)) (v := (.double d1)) (by rw [e0]; exact Ar3.1) (State.isArrayOf_alike hZ.alike Ar3.2.1) Ar3.2.2 hin3 hat3 (g := (mkF m 36 #[.val (.ref ar), .val (.int (3 : Int32)), .val (.int (1 : Int32)), .val (.double h1), .second, .val (.double 0), .second, .val (.double d2), .second, .unset, .unset] [(.int (1 : Int32)), (.ref ar)])) rfl rfl (hb hby d0_36) _ ?_
    show Steps p.tables e below (s₁.setTop (mkF m 37 #[.val (.ref ar), .val (.int (3 : Int32)), .val (.int (1 : Int32)), .val (.double h1), .second, .val (.double 0), .second, .val (.double d2), .second, .unset, .unset] [(.double d1)])) _
    refine XS.dloadN X0.here hx rfl (hb hby d0_37) rfl ?_
    show Steps p.tables e below (s₁.setTop (mkF m 38 #[.val (.ref ar), .val (.int (3 : Int32)), .val (.int (1 : Int32)), .val (.double h1), .second, .val (.double 0), .second, .val (.double d2), .second, .unset, .unset] [(.double h1), (.double d1)])) _
    refine XS.dload X0.here hx rfl (hb hby d0_38) rfl ?_
    show Steps p.tables e below (s₁.setTop (mkF m 40 #[.val (.ref ar), .val (.int (3 : Int32)), .val (.int (1 : Int32)), .val (.double h1), .second, .val (.double 0), .second, .val (.double d2), .second, .unset, .unset] [(.double d2), (.double h1), (.double d1)])) _
    refine XS.dsubS X0.here hx rfl (hb hby d0_40) rfl nn40 rfl ?_
    show Steps p.tables e below (s₁.setTop (mkF m 41 #[.val (.ref ar), .val (.int (3 : Int32)), .val (.int (1 : Int32)), .val (.double h1), .second, .val (.double 0), .second, .val (.double d2), .second, .unset, .unset] [(.double (FP.dsub h1 d2)), (.double d1)])) _
    rw [e2]
    show Steps p.tables e below (s₁.setTop (mkF m 41 #[.val (.ref ar), .val (.int (3 : Int32)), .val (.int (1 : Int32)), .val (.double h1), .second, .val (.double 0), .second, .val (.double d2), .second, .unset, .unset] [(.double g1), (.double d1)])) _
    refine XS.dsubS X0.here hx rfl (hb hby d0_41) rfl nn41 rfl ?_
    show Steps p.tables e below (s₁.setTop (mkF m 42 #[.val (.ref ar), .val (.int (3 : Int32)), .val (.int (1 : Int32)), .val (.double h1), .second, .val (.double 0), .second, .val (.double d2), .second, .unset, .unset] [(.double (FP.dsub d1 g1))])) _
    rw [e3]
    show Steps p.tables e below (s₁.setTop (mkF m 42 #[.val (.ref ar), .val (.int (3 : Int32)), .val (.int (1 : Int32)), .val (.double h1), .second, .val (.double 0), .second, .val (.double d2), .second, .unset, .unset] [(.double l1)])) _
    refine XS.dstore X0.here hx rfl (hb hby d0_42) rfl (l' := #[.val (.ref ar), .val (.int (3 : Int32)), .val (.int (1 : Int32)), .val (.double h1), .second, .val (.double l1), .second, .val (.double d2), .second, .unset, .unset]) rfl ?_
    show Steps p.tables e below (s₁.setTop (mkF m 44 #[.val (.ref ar), .val (.int (3 : Int32)), .val (.int (1 : Int32)), .val (.double h1), .second, .val (.double l1), .second, .val (.double d2), .second, .unset, .unset] [])) _
    refine XS.dload X0.here hx rfl (hb hby d0_44) rfl ?_
    show Steps p.tables e below (s₁.setTop (mkF m 46 #[.val (.ref ar), .val (.int (3 : Int32)), .val (.int (1 : Int32)), .val (.double h1), .second, .val (.double l1), .second, .val (.double d2), .second, .unset, .unset] [(.double l1)])) _
    refine XS.dconst0 X0.here hx rfl (hb hby d0_46) (v := 0) rfl ?_
    show Steps p.tables e below (s₁.setTop (mkF m 47 #[.val (.ref ar), .val (.int (3 : Int32)), .val (.int (1 : Int32)), .val (.double h1), .second, .val (.double l1), .second, .val (.double d2), .second, .unset, .unset] [(.double 0), (.double l1)])) _
    refine XS.dcmpS X0.here hx rfl (hb hby d0_47) rfl rfl ?_
    show Steps p.tables e below (s₁.setTop (mkF m 48 #[.val (.ref ar), .val (.int (3 : Int32)), .val (.int (1 : Int32)), .val (.double h1), .second, .val (.double l1), .second, .val (.double d2), .second, .unset, .unset] [(.int (cmpValue (FP.dcmp l1 0) .l))])) _
    refine XS.ifNo X0.here hx rfl (hb hby d0_48) rfl ((if0 _ _).trans (feq hc48).1) ?_
    show Steps p.tables e below (s₁.setTop (mkF m 51 #[.val (.ref ar), .val (.int (3 : Int32)), .val (.int (1 : Int32)), .val (.double h1), .second, .val (.double l1), .second, .val (.double d2), .second, .unset, .unset] [])) _
    refine XS.goto X0.here hx rfl (pc0 := 51) (pc' := 57) rfl (hb hby d0_51) (by decide) (by decide) ?_
    show Steps p.tables e below (s₁.setTop (mkF m 57 #[.val (.ref ar), .val (.int (3 : Int32)), .val (.int (1 : Int32)), .val (.double h1), .second, .val (.double l1), .second, .val (.double d2), .second, .unset, .unset] [])) _
    refine XS.iloadN X0.here hx rfl (hb hby d0_57) rfl ?_
    show Steps p.tables e below (s₁.setTop (mkF m 58 #[.val (.ref ar), .val (.int (3 : Int32)), .val (.int (1 : Int32)), .val (.double h1), .second, .val (.double l1), .second, .val (.double d2), .second, .unset, .unset] [(.int (1 : Int32))])) _
    refine XS.ifNo X0.here hx rfl (hb hby d0_58) rfl ((if0 _ _).trans (tlt (by decide : (0 : Int32) < (1 : Int32))).2.2.2) ?_
    show Steps p.tables e below (s₁.setTop (mkF m 61 #[.val (.ref ar), .val (.int (3 : Int32)), .val (.int (1 : Int32)), .val (.double h1), .second, .val (.double l1), .second, .val (.double d2), .second, .unset, .unset] [])) _
    refine XS.dload X0.here hx rfl (hb hby d0_61) rfl ?_
    show Steps p.tables e below (s₁.setTop (mkF m 63 #[.val (.ref ar), .val (.int (3 : Int32)), .val (.int (1 : Int32)), .val (.double h1), .second, .val (.double l1), .second, .val (.double d2), .second, .unset, .unset] [(.double l1)])) _
    refine XS.dconst0 X0.here hx rfl (hb hby d0_63) (v := 0) rfl ?_
    show Steps p.tables e below (s₁.setTop (mkF m 64 #[.val (.ref ar), .val (.int (3 : Int32)), .val (.int (1 : Int32)), .val (.double h1), .second, .val (.double l1), .second, .val (.double d2), .second, .unset, .unset] [(.double 0), (.double l1)])) _
    refine XS.dcmpS X0.here hx rfl (hb hby d0_64) rfl rfl ?_
    show Steps p.tables e below (s₁.setTop (mkF m 65 #[.val (.ref ar), .val (.int (3 : Int32)), .val (.int (1 : Int32)), .val (.double h1), .second, .val (.double l1), .second, .val (.double d2), .second, .unset, .unset] [(.int (cmpValue (FP.dcmp l1 0) .g))])) _
    refine XS.ifYes X0.here hx rfl (pc0 := 65) (pc' := 72) rfl (hb hby d0_65) rfl ((if0 _ _).trans (flt hc65).2.1) (by decide) (by decide) ?_
    show Steps p.tables e below (s₁.setTop (mkF m 72 #[.val (.ref ar), .val (.int (3 : Int32)), .val (.int (1 : Int32)), .val (.double h1), .second, .val (.double l1), .second, .val (.double d2), .second, .unset, .unset] [])) _
    refine XS.iconst X0.here hx rfl (hb hby d0_72) ?_
    show Steps p.tables e below (s₁.setTop (mkF m 73 #[.val (.ref ar), .val (.int (3 : Int32)), .val (.int (1 : Int32)), .val (.double h1), .second, .val (.double l1), .second, .val (.double d2), .second, .unset, .unset] [(.int (0 : Int32))])) _
    refine XS.aloadN X0.here hx rfl (hb hby d0_73) rfl rfl ?_
    show Steps p.tables e below (s₁.setTop (mkF m 74 #[.val (.ref ar), .val (.int (3 : Int32)), .val (.int (1 : Int32)), .val (.double h1), .second, .val (.double l1), .second, .val (.double d2), .second, .unset, .unset] [(.ref ar), (.int (0 : Int32))])) _
    refine XS.iloadN X0.here hx rfl (hb hby d0_74) rfl ?_
    show Steps p.tables e below (s₁.setTop (mkF m 75 #[.val (.ref ar), .val (.int (3 : Int32)), .val (.int (1 : Int32)), .val (.double h1), .second, .val (.double l1), .second, .val (.double d2), .second, .unset, .unset] [(.int (1 : Int32)), (.ref ar), (.int (0 : Int32))])) _
    refine XS.iconst X0.here hx rfl (hb hby d0_75) ?_
    show Steps p.tables e below (s₁.setTop (mkF m 76 #[.val (.ref ar), .val (.int (3 : Int32)), .val (.int (1 : Int32)), .val (.double h1), .second, .val (.double l1), .second, .val (.double d2), .second, .unset, .unset] [(.int (1 : Int32)), (.int (1 : Int32)), (.ref ar), (.int (0 : Int32))])) _
    refine XS.isub X0.here hx rfl (hb hby d0_76) rfl ?_
    show Steps p.tables e below (s₁.setTop (mkF m 77 #[.val (.ref ar), .val (.int (3 : Int32)), .val (.int (1 : Int32)), .val (.double h1), .second, .val (.double l1), .second, .val (.double d2), .second, .unset, .unset] [(.int ((1 : Int32) - (1 : Int32))), (.ref ar), (.int (0 : Int32))])) _
    rw [show ((1 : Int32) - (1 : Int32)) = (0 : Int32) from by decide]
    show Steps p.tables e below (s₁.setTop (mkF m 77 #[.val (.ref ar), .val (.int (3 : Int32)), .val (.int (1 : Int32)), .val (.double h1), .second, .val (.double l1), .second, .val (.double d2), .second, .unset, .unset] [(.int (0 : Int32)), (.ref ar), (.int (0 : Int32))])) _
    refine X0.daload hx (j := (0 : Int32)) (v := (.double d0)) (by rw [e0]; exact Ar4.1) (State.isArrayOf_alike hZ.alike Ar4.2.1) Ar4.2.2 hin4 hat4 (g := (mkF m 77 #[.val (.ref ar), .val (.int (3 : Int32)), .val (.int (1 : Int32)), .val (.double h1), .second, .val (.double l1), .second, .val (.double d2), .second, .unset, .unset] [(.int (0 : Int32)), (.ref ar), (.int (0 : Int32))])) rfl rfl (hb hby d0_77) _ ?_
    show Steps p.tables e below (s₁.setTop (mkF m 78 #[.val (.ref ar), .val (.int (3 : Int32)), .val (.int (1 : Int32)), .val (.double h1), .second, .val (.double l1), .second, .val (.double d2), .second, .unset, .unset] [(.double d0), (.int (0 : Int32))])) _
    refine XS.dconst0 X0.here hx rfl (hb hby d0_78) (v := 0) rfl ?_
    show Steps p.tables e below (s₁.setTop (mkF m 79 #[.val (.ref ar), .val (.int (3 : Int32)), .val (.int (1 : Int32)), .val (.double h1), .second, .val (.double l1), .second, .val (.double d2), .second, .unset, .unset] [(.double 0), (.double d0), (.int (0 : Int32))])) _
    refine XS.dcmpS X0.here hx rfl (hb hby d0_79) rfl rfl ?_
    show Steps p.tables e below (s₁.setTop (mkF m 80 #[.val (.ref ar), .val (.int (3 : Int32)), .val (.int (1 : Int32)), .val (.double h1), .second, .val (.double l1), .second, .val (.double d2), .second, .unset, .unset] [(.int (cmpValue (FP.dcmp d0 0) .g)), (.int (0 : Int32))])) _
    refine XS.ifYes X0.here hx rfl (pc0 := 80) (pc' := 87) rfl (hb hby d0_80) rfl ((if0 _ _).trans (flt hc80).2.1) (by decide) (by decide) ?_
    show Steps p.tables e below (s₁.setTop (mkF m 87 #[.val (.ref ar), .val (.int (3 : Int32)), .val (.int (1 : Int32)), .val (.double h1), .second, .val (.double l1), .second, .val (.double d2), .second, .unset, .unset] [(.int (0 : Int32))])) _
    refine XS.iconst X0.here hx rfl (hb hby d0_87) ?_
    show Steps p.tables e below (s₁.setTop (mkF m 88 #[.val (.ref ar), .val (.int (3 : Int32)), .val (.int (1 : Int32)), .val (.double h1), .second, .val (.double l1), .second, .val (.double d2), .second, .unset, .unset] [(.int (0 : Int32)), (.int (0 : Int32))])) _
    refine XS.icmpNo X0.here hx rfl (hb hby d0_88) rfl (teq (rfl : (0 : Int32) = (0 : Int32))).2 ?_
    show Steps p.tables e below (s₁.setTop (mkF m 91 #[.val (.ref ar), .val (.int (3 : Int32)), .val (.int (1 : Int32)), .val (.double h1), .second, .val (.double l1), .second, .val (.double d2), .second, .unset, .unset] [])) _
    refine XS.dload X0.here hx rfl (hb hby d0_91) rfl ?_
    show Steps p.tables e below (s₁.setTop (mkF m 93 #[.val (.ref ar), .val (.int (3 : Int32)), .val (.int (1 : Int32)), .val (.double h1), .second, .val (.double l1), .second, .val (.double d2), .second, .unset, .unset] [(.double l1)])) _
    refine X0.ldc2DoubleC hx hown (mvT hZ (hw _ (List.mem_of_getElem? (i := 8) rfl))) (g := (mkF m 93 #[.val (.ref ar), .val (.int (3 : Int32)), .val (.int (1 : Int32)), .val (.double h1), .second, .val (.double l1), .second, .val (.double d2), .second, .unset, .unset] [(.double l1)])) rfl (hb hby d0_93) _ ?_
    show Steps p.tables e below (s₁.setTop (mkF m 96 #[.val (.ref ar), .val (.int (3 : Int32)), .val (.int (1 : Int32)), .val (.double h1), .second, .val (.double l1), .second, .val (.double d2), .second, .unset, .unset] [(.double 4611686018427387904), (.double l1)])) _
    refine XS.dmulS X0.here hx rfl (hb hby d0_96) rfl nn96 rfl ?_
    show Steps p.tables e below (s₁.setTop (mkF m 97 #[.val (.ref ar), .val (.int (3 : Int32)), .val (.int (1 : Int32)), .val (.double h1), .second, .val (.double l1), .second, .val (.double d2), .second, .unset, .unset] [(.double (FP.dmul l1 4611686018427387904))])) _
    rw [e4]
    show Steps p.tables e below (s₁.setTop (mkF m 97 #[.val (.ref ar), .val (.int (3 : Int32)), .val (.int (1 : Int32)), .val (.double h1), .second, .val (.double l1), .second, .val (.double d2), .second, .unset, .unset] [(.double y1)])) _
    refine XS.dstore X0.here hx rfl (hb hby d0_97) rfl (l' := #[.val (.ref ar), .val (.int (3 : Int32)), .val (.int (1 : Int32)), .val (.double h1), .second, .val (.double l1), .second, .val (.double y1), .second, .unset, .unset]) rfl ?_
    show Steps p.tables e below (s₁.setTop (mkF m 99 #[.val (.ref ar), .val (.int (3 : Int32)), .val (.int (1 : Int32)), .val (.double h1), .second, .val (.double l1), .second, .val (.double y1), .second, .unset, .unset] [])) _
    refine XS.dloadN X0.here hx rfl (hb hby d0_99) rfl ?_
    show Steps p.tables e below (s₁.setTop (mkF m 100 #[.val (.ref ar), .val (.int (3 : Int32)), .val (.int (1 : Int32)), .val (.double h1), .second, .val (.double l1), .second, .val (.double y1), .second, .unset, .unset] [(.double h1)])) _
    refine XS.dload X0.here hx rfl (hb hby d0_100) rfl ?_
    show Steps p.tables e below (s₁.setTop (mkF m 102 #[.val (.ref ar), .val (.int (3 : Int32)), .val (.int (1 : Int32)), .val (.double h1), .second, .val (.double l1), .second, .val (.double y1), .second, .unset, .unset] [(.double y1), (.double h1)])) _
    refine XS.daddS X0.here hx rfl (hb hby d0_102) rfl nn102 rfl ?_
    show Steps p.tables e below (s₁.setTop (mkF m 103 #[.val (.ref ar), .val (.int (3 : Int32)), .val (.int (1 : Int32)), .val (.double h1), .second, .val (.double l1), .second, .val (.double y1), .second, .unset, .unset] [(.double (FP.dadd h1 y1))])) _
    rw [e5]
    show Steps p.tables e below (s₁.setTop (mkF m 103 #[.val (.ref ar), .val (.int (3 : Int32)), .val (.int (1 : Int32)), .val (.double h1), .second, .val (.double l1), .second, .val (.double y1), .second, .unset, .unset] [(.double x1)])) _
    refine XS.dstore X0.here hx rfl (hb hby d0_103) rfl (l' := #[.val (.ref ar), .val (.int (3 : Int32)), .val (.int (1 : Int32)), .val (.double h1), .second, .val (.double l1), .second, .val (.double y1), .second, .val (.double x1), .second]) rfl ?_
    show Steps p.tables e below (s₁.setTop (mkF m 105 #[.val (.ref ar), .val (.int (3 : Int32)), .val (.int (1 : Int32)), .val (.double h1), .second, .val (.double l1), .second, .val (.double y1), .second, .val (.double x1), .second] [])) _
    refine XS.dload X0.here hx rfl (hb hby d0_105) rfl ?_
    show Steps p.tables e below (s₁.setTop (mkF m 107 #[.val (.ref ar), .val (.int (3 : Int32)), .val (.int (1 : Int32)), .val (.double h1), .second, .val (.double l1), .second, .val (.double y1), .second, .val (.double x1), .second] [(.double x1)])) _
    refine XS.dloadN X0.here hx rfl (hb hby d0_107) rfl ?_
    show Steps p.tables e below (s₁.setTop (mkF m 108 #[.val (.ref ar), .val (.int (3 : Int32)), .val (.int (1 : Int32)), .val (.double h1), .second, .val (.double l1), .second, .val (.double y1), .second, .val (.double x1), .second] [(.double h1), (.double x1)])) _
    refine XS.dsubS X0.here hx rfl (hb hby d0_108) rfl nn108 rfl ?_
    show Steps p.tables e below (s₁.setTop (mkF m 109 #[.val (.ref ar), .val (.int (3 : Int32)), .val (.int (1 : Int32)), .val (.double h1), .second, .val (.double l1), .second, .val (.double y1), .second, .val (.double x1), .second] [(.double (FP.dsub x1 h1))])) _
    rw [e6]
    show Steps p.tables e below (s₁.setTop (mkF m 109 #[.val (.ref ar), .val (.int (3 : Int32)), .val (.int (1 : Int32)), .val (.double h1), .second, .val (.double l1), .second, .val (.double y1), .second, .val (.double x1), .second] [(.double z1)])) _
    refine XS.dload X0.here hx rfl (hb hby d0_109) rfl ?_
    show Steps p.tables e below (s₁.setTop (mkF m 111 #[.val (.ref ar), .val (.int (3 : Int32)), .val (.int (1 : Int32)), .val (.double h1), .second, .val (.double l1), .second, .val (.double y1), .second, .val (.double x1), .second] [(.double y1), (.double z1)])) _
    refine XS.dcmpS X0.here hx rfl (hb hby d0_111) rfl rfl ?_
    show Steps p.tables e below (s₁.setTop (mkF m 112 #[.val (.ref ar), .val (.int (3 : Int32)), .val (.int (1 : Int32)), .val (.double h1), .second, .val (.double l1), .second, .val (.double y1), .second, .val (.double x1), .second] [(.int (cmpValue (FP.dcmp z1 y1) .l))])) _
    refine XS.ifYes X0.here hx rfl (pc0 := 112) (pc' := 118) rfl (hb hby d0_112) rfl ((if0 _ _).trans (feq hc112).2) (by decide) (by decide) ?_
    show Steps p.tables e below (s₁.setTop (mkF m 118 #[.val (.ref ar), .val (.int (3 : Int32)), .val (.int (1 : Int32)), .val (.double h1), .second, .val (.double l1), .second, .val (.double y1), .second, .val (.double x1), .second] [])) _
    refine XS.dloadN X0.here hx rfl (hb hby d0_118) rfl ?_
    show Steps p.tables e below (s₁.setTop (mkF m 119 #[.val (.ref ar), .val (.int (3 : Int32)), .val (.int (1 : Int32)), .val (.double h1), .second, .val (.double l1), .second, .val (.double y1), .second, .val (.double x1), .second] [(.double h1)])) _
    exact retOut X0 hx Bd.returns rfl (Or.inr (Or.inr (Or.inl ⟨rfl, rfl, _, rfl⟩))) (hb hby d0_119) hr
  · show Q_rd3fttt Z ar ka d0 d1 d2 d3 h1 g1 l1 y1 x1 z1 h0 n0 _ s₁.heap _
    rw [e0]
    exact ⟨rfl, N0, rfl⟩
def Q_rd3fft (Z : State) (ar : Addr) (ka : ClassId) (d0 : UInt64) (d1 : UInt64) (d2 : UInt64) (d3 : UInt64) (h1 : UInt64) (g1 : UInt64) (l1 : UInt64) (h0 : Heap) (n0 : Nat) (v : Option Value) (h : Heap) (L : List Loc) : Prop := v = some (.double h1) ∧ Fr n0 L ∧ h = h0
theorem ef_rd3fft (m : MethodId) (ar : Addr) : entryFrame m #[(.ref ar), (.int (3 : Int32))] 11 = mkF m 0 #[.val (.ref ar), .val (.int (3 : Int32)), .unset, .unset, .unset, .unset, .unset, .unset, .unset, .unset, .unset] [] := by first | (simp [entryFrame, mkF, argsToLocals, Value.category]; done) | rfl
set_option maxRecDepth 65536 in
set_option maxHeartbeats 40000000 in
theorem rd3fft (l : Launch) (Z : State) (a0 : Array Value) (hw : ∀ d ∈ tables_1, d.before a0 Z = true) (ws : List Jvm.Cond) (ar : Addr) (ka : ClassId) (d0 : UInt64) (d1 : UInt64) (d2 : UInt64) (d3 : UInt64) (h1 : UInt64) (g1 : UInt64) (l1 : UInt64) (h0 : Heap) (n0 : Nat) (Z0 : n0 ≤ h0.size) (V_ar : Arv Z h0 ar ka .double (4 : Int32) [(.double d0), (.double d1), (.double d2), (.double d3)] (.double 0)) (e1 : FP.dadd d2 d1 = h1) (e2 : FP.dsub h1 d2 = g1) (e3 : FP.dsub d1 g1 = l1) (nn32 : NoNaN64 (FP.dadd d2 d1)) (nn40 : NoNaN64 (FP.dsub h1 d2)) (nn41 : NoNaN64 (FP.dsub d1 g1)) (hc48 : ¬ ((cmpValue (FP.dcmp l1 0) .l) = (0 : Int32))) (hc65 : (cmpValue (FP.dcmp l1 0) .g) < (0 : Int32)) (hc80 : ¬ ((cmpValue (FP.dcmp d0 0) .g) < (0 : Int32))) :
    MetFree l (⟨"com/example/crestwatch/crestwatch/core/ExactSum", "rounded", "([DI)D"⟩ : MethodName) (head1 (Jvm.Cond.code (⟨"com/example/crestwatch/crestwatch/core/ExactSum", "rounded", "([DI)D"⟩ : MethodName) prog_28_method_5_code 11 (some .double) :: ws) ({ frames := 0, cells := 0, slots := 0, locals := 0 } : Room)) (fun a U => a = #[(.ref ar), (.int (3 : Int32))] ∧ Z.Warmed39 U.vm ∧ U.heap = h0) (fun _ _ _ _ _ => True) (fun _ U o U' => ∃ v L, o = .returned v ∧ Q_rd3fft Z ar ka d0 d1 d2 d3 h1 g1 l1 h0 n0 v U'.heap L ∧ FrameEnd U o U' L ({ frames := 0, cells := 0, slots := 0, locals := 0 } : Room).cells ({ frames := 0, cells := 0, slots := 0, locals := 0 } : Room).slots) := by
  refine MetFree.of_bodySF (plainFor_of_name pn_0) hisR ?_
  intro p e s m args below meth c s₁ Bd hml0 hP hK
  obtain ⟨rfl, hZ, hh⟩ := hP
  have hx := Bd.exec
  have hby := Bd.bytes
  have hml : c.maxLocals = 11 := hml0
  have hown : s.vm.findClass "com/example/crestwatch/crestwatch/core/ExactSum" = some m.cls := findClass_of_methodNamed Bd.named
  have hnm := (name_of_methodNamed Bd.named Bd.method).1
  have X0 : Stand p l e ({ frames := 0, cells := 0, slots := 0, locals := 0 } : Room) s m #[(.ref ar), (.int (3 : Int32))] below meth c s₁ [] 0 0 := Stand.of_body Bd
  have e0 : s₁.heap = h0 := by rw [← hh, Bd.state]; rfl
  have N0 := Fr.nil n0
  have pre0 : ∀ t, Steps p.tables e below (s₁.setTop (mkF m 0 #[.val (.ref ar), .val (.int (3 : Int32)), .unset, .unset, .unset, .unset, .unset, .unset, .unset, .unset, .unset] [])) t → Steps p.tables e below (s₁.setTop (entryFrame m #[(.ref ar), (.int (3 : Int32))] 11)) t := fun t k => castTop (ef_rd3fft m ar) k
  have Vc1 := V_ar
  obtain ⟨cl1, Ar1, q1, S1, M1, H1, G1⟩ := Vc1
  have hin1 : ¬ ((2 : Int32) < 0 ∨ cl1.slots.size ≤ ((2 : Int32)).toNatClampNeg) := inb_of S1 ⟨by decide, by decide⟩
  have hat1 : cl1.slots[((2 : Int32)).toNatClampNeg]? = some (.double d2) := Has.at H1 hin1 rfl
  have Vc2 := V_ar
  obtain ⟨cl2, Ar2, q2, S2, M2, H2, G2⟩ := Vc2
  have hin2 : ¬ ((1 : Int32) < 0 ∨ cl2.slots.size ≤ ((1 : Int32)).toNatClampNeg) := inb_of S2 ⟨by decide, by decide⟩
  have hat2 : cl2.slots[((1 : Int32)).toNatClampNeg]? = some (.double d1) := Has.at H2 hin2 rfl
  have Vc3 := V_ar
  obtain ⟨cl3, Ar3, q3, S3, M3, H3, G3⟩ := Vc3
  have hin3 : ¬ ((1 : Int32) < 0 ∨ cl3.slots.size ≤ ((1 : Int32)).toNatClampNeg) := inb_of S3 ⟨by decide, by decide⟩
  have hat3 : cl3.slots[((1 : Int32)).toNatClampNeg]? = some (.double d1) := Has.at H3 hin3 rfl
  have Vc4 := V_ar
  obtain ⟨cl4, Ar4, q4, S4, M4, H4, G4⟩ := Vc4
  have hin4 : ¬ ((0 : Int32) < 0 ∨ cl4.slots.size ≤ ((0 : Int32)).toNatClampNeg) := inb_of S4 ⟨by decide, by decide⟩
  have hat4 : cl4.slots[((0 : Int32)).toNatClampNeg]? = some (.double d0) := Has.at H4 hin4 rfl
  obtain ⟨fs, hr, hrun, hended, hW, hsame⟩ := X0.leave (v := some (.double h1)) (fun h => by rw [Bd.returns] at h; cases h)
  refine ⟨_, _, pre0 _ ?_, hrun, hended, _, _, rfl, ?_, ⟨_, rfl⟩, hW, hsame.mono (by decide) (by decide)⟩
  · show Steps p.tables e below (s₁.setTop (mkF m 0 #[.val (.ref ar), .val (.int (3 : Int32)), .unset, .unset, .unset, .unset, .unset, .unset, .unset, .unset, .unset] [])) _
    refine XS.iloadN X0.here hx rfl (hb hby d0_0) rfl ?_
    show Steps p.tables e below (s₁.setTop (mkF m 1 #[.val (.ref ar), .val (.int (3 : Int32)), .unset, .unset, .unset, .unset, .unset, .unset, .unset, .unset, .unset] [(.int (3 : Int32))])) _
    refine XS.ifYes X0.here hx rfl (pc0 := 1) (pc' := 6) rfl (hb hby d0_1) rfl ((if0 _ _).trans (feq (by decide : ¬ ((3 : Int32) = (0 : Int32)))).2) (by decide) (by decide) ?_
    show Steps p.tables e below (s₁.setTop (mkF m 6 #[.val (.ref ar), .val (.int (3 : Int32)), .unset, .unset, .unset, .unset, .unset, .unset, .unset, .unset, .unset] [])) _
    refine XS.iloadN X0.here hx rfl (hb hby d0_6) rfl ?_
    show Steps p.tables e below (s₁.setTop (mkF m 7 #[.val (.ref ar), .val (.int (3 : Int32)), .unset, .unset, .unset, .unset, .unset, .unset, .unset, .unset, .unset] [(.int (3 : Int32))])) _
    refine XS.iconst X0.here hx rfl (hb hby d0_7) ?_
    show Steps p.tables e below (s₁.setTop (mkF m 8 #[.val (.ref ar), .val (.int (3 : Int32)), .unset, .unset, .unset, .unset, .unset, .unset, .unset, .unset, .unset] [(.int (1 : Int32)), (.int (3 : Int32))])) _
    refine XS.isub X0.here hx rfl (hb hby d0_8) rfl ?_
    show Steps p.tables e below (s₁.setTop (mkF m 9 #[.val (.ref ar), .val (.int (3 : Int32)), .unset, .unset, .unset, .unset, .unset, .unset, .unset, .unset, .unset] [(.int ((3 : Int32) - (1 : Int32)))])) _
    rw [show ((3 : Int32) - (1 : Int32)) = (2 : Int32) from by decide]
    show Steps p.tables e below (s₁.setTop (mkF m 9 #[.val (.ref ar), .val (.int (3 : Int32)), .unset, .unset, .unset, .unset, .unset, .unset, .unset, .unset, .unset] [(.int (2 : Int32))])) _
    refine XS.istoreN X0.here hx rfl (hb hby d0_9) rfl (l' := #[.val (.ref ar), .val (.int (3 : Int32)), .val (.int (2 : Int32)), .unset, .unset, .unset, .unset, .unset, .unset, .unset, .unset]) rfl ?_
    show Steps p.tables e below (s₁.setTop (mkF m 10 #[.val (.ref ar), .val (.int (3 : Int32)), .val (.int (2 : Int32)), .unset, .unset, .unset, .unset, .unset, .unset, .unset, .unset] [])) _
    refine XS.aloadN X0.here hx rfl (hb hby d0_10) rfl rfl ?_
    show Steps p.tables e below (s₁.setTop (mkF m 11 #[.val (.ref ar), .val (.int (3 : Int32)), .val (.int (2 : Int32)), .unset, .unset, .unset, .unset, .unset, .unset, .unset, .unset] [(.ref ar)])) _
    refine XS.iloadN X0.here hx rfl (hb hby d0_11) rfl ?_
    show Steps p.tables e below (s₁.setTop (mkF m 12 #[.val (.ref ar), .val (.int (3 : Int32)), .val (.int (2 : Int32)), .unset, .unset, .unset, .unset, .unset, .unset, .unset, .unset] [(.int (2 : Int32)), (.ref ar)])) _
    refine X0.daload hx (j := (2 : Int32)) (v := (.double d2)) (by rw [e0]; exact Ar1.1) (State.isArrayOf_alike hZ.alike Ar1.2.1) Ar1.2.2 hin1 hat1 (g := (mkF m 12 #[.val (.ref ar), .val (.int (3 : Int32)), .val (.int (2 : Int32)), .unset, .unset, .unset, .unset, .unset, .unset, .unset, .unset] [(.int (2 : Int32)), (.ref ar)])) rfl rfl (hb hby d0_12) _ ?_
    show Steps p.tables e below (s₁.setTop (mkF m 13 #[.val (.ref ar), .val (.int (3 : Int32)), .val (.int (2 : Int32)), .unset, .unset, .unset, .unset, .unset, .unset, .unset, .unset] [(.double d2)])) _
    refine XS.dstoreN X0.here hx rfl (hb hby d0_13) rfl (l' := #[.val (.ref ar), .val (.int (3 : Int32)), .val (.int (2 : Int32)), .val (.double d2), .second, .unset, .unset, .unset, .unset, .unset, .unset]) rfl ?_
    show Steps p.tables e below (s₁.setTop (mkF m 14 #[.val (.ref ar), .val (.int (3 : Int32)), .val (.int (2 : Int32)), .val (.double d2), .second, .unset, .unset, .unset, .unset, .unset, .unset] [])) _
    refine XS.dconst0 X0.here hx rfl (hb hby d0_14) (v := 0) rfl ?_
    show Steps p.tables e below (s₁.setTop (mkF m 15 #[.val (.ref ar), .val (.int (3 : Int32)), .val (.int (2 : Int32)), .val (.double d2), .second, .unset, .unset, .unset, .unset, .unset, .unset] [(.double 0)])) _
    refine XS.dstore X0.here hx rfl (hb hby d0_15) rfl (l' := #[.val (.ref ar), .val (.int (3 : Int32)), .val (.int (2 : Int32)), .val (.double d2), .second, .val (.double 0), .second, .unset, .unset, .unset, .unset]) rfl ?_
    show Steps p.tables e below (s₁.setTop (mkF m 17 #[.val (.ref ar), .val (.int (3 : Int32)), .val (.int (2 : Int32)), .val (.double d2), .second, .val (.double 0), .second, .unset, .unset, .unset, .unset] [])) _
    refine XS.iloadN X0.here hx rfl (hb hby d0_17) rfl ?_
    show Steps p.tables e below (s₁.setTop (mkF m 18 #[.val (.ref ar), .val (.int (3 : Int32)), .val (.int (2 : Int32)), .val (.double d2), .second, .val (.double 0), .second, .unset, .unset, .unset, .unset] [(.int (2 : Int32))])) _
    refine XS.ifNo X0.here hx rfl (hb hby d0_18) rfl ((if0 _ _).trans (tlt (by decide : (0 : Int32) < (2 : Int32))).2.2.2) ?_
    show Steps p.tables e below (s₁.setTop (mkF m 21 #[.val (.ref ar), .val (.int (3 : Int32)), .val (.int (2 : Int32)), .val (.double d2), .second, .val (.double 0), .second, .unset, .unset, .unset, .unset] [])) _
    refine XS.iinc X0.here hx rfl (hb hby d0_21) rfl (l' := #[.val (.ref ar), .val (.int (3 : Int32)), .val (.int ((2 : Int32) + (-1 : Int32))), .val (.double d2), .second, .val (.double 0), .second, .unset, .unset, .unset, .unset]) rfl ?_
    show Steps p.tables e below (s₁.setTop (mkF m 24 #[.val (.ref ar), .val (.int (3 : Int32)), .val (.int ((2 : Int32) + (-1 : Int32))), .val (.double d2), .second, .val (.double 0), .second, .unset, .unset, .unset, .unset] [])) _
    rw [show ((2 : Int32) + (-1 : Int32)) = (1 : Int32) from by decide]
    show Steps p.tables e below (s₁.setTop (mkF m 24 #[.val (.ref ar), .val (.int (3 : Int32)), .val (.int (1 : Int32)), .val (.double d2), .second, .val (.double 0), .second, .unset, .unset, .unset, .unset] [])) _
    refine XS.dloadN X0.here hx rfl (hb hby d0_24) rfl ?_
    show Steps p.tables e below (s₁.setTop (mkF m 25 #[.val (.ref ar), .val (.int (3 : Int32)), .val (.int (1 : Int32)), .val (.double d2), .second, .val (.double 0), .second, .unset, .unset, .unset, .unset] [(.double d2)])) _
    refine XS.dstore X0.here hx rfl (hb hby d0_25) rfl (l' := #[.val (.ref ar), .val (.int (3 : Int32)), .val (.int (1 : Int32)), .val (.double d2), .second, .val (.double 0), .second, .val (.double d2), .second, .unset, .unset]) rfl ?_
    show Steps p.tables e below (s₁.setTop (mkF m 27 #[.val (.ref ar), .val (.int (3 : Int32)), .val (.int (1 : Int32)), .val (.double d2), .second, .val (.double 0), .second, .val (.double d2), .second, .unset, .unset] [])) _
    refine XS.dload X0.here hx rfl (hb hby d0_27) rfl ?_
    show Steps p.tables e below (s₁.setTop (mkF m 29 #[.val (.ref ar), .val (.int (3 : Int32)), .val (.int (1 : Int32)), .val (.double d2), .second, .val (.double 0), .second, .val (.double d2), .second, .unset, .unset] [(.double d2)])) _
    refine XS.aloadN X0.here hx rfl (hb hby d0_29) rfl rfl ?_
    show Steps p.tables e below (s₁.setTop (mkF m 30 #[.val (.ref ar), .val (.int (3 : Int32)), .val (.int (1 : Int32)), .val (.double d2), .second, .val (.double 0), .second, .val (.double d2), .second, .unset, .unset] [(.ref ar), (.double d2)])) _
    refine XS.iloadN X0.here hx rfl (hb hby d0_30) rfl ?_
    show Steps p.tables e below (s₁.setTop (mkF m 31 #[.val (.ref ar), .val (.int (3 : Int32)), .val (.int (1 : Int32)), .val (.double d2), .second, .val (.double 0), .second, .val (.double d2), .second, .unset, .unset] [(.int (1 : Int32)), (.ref ar), (.double d2)])) _
    refine X0.daload hx (j := (1 : Int32)) (v := (.double d1)) (by rw [e0]; exact Ar2.1) (State.isArrayOf_alike hZ.alike Ar2.2.1) Ar2.2.2 hin2 hat2 (g := (mkF m 31 #[.val (.ref ar), .val (.int (3 : Int32)), .val (.int (1 : Int32)), .val (.double d2), .second, .val (.double 0), .second, .val (.double d2), .second, .unset, .unset] [(.int (1 : Int32)), (.ref ar), (.double d2)])) rfl rfl (hb hby d0_31) _ ?_
    show Steps p.tables e below (s₁.setTop (mkF m 32 #[.val (.ref ar), .val (.int (3 : Int32)), .val (.int (1 : Int32)), .val (.double d2), .second, .val (.double 0), .second, .val (.double d2), .second, .unset, .unset] [(.double d1), (.double d2)])) _
    refine XS.daddS X0.here hx rfl (hb hby d0_32) rfl nn32 rfl ?_
    show Steps p.tables e below (s₁.setTop (mkF m 33 #[.val (.ref ar), .val (.int (3 : Int32)), .val (.int (1 : Int32)), .val (.double d2), .second, .val (.double 0), .second, .val (.double d2), .second, .unset, .unset] [(.double (FP.dadd d2 d1))])) _
    rw [e1]
    show Steps p.tables e below (s₁.setTop (mkF m 33 #[.val (.ref ar), .val (.int (3 : Int32)), .val (.int (1 : Int32)), .val (.double d2), .second, .val (.double 0), .second, .val (.double d2), .second, .unset, .unset] [(.double h1)])) _
    refine XS.dstoreN X0.here hx rfl (hb hby d0_33) rfl (l' := #[.val (.ref ar), .val (.int (3 : Int32)), .val (.int (1 : Int32)), .val (.double h1), .second, .val (.double 0), .second, .val (.double d2), .second, .unset, .unset]) rfl ?_
    show Steps p.tables e below (s₁.setTop (mkF m 34 #[.val (.ref ar), .val (.int (3 : Int32)), .val (.int (1 : Int32)), .val (.double h1), .second, .val (.double 0), .second, .val (.double d2), .second, .unset, .unset] [])) _
    refine XS.aloadN X0.here hx rfl (hb hby d0_34) rfl rfl ?_
    show Steps p.tables e below (s₁.setTop (mkF m 35 #[.val (.ref ar), .val (.int (3 : Int32)), .val (.int (1 : Int32)), .val (.double h1), .second, .val (.double 0), .second, .val (.double d2), .second, .unset, .unset] [(.ref ar)])) _
    refine XS.iloadN X0.here hx rfl (hb hby d0_35) rfl ?_
    show Steps p.tables e below (s₁.setTop (mkF m 36 #[.val (.ref ar), .val (.int (3 : Int32)), .val (.int (1 : Int32)), .val (.double h1), .second, .val (.double 0), .second, .val (.double d2), .second, .unset, .unset] [(.int (1 : Int32)), (.ref ar)])) _
    refine X0.daload hx (j := (1 : Int32)) (v := (.double d1)) (by rw [e0]; exact Ar3.1) (State.isArrayOf_alike hZ.alike Ar3.2.1) Ar3.2.2 hin3 hat3 (g := (mkF m 36 #[.val (.ref ar), .val (.int (3 : Int32)), .val (.int (1 : Int32)), .val (.double h1), .second, .val (.double 0), .second, .val (.double d2), .second, .unset, .unset] [(.int (1 : Int32)), (.ref ar)])) rfl rfl (hb hby d0_36) _ ?_
    show Steps p.tables e below (s₁.setTop (mkF m 37 #[.val (.ref ar), .val (.int (3 : Int32)), .val (.int (1 : Int32)), .val (.double h1), .second, .val (.double 0), .second, .val (.double d2), .second, .unset, .unset] [(.double d1)])) _
    refine XS.dloadN X0.here hx rfl (hb hby d0_37) rfl ?_
    show Steps p.tables e below (s₁.setTop (mkF m 38 #[.val (.ref ar), .val (.int (3 : Int32)), .val (.int (1 : Int32)), .val (.double h1), .second, .val (.double 0), .second, .val (.double d2), .second, .unset, .unset] [(.double h1), (.double d1)])) _
    refine XS.dload X0.here hx rfl (hb hby d0_38) rfl ?_
    show Steps p.tables e below (s₁.setTop (mkF m 40 #[.val (.ref ar), .val (.int (3 : Int32)), .val (.int (1 : Int32)), .val (.double h1), .second, .val (.double 0), .second, .val (.double d2), .second, .unset, .unset] [(.double d2), (.double h1), (.double d1)])) _
    refine XS.dsubS X0.here hx rfl (hb hby d0_40) rfl nn40 rfl ?_
    show Steps p.tables e below (s₁.setTop (mkF m 41 #[.val (.ref ar), .val (.int (3 : Int32)), .val (.int (1 : Int32)), .val (.double h1), .second, .val (.double 0), .second, .val (.double d2), .second, .unset, .unset] [(.double (FP.dsub h1 d2)), (.double d1)])) _
    rw [e2]
    show Steps p.tables e below (s₁.setTop (mkF m 41 #[.val (.ref ar), .val (.int (3 : Int32)), .val (.int (1 : Int32)), .val (.double h1), .second, .val (.double 0), .second, .val (.double d2), .second, .unset, .unset] [(.double g1), (.double d1)])) _
    refine XS.dsubS X0.here hx rfl (hb hby d0_41) rfl nn41 rfl ?_
    show Steps p.tables e below (s₁.setTop (mkF m 42 #[.val (.ref ar), .val (.int (3 : Int32)), .val (.int (1 : Int32)), .val (.double h1), .second, .val (.double 0), .second, .val (.double d2), .second, .unset, .unset] [(.double (FP.dsub d1 g1))])) _
    rw [e3]
    show Steps p.tables e below (s₁.setTop (mkF m 42 #[.val (.ref ar), .val (.int (3 : Int32)), .val (.int (1 : Int32)), .val (.double h1), .second, .val (.double 0), .second, .val (.double d2), .second, .unset, .unset] [(.double l1)])) _
    refine XS.dstore X0.here hx rfl (hb hby d0_42) rfl (l' := #[.val (.ref ar), .val (.int (3 : Int32)), .val (.int (1 : Int32)), .val (.double h1), .second, .val (.double l1), .second, .val (.double d2), .second, .unset, .unset]) rfl ?_
    show Steps p.tables e below (s₁.setTop (mkF m 44 #[.val (.ref ar), .val (.int (3 : Int32)), .val (.int (1 : Int32)), .val (.double h1), .second, .val (.double l1), .second, .val (.double d2), .second, .unset, .unset] [])) _
    refine XS.dload X0.here hx rfl (hb hby d0_44) rfl ?_
    show Steps p.tables e below (s₁.setTop (mkF m 46 #[.val (.ref ar), .val (.int (3 : Int32)), .val (.int (1 : Int32)), .val (.double h1), .second, .val (.double l1), .second, .val (.double d2), .second, .unset, .unset] [(.double l1)])) _
    refine XS.dconst0 X0.here hx rfl (hb hby d0_46) (v := 0) rfl ?_
    show Steps p.tables e below (s₁.setTop (mkF m 47 #[.val (.ref ar), .val (.int (3 : Int32)), .val (.int (1 : Int32)), .val (.double h1), .second, .val (.double l1), .second, .val (.double d2), .second, .unset, .unset] [(.double 0), (.double l1)])) _
    refine XS.dcmpS X0.here hx rfl (hb hby d0_47) rfl rfl ?_
    show Steps p.tables e below (s₁.setTop (mkF m 48 #[.val (.ref ar), .val (.int (3 : Int32)), .val (.int (1 : Int32)), .val (.double h1), .second, .val (.double l1), .second, .val (.double d2), .second, .unset, .unset] [(.int (cmpValue (FP.dcmp l1 0) .l))])) _
    refine XS.ifNo X0.here hx rfl (hb hby d0_48) rfl ((if0 _ _).trans (feq hc48).1) ?_
    show Steps p.tables e below (s₁.setTop (mkF m 51 #[.val (.ref ar), .val (.int (3 : Int32)), .val (.int (1 : Int32)), .val (.double h1), .second, .val (.double l1), .second, .val (.double d2), .second, .unset, .unset] [])) _
    refine XS.goto X0.here hx rfl (pc0 := 51) (pc' := 57) rfl (hb hby d0_51) (by decide) (by decide) ?_
    show Steps p.tables e below (s₁.setTop (mkF m 57 #[.val (.ref ar), .val (.int (3 : Int32)), .val (.int (1 : Int32)), .val (.double h1), .second, .val (.double l1), .second, .val (.double d2), .second, .unset, .unset] [])) _
    refine XS.iloadN X0.here hx rfl (hb hby d0_57) rfl ?_
    show Steps p.tables e below (s₁.setTop (mkF m 58 #[.val (.ref ar), .val (.int (3 : Int32)), .val (.int (1 : Int32)), .val (.double h1), .second, .val (.double l1), .second, .val (.double d2), .second, .unset, .unset] [(.int (1 : Int32))])) _
    refine XS.ifNo X0.here hx rfl (hb hby d0_58) rfl ((if0 _ _).trans (tlt (by decide : (0 : Int32) < (1 : Int32))).2.2.2) ?_
    show Steps p.tables e below (s₁.setTop (mkF m 61 #[.val (.ref ar), .val (.int (3 : Int32)), .val (.int (1 : Int32)), .val (.double h1), .second, .val (.double l1), .second, .val (.double d2), .second, .unset, .unset] [])) _
    refine XS.dload X0.here hx rfl (hb hby d0_61) rfl ?_
    show Steps p.tables e below (s₁.setTop (mkF m 63 #[.val (.ref ar), .val (.int (3 : Int32)), .val (.int (1 : Int32)), .val (.double h1), .second, .val (.double l1), .second, .val (.double d2), .second, .unset, .unset] [(.double l1)])) _
    refine XS.dconst0 X0.here hx rfl (hb hby d0_63) (v := 0) rfl ?_
    show Steps p.tables e below (s₁.setTop (mkF m 64 #[.val (.ref ar), .val (.int (3 : Int32)), .val (.int (1 : Int32)), .val (.double h1), .second, .val (.double l1), .second, .val (.double d2), .second, .unset, .unset] [(.double 0), (.double l1)])) _
    refine XS.dcmpS X0.here hx rfl (hb hby d0_64) rfl rfl ?_
    show Steps p.tables e below (s₁.setTop (mkF m 65 #[.val (.ref ar), .val (.int (3 : Int32)), .val (.int (1 : Int32)), .val (.double h1), .second, .val (.double l1), .second, .val (.double d2), .second, .unset, .unset] [(.int (cmpValue (FP.dcmp l1 0) .g))])) _
    refine XS.ifNo X0.here hx rfl (hb hby d0_65) rfl ((if0 _ _).trans (tlt hc65).2.1) ?_
    show Steps p.tables e below (s₁.setTop (mkF m 68 #[.val (.ref ar), .val (.int (3 : Int32)), .val (.int (1 : Int32)), .val (.double h1), .second, .val (.double l1), .second, .val (.double d2), .second, .unset, .unset] [])) _
    refine XS.iconst X0.here hx rfl (hb hby d0_68) ?_
    show Steps p.tables e below (s₁.setTop (mkF m 69 #[.val (.ref ar), .val (.int (3 : Int32)), .val (.int (1 : Int32)), .val (.double h1), .second, .val (.double l1), .second, .val (.double d2), .second, .unset, .unset] [(.int (1 : Int32))])) _
    refine XS.goto X0.here hx rfl (pc0 := 69) (pc' := 73) rfl (hb hby d0_69) (by decide) (by decide) ?_
    show Steps p.tables e below (s₁.setTop (mkF m 73 #[.val (.ref ar), .val (.int (3 : Int32)), .val (.int (1 : Int32)), .val (.double h1), .second, .val (.double l1), .second, .val (.double d2), .second, .unset, .unset] [(.int (1 : Int32))])) _
    refine XS.aloadN X0.here hx rfl (hb hby d0_73) rfl rfl ?_
    show Steps p.tables e below (s₁.setTop (mkF m 74 #[.val (.ref ar), .val (.int (3 : Int32)), .val (.int (1 : Int32)), .val (.double h1), .second, .val (.double l1), .second, .val (.double d2), .second, .unset, .unset] [(.ref ar), (.int (1 : Int32))])) _
    refine XS.iloadN X0.here hx rfl (hb hby d0_74) rfl ?_
    show Steps p.tables e below (s₁.setTop (mkF m 75 #[.val (.ref ar), .val (.int (3 : Int32)), .val (.int (1 : Int32)), .val (.double h1), .second, .val (.double l1), .second, .val (.double d2), .second, .unset, .unset] [(.int (1 : Int32)), (.ref ar), (.int (1 : Int32))])) _
    refine XS.iconst X0.here hx rfl (hb hby d0_75) ?_
    show Steps p.tables e below (s₁.setTop (mkF m 76 #[.val (.ref ar), .val (.int (3 : Int32)), .val (.int (1 : Int32)), .val (.double h1), .second, .val (.double l1), .second, .val (.double d2), .second, .unset, .unset] [(.int (1 : Int32)), (.int (1 : Int32)), (.ref ar), (.int (1 : Int32))])) _
    refine XS.isub X0.here hx rfl (hb hby d0_76) rfl ?_
    show Steps p.tables e below (s₁.setTop (mkF m 77 #[.val (.ref ar), .val (.int (3 : Int32)), .val (.int (1 : Int32)), .val (.double h1), .second, .val (.double l1), .second, .val (.double d2), .second, .unset, .unset] [(.int ((1 : Int32) - (1 : Int32))), (.ref ar), (.int (1 : Int32))])) _
    rw [show ((1 : Int32) - (1 : Int32)) = (0 : Int32) from by decide]
    show Steps p.tables e below (s₁.setTop (mkF m 77 #[.val (.ref ar), .val (.int (3 : Int32)), .val (.int (1 : Int32)), .val (.double h1), .second, .val (.double l1), .second, .val (.double d2), .second, .unset, .unset] [(.int (0 : Int32)), (.ref ar), (.int (1 : Int32))])) _
    refine X0.daload hx (j := (0 : Int32)) (v := (.double d0)) (by rw [e0]; exact Ar4.1) (State.isArrayOf_alike hZ.alike Ar4.2.1) Ar4.2.2 hin4 hat4 (g := (mkF m 77 #[.val (.ref ar), .val (.int (3 : Int32)), .val (.int (1 : Int32)), .val (.double h1), .second, .val (.double l1), .second, .val (.double d2), .second, .unset, .unset] [(.int (0 : Int32)), (.ref ar), (.int (1 : Int32))])) rfl rfl (hb hby d0_77) _ ?_
    show Steps p.tables e below (s₁.setTop (mkF m 78 #[.val (.ref ar), .val (.int (3 : Int32)), .val (.int (1 : Int32)), .val (.double h1), .second, .val (.double l1), .second, .val (.double d2), .second, .unset, .unset] [(.double d0), (.int (1 : Int32))])) _
    refine XS.dconst0 X0.here hx rfl (hb hby d0_78) (v := 0) rfl ?_
    show Steps p.tables e below (s₁.setTop (mkF m 79 #[.val (.ref ar), .val (.int (3 : Int32)), .val (.int (1 : Int32)), .val (.double h1), .second, .val (.double l1), .second, .val (.double d2), .second, .unset, .unset] [(.double 0), (.double d0), (.int (1 : Int32))])) _
    refine XS.dcmpS X0.here hx rfl (hb hby d0_79) rfl rfl ?_
    show Steps p.tables e below (s₁.setTop (mkF m 80 #[.val (.ref ar), .val (.int (3 : Int32)), .val (.int (1 : Int32)), .val (.double h1), .second, .val (.double l1), .second, .val (.double d2), .second, .unset, .unset] [(.int (cmpValue (FP.dcmp d0 0) .g)), (.int (1 : Int32))])) _
    refine XS.ifYes X0.here hx rfl (pc0 := 80) (pc' := 87) rfl (hb hby d0_80) rfl ((if0 _ _).trans (flt hc80).2.1) (by decide) (by decide) ?_
    show Steps p.tables e below (s₁.setTop (mkF m 87 #[.val (.ref ar), .val (.int (3 : Int32)), .val (.int (1 : Int32)), .val (.double h1), .second, .val (.double l1), .second, .val (.double d2), .second, .unset, .unset] [(.int (1 : Int32))])) _
    refine XS.iconst X0.here hx rfl (hb hby d0_87) ?_
    show Steps p.tables e below (s₁.setTop (mkF m 88 #[.val (.ref ar), .val (.int (3 : Int32)), .val (.int (1 : Int32)), .val (.double h1), .second, .val (.double l1), .second, .val (.double d2), .second, .unset, .unset] [(.int (0 : Int32)), (.int (1 : Int32))])) _
    refine XS.icmpYes X0.here hx rfl (pc0 := 88) (pc' := 118) rfl (hb hby d0_88) rfl (feq (by decide : ¬ ((1 : Int32) = (0 : Int32)))).2 (by decide) (by decide) ?_
    show Steps p.tables e below (s₁.setTop (mkF m 118 #[.val (.ref ar), .val (.int (3 : Int32)), .val (.int (1 : Int32)), .val (.double h1), .second, .val (.double l1), .second, .val (.double d2), .second, .unset, .unset] [])) _
    refine XS.dloadN X0.here hx rfl (hb hby d0_118) rfl ?_
    show Steps p.tables e below (s₁.setTop (mkF m 119 #[.val (.ref ar), .val (.int (3 : Int32)), .val (.int (1 : Int32)), .val (.double h1), .second, .val (.double l1), .second, .val (.double d2), .second, .unset, .unset] [(.double h1)])) _
    exact retOut X0 hx Bd.returns rfl (Or.inr (Or.inr (Or.inl ⟨rfl, rfl, _, rfl⟩))) (hb hby d0_119) hr
  · show Q_rd3fft Z ar ka d0 d1 d2 d3 h1 g1 l1 h0 n0 _ s₁.heap _
    rw [e0]
    exact ⟨rfl, N0, rfl⟩
def Q_rd3ftf (Z : State) (ar : Addr) (ka : ClassId) (d0 : UInt64) (d1 : UInt64) (d2 : UInt64) (d3 : UInt64) (h1 : UInt64) (g1 : UInt64) (l1 : UInt64) (h0 : Heap) (n0 : Nat) (v : Option Value) (h : Heap) (L : List Loc) : Prop := v = some (.double h1) ∧ Fr n0 L ∧ h = h0
theorem ef_rd3ftf (m : MethodId) (ar : Addr) : entryFrame m #[(.ref ar), (.int (3 : Int32))] 11 = mkF m 0 #[.val (.ref ar), .val (.int (3 : Int32)), .unset, .unset, .unset, .unset, .unset, .unset, .unset, .unset, .unset] [] := by first | (simp [entryFrame, mkF, argsToLocals, Value.category]; done) | rfl
set_option maxRecDepth 65536 in
set_option maxHeartbeats 40000000 in
theorem rd3ftf (l : Launch) (Z : State) (a0 : Array Value) (hw : ∀ d ∈ tables_1, d.before a0 Z = true) (ws : List Jvm.Cond) (ar : Addr) (ka : ClassId) (d0 : UInt64) (d1 : UInt64) (d2 : UInt64) (d3 : UInt64) (h1 : UInt64) (g1 : UInt64) (l1 : UInt64) (h0 : Heap) (n0 : Nat) (Z0 : n0 ≤ h0.size) (V_ar : Arv Z h0 ar ka .double (4 : Int32) [(.double d0), (.double d1), (.double d2), (.double d3)] (.double 0)) (e1 : FP.dadd d2 d1 = h1) (e2 : FP.dsub h1 d2 = g1) (e3 : FP.dsub d1 g1 = l1) (nn32 : NoNaN64 (FP.dadd d2 d1)) (nn40 : NoNaN64 (FP.dsub h1 d2)) (nn41 : NoNaN64 (FP.dsub d1 g1)) (hc48 : ¬ ((cmpValue (FP.dcmp l1 0) .l) = (0 : Int32))) (hc65 : ¬ ((cmpValue (FP.dcmp l1 0) .g) < (0 : Int32))) (hc80 : (cmpValue (FP.dcmp d0 0) .g) < (0 : Int32)) :
    MetFree l (⟨"com/example/crestwatch/crestwatch/core/ExactSum", "rounded", "([DI)D"⟩ : MethodName) (head1 (Jvm.Cond.code (⟨"com/example/crestwatch/crestwatch/core/ExactSum", "rounded", "([DI)D"⟩ : MethodName) prog_28_method_5_code 11 (some .double) :: ws) ({ frames := 0, cells := 0, slots := 0, locals := 0 } : Room)) (fun a U => a = #[(.ref ar), (.int (3 : Int32))] ∧ Z.Warmed39 U.vm ∧ U.heap = h0) (fun _ _ _ _ _ => True) (fun _ U o U' => ∃ v L, o = .returned v ∧ Q_rd3ftf Z ar ka d0 d1 d2 d3 h1 g1 l1 h0 n0 v U'.heap L ∧ FrameEnd U o U' L ({ frames := 0, cells := 0, slots := 0, locals := 0 } : Room).cells ({ frames := 0, cells := 0, slots := 0, locals := 0 } : Room).slots) := by
  refine MetFree.of_bodySF (plainFor_of_name pn_0) hisR ?_
  intro p e s m args below meth c s₁ Bd hml0 hP hK
  obtain ⟨rfl, hZ, hh⟩ := hP
  have hx := Bd.exec
  have hby := Bd.bytes
  have hml : c.maxLocals = 11 := hml0
  have hown : s.vm.findClass "com/example/crestwatch/crestwatch/core/ExactSum" = some m.cls := findClass_of_methodNamed Bd.named
  have hnm := (name_of_methodNamed Bd.named Bd.method).1
  have X0 : Stand p l e ({ frames := 0, cells := 0, slots := 0, locals := 0 } : Room) s m #[(.ref ar), (.int (3 : Int32))] below meth c s₁ [] 0 0 := Stand.of_body Bd
  have e0 : s₁.heap = h0 := by rw [← hh, Bd.state]; rfl
  have N0 := Fr.nil n0
  have pre0 : ∀ t, Steps p.tables e below (s₁.setTop (mkF m 0 #[.val (.ref ar), .val (.int (3 : Int32)), .unset, .unset, .unset, .unset, .unset, .unset, .unset, .unset, .unset] [])) t → Steps p.tables e below (s₁.setTop (entryFrame m #[(.ref ar), (.int (3 : Int32))] 11)) t := fun t k => castTop (ef_rd3ftf m ar) k
  have Vc1 := V_ar
  obtain ⟨cl1, Ar1, q1, S1, M1, H1, G1⟩ := Vc1
  have hin1 : ¬ ((2 : Int32) < 0 ∨ cl1.slots.size ≤ ((2 : Int32)).toNatClampNeg) := inb_of S1 ⟨by decide, by decide⟩
  have hat1 : cl1.slots[((2 : Int32)).toNatClampNeg]? = some (.double d2) := Has.at H1 hin1 rfl
  have Vc2 := V_ar
  obtain ⟨cl2, Ar2, q2, S2, M2, H2, G2⟩ := Vc2
  have hin2 : ¬ ((1 : Int32) < 0 ∨ cl2.slots.size ≤ ((1 : Int32)).toNatClampNeg) := inb_of S2 ⟨by decide, by decide⟩
  have hat2 : cl2.slots[((1 : Int32)).toNatClampNeg]? = some (.double d1) := Has.at H2 hin2 rfl
  have Vc3 := V_ar
  obtain ⟨cl3, Ar3, q3, S3, M3, H3, G3⟩ := Vc3
  have hin3 : ¬ ((1 : Int32) < 0 ∨ cl3.slots.size ≤ ((1 : Int32)).toNatClampNeg) := inb_of S3 ⟨by decide, by decide⟩
  have hat3 : cl3.slots[((1 : Int32)).toNatClampNeg]? = some (.double d1) := Has.at H3 hin3 rfl
  have Vc4 := V_ar
  obtain ⟨cl4, Ar4, q4, S4, M4, H4, G4⟩ := Vc4
  have hin4 : ¬ ((0 : Int32) < 0 ∨ cl4.slots.size ≤ ((0 : Int32)).toNatClampNeg) := inb_of S4 ⟨by decide, by decide⟩
  have hat4 : cl4.slots[((0 : Int32)).toNatClampNeg]? = some (.double d0) := Has.at H4 hin4 rfl
  obtain ⟨fs, hr, hrun, hended, hW, hsame⟩ := X0.leave (v := some (.double h1)) (fun h => by rw [Bd.returns] at h; cases h)
  refine ⟨_, _, pre0 _ ?_, hrun, hended, _, _, rfl, ?_, ⟨_, rfl⟩, hW, hsame.mono (by decide) (by decide)⟩
  · show Steps p.tables e below (s₁.setTop (mkF m 0 #[.val (.ref ar), .val (.int (3 : Int32)), .unset, .unset, .unset, .unset, .unset, .unset, .unset, .unset, .unset] [])) _
    refine XS.iloadN X0.here hx rfl (hb hby d0_0) rfl ?_
    show Steps p.tables e below (s₁.setTop (mkF m 1 #[.val (.ref ar), .val (.int (3 : Int32)), .unset, .unset, .unset, .unset, .unset, .unset, .unset, .unset, .unset] [(.int (3 : Int32))])) _
    refine XS.ifYes X0.here hx rfl (pc0 := 1) (pc' := 6) rfl (hb hby d0_1) rfl ((if0 _ _).trans (feq (by decide : ¬ ((3 : Int32) = (0 : Int32)))).2) (by decide) (by decide) ?_
    show Steps p.tables e below (s₁.setTop (mkF m 6 #[.val (.ref ar), .val (.int (3 : Int32)), .unset, .unset, .unset, .unset, .unset, .unset, .unset, .unset, .unset] [])) _
    refine XS.iloadN X0.here hx rfl (hb hby d0_6) rfl ?_
    show Steps p.tables e below (s₁.setTop (mkF m 7 #[.val (.ref ar), .val (.int (3 : Int32)), .unset, .unset, .unset, .unset, .unset, .unset, .unset, .unset, .unset] [(.int (3 : Int32))])) _
    refine XS.iconst X0.here hx rfl (hb hby d0_7) ?_
    show Steps p.tables e below (s₁.setTop (mkF m 8 #[.val (.ref ar), .val (.int (3 : Int32)), .unset, .unset, .unset, .unset, .unset, .unset, .unset, .unset, .unset] [(.int (1 : Int32)), (.int (3 : Int32))])) _
    refine XS.isub X0.here hx rfl (hb hby d0_8) rfl ?_
    show Steps p.tables e below (s₁.setTop (mkF m 9 #[.val (.ref ar), .val (.int (3 : Int32)), .unset, .unset, .unset, .unset, .unset, .unset, .unset, .unset, .unset] [(.int ((3 : Int32) - (1 : Int32)))])) _
    rw [show ((3 : Int32) - (1 : Int32)) = (2 : Int32) from by decide]
    show Steps p.tables e below (s₁.setTop (mkF m 9 #[.val (.ref ar), .val (.int (3 : Int32)), .unset, .unset, .unset, .unset, .unset, .unset, .unset, .unset, .unset] [(.int (2 : Int32))])) _
    refine XS.istoreN X0.here hx rfl (hb hby d0_9) rfl (l' := #[.val (.ref ar), .val (.int (3 : Int32)), .val (.int (2 : Int32)), .unset, .unset, .unset, .unset, .unset, .unset, .unset, .unset]) rfl ?_
    show Steps p.tables e below (s₁.setTop (mkF m 10 #[.val (.ref ar), .val (.int (3 : Int32)), .val (.int (2 : Int32)), .unset, .unset, .unset, .unset, .unset, .unset, .unset, .unset] [])) _
    refine XS.aloadN X0.here hx rfl (hb hby d0_10) rfl rfl ?_
    show Steps p.tables e below (s₁.setTop (mkF m 11 #[.val (.ref ar), .val (.int (3 : Int32)), .val (.int (2 : Int32)), .unset, .unset, .unset, .unset, .unset, .unset, .unset, .unset] [(.ref ar)])) _
    refine XS.iloadN X0.here hx rfl (hb hby d0_11) rfl ?_
    show Steps p.tables e below (s₁.setTop (mkF m 12 #[.val (.ref ar), .val (.int (3 : Int32)), .val (.int (2 : Int32)), .unset, .unset, .unset, .unset, .unset, .unset, .unset, .unset] [(.int (2 : Int32)), (.ref ar)])) _
    refine X0.daload hx (j := (2 : Int32)) (v := (.double d2)) (by rw [e0]; exact Ar1.1) (State.isArrayOf_alike hZ.alike Ar1.2.1) Ar1.2.2 hin1 hat1 (g := (mkF m 12 #[.val (.ref ar), .val (.int (3 : Int32)), .val (.int (2 : Int32)), .unset, .unset, .unset, .unset, .unset, .unset, .unset, .unset] [(.int (2 : Int32)), (.ref ar)])) rfl rfl (hb hby d0_12) _ ?_
    show Steps p.tables e below (s₁.setTop (mkF m 13 #[.val (.ref ar), .val (.int (3 : Int32)), .val (.int (2 : Int32)), .unset, .unset, .unset, .unset, .unset, .unset, .unset, .unset] [(.double d2)])) _
    refine XS.dstoreN X0.here hx rfl (hb hby d0_13) rfl (l' := #[.val (.ref ar), .val (.int (3 : Int32)), .val (.int (2 : Int32)), .val (.double d2), .second, .unset, .unset, .unset, .unset, .unset, .unset]) rfl ?_
    show Steps p.tables e below (s₁.setTop (mkF m 14 #[.val (.ref ar), .val (.int (3 : Int32)), .val (.int (2 : Int32)), .val (.double d2), .second, .unset, .unset, .unset, .unset, .unset, .unset] [])) _
    refine XS.dconst0 X0.here hx rfl (hb hby d0_14) (v := 0) rfl ?_
    show Steps p.tables e below (s₁.setTop (mkF m 15 #[.val (.ref ar), .val (.int (3 : Int32)), .val (.int (2 : Int32)), .val (.double d2), .second, .unset, .unset, .unset, .unset, .unset, .unset] [(.double 0)])) _
    refine XS.dstore X0.here hx rfl (hb hby d0_15) rfl (l' := #[.val (.ref ar), .val (.int (3 : Int32)), .val (.int (2 : Int32)), .val (.double d2), .second, .val (.double 0), .second, .unset, .unset, .unset, .unset]) rfl ?_
    show Steps p.tables e below (s₁.setTop (mkF m 17 #[.val (.ref ar), .val (.int (3 : Int32)), .val (.int (2 : Int32)), .val (.double d2), .second, .val (.double 0), .second, .unset, .unset, .unset, .unset] [])) _
    refine XS.iloadN X0.here hx rfl (hb hby d0_17) rfl ?_
    show Steps p.tables e below (s₁.setTop (mkF m 18 #[.val (.ref ar), .val (.int (3 : Int32)), .val (.int (2 : Int32)), .val (.double d2), .second, .val (.double 0), .second, .unset, .unset, .unset, .unset] [(.int (2 : Int32))])) _
    refine XS.ifNo X0.here hx rfl (hb hby d0_18) rfl ((if0 _ _).trans (tlt (by decide : (0 : Int32) < (2 : Int32))).2.2.2) ?_
    show Steps p.tables e below (s₁.setTop (mkF m 21 #[.val (.ref ar), .val (.int (3 : Int32)), .val (.int (2 : Int32)), .val (.double d2), .second, .val (.double 0), .second, .unset, .unset, .unset, .unset] [])) _
    refine XS.iinc X0.here hx rfl (hb hby d0_21) rfl (l' := #[.val (.ref ar), .val (.int (3 : Int32)), .val (.int ((2 : Int32) + (-1 : Int32))), .val (.double d2), .second, .val (.double 0), .second, .unset, .unset, .unset, .unset]) rfl ?_
    show Steps p.tables e below (s₁.setTop (mkF m 24 #[.val (.ref ar), .val (.int (3 : Int32)), .val (.int ((2 : Int32) + (-1 : Int32))), .val (.double d2), .second, .val (.double 0), .second, .unset, .unset, .unset, .unset] [])) _
    rw [show ((2 : Int32) + (-1 : Int32)) = (1 : Int32) from by decide]
    show Steps p.tables e below (s₁.setTop (mkF m 24 #[.val (.ref ar), .val (.int (3 : Int32)), .val (.int (1 : Int32)), .val (.double d2), .second, .val (.double 0), .second, .unset, .unset, .unset, .unset] [])) _
    refine XS.dloadN X0.here hx rfl (hb hby d0_24) rfl ?_
    show Steps p.tables e below (s₁.setTop (mkF m 25 #[.val (.ref ar), .val (.int (3 : Int32)), .val (.int (1 : Int32)), .val (.double d2), .second, .val (.double 0), .second, .unset, .unset, .unset, .unset] [(.double d2)])) _
    refine XS.dstore X0.here hx rfl (hb hby d0_25) rfl (l' := #[.val (.ref ar), .val (.int (3 : Int32)), .val (.int (1 : Int32)), .val (.double d2), .second, .val (.double 0), .second, .val (.double d2), .second, .unset, .unset]) rfl ?_
    show Steps p.tables e below (s₁.setTop (mkF m 27 #[.val (.ref ar), .val (.int (3 : Int32)), .val (.int (1 : Int32)), .val (.double d2), .second, .val (.double 0), .second, .val (.double d2), .second, .unset, .unset] [])) _
    refine XS.dload X0.here hx rfl (hb hby d0_27) rfl ?_
    show Steps p.tables e below (s₁.setTop (mkF m 29 #[.val (.ref ar), .val (.int (3 : Int32)), .val (.int (1 : Int32)), .val (.double d2), .second, .val (.double 0), .second, .val (.double d2), .second, .unset, .unset] [(.double d2)])) _
    refine XS.aloadN X0.here hx rfl (hb hby d0_29) rfl rfl ?_
    show Steps p.tables e below (s₁.setTop (mkF m 30 #[.val (.ref ar), .val (.int (3 : Int32)), .val (.int (1 : Int32)), .val (.double d2), .second, .val (.double 0), .second, .val (.double d2), .second, .unset, .unset] [(.ref ar), (.double d2)])) _
    refine XS.iloadN X0.here hx rfl (hb hby d0_30) rfl ?_
    show Steps p.tables e below (s₁.setTop (mkF m 31 #[.val (.ref ar), .val (.int (3 : Int32)), .val (.int (1 : Int32)), .val (.double d2), .second, .val (.double 0), .second, .val (.double d2), .second, .unset, .unset] [(.int (1 : Int32)), (.ref ar), (.double d2)])) _
    refine X0.daload hx (j := (1 : Int32)) (v := (.double d1)) (by rw [e0]; exact Ar2.1) (State.isArrayOf_alike hZ.alike Ar2.2.1) Ar2.2.2 hin2 hat2 (g := (mkF m 31 #[.val (.ref ar), .val (.int (3 : Int32)), .val (.int (1 : Int32)), .val (.double d2), .second, .val (.double 0), .second, .val (.double d2), .second, .unset, .unset] [(.int (1 : Int32)), (.ref ar), (.double d2)])) rfl rfl (hb hby d0_31) _ ?_
    show Steps p.tables e below (s₁.setTop (mkF m 32 #[.val (.ref ar), .val (.int (3 : Int32)), .val (.int (1 : Int32)), .val (.double d2), .second, .val (.double 0), .second, .val (.double d2), .second, .unset, .unset] [(.double d1), (.double d2)])) _
    refine XS.daddS X0.here hx rfl (hb hby d0_32) rfl nn32 rfl ?_
    show Steps p.tables e below (s₁.setTop (mkF m 33 #[.val (.ref ar), .val (.int (3 : Int32)), .val (.int (1 : Int32)), .val (.double d2), .second, .val (.double 0), .second, .val (.double d2), .second, .unset, .unset] [(.double (FP.dadd d2 d1))])) _
    rw [e1]
    show Steps p.tables e below (s₁.setTop (mkF m 33 #[.val (.ref ar), .val (.int (3 : Int32)), .val (.int (1 : Int32)), .val (.double d2), .second, .val (.double 0), .second, .val (.double d2), .second, .unset, .unset] [(.double h1)])) _
    refine XS.dstoreN X0.here hx rfl (hb hby d0_33) rfl (l' := #[.val (.ref ar), .val (.int (3 : Int32)), .val (.int (1 : Int32)), .val (.double h1), .second, .val (.double 0), .second, .val (.double d2), .second, .unset, .unset]) rfl ?_
    show Steps p.tables e below (s₁.setTop (mkF m 34 #[.val (.ref ar), .val (.int (3 : Int32)), .val (.int (1 : Int32)), .val (.double h1), .second, .val (.double 0), .second, .val (.double d2), .second, .unset, .unset] [])) _
    refine XS.aloadN X0.here hx rfl (hb hby d0_34) rfl rfl ?_
    show Steps p.tables e below (s₁.setTop (mkF m 35 #[.val (.ref ar), .val (.int (3 : Int32)), .val (.int (1 : Int32)), .val (.double h1), .second, .val (.double 0), .second, .val (.double d2), .second, .unset, .unset] [(.ref ar)])) _
    refine XS.iloadN X0.here hx rfl (hb hby d0_35) rfl ?_
    show Steps p.tables e below (s₁.setTop (mkF m 36 #[.val (.ref ar), .val (.int (3 : Int32)), .val (.int (1 : Int32)), .val (.double h1), .second, .val (.double 0), .second, .val (.double d2), .second, .unset, .unset] [(.int (1 : Int32)), (.ref ar)])) _
    refine X0.daload hx (j := (1 : Int32)) (v := (.double d1)) (by rw [e0]; exact Ar3.1) (State.isArrayOf_alike hZ.alike Ar3.2.1) Ar3.2.2 hin3 hat3 (g := (mkF m 36 #[.val (.ref ar), .val (.int (3 : Int32)), .val (.int (1 : Int32)), .val (.double h1), .second, .val (.double 0), .second, .val (.double d2), .second, .unset, .unset] [(.int (1 : Int32)), (.ref ar)])) rfl rfl (hb hby d0_36) _ ?_
    show Steps p.tables e below (s₁.setTop (mkF m 37 #[.val (.ref ar), .val (.int (3 : Int32)), .val (.int (1 : Int32)), .val (.double h1), .second, .val (.double 0), .second, .val (.double d2), .second, .unset, .unset] [(.double d1)])) _
    refine XS.dloadN X0.here hx rfl (hb hby d0_37) rfl ?_
    show Steps p.tables e below (s₁.setTop (mkF m 38 #[.val (.ref ar), .val (.int (3 : Int32)), .val (.int (1 : Int32)), .val (.double h1), .second, .val (.double 0), .second, .val (.double d2), .second, .unset, .unset] [(.double h1), (.double d1)])) _
    refine XS.dload X0.here hx rfl (hb hby d0_38) rfl ?_
    show Steps p.tables e below (s₁.setTop (mkF m 40 #[.val (.ref ar), .val (.int (3 : Int32)), .val (.int (1 : Int32)), .val (.double h1), .second, .val (.double 0), .second, .val (.double d2), .second, .unset, .unset] [(.double d2), (.double h1), (.double d1)])) _
    refine XS.dsubS X0.here hx rfl (hb hby d0_40) rfl nn40 rfl ?_
    show Steps p.tables e below (s₁.setTop (mkF m 41 #[.val (.ref ar), .val (.int (3 : Int32)), .val (.int (1 : Int32)), .val (.double h1), .second, .val (.double 0), .second, .val (.double d2), .second, .unset, .unset] [(.double (FP.dsub h1 d2)), (.double d1)])) _
    rw [e2]
    show Steps p.tables e below (s₁.setTop (mkF m 41 #[.val (.ref ar), .val (.int (3 : Int32)), .val (.int (1 : Int32)), .val (.double h1), .second, .val (.double 0), .second, .val (.double d2), .second, .unset, .unset] [(.double g1), (.double d1)])) _
    refine XS.dsubS X0.here hx rfl (hb hby d0_41) rfl nn41 rfl ?_
    show Steps p.tables e below (s₁.setTop (mkF m 42 #[.val (.ref ar), .val (.int (3 : Int32)), .val (.int (1 : Int32)), .val (.double h1), .second, .val (.double 0), .second, .val (.double d2), .second, .unset, .unset] [(.double (FP.dsub d1 g1))])) _
    rw [e3]
    show Steps p.tables e below (s₁.setTop (mkF m 42 #[.val (.ref ar), .val (.int (3 : Int32)), .val (.int (1 : Int32)), .val (.double h1), .second, .val (.double 0), .second, .val (.double d2), .second, .unset, .unset] [(.double l1)])) _
    refine XS.dstore X0.here hx rfl (hb hby d0_42) rfl (l' := #[.val (.ref ar), .val (.int (3 : Int32)), .val (.int (1 : Int32)), .val (.double h1), .second, .val (.double l1), .second, .val (.double d2), .second, .unset, .unset]) rfl ?_
    show Steps p.tables e below (s₁.setTop (mkF m 44 #[.val (.ref ar), .val (.int (3 : Int32)), .val (.int (1 : Int32)), .val (.double h1), .second, .val (.double l1), .second, .val (.double d2), .second, .unset, .unset] [])) _
    refine XS.dload X0.here hx rfl (hb hby d0_44) rfl ?_
    show Steps p.tables e below (s₁.setTop (mkF m 46 #[.val (.ref ar), .val (.int (3 : Int32)), .val (.int (1 : Int32)), .val (.double h1), .second, .val (.double l1), .second, .val (.double d2), .second, .unset, .unset] [(.double l1)])) _
    refine XS.dconst0 X0.here hx rfl (hb hby d0_46) (v := 0) rfl ?_
    show Steps p.tables e below (s₁.setTop (mkF m 47 #[.val (.ref ar), .val (.int (3 : Int32)), .val (.int (1 : Int32)), .val (.double h1), .second, .val (.double l1), .second, .val (.double d2), .second, .unset, .unset] [(.double 0), (.double l1)])) _
    refine XS.dcmpS X0.here hx rfl (hb hby d0_47) rfl rfl ?_
    show Steps p.tables e below (s₁.setTop (mkF m 48 #[.val (.ref ar), .val (.int (3 : Int32)), .val (.int (1 : Int32)), .val (.double h1), .second, .val (.double l1), .second, .val (.double d2), .second, .unset, .unset] [(.int (cmpValue (FP.dcmp l1 0) .l))])) _
    refine XS.ifNo X0.here hx rfl (hb hby d0_48) rfl ((if0 _ _).trans (feq hc48).1) ?_
    show Steps p.tables e below (s₁.setTop (mkF m 51 #[.val (.ref ar), .val (.int (3 : Int32)), .val (.int (1 : Int32)), .val (.double h1), .second, .val (.double l1), .second, .val (.double d2), .second, .unset, .unset] [])) _
    refine XS.goto X0.here hx rfl (pc0 := 51) (pc' := 57) rfl (hb hby d0_51) (by decide) (by decide) ?_
    show Steps p.tables e below (s₁.setTop (mkF m 57 #[.val (.ref ar), .val (.int (3 : Int32)), .val (.int (1 : Int32)), .val (.double h1), .second, .val (.double l1), .second, .val (.double d2), .second, .unset, .unset] [])) _
    refine XS.iloadN X0.here hx rfl (hb hby d0_57) rfl ?_
    show Steps p.tables e below (s₁.setTop (mkF m 58 #[.val (.ref ar), .val (.int (3 : Int32)), .val (.int (1 : Int32)), .val (.double h1), .second, .val (.double l1), .second, .val (.double d2), .second, .unset, .unset] [(.int (1 : Int32))])) _
    refine XS.ifNo X0.here hx rfl (hb hby d0_58) rfl ((if0 _ _).trans (tlt (by decide : (0 : Int32) < (1 : Int32))).2.2.2) ?_
    show Steps p.tables e below (s₁.setTop (mkF m 61 #[.val (.ref ar), .val (.int (3 : Int32)), .val (.int (1 : Int32)), .val (.double h1), .second, .val (.double l1), .second, .val (.double d2), .second, .unset, .unset] [])) _
    refine XS.dload X0.here hx rfl (hb hby d0_61) rfl ?_
    show Steps p.tables e below (s₁.setTop (mkF m 63 #[.val (.ref ar), .val (.int (3 : Int32)), .val (.int (1 : Int32)), .val (.double h1), .second, .val (.double l1), .second, .val (.double d2), .second, .unset, .unset] [(.double l1)])) _
    refine XS.dconst0 X0.here hx rfl (hb hby d0_63) (v := 0) rfl ?_
    show Steps p.tables e below (s₁.setTop (mkF m 64 #[.val (.ref ar), .val (.int (3 : Int32)), .val (.int (1 : Int32)), .val (.double h1), .second, .val (.double l1), .second, .val (.double d2), .second, .unset, .unset] [(.double 0), (.double l1)])) _
    refine XS.dcmpS X0.here hx rfl (hb hby d0_64) rfl rfl ?_
    show Steps p.tables e below (s₁.setTop (mkF m 65 #[.val (.ref ar), .val (.int (3 : Int32)), .val (.int (1 : Int32)), .val (.double h1), .second, .val (.double l1), .second, .val (.double d2), .second, .unset, .unset] [(.int (cmpValue (FP.dcmp l1 0) .g))])) _
    refine XS.ifYes X0.here hx rfl (pc0 := 65) (pc' := 72) rfl (hb hby d0_65) rfl ((if0 _ _).trans (flt hc65).2.1) (by decide) (by decide) ?_
    show Steps p.tables e below (s₁.setTop (mkF m 72 #[.val (.ref ar), .val (.int (3 : Int32)), .val (.int (1 : Int32)), .val (.double h1), .second, .val (.double l1), .second, .val (.double d2), .second, .unset, .unset] [])) _
    refine XS.iconst X0.here hx rfl (hb hby d0_72) ?_
    show Steps p.tables e below (s₁.setTop (mkF m 73 #[.val (.ref ar), .val (.int (3 : Int32)), .val (.int (1 : Int32)), .val (.double h1), .second, .val (.double l1), .second, .val (.double d2), .second, .unset, .unset] [(.int (0 : Int32))])) _
    refine XS.aloadN X0.here hx rfl (hb hby d0_73) rfl rfl ?_
    show Steps p.tables e below (s₁.setTop (mkF m 74 #[.val (.ref ar), .val (.int (3 : Int32)), .val (.int (1 : Int32)), .val (.double h1), .second, .val (.double l1), .second, .val (.double d2), .second, .unset, .unset] [(.ref ar), (.int (0 : Int32))])) _
    refine XS.iloadN X0.here hx rfl (hb hby d0_74) rfl ?_
    show Steps p.tables e below (s₁.setTop (mkF m 75 #[.val (.ref ar), .val (.int (3 : Int32)), .val (.int (1 : Int32)), .val (.double h1), .second, .val (.double l1), .second, .val (.double d2), .second, .unset, .unset] [(.int (1 : Int32)), (.ref ar), (.int (0 : Int32))])) _
    refine XS.iconst X0.here hx rfl (hb hby d0_75) ?_
    show Steps p.tables e below (s₁.setTop (mkF m 76 #[.val (.ref ar), .val (.int (3 : Int32)), .val (.int (1 : Int32)), .val (.double h1), .second, .val (.double l1), .second, .val (.double d2), .second, .unset, .unset] [(.int (1 : Int32)), (.int (1 : Int32)), (.ref ar), (.int (0 : Int32))])) _
    refine XS.isub X0.here hx rfl (hb hby d0_76) rfl ?_
    show Steps p.tables e below (s₁.setTop (mkF m 77 #[.val (.ref ar), .val (.int (3 : Int32)), .val (.int (1 : Int32)), .val (.double h1), .second, .val (.double l1), .second, .val (.double d2), .second, .unset, .unset] [(.int ((1 : Int32) - (1 : Int32))), (.ref ar), (.int (0 : Int32))])) _
    rw [show ((1 : Int32) - (1 : Int32)) = (0 : Int32) from by decide]
    show Steps p.tables e below (s₁.setTop (mkF m 77 #[.val (.ref ar), .val (.int (3 : Int32)), .val (.int (1 : Int32)), .val (.double h1), .second, .val (.double l1), .second, .val (.double d2), .second, .unset, .unset] [(.int (0 : Int32)), (.ref ar), (.int (0 : Int32))])) _
    refine X0.daload hx (j := (0 : Int32)) (v := (.double d0)) (by rw [e0]; exact Ar4.1) (State.isArrayOf_alike hZ.alike Ar4.2.1) Ar4.2.2 hin4 hat4 (g := (mkF m 77 #[.val (.ref ar), .val (.int (3 : Int32)), .val (.int (1 : Int32)), .val (.double h1), .second, .val (.double l1), .second, .val (.double d2), .second, .unset, .unset] [(.int (0 : Int32)), (.ref ar), (.int (0 : Int32))])) rfl rfl (hb hby d0_77) _ ?_
    show Steps p.tables e below (s₁.setTop (mkF m 78 #[.val (.ref ar), .val (.int (3 : Int32)), .val (.int (1 : Int32)), .val (.double h1), .second, .val (.double l1), .second, .val (.double d2), .second, .unset, .unset] [(.double d0), (.int (0 : Int32))])) _
    refine XS.dconst0 X0.here hx rfl (hb hby d0_78) (v := 0) rfl ?_
    show Steps p.tables e below (s₁.setTop (mkF m 79 #[.val (.ref ar), .val (.int (3 : Int32)), .val (.int (1 : Int32)), .val (.double h1), .second, .val (.double l1), .second, .val (.double d2), .second, .unset, .unset] [(.double 0), (.double d0), (.int (0 : Int32))])) _
    refine XS.dcmpS X0.here hx rfl (hb hby d0_79) rfl rfl ?_
    show Steps p.tables e below (s₁.setTop (mkF m 80 #[.val (.ref ar), .val (.int (3 : Int32)), .val (.int (1 : Int32)), .val (.double h1), .second, .val (.double l1), .second, .val (.double d2), .second, .unset, .unset] [(.int (cmpValue (FP.dcmp d0 0) .g)), (.int (0 : Int32))])) _
    refine XS.ifNo X0.here hx rfl (hb hby d0_80) rfl ((if0 _ _).trans (tlt hc80).2.1) ?_
    show Steps p.tables e below (s₁.setTop (mkF m 83 #[.val (.ref ar), .val (.int (3 : Int32)), .val (.int (1 : Int32)), .val (.double h1), .second, .val (.double l1), .second, .val (.double d2), .second, .unset, .unset] [(.int (0 : Int32))])) _
    refine XS.iconst X0.here hx rfl (hb hby d0_83) ?_
    show Steps p.tables e below (s₁.setTop (mkF m 84 #[.val (.ref ar), .val (.int (3 : Int32)), .val (.int (1 : Int32)), .val (.double h1), .second, .val (.double l1), .second, .val (.double d2), .second, .unset, .unset] [(.int (1 : Int32)), (.int (0 : Int32))])) _
    refine XS.goto X0.here hx rfl (pc0 := 84) (pc' := 88) rfl (hb hby d0_84) (by decide) (by decide) ?_
    show Steps p.tables e below (s₁.setTop (mkF m 88 #[.val (.ref ar), .val (.int (3 : Int32)), .val (.int (1 : Int32)), .val (.double h1), .second, .val (.double l1), .second, .val (.double d2), .second, .unset, .unset] [(.int (1 : Int32)), (.int (0 : Int32))])) _
    refine XS.icmpYes X0.here hx rfl (pc0 := 88) (pc' := 118) rfl (hb hby d0_88) rfl (feq (by decide : ¬ ((0 : Int32) = (1 : Int32)))).2 (by decide) (by decide) ?_
    show Steps p.tables e below (s₁.setTop (mkF m 118 #[.val (.ref ar), .val (.int (3 : Int32)), .val (.int (1 : Int32)), .val (.double h1), .second, .val (.double l1), .second, .val (.double d2), .second, .unset, .unset] [])) _
    refine XS.dloadN X0.here hx rfl (hb hby d0_118) rfl ?_
    show Steps p.tables e below (s₁.setTop (mkF m 119 #[.val (.ref ar), .val (.int (3 : Int32)), .val (.int (1 : Int32)), .val (.double h1), .second, .val (.double l1), .second, .val (.double d2), .second, .unset, .unset] [(.double h1)])) _
    exact retOut X0 hx Bd.returns rfl (Or.inr (Or.inr (Or.inl ⟨rfl, rfl, _, rfl⟩))) (hb hby d0_119) hr
  · show Q_rd3ftf Z ar ka d0 d1 d2 d3 h1 g1 l1 h0 n0 _ s₁.heap _
    rw [e0]
    exact ⟨rfl, N0, rfl⟩
theorem own_wk {l : Launch} {y : MethodName} {S : Spec} {P : Array Value → State → Prop} {K : Program → Env → List Frame → State → Array Value → Prop} {Q Q' : Array Value → State → Outcome → State → Prop} (hM : MetFree l y S P K Q) (h : ∀ a U o U', Q a U o U' → Q' a U o U') : MetFree l y S P K Q' := fun p e ha hc hk s m args below hf happ hP hK => by
  obtain ⟨n, o, h1, h2, h3, h4⟩ := hM p e ha hc hk s m args below hf happ hP hK
  exact ⟨n, o, h1, h2, h3, h _ _ _ _ h4⟩
def Q_rd (Sg : Int) (h0 : Heap) (n0 : Nat) (v : Option Value) (h : Heap) (L : List Loc) : Prop := ∃ res : UInt64, v = some (.double res) ∧ Fr n0 L ∧ h = h0 ∧ FP.Core.DInt (own_rd Sg) res
theorem rd_0 (l : Launch) (Z : State) (a0 : Array Value) (hw : ∀ d ∈ tables_1, d.before a0 Z = true) (ws : List Jvm.Cond) (ar : Addr) (ka : ClassId) (d0 : UInt64) (d1 : UInt64) (d2 : UInt64) (d3 : UInt64) (Sg : Int) (h0 : Heap) (n0 : Nat) (Z0 : n0 ≤ h0.size) (V_ar : Arv Z h0 ar ka .double (4 : Int32) [(.double d0), (.double d1), (.double d2), (.double d3)] (.double 0)) (hSg : 0 = Sg) :
    MetFree l (⟨"com/example/crestwatch/crestwatch/core/ExactSum", "rounded", "([DI)D"⟩ : MethodName) (head1 (Jvm.Cond.code (⟨"com/example/crestwatch/crestwatch/core/ExactSum", "rounded", "([DI)D"⟩ : MethodName) prog_28_method_5_code 11 (some .double) :: ws) ({ frames := 0, cells := 0, slots := 0, locals := 0 } : Room)) (fun a U => a = #[(.ref ar), (.int (0 : Int32))] ∧ Z.Warmed39 U.vm ∧ U.heap = h0) (fun _ _ _ _ _ => True) (fun _ U o U' => ∃ v L, o = .returned v ∧ Q_rd Sg h0 n0 v U'.heap L ∧ FrameEnd U o U' L ({ frames := 0, cells := 0, slots := 0, locals := 0 } : Room).cells ({ frames := 0, cells := 0, slots := 0, locals := 0 } : Room).slots) := by
  subst hSg
  exact own_wk (rd0 l Z a0 hw ws ar ka d0 d1 d2 d3 h0 n0 Z0 V_ar) (fun a U o U' q => by obtain ⟨v, L, h1, ⟨rfl, hF, hh⟩, hE⟩ := q; exact ⟨_, L, h1, ⟨_, rfl, hF, hh, (show own_rd 0 = 0 by decide) ▸ own_zero⟩, hE⟩)
theorem rd_1 (l : Launch) (Z : State) (a0 : Array Value) (hw : ∀ d ∈ tables_1, d.before a0 Z = true) (ws : List Jvm.Cond) (ar : Addr) (ka : ClassId) (d0 : UInt64) (d1 : UInt64) (d2 : UInt64) (d3 : UInt64) (Sg : Int) (h0 : Heap) (n0 : Nat) (Z0 : n0 ≤ h0.size) (V_ar : Arv Z h0 ar ka .double (4 : Int32) [(.double d0), (.double d1), (.double d2), (.double d3)] (.double 0)) (D0 : FP.Core.DInt (own_rd Sg) d0) :
    MetFree l (⟨"com/example/crestwatch/crestwatch/core/ExactSum", "rounded", "([DI)D"⟩ : MethodName) (head1 (Jvm.Cond.code (⟨"com/example/crestwatch/crestwatch/core/ExactSum", "rounded", "([DI)D"⟩ : MethodName) prog_28_method_5_code 11 (some .double) :: ws) ({ frames := 0, cells := 0, slots := 0, locals := 0 } : Room)) (fun a U => a = #[(.ref ar), (.int (1 : Int32))] ∧ Z.Warmed39 U.vm ∧ U.heap = h0) (fun _ _ _ _ _ => True) (fun _ U o U' => ∃ v L, o = .returned v ∧ Q_rd Sg h0 n0 v U'.heap L ∧ FrameEnd U o U' L ({ frames := 0, cells := 0, slots := 0, locals := 0 } : Room).cells ({ frames := 0, cells := 0, slots := 0, locals := 0 } : Room).slots) := by
  exact own_wk (rd1 l Z a0 hw ws ar ka d0 d1 d2 d3 h0 n0 Z0 V_ar) (fun a U o U' q => by obtain ⟨v, L, h1, ⟨rfl, hF, hh⟩, hE⟩ := q; exact ⟨_, L, h1, ⟨_, rfl, hF, hh, D0⟩, hE⟩)
theorem rd_2 (l : Launch) (Z : State) (a0 : Array Value) (hw : ∀ d ∈ tables_1, d.before a0 Z = true) (ws : List Jvm.Cond) (ar : Addr) (ka : ClassId) (d0 : UInt64) (d1 : UInt64) (d2 : UInt64) (d3 : UInt64) (Pa : Int) (Pb : Int) (Sg : Int) (h0 : Heap) (n0 : Nat) (Z0 : n0 ≤ h0.size) (V_ar : Arv Z h0 ar ka .double (4 : Int32) [(.double d0), (.double d1), (.double d2), (.double d3)] (.double 0)) (D0 : FP.Core.DInt Pa d0) (D1 : FP.Core.DInt Pb d1) (hb : (Pb + Pa).natAbs < 2 ^ 63) (hSg : Pb + Pa = Sg) :
    MetFree l (⟨"com/example/crestwatch/crestwatch/core/ExactSum", "rounded", "([DI)D"⟩ : MethodName) (head1 (Jvm.Cond.code (⟨"com/example/crestwatch/crestwatch/core/ExactSum", "rounded", "([DI)D"⟩ : MethodName) prog_28_method_5_code 11 (some .double) :: ws) ({ frames := 0, cells := 0, slots := 0, locals := 0 } : Room)) (fun a U => a = #[(.ref ar), (.int (2 : Int32))] ∧ Z.Warmed39 U.vm ∧ U.heap = h0) (fun _ _ _ _ _ => True) (fun _ U o U' => ∃ v L, o = .returned v ∧ Q_rd Sg h0 n0 v U'.heap L ∧ FrameEnd U o U' L ({ frames := 0, cells := 0, slots := 0, locals := 0 } : Room).cells ({ frames := 0, cells := 0, slots := 0, locals := 0 } : Room).slots) := by
  subst hSg
  have hh1 := own_dadd D1 D0 hb
  have n40 := dsub_out (own_noNaN hh1) (own_fin D1)
  have n41 := dsub_out' (own_fin D0) n40
  by_cases c0 : (cmpValue (FP.dcmp (FP.dsub d0 (FP.dsub (FP.dadd d1 d0) d1)) 0) .l) = (0 : Int32)
  · exact own_wk (rd2t l Z a0 hw ws ar ka d0 d1 d2 d3 (FP.dadd d1 d0) (FP.dsub (FP.dadd d1 d0) d1) (FP.dsub d0 (FP.dsub (FP.dadd d1 d0) d1)) h0 n0 Z0 V_ar rfl rfl rfl (own_noNaN hh1) n40 n41 c0) (fun a U o U' q => by obtain ⟨v, L, h1, ⟨rfl, hF, hh⟩, hE⟩ := q; exact ⟨_, L, h1, ⟨_, rfl, hF, hh, hh1⟩, hE⟩)
  · exact own_wk (rd2f l Z a0 hw ws ar ka d0 d1 d2 d3 (FP.dadd d1 d0) (FP.dsub (FP.dadd d1 d0) d1) (FP.dsub d0 (FP.dsub (FP.dadd d1 d0) d1)) h0 n0 Z0 V_ar rfl rfl rfl (own_noNaN hh1) n40 n41 c0) (fun a U o U' q => by obtain ⟨v, L, h1, ⟨rfl, hF, hh⟩, hE⟩ := q; exact ⟨_, L, h1, ⟨_, rfl, hF, hh, hh1⟩, hE⟩)
theorem rd_3 (l : Launch) (Z : State) (a0 : Array Value) (hw : ∀ d ∈ tables_1, d.before a0 Z = true) (ws : List Jvm.Cond) (ar : Addr) (ka : ClassId) (d0 : UInt64) (d1 : UInt64) (d2 : UInt64) (d3 : UInt64) (P0 : Int) (P1 : Int) (P2 : Int) (K : Nat) (Sg : Int) (h0 : Heap) (n0 : Nat) (Z0 : n0 ≤ h0.size) (V_ar : Arv Z h0 ar ka .double (4 : Int32) [(.double d0), (.double d1), (.double d2), (.double d3)] (.double 0)) (D0 : FP.Core.DInt P0 d0) (D1 : FP.Core.DInt P1 d1) (D2 : FP.Core.DInt P2 d2) (hC : OwnC P0 P1 P2 K) (hSg : P2 + P1 + P0 = Sg) :
    MetFree l (⟨"com/example/crestwatch/crestwatch/core/ExactSum", "rounded", "([DI)D"⟩ : MethodName) (head1 (Jvm.Cond.code (⟨"com/example/crestwatch/crestwatch/core/ExactSum", "rounded", "([DI)D"⟩ : MethodName) prog_28_method_5_code 11 (some .double) :: ws) ({ frames := 0, cells := 0, slots := 0, locals := 0 } : Room)) (fun a U => a = #[(.ref ar), (.int (3 : Int32))] ∧ Z.Warmed39 U.vm ∧ U.heap = h0) (fun _ _ _ _ _ => True) (fun _ U o U' => ∃ v L, o = .returned v ∧ Q_rd Sg h0 n0 v U'.heap L ∧ FrameEnd U o U' L ({ frames := 0, cells := 0, slots := 0, locals := 0 } : Room).cells ({ frames := 0, cells := 0, slots := 0, locals := 0 } : Room).slots) := by
  subst hSg
  have hh1 := own_h1 D1 D2 hC
  have hg1 := own_g1 D1 D2 hC
  have hl1 := own_l1 D1 D2 hC
  have hnr := own_near hC
  have hs16 := own_small hC
  by_cases c0 : (cmpValue (FP.dcmp (FP.dsub d1 (FP.dsub (FP.dadd d2 d1) d2)) 0) .l) = (0 : Int32)
  · have hz := (own_eq hl1 own_zero .l).mp c0
    have eS : own_rd (P2 + P1) = P2 + P1 := by omega
    have hh2 := own_x1 hC hh1 D0 (by omega)
    have hg2 := own_z1 hC hh1 D0 (by omega)
    have n41 := dsub_out' (own_fin D0) (own_noNaN hg2)
    have hr : FP.Core.DInt (own_rd (P2 + P1 + P0)) (FP.dadd (FP.dadd d2 d1) d0) := by rw [eS] at hh2; exact hh2
    by_cases c1 : (cmpValue (FP.dcmp (FP.dsub d0 (FP.dsub (FP.dadd (FP.dadd d2 d1) d0) (FP.dadd d2 d1))) 0) .l) = (0 : Int32)
    · exact own_wk (rd3tt l Z a0 hw ws ar ka d0 d1 d2 d3 (FP.dadd d2 d1) (FP.dsub (FP.dadd d2 d1) d2) (FP.dsub d1 (FP.dsub (FP.dadd d2 d1) d2)) (FP.dadd (FP.dadd d2 d1) d0) (FP.dsub (FP.dadd (FP.dadd d2 d1) d0) (FP.dadd d2 d1)) (FP.dsub d0 (FP.dsub (FP.dadd (FP.dadd d2 d1) d0) (FP.dadd d2 d1))) h0 n0 Z0 V_ar rfl rfl rfl rfl rfl rfl (own_noNaN hh1) (own_noNaN hg1) (own_noNaN hl1) c0 (own_noNaN hh2) (own_noNaN hg2) n41 c1) (fun a U o U' q => by obtain ⟨v, L, h1, ⟨rfl, hF, hh⟩, hE⟩ := q; exact ⟨_, L, h1, ⟨_, rfl, hF, hh, hr⟩, hE⟩)
    · exact own_wk (rd3tf l Z a0 hw ws ar ka d0 d1 d2 d3 (FP.dadd d2 d1) (FP.dsub (FP.dadd d2 d1) d2) (FP.dsub d1 (FP.dsub (FP.dadd d2 d1) d2)) (FP.dadd (FP.dadd d2 d1) d0) (FP.dsub (FP.dadd (FP.dadd d2 d1) d0) (FP.dadd d2 d1)) (FP.dsub d0 (FP.dsub (FP.dadd (FP.dadd d2 d1) d0) (FP.dadd d2 d1))) h0 n0 Z0 V_ar rfl rfl rfl rfl rfl rfl (own_noNaN hh1) (own_noNaN hg1) (own_noNaN hl1) c0 (own_noNaN hh2) (own_noNaN hg2) n41 c1) (fun a U o U' q => by obtain ⟨v, L, h1, ⟨rfl, hF, hh⟩, hE⟩ := q; exact ⟨_, L, h1, ⟨_, rfl, hF, hh, hr⟩, hE⟩)
  · have hne : own_rd (P2 + P1) ≠ P2 + P1 := fun q => c0 ((own_eq hl1 own_zero .l).mpr (by omega))
    obtain ⟨f1, f2⟩ := own_fix (S := P2 + P1) (a := P0) hC.2.2.2.2.2 hne hC.2.1 hC.2.2.1
    have hy1 := own_y1 D1 D2 hC
    have hj : ((P1 - (own_rd (P2 + P1) - P2)) * 2).natAbs ≤ 4096 := by omega
    have hx1 := own_x1 hC hh1 hy1 hj
    have hz1 := own_z1 hC hh1 hy1 hj
    have ej : own_rd (P2 + P1) + (P1 - (own_rd (P2 + P1) - P2)) * 2 = 2 * (P2 + P1) - own_rd (P2 + P1) := by omega
    rw [ej] at hx1 hz1
    have q65 := own_lt hl1 own_zero .g
    have q80 := own_lt D0 own_zero .g
    have q112 := own_eq hz1 hy1 .l
    by_cases c2 : (cmpValue (FP.dcmp (FP.dsub d1 (FP.dsub (FP.dadd d2 d1) d2)) 0) .g) < (0 : Int32)
    · have s2 := q65.mp c2
      by_cases c3 : (cmpValue (FP.dcmp d0 0) .g) < (0 : Int32)
      · have s3 := q80.mp c3
        have g := f1 ⟨fun _ => s3, fun _ => by omega⟩
        by_cases c4 : (cmpValue (FP.dcmp (FP.dsub (FP.dadd (FP.dadd d2 d1) (FP.dmul (FP.dsub d1 (FP.dsub (FP.dadd d2 d1) d2)) 4611686018427387904)) (FP.dadd d2 d1)) (FP.dmul (FP.dsub d1 (FP.dsub (FP.dadd d2 d1) d2)) 4611686018427387904)) .l) = (0 : Int32)
        · have s4 := q112.mp c4
          have e4 : own_rd (2 * (P2 + P1) - own_rd (P2 + P1)) = 2 * (P2 + P1) - own_rd (P2 + P1) := by omega
          have hr : FP.Core.DInt (own_rd (P2 + P1 + P0)) (FP.dadd (FP.dadd d2 d1) (FP.dmul (FP.dsub d1 (FP.dsub (FP.dadd d2 d1) d2)) 4611686018427387904)) := by rw [g.1 e4]; rw [e4] at hx1; exact hx1
          exact own_wk (rd3ffff l Z a0 hw ws ar ka d0 d1 d2 d3 (FP.dadd d2 d1) (FP.dsub (FP.dadd d2 d1) d2) (FP.dsub d1 (FP.dsub (FP.dadd d2 d1) d2)) (FP.dmul (FP.dsub d1 (FP.dsub (FP.dadd d2 d1) d2)) 4611686018427387904) (FP.dadd (FP.dadd d2 d1) (FP.dmul (FP.dsub d1 (FP.dsub (FP.dadd d2 d1) d2)) 4611686018427387904)) (FP.dsub (FP.dadd (FP.dadd d2 d1) (FP.dmul (FP.dsub d1 (FP.dsub (FP.dadd d2 d1) d2)) 4611686018427387904)) (FP.dadd d2 d1)) h0 n0 Z0 V_ar rfl rfl rfl rfl rfl rfl (own_noNaN hh1) (own_noNaN hg1) (own_noNaN hl1) c0 c2 c3 (own_noNaN hy1) (own_noNaN hx1) (own_noNaN hz1) c4) (fun a U o U' q => by obtain ⟨v, L, h1, ⟨rfl, hF, hh⟩, hE⟩ := q; exact ⟨_, L, h1, ⟨_, rfl, hF, hh, hr⟩, hE⟩)
        · have e4 : own_rd (2 * (P2 + P1) - own_rd (P2 + P1)) ≠ 2 * (P2 + P1) - own_rd (P2 + P1) := fun q => c4 (q112.mpr (by omega))
          have hr : FP.Core.DInt (own_rd (P2 + P1 + P0)) (FP.dadd d2 d1) := by rw [g.2 e4]; exact hh1
          exact own_wk (rd3ffft l Z a0 hw ws ar ka d0 d1 d2 d3 (FP.dadd d2 d1) (FP.dsub (FP.dadd d2 d1) d2) (FP.dsub d1 (FP.dsub (FP.dadd d2 d1) d2)) (FP.dmul (FP.dsub d1 (FP.dsub (FP.dadd d2 d1) d2)) 4611686018427387904) (FP.dadd (FP.dadd d2 d1) (FP.dmul (FP.dsub d1 (FP.dsub (FP.dadd d2 d1) d2)) 4611686018427387904)) (FP.dsub (FP.dadd (FP.dadd d2 d1) (FP.dmul (FP.dsub d1 (FP.dsub (FP.dadd d2 d1) d2)) 4611686018427387904)) (FP.dadd d2 d1)) h0 n0 Z0 V_ar rfl rfl rfl rfl rfl rfl (own_noNaN hh1) (own_noNaN hg1) (own_noNaN hl1) c0 c2 c3 (own_noNaN hy1) (own_noNaN hx1) (own_noNaN hz1) c4) (fun a U o U' q => by obtain ⟨v, L, h1, ⟨rfl, hF, hh⟩, hE⟩ := q; exact ⟨_, L, h1, ⟨_, rfl, hF, hh, hr⟩, hE⟩)
      · have s3 : ¬ P0 < 0 := fun q => c3 (q80.mpr q)
        have hr : FP.Core.DInt (own_rd (P2 + P1 + P0)) (FP.dadd d2 d1) := by rw [f2 (fun q => s3 (q.mp (by omega)))]; exact hh1
        exact own_wk (rd3fft l Z a0 hw ws ar ka d0 d1 d2 d3 (FP.dadd d2 d1) (FP.dsub (FP.dadd d2 d1) d2) (FP.dsub d1 (FP.dsub (FP.dadd d2 d1) d2)) h0 n0 Z0 V_ar rfl rfl rfl (own_noNaN hh1) (own_noNaN hg1) (own_noNaN hl1) c0 c2 c3) (fun a U o U' q => by obtain ⟨v, L, h1, ⟨rfl, hF, hh⟩, hE⟩ := q; exact ⟨_, L, h1, ⟨_, rfl, hF, hh, hr⟩, hE⟩)
    · have s2 : ¬ (P1 - (own_rd (P2 + P1) - P2)) < 0 := fun q => c2 (q65.mpr q)
      by_cases c3 : (cmpValue (FP.dcmp d0 0) .g) < (0 : Int32)
      · have s3 := q80.mp c3
        have hr : FP.Core.DInt (own_rd (P2 + P1 + P0)) (FP.dadd d2 d1) := by rw [f2 (fun q => s2 (by have := q.mpr s3; omega))]; exact hh1
        exact own_wk (rd3ftf l Z a0 hw ws ar ka d0 d1 d2 d3 (FP.dadd d2 d1) (FP.dsub (FP.dadd d2 d1) d2) (FP.dsub d1 (FP.dsub (FP.dadd d2 d1) d2)) h0 n0 Z0 V_ar rfl rfl rfl (own_noNaN hh1) (own_noNaN hg1) (own_noNaN hl1) c0 c2 c3) (fun a U o U' q => by obtain ⟨v, L, h1, ⟨rfl, hF, hh⟩, hE⟩ := q; exact ⟨_, L, h1, ⟨_, rfl, hF, hh, hr⟩, hE⟩)
      · have s3 : ¬ P0 < 0 := fun q => c3 (q80.mpr q)
        have g := f1 ⟨fun q => absurd q (by omega), fun q => absurd q s3⟩
        by_cases c4 : (cmpValue (FP.dcmp (FP.dsub (FP.dadd (FP.dadd d2 d1) (FP.dmul (FP.dsub d1 (FP.dsub (FP.dadd d2 d1) d2)) 4611686018427387904)) (FP.dadd d2 d1)) (FP.dmul (FP.dsub d1 (FP.dsub (FP.dadd d2 d1) d2)) 4611686018427387904)) .l) = (0 : Int32)
        · have s4 := q112.mp c4
          have e4 : own_rd (2 * (P2 + P1) - own_rd (P2 + P1)) = 2 * (P2 + P1) - own_rd (P2 + P1) := by omega
          have hr : FP.Core.DInt (own_rd (P2 + P1 + P0)) (FP.dadd (FP.dadd d2 d1) (FP.dmul (FP.dsub d1 (FP.dsub (FP.dadd d2 d1) d2)) 4611686018427387904)) := by rw [g.1 e4]; rw [e4] at hx1; exact hx1
          exact own_wk (rd3fttf l Z a0 hw ws ar ka d0 d1 d2 d3 (FP.dadd d2 d1) (FP.dsub (FP.dadd d2 d1) d2) (FP.dsub d1 (FP.dsub (FP.dadd d2 d1) d2)) (FP.dmul (FP.dsub d1 (FP.dsub (FP.dadd d2 d1) d2)) 4611686018427387904) (FP.dadd (FP.dadd d2 d1) (FP.dmul (FP.dsub d1 (FP.dsub (FP.dadd d2 d1) d2)) 4611686018427387904)) (FP.dsub (FP.dadd (FP.dadd d2 d1) (FP.dmul (FP.dsub d1 (FP.dsub (FP.dadd d2 d1) d2)) 4611686018427387904)) (FP.dadd d2 d1)) h0 n0 Z0 V_ar rfl rfl rfl rfl rfl rfl (own_noNaN hh1) (own_noNaN hg1) (own_noNaN hl1) c0 c2 c3 (own_noNaN hy1) (own_noNaN hx1) (own_noNaN hz1) c4) (fun a U o U' q => by obtain ⟨v, L, h1, ⟨rfl, hF, hh⟩, hE⟩ := q; exact ⟨_, L, h1, ⟨_, rfl, hF, hh, hr⟩, hE⟩)
        · have e4 : own_rd (2 * (P2 + P1) - own_rd (P2 + P1)) ≠ 2 * (P2 + P1) - own_rd (P2 + P1) := fun q => c4 (q112.mpr (by omega))
          have hr : FP.Core.DInt (own_rd (P2 + P1 + P0)) (FP.dadd d2 d1) := by rw [g.2 e4]; exact hh1
          exact own_wk (rd3fttt l Z a0 hw ws ar ka d0 d1 d2 d3 (FP.dadd d2 d1) (FP.dsub (FP.dadd d2 d1) d2) (FP.dsub d1 (FP.dsub (FP.dadd d2 d1) d2)) (FP.dmul (FP.dsub d1 (FP.dsub (FP.dadd d2 d1) d2)) 4611686018427387904) (FP.dadd (FP.dadd d2 d1) (FP.dmul (FP.dsub d1 (FP.dsub (FP.dadd d2 d1) d2)) 4611686018427387904)) (FP.dsub (FP.dadd (FP.dadd d2 d1) (FP.dmul (FP.dsub d1 (FP.dsub (FP.dadd d2 d1) d2)) 4611686018427387904)) (FP.dadd d2 d1)) h0 n0 Z0 V_ar rfl rfl rfl rfl rfl rfl (own_noNaN hh1) (own_noNaN hg1) (own_noNaN hl1) c0 c2 c3 (own_noNaN hy1) (own_noNaN hx1) (own_noNaN hz1) c4) (fun a U o U' q => by obtain ⟨v, L, h1, ⟨rfl, hF, hh⟩, hE⟩ := q; exact ⟨_, L, h1, ⟨_, rfl, hF, hh, hr⟩, hE⟩)
/-- what the law makes of its inputs -/
def OwnP (K : Nat) (p0 p1 p2 : Int64) : Prop := K ≤ 4 ∧ p0.toInt ≠ 0 ∧ p0.toInt.natAbs < 2 ^ K ∧ p1.toInt.natAbs ≤ 128 ∧ p1.toInt.natAbs % 2 ^ K = 0 ∧ ∃ M : Nat, M < 2 ^ 53 ∧ p2.toInt.natAbs = M * 2 ^ (K + 4)
theorem own_k1 (md : Int32) : ((1 : Int32) + (md &&& (3 : Int32))) = 1 ∨ ((1 : Int32) + (md &&& (3 : Int32))) = 2 ∨ ((1 : Int32) + (md &&& (3 : Int32))) = 3 ∨ ((1 : Int32) + (md &&& (3 : Int32))) = 4 := by
  have h1 := c_mask md (3 : Int32) 2 (by decide) (by decide)
  have h3 := c_iadd (1 : Int32) (md &&& (3 : Int32))
  have h4 : (1 : Int32).toInt = 1 := by decide
  have h5 := rng32 ((1 : Int32) + (md &&& (3 : Int32)))
  simp only [← Int32.toInt_inj]
  rw [show (1 : Int32).toInt = 1 by decide, show (2 : Int32).toInt = 2 by decide, show (3 : Int32).toInt = 3 by decide, show (4 : Int32).toInt = 4 by decide]
  rw [h4] at h3
  omega
theorem own_nz {k1 : Int32} (h : k1 = 1 ∨ k1 = 2 ∨ k1 = 3 ∨ k1 = 4) : (((1 : Int32) <<< (k1 &&& 31)) - (1 : Int32)) ≠ 0 := by
  rcases h with rfl | rfl | rfl | rfl <;> decide
theorem own_m1 {x : Int32} {m1 : Int64} (h : ((1 : Int64) + ((x &&& (7 : Int32)).toInt64)) = m1) : 1 ≤ m1.toInt ∧ m1.toInt ≤ 8 := by
  have h1 := c_mask x (7 : Int32) 3 (by decide) (by decide)
  have h2 := c_i2l (x &&& (7 : Int32))
  have h3 := c_ladd (1 : Int64) ((x &&& (7 : Int32)).toInt64)
  have h4 : (1 : Int64).toInt = 1 := by decide
  have h5 := rng64 m1
  rw [h] at h3
  omega
theorem own_m0 {x y : Int32} {m0 : Int64} {d : Int} (hx : 0 ≤ x.toInt) (hy : y.toInt = d) (hd : 0 < d) (hd2 : d < 16) (h : ((1 : Int64) + ((x % y).toInt64)) = m0) : 1 ≤ m0.toInt ∧ m0.toInt ≤ d := by
  have h1 := (c_irem x y d hy).1 hx
  have h2 := c_i2l (x % y)
  have h3 := c_ladd (1 : Int64) ((x % y).toInt64)
  have h4 : (1 : Int64).toInt = 1 := by decide
  have h5 := rng64 m0
  have h6 := Int.emod_nonneg x.toInt (show d ≠ 0 by omega)
  have h7 := Int.emod_lt_of_pos x.toInt hd
  rw [h] at h3
  omega
theorem own_neg {x : Int64} (h : x.toInt.natAbs < 2 ^ 63) : (-x).toInt = -x.toInt := by
  have h1 := c_lneg x; have h2 := rng64 (-x); have h3 := rng64 x; have := own_e63; omega
theorem own_sgn {x : Int64} {b : Prop} [Decidable b] (h : x.toInt.natAbs < 2 ^ 63) : (if b then x else -x).toInt.natAbs = x.toInt.natAbs := by
  by_cases hb : b
  · rw [if_pos hb]
  · rw [if_neg hb, own_neg h, Int.natAbs_neg]
theorem own_arith {lw : Int32} {k1 : Int32} {m1 m0 m2 : Int64} (hk1 : k1 = 1 ∨ k1 = 2 ∨ k1 = 3 ∨ k1 = 4) (hm1 : 1 ≤ m1.toInt ∧ m1.toInt ≤ 8) (hm0 : ((1 : Int64) + (((lw &&& (2147483647 : Int32)) % (((1 : Int32) <<< (k1 &&& 31)) - (1 : Int32))).toInt64)) = m0) (hm2 : 1 ≤ m2.toInt ∧ m2.toInt < 9007199254740992) (b0 b1 b2 : Prop) [Decidable b0] [Decidable b1] [Decidable b2] :
    ∃ K, OwnP K (if b0 then m0 else -m0) (if b1 then (m1 <<< (k1 &&& 0x3f).toInt64) else -(m1 <<< (k1 &&& 0x3f).toInt64)) (if b2 then (m2 <<< ((k1 + (4 : Int32)) &&& 0x3f).toInt64) else -(m2 <<< ((k1 + (4 : Int32)) &&& 0x3f).toInt64)) := by
  have hlw : 0 ≤ (lw &&& (2147483647 : Int32)).toInt := by
    have := c_mask lw (2147483647 : Int32) 31 (by decide) (by decide); omega
  have fin : ∀ (K : Nat) (d D E : Int), K ≤ 4 → D = 2 ^ K → E = 2 ^ (K + 4) → d = D - 1 → 0 < d → d < 16 → (((1 : Int32) <<< (k1 &&& 31)) - (1 : Int32)).toInt = d →
      ((m1 <<< (k1 &&& 0x3f).toInt64).toInt - m1.toInt * D) % 18446744073709551616 = 0 → ((m2 <<< ((k1 + (4 : Int32)) &&& 0x3f).toInt64).toInt - m2.toInt * E) % 18446744073709551616 = 0 → D ≤ 16 → E ≤ 256 → 0 < D → 0 < E →
      m1.toInt * D ≤ 128 → 0 ≤ m1.toInt * D → 0 ≤ m2.toInt * E → m2.toInt * E < 2305843009213693952 →
      OwnP K (if b0 then m0 else -m0) (if b1 then (m1 <<< (k1 &&& 0x3f).toInt64) else -(m1 <<< (k1 &&& 0x3f).toInt64)) (if b2 then (m2 <<< ((k1 + (4 : Int32)) &&& 0x3f).toInt64) else -(m2 <<< ((k1 + (4 : Int32)) &&& 0x3f).toInt64)) := by
    intro K d D E hK eD eE ed d1 d2 ey s1 s2 D1 E1 D0 E0 c1 c2 c3 c4
    have z0 := own_m0 hlw ey d1 d2 hm0
    have r1 := rng64 (m1 <<< (k1 &&& 0x3f).toInt64)
    have r2 := rng64 (m2 <<< ((k1 + (4 : Int32)) &&& 0x3f).toInt64)
    have t1 : (m1 <<< (k1 &&& 0x3f).toInt64).toInt = m1.toInt * D := by omega
    have t2 : (m2 <<< ((k1 + (4 : Int32)) &&& 0x3f).toInt64).toInt = m2.toInt * E := by omega
    have eDn : (D.natAbs : Nat) = 2 ^ K := by rw [eD]; rw [show ((2 : Int) ^ K) = ((2 ^ K : Nat) : Int) by norm_cast, Int.natAbs_natCast]
    have eEn : (E.natAbs : Nat) = 2 ^ (K + 4) := by rw [eE]; rw [show ((2 : Int) ^ (K + 4)) = ((2 ^ (K + 4) : Nat) : Int) by norm_cast, Int.natAbs_natCast]
    have n0 : (if b0 then m0 else -m0).toInt.natAbs = m0.toInt.natAbs := own_sgn (by have := own_e63; omega)
    have n1 := own_sgn (x := (m1 <<< (k1 &&& 0x3f).toInt64)) (b := b1) (by have := own_e63; omega)
    have n2 := own_sgn (x := (m2 <<< ((k1 + (4 : Int32)) &&& 0x3f).toInt64)) (b := b2) (by have := own_e63; omega)
    refine ⟨hK, ?_, ?_, ?_, ?_, m2.toInt.natAbs, ?_, ?_⟩
    · intro q; rw [q] at n0; simp at n0; omega
    · rw [n0, ← eDn]; omega
    · rw [n1, t1]; omega
    · rw [n1, t1, Int.natAbs_mul, eDn]; exact Nat.mul_mod_left _ _
    · have := own_e53; omega
    · rw [n2, t2, Int.natAbs_mul, eEn]
  have l4 : (4 : Int32).toInt = 4 := by decide
  rcases hk1 with rfl | rfl | rfl | rfl
  · exact ⟨1, fin 1 1 2 32 (by decide) (by decide) (by decide) (by decide) (by decide) (by decide) (by decide) (c_lshl m1 1 1 (by decide)) (c_lshl m2 (1 + 4) 5 (by decide)) (by decide) (by decide) (by decide) (by decide) (by omega) (by omega) (by omega) (by omega)⟩
  · exact ⟨2, fin 2 3 4 64 (by decide) (by decide) (by decide) (by decide) (by decide) (by decide) (by decide) (c_lshl m1 2 2 (by decide)) (c_lshl m2 (2 + 4) 6 (by decide)) (by decide) (by decide) (by decide) (by decide) (by omega) (by omega) (by omega) (by omega)⟩
  · exact ⟨3, fin 3 7 8 128 (by decide) (by decide) (by decide) (by decide) (by decide) (by decide) (by decide) (c_lshl m1 3 3 (by decide)) (c_lshl m2 (3 + 4) 7 (by decide)) (by decide) (by decide) (by decide) (by decide) (by omega) (by omega) (by omega) (by omega)⟩
  · exact ⟨4, fin 4 15 16 256 (by decide) (by decide) (by decide) (by decide) (by decide) (by decide) (by decide) (c_lshl m1 4 4 (by decide)) (c_lshl m2 (4 + 4) 8 (by decide)) (by decide) (by decide) (by decide) (by decide) (by omega) (by omega) (by omega) (by omega)⟩
theorem own_m2 (tp : Int64) : 0 ≤ (tp &&& (9007199254740991 : Int64)).toInt ∧ (tp &&& (9007199254740991 : Int64)).toInt < 9007199254740992 := by
  have := c_maskL tp (9007199254740991 : Int64) 53 (by decide) (by decide); omega
/-- a long of the law, exactly a double -/
theorem own_exact {p : Int64} (h : ∃ M k : Nat, M < 2 ^ 53 ∧ p.toInt.natAbs = M * 2 ^ k) (hb : p.toInt.natAbs < 2 ^ 63) : own_rd p.toInt = p.toInt := by
  obtain ⟨M, k, h1, h2⟩ := h
  have e := own_rn_mul (k := k) h1
  rw [← h2] at e
  rcases Int.natAbs_eq p.toInt with q | q
  · generalize p.toInt.natAbs = n at *
    rw [q, own_rd_nat, e]
  · generalize p.toInt.natAbs = n at *
    rw [q, own_rd_negn, e]
theorem own_small_exact {p : Int64} (h : p.toInt.natAbs < 2 ^ 53) : own_rd p.toInt = p.toInt := own_exact ⟨_, 0, h, (Nat.mul_one _).symm⟩ (by have := own_e53; have := own_e63; omega)
theorem own_D {p : Int64} (h : own_rd p.toInt = p.toInt) (hb : p.toInt.natAbs < 2 ^ 63) : FP.Core.DInt p.toInt (FP.l2d p) := by have q := own_l2d hb; rwa [h] at q
theorem own_addL {a b : Int64} (h : (a.toInt + b.toInt).natAbs < 2 ^ 63) : (a + b).toInt = a.toInt + b.toInt := by
  have h1 := c_ladd a b; have h2 := rng64 (a + b); have := own_e63; omega
set_option maxRecDepth 65536 in
set_option maxHeartbeats 40000000 in
theorem pA {p : Program} {l : Launch} {e : Env} {R : Room} {s : State} {m : MethodId} {args : Array Value} {below : List Frame} {meth : Method} {c : Code} {T0 : State} {locs : List Loc} {cells slots : Nat} {Z : State} {a0 : Array Value} (tp : Int64) (md : Int32) (lw : Int32) (fl : Int32) (k1 : Int32) (m1 : Int64) (m0 : Int64) (m2 : Int64)
    (X0 : Stand p l e R s m args below meth c T0 locs cells slots) (hx : p.tables.exec = Jvm.exec) (hZ : Z.Warmed39 s.vm) (hw : ∀ d ∈ tables_1, d.before a0 Z = true) (hby : c.code = code) (hown : s.vm.findClass "com/example/crestwatch/crestwatch/core/ExactSumRoundedPinLaw" = some m.cls) (hk1 : ((1 : Int32) + (md &&& (3 : Int32))) = k1) (hm1 : ((1 : Int64) + ((((md.toUInt32 >>> ((2 : Int32) &&& 31).toUInt32).toInt32) &&& (7 : Int32)).toInt64)) = m1) (hnz : (((1 : Int32) <<< (k1 &&& 31)) - (1 : Int32)) ≠ 0) (hm0 : ((1 : Int64) + (((lw &&& (2147483647 : Int32)) % (((1 : Int32) <<< (k1 &&& 31)) - (1 : Int32))).toInt64)) = m0) (hm2 : (tp &&& (9007199254740991 : Int64)) = m2) :
    ∀ target, Steps p.tables e below (T0.setTop (mkF m 41 #[.val (.long tp), .second, .val (.int md), .val (.int lw), .val (.int fl), .val (.int k1), .val (.long m1), .second, .val (.long m0), .second, .val (.long m2), .second, .unset, .unset, .unset, .unset, .unset, .unset, .unset, .unset, .unset, .unset, .unset, .unset] [])) target → Steps p.tables e below (T0.setTop (mkF m 0 #[.val (.long tp), .second, .val (.int md), .val (.int lw), .val (.int fl), .unset, .unset, .unset, .unset, .unset, .unset, .unset, .unset, .unset, .unset, .unset, .unset, .unset, .unset, .unset, .unset, .unset, .unset, .unset] [])) target := by
  intro target kt
  show Steps p.tables e below (T0.setTop (mkF m 0 #[.val (.long tp), .second, .val (.int md), .val (.int lw), .val (.int fl), .unset, .unset, .unset, .unset, .unset, .unset, .unset, .unset, .unset, .unset, .unset, .unset, .unset, .unset, .unset, .unset, .unset, .unset, .unset] [])) _
  refine XS.iconst X0.here hx rfl (hb hby at_0) ?_
  show Steps p.tables e below (T0.setTop (mkF m 1 #[.val (.long tp), .second, .val (.int md), .val (.int lw), .val (.int fl), .unset, .unset, .unset, .unset, .unset, .unset, .unset, .unset, .unset, .unset, .unset, .unset, .unset, .unset, .unset, .unset, .unset, .unset, .unset] [(.int (1 : Int32))])) _
  refine XS.iloadN X0.here hx rfl (hb hby at_1) rfl ?_
  show Steps p.tables e below (T0.setTop (mkF m 2 #[.val (.long tp), .second, .val (.int md), .val (.int lw), .val (.int fl), .unset, .unset, .unset, .unset, .unset, .unset, .unset, .unset, .unset, .unset, .unset, .unset, .unset, .unset, .unset, .unset, .unset, .unset, .unset] [(.int md), (.int (1 : Int32))])) _
  refine XS.iconst X0.here hx rfl (hb hby at_2) ?_
  show Steps p.tables e below (T0.setTop (mkF m 3 #[.val (.long tp), .second, .val (.int md), .val (.int lw), .val (.int fl), .unset, .unset, .unset, .unset, .unset, .unset, .unset, .unset, .unset, .unset, .unset, .unset, .unset, .unset, .unset, .unset, .unset, .unset, .unset] [(.int (3 : Int32)), (.int md), (.int (1 : Int32))])) _
  refine XS.iand X0.here hx rfl (hb hby at_3) rfl ?_
  show Steps p.tables e below (T0.setTop (mkF m 4 #[.val (.long tp), .second, .val (.int md), .val (.int lw), .val (.int fl), .unset, .unset, .unset, .unset, .unset, .unset, .unset, .unset, .unset, .unset, .unset, .unset, .unset, .unset, .unset, .unset, .unset, .unset, .unset] [(.int (md &&& (3 : Int32))), (.int (1 : Int32))])) _
  refine XS.iadd X0.here hx rfl (hb hby at_4) rfl ?_
  show Steps p.tables e below (T0.setTop (mkF m 5 #[.val (.long tp), .second, .val (.int md), .val (.int lw), .val (.int fl), .unset, .unset, .unset, .unset, .unset, .unset, .unset, .unset, .unset, .unset, .unset, .unset, .unset, .unset, .unset, .unset, .unset, .unset, .unset] [(.int ((1 : Int32) + (md &&& (3 : Int32))))])) _
  rw [hk1]
  show Steps p.tables e below (T0.setTop (mkF m 5 #[.val (.long tp), .second, .val (.int md), .val (.int lw), .val (.int fl), .unset, .unset, .unset, .unset, .unset, .unset, .unset, .unset, .unset, .unset, .unset, .unset, .unset, .unset, .unset, .unset, .unset, .unset, .unset] [(.int k1)])) _
  refine XS.istore X0.here hx rfl (hb hby at_5) rfl (l' := #[.val (.long tp), .second, .val (.int md), .val (.int lw), .val (.int fl), .val (.int k1), .unset, .unset, .unset, .unset, .unset, .unset, .unset, .unset, .unset, .unset, .unset, .unset, .unset, .unset, .unset, .unset, .unset, .unset]) rfl ?_
  show Steps p.tables e below (T0.setTop (mkF m 7 #[.val (.long tp), .second, .val (.int md), .val (.int lw), .val (.int fl), .val (.int k1), .unset, .unset, .unset, .unset, .unset, .unset, .unset, .unset, .unset, .unset, .unset, .unset, .unset, .unset, .unset, .unset, .unset, .unset] [])) _
  refine XS.lconst X0.here hx rfl (hb hby at_7) ?_
  show Steps p.tables e below (T0.setTop (mkF m 8 #[.val (.long tp), .second, .val (.int md), .val (.int lw), .val (.int fl), .val (.int k1), .unset, .unset, .unset, .unset, .unset, .unset, .unset, .unset, .unset, .unset, .unset, .unset, .unset, .unset, .unset, .unset, .unset, .unset] [(.long (1 : Int64))])) _
  refine XS.iloadN X0.here hx rfl (hb hby at_8) rfl ?_
  show Steps p.tables e below (T0.setTop (mkF m 9 #[.val (.long tp), .second, .val (.int md), .val (.int lw), .val (.int fl), .val (.int k1), .unset, .unset, .unset, .unset, .unset, .unset, .unset, .unset, .unset, .unset, .unset, .unset, .unset, .unset, .unset, .unset, .unset, .unset] [(.int md), (.long (1 : Int64))])) _
  refine XS.iconst X0.here hx rfl (hb hby at_9) ?_
  show Steps p.tables e below (T0.setTop (mkF m 10 #[.val (.long tp), .second, .val (.int md), .val (.int lw), .val (.int fl), .val (.int k1), .unset, .unset, .unset, .unset, .unset, .unset, .unset, .unset, .unset, .unset, .unset, .unset, .unset, .unset, .unset, .unset, .unset, .unset] [(.int (2 : Int32)), (.int md), (.long (1 : Int64))])) _
  refine XS.iushr X0.here hx rfl (hb hby at_10) rfl ?_
  show Steps p.tables e below (T0.setTop (mkF m 11 #[.val (.long tp), .second, .val (.int md), .val (.int lw), .val (.int fl), .val (.int k1), .unset, .unset, .unset, .unset, .unset, .unset, .unset, .unset, .unset, .unset, .unset, .unset, .unset, .unset, .unset, .unset, .unset, .unset] [(.int ((md.toUInt32 >>> ((2 : Int32) &&& 31).toUInt32).toInt32)), (.long (1 : Int64))])) _
  refine XS.bipush X0.here hx rfl (hb hby at_11) ?_
  show Steps p.tables e below (T0.setTop (mkF m 13 #[.val (.long tp), .second, .val (.int md), .val (.int lw), .val (.int fl), .val (.int k1), .unset, .unset, .unset, .unset, .unset, .unset, .unset, .unset, .unset, .unset, .unset, .unset, .unset, .unset, .unset, .unset, .unset, .unset] [(.int (7 : Int32)), (.int ((md.toUInt32 >>> ((2 : Int32) &&& 31).toUInt32).toInt32)), (.long (1 : Int64))])) _
  refine XS.iand X0.here hx rfl (hb hby at_13) rfl ?_
  show Steps p.tables e below (T0.setTop (mkF m 14 #[.val (.long tp), .second, .val (.int md), .val (.int lw), .val (.int fl), .val (.int k1), .unset, .unset, .unset, .unset, .unset, .unset, .unset, .unset, .unset, .unset, .unset, .unset, .unset, .unset, .unset, .unset, .unset, .unset] [(.int (((md.toUInt32 >>> ((2 : Int32) &&& 31).toUInt32).toInt32) &&& (7 : Int32))), (.long (1 : Int64))])) _
  refine XS.i2l X0.here hx rfl (hb hby at_14) rfl ?_
  show Steps p.tables e below (T0.setTop (mkF m 15 #[.val (.long tp), .second, .val (.int md), .val (.int lw), .val (.int fl), .val (.int k1), .unset, .unset, .unset, .unset, .unset, .unset, .unset, .unset, .unset, .unset, .unset, .unset, .unset, .unset, .unset, .unset, .unset, .unset] [(.long ((((md.toUInt32 >>> ((2 : Int32) &&& 31).toUInt32).toInt32) &&& (7 : Int32)).toInt64)), (.long (1 : Int64))])) _
  refine XS.ladd X0.here hx rfl (hb hby at_15) rfl ?_
  show Steps p.tables e below (T0.setTop (mkF m 16 #[.val (.long tp), .second, .val (.int md), .val (.int lw), .val (.int fl), .val (.int k1), .unset, .unset, .unset, .unset, .unset, .unset, .unset, .unset, .unset, .unset, .unset, .unset, .unset, .unset, .unset, .unset, .unset, .unset] [(.long ((1 : Int64) + ((((md.toUInt32 >>> ((2 : Int32) &&& 31).toUInt32).toInt32) &&& (7 : Int32)).toInt64)))])) _
  rw [hm1]
  show Steps p.tables e below (T0.setTop (mkF m 16 #[.val (.long tp), .second, .val (.int md), .val (.int lw), .val (.int fl), .val (.int k1), .unset, .unset, .unset, .unset, .unset, .unset, .unset, .unset, .unset, .unset, .unset, .unset, .unset, .unset, .unset, .unset, .unset, .unset] [(.long m1)])) _
  refine XS.lstore X0.here hx rfl (hb hby at_16) rfl (l' := #[.val (.long tp), .second, .val (.int md), .val (.int lw), .val (.int fl), .val (.int k1), .val (.long m1), .second, .unset, .unset, .unset, .unset, .unset, .unset, .unset, .unset, .unset, .unset, .unset, .unset, .unset, .unset, .unset, .unset]) rfl ?_
  show Steps p.tables e below (T0.setTop (mkF m 18 #[.val (.long tp), .second, .val (.int md), .val (.int lw), .val (.int fl), .val (.int k1), .val (.long m1), .second, .unset, .unset, .unset, .unset, .unset, .unset, .unset, .unset, .unset, .unset, .unset, .unset, .unset, .unset, .unset, .unset] [])) _
  refine XS.lconst X0.here hx rfl (hb hby at_18) ?_
  show Steps p.tables e below (T0.setTop (mkF m 19 #[.val (.long tp), .second, .val (.int md), .val (.int lw), .val (.int fl), .val (.int k1), .val (.long m1), .second, .unset, .unset, .unset, .unset, .unset, .unset, .unset, .unset, .unset, .unset, .unset, .unset, .unset, .unset, .unset, .unset] [(.long (1 : Int64))])) _
  refine XS.iloadN X0.here hx rfl (hb hby at_19) rfl ?_
  show Steps p.tables e below (T0.setTop (mkF m 20 #[.val (.long tp), .second, .val (.int md), .val (.int lw), .val (.int fl), .val (.int k1), .val (.long m1), .second, .unset, .unset, .unset, .unset, .unset, .unset, .unset, .unset, .unset, .unset, .unset, .unset, .unset, .unset, .unset, .unset] [(.int lw), (.long (1 : Int64))])) _
  refine X0.ldcInt hx hown (mvT hZ (hw _ (List.mem_of_getElem? (i := 0) rfl))) (g := (mkF m 20 #[.val (.long tp), .second, .val (.int md), .val (.int lw), .val (.int fl), .val (.int k1), .val (.long m1), .second, .unset, .unset, .unset, .unset, .unset, .unset, .unset, .unset, .unset, .unset, .unset, .unset, .unset, .unset, .unset, .unset] [(.int lw), (.long (1 : Int64))])) rfl (hb hby at_20) _ ?_
  show Steps p.tables e below (T0.setTop (mkF m 22 #[.val (.long tp), .second, .val (.int md), .val (.int lw), .val (.int fl), .val (.int k1), .val (.long m1), .second, .unset, .unset, .unset, .unset, .unset, .unset, .unset, .unset, .unset, .unset, .unset, .unset, .unset, .unset, .unset, .unset] [(.int (2147483647 : Int32)), (.int lw), (.long (1 : Int64))])) _
  refine XS.iand X0.here hx rfl (hb hby at_22) rfl ?_
  show Steps p.tables e below (T0.setTop (mkF m 23 #[.val (.long tp), .second, .val (.int md), .val (.int lw), .val (.int fl), .val (.int k1), .val (.long m1), .second, .unset, .unset, .unset, .unset, .unset, .unset, .unset, .unset, .unset, .unset, .unset, .unset, .unset, .unset, .unset, .unset] [(.int (lw &&& (2147483647 : Int32))), (.long (1 : Int64))])) _
  refine XS.iconst X0.here hx rfl (hb hby at_23) ?_
  show Steps p.tables e below (T0.setTop (mkF m 24 #[.val (.long tp), .second, .val (.int md), .val (.int lw), .val (.int fl), .val (.int k1), .val (.long m1), .second, .unset, .unset, .unset, .unset, .unset, .unset, .unset, .unset, .unset, .unset, .unset, .unset, .unset, .unset, .unset, .unset] [(.int (1 : Int32)), (.int (lw &&& (2147483647 : Int32))), (.long (1 : Int64))])) _
  refine XS.iload X0.here hx rfl (hb hby at_24) rfl ?_
  show Steps p.tables e below (T0.setTop (mkF m 26 #[.val (.long tp), .second, .val (.int md), .val (.int lw), .val (.int fl), .val (.int k1), .val (.long m1), .second, .unset, .unset, .unset, .unset, .unset, .unset, .unset, .unset, .unset, .unset, .unset, .unset, .unset, .unset, .unset, .unset] [(.int k1), (.int (1 : Int32)), (.int (lw &&& (2147483647 : Int32))), (.long (1 : Int64))])) _
  refine XS.ishl X0.here hx rfl (hb hby at_26) rfl ?_
  show Steps p.tables e below (T0.setTop (mkF m 27 #[.val (.long tp), .second, .val (.int md), .val (.int lw), .val (.int fl), .val (.int k1), .val (.long m1), .second, .unset, .unset, .unset, .unset, .unset, .unset, .unset, .unset, .unset, .unset, .unset, .unset, .unset, .unset, .unset, .unset] [(.int ((1 : Int32) <<< (k1 &&& 31))), (.int (lw &&& (2147483647 : Int32))), (.long (1 : Int64))])) _
  refine XS.iconst X0.here hx rfl (hb hby at_27) ?_
  show Steps p.tables e below (T0.setTop (mkF m 28 #[.val (.long tp), .second, .val (.int md), .val (.int lw), .val (.int fl), .val (.int k1), .val (.long m1), .second, .unset, .unset, .unset, .unset, .unset, .unset, .unset, .unset, .unset, .unset, .unset, .unset, .unset, .unset, .unset, .unset] [(.int (1 : Int32)), (.int ((1 : Int32) <<< (k1 &&& 31))), (.int (lw &&& (2147483647 : Int32))), (.long (1 : Int64))])) _
  refine XS.isub X0.here hx rfl (hb hby at_28) rfl ?_
  show Steps p.tables e below (T0.setTop (mkF m 29 #[.val (.long tp), .second, .val (.int md), .val (.int lw), .val (.int fl), .val (.int k1), .val (.long m1), .second, .unset, .unset, .unset, .unset, .unset, .unset, .unset, .unset, .unset, .unset, .unset, .unset, .unset, .unset, .unset, .unset] [(.int (((1 : Int32) <<< (k1 &&& 31)) - (1 : Int32))), (.int (lw &&& (2147483647 : Int32))), (.long (1 : Int64))])) _
  refine iremM X0 hx (g := (mkF m 29 #[.val (.long tp), .second, .val (.int md), .val (.int lw), .val (.int fl), .val (.int k1), .val (.long m1), .second, .unset, .unset, .unset, .unset, .unset, .unset, .unset, .unset, .unset, .unset, .unset, .unset, .unset, .unset, .unset, .unset] [(.int (((1 : Int32) <<< (k1 &&& 31)) - (1 : Int32))), (.int (lw &&& (2147483647 : Int32))), (.long (1 : Int64))])) rfl (hb hby at_29) rfl hnz ?_
  show Steps p.tables e below (T0.setTop (mkF m 30 #[.val (.long tp), .second, .val (.int md), .val (.int lw), .val (.int fl), .val (.int k1), .val (.long m1), .second, .unset, .unset, .unset, .unset, .unset, .unset, .unset, .unset, .unset, .unset, .unset, .unset, .unset, .unset, .unset, .unset] [(.int ((lw &&& (2147483647 : Int32)) % (((1 : Int32) <<< (k1 &&& 31)) - (1 : Int32)))), (.long (1 : Int64))])) _
  refine XS.i2l X0.here hx rfl (hb hby at_30) rfl ?_
  show Steps p.tables e below (T0.setTop (mkF m 31 #[.val (.long tp), .second, .val (.int md), .val (.int lw), .val (.int fl), .val (.int k1), .val (.long m1), .second, .unset, .unset, .unset, .unset, .unset, .unset, .unset, .unset, .unset, .unset, .unset, .unset, .unset, .unset, .unset, .unset] [(.long (((lw &&& (2147483647 : Int32)) % (((1 : Int32) <<< (k1 &&& 31)) - (1 : Int32))).toInt64)), (.long (1 : Int64))])) _
  refine XS.ladd X0.here hx rfl (hb hby at_31) rfl ?_
  show Steps p.tables e below (T0.setTop (mkF m 32 #[.val (.long tp), .second, .val (.int md), .val (.int lw), .val (.int fl), .val (.int k1), .val (.long m1), .second, .unset, .unset, .unset, .unset, .unset, .unset, .unset, .unset, .unset, .unset, .unset, .unset, .unset, .unset, .unset, .unset] [(.long ((1 : Int64) + (((lw &&& (2147483647 : Int32)) % (((1 : Int32) <<< (k1 &&& 31)) - (1 : Int32))).toInt64)))])) _
  rw [hm0]
  show Steps p.tables e below (T0.setTop (mkF m 32 #[.val (.long tp), .second, .val (.int md), .val (.int lw), .val (.int fl), .val (.int k1), .val (.long m1), .second, .unset, .unset, .unset, .unset, .unset, .unset, .unset, .unset, .unset, .unset, .unset, .unset, .unset, .unset, .unset, .unset] [(.long m0)])) _
  refine XS.lstore X0.here hx rfl (hb hby at_32) rfl (l' := #[.val (.long tp), .second, .val (.int md), .val (.int lw), .val (.int fl), .val (.int k1), .val (.long m1), .second, .val (.long m0), .second, .unset, .unset, .unset, .unset, .unset, .unset, .unset, .unset, .unset, .unset, .unset, .unset, .unset, .unset]) rfl ?_
  show Steps p.tables e below (T0.setTop (mkF m 34 #[.val (.long tp), .second, .val (.int md), .val (.int lw), .val (.int fl), .val (.int k1), .val (.long m1), .second, .val (.long m0), .second, .unset, .unset, .unset, .unset, .unset, .unset, .unset, .unset, .unset, .unset, .unset, .unset, .unset, .unset] [])) _
  refine XS.lloadN X0.here hx rfl (hb hby at_34) rfl ?_
  show Steps p.tables e below (T0.setTop (mkF m 35 #[.val (.long tp), .second, .val (.int md), .val (.int lw), .val (.int fl), .val (.int k1), .val (.long m1), .second, .val (.long m0), .second, .unset, .unset, .unset, .unset, .unset, .unset, .unset, .unset, .unset, .unset, .unset, .unset, .unset, .unset] [(.long tp)])) _
  refine X0.ldc2Long hx hown (mvT hZ (hw _ (List.mem_of_getElem? (i := 1) rfl))) (g := (mkF m 35 #[.val (.long tp), .second, .val (.int md), .val (.int lw), .val (.int fl), .val (.int k1), .val (.long m1), .second, .val (.long m0), .second, .unset, .unset, .unset, .unset, .unset, .unset, .unset, .unset, .unset, .unset, .unset, .unset, .unset, .unset] [(.long tp)])) rfl (hb hby at_35) _ ?_
  show Steps p.tables e below (T0.setTop (mkF m 38 #[.val (.long tp), .second, .val (.int md), .val (.int lw), .val (.int fl), .val (.int k1), .val (.long m1), .second, .val (.long m0), .second, .unset, .unset, .unset, .unset, .unset, .unset, .unset, .unset, .unset, .unset, .unset, .unset, .unset, .unset] [(.long (9007199254740991 : Int64)), (.long tp)])) _
  refine XS.land X0.here hx rfl (hb hby at_38) rfl ?_
  show Steps p.tables e below (T0.setTop (mkF m 39 #[.val (.long tp), .second, .val (.int md), .val (.int lw), .val (.int fl), .val (.int k1), .val (.long m1), .second, .val (.long m0), .second, .unset, .unset, .unset, .unset, .unset, .unset, .unset, .unset, .unset, .unset, .unset, .unset, .unset, .unset] [(.long (tp &&& (9007199254740991 : Int64)))])) _
  rw [hm2]
  show Steps p.tables e below (T0.setTop (mkF m 39 #[.val (.long tp), .second, .val (.int md), .val (.int lw), .val (.int fl), .val (.int k1), .val (.long m1), .second, .val (.long m0), .second, .unset, .unset, .unset, .unset, .unset, .unset, .unset, .unset, .unset, .unset, .unset, .unset, .unset, .unset] [(.long m2)])) _
  refine XS.lstore X0.here hx rfl (hb hby at_39) rfl (l' := #[.val (.long tp), .second, .val (.int md), .val (.int lw), .val (.int fl), .val (.int k1), .val (.long m1), .second, .val (.long m0), .second, .val (.long m2), .second, .unset, .unset, .unset, .unset, .unset, .unset, .unset, .unset, .unset, .unset, .unset, .unset]) rfl ?_
  exact kt
set_option maxRecDepth 65536 in
set_option maxHeartbeats 40000000 in
theorem pBt {p : Program} {l : Launch} {e : Env} {R : Room} {s : State} {m : MethodId} {args : Array Value} {below : List Frame} {meth : Method} {c : Code} {T0 : State} {locs : List Loc} {cells slots : Nat} {Z : State} {a0 : Array Value} (tp : Int64) (md : Int32) (lw : Int32) (fl : Int32) (k1 : Int32) (m1 : Int64) (m0 : Int64) (m2 : Int64)
    (X0 : Stand p l e R s m args below meth c T0 locs cells slots) (hx : p.tables.exec = Jvm.exec) (hZ : Z.Warmed39 s.vm) (hw : ∀ d ∈ tables_1, d.before a0 Z = true) (hby : c.code = code) (hown : s.vm.findClass "com/example/crestwatch/crestwatch/core/ExactSumRoundedPinLaw" = some m.cls) (hc45 : ¬ ((lcmpW m2 (0 : Int64)) = (0 : Int32))) :
    ∀ target, Steps p.tables e below (T0.setTop (mkF m 51 #[.val (.long tp), .second, .val (.int md), .val (.int lw), .val (.int fl), .val (.int k1), .val (.long m1), .second, .val (.long m0), .second, .val (.long m2), .second, .unset, .unset, .unset, .unset, .unset, .unset, .unset, .unset, .unset, .unset, .unset, .unset] [])) target → Steps p.tables e below (T0.setTop (mkF m 41 #[.val (.long tp), .second, .val (.int md), .val (.int lw), .val (.int fl), .val (.int k1), .val (.long m1), .second, .val (.long m0), .second, .val (.long m2), .second, .unset, .unset, .unset, .unset, .unset, .unset, .unset, .unset, .unset, .unset, .unset, .unset] [])) target := by
  intro target kt
  show Steps p.tables e below (T0.setTop (mkF m 41 #[.val (.long tp), .second, .val (.int md), .val (.int lw), .val (.int fl), .val (.int k1), .val (.long m1), .second, .val (.long m0), .second, .val (.long m2), .second, .unset, .unset, .unset, .unset, .unset, .unset, .unset, .unset, .unset, .unset, .unset, .unset] [])) _
  refine XS.lload X0.here hx rfl (hb hby at_41) rfl ?_
  show Steps p.tables e below (T0.setTop (mkF m 43 #[.val (.long tp), .second, .val (.int md), .val (.int lw), .val (.int fl), .val (.int k1), .val (.long m1), .second, .val (.long m0), .second, .val (.long m2), .second, .unset, .unset, .unset, .unset, .unset, .unset, .unset, .unset, .unset, .unset, .unset, .unset] [(.long m2)])) _
  refine XS.lconst X0.here hx rfl (hb hby at_43) ?_
  show Steps p.tables e below (T0.setTop (mkF m 44 #[.val (.long tp), .second, .val (.int md), .val (.int lw), .val (.int fl), .val (.int k1), .val (.long m1), .second, .val (.long m0), .second, .val (.long m2), .second, .unset, .unset, .unset, .unset, .unset, .unset, .unset, .unset, .unset, .unset, .unset, .unset] [(.long (0 : Int64)), (.long m2)])) _
  refine XS.lcmp X0.here hx rfl (hb hby at_44) rfl ?_
  show Steps p.tables e below (T0.setTop (mkF m 45 #[.val (.long tp), .second, .val (.int md), .val (.int lw), .val (.int fl), .val (.int k1), .val (.long m1), .second, .val (.long m0), .second, .val (.long m2), .second, .unset, .unset, .unset, .unset, .unset, .unset, .unset, .unset, .unset, .unset, .unset, .unset] [(.int (lcmpW m2 (0 : Int64)))])) _
  refine XS.ifYes X0.here hx rfl (pc0 := 45) (pc' := 51) rfl (hb hby at_45) rfl ((if0 _ _).trans (feq hc45).2) (by decide) (by decide) ?_
  exact kt
set_option maxRecDepth 65536 in
set_option maxHeartbeats 40000000 in
theorem pBf {p : Program} {l : Launch} {e : Env} {R : Room} {s : State} {m : MethodId} {args : Array Value} {below : List Frame} {meth : Method} {c : Code} {T0 : State} {locs : List Loc} {cells slots : Nat} {Z : State} {a0 : Array Value} (tp : Int64) (md : Int32) (lw : Int32) (fl : Int32) (k1 : Int32) (m1 : Int64) (m0 : Int64) (m2 : Int64)
    (X0 : Stand p l e R s m args below meth c T0 locs cells slots) (hx : p.tables.exec = Jvm.exec) (hZ : Z.Warmed39 s.vm) (hw : ∀ d ∈ tables_1, d.before a0 Z = true) (hby : c.code = code) (hown : s.vm.findClass "com/example/crestwatch/crestwatch/core/ExactSumRoundedPinLaw" = some m.cls) (hc45 : (lcmpW m2 (0 : Int64)) = (0 : Int32)) :
    ∀ target, Steps p.tables e below (T0.setTop (mkF m 51 #[.val (.long tp), .second, .val (.int md), .val (.int lw), .val (.int fl), .val (.int k1), .val (.long m1), .second, .val (.long m0), .second, .val (.long (1 : Int64)), .second, .unset, .unset, .unset, .unset, .unset, .unset, .unset, .unset, .unset, .unset, .unset, .unset] [])) target → Steps p.tables e below (T0.setTop (mkF m 41 #[.val (.long tp), .second, .val (.int md), .val (.int lw), .val (.int fl), .val (.int k1), .val (.long m1), .second, .val (.long m0), .second, .val (.long m2), .second, .unset, .unset, .unset, .unset, .unset, .unset, .unset, .unset, .unset, .unset, .unset, .unset] [])) target := by
  intro target kt
  show Steps p.tables e below (T0.setTop (mkF m 41 #[.val (.long tp), .second, .val (.int md), .val (.int lw), .val (.int fl), .val (.int k1), .val (.long m1), .second, .val (.long m0), .second, .val (.long m2), .second, .unset, .unset, .unset, .unset, .unset, .unset, .unset, .unset, .unset, .unset, .unset, .unset] [])) _
  refine XS.lload X0.here hx rfl (hb hby at_41) rfl ?_
  show Steps p.tables e below (T0.setTop (mkF m 43 #[.val (.long tp), .second, .val (.int md), .val (.int lw), .val (.int fl), .val (.int k1), .val (.long m1), .second, .val (.long m0), .second, .val (.long m2), .second, .unset, .unset, .unset, .unset, .unset, .unset, .unset, .unset, .unset, .unset, .unset, .unset] [(.long m2)])) _
  refine XS.lconst X0.here hx rfl (hb hby at_43) ?_
  show Steps p.tables e below (T0.setTop (mkF m 44 #[.val (.long tp), .second, .val (.int md), .val (.int lw), .val (.int fl), .val (.int k1), .val (.long m1), .second, .val (.long m0), .second, .val (.long m2), .second, .unset, .unset, .unset, .unset, .unset, .unset, .unset, .unset, .unset, .unset, .unset, .unset] [(.long (0 : Int64)), (.long m2)])) _
  refine XS.lcmp X0.here hx rfl (hb hby at_44) rfl ?_
  show Steps p.tables e below (T0.setTop (mkF m 45 #[.val (.long tp), .second, .val (.int md), .val (.int lw), .val (.int fl), .val (.int k1), .val (.long m1), .second, .val (.long m0), .second, .val (.long m2), .second, .unset, .unset, .unset, .unset, .unset, .unset, .unset, .unset, .unset, .unset, .unset, .unset] [(.int (lcmpW m2 (0 : Int64)))])) _
  refine XS.ifNo X0.here hx rfl (hb hby at_45) rfl ((if0 _ _).trans (teq hc45).2) ?_
  show Steps p.tables e below (T0.setTop (mkF m 48 #[.val (.long tp), .second, .val (.int md), .val (.int lw), .val (.int fl), .val (.int k1), .val (.long m1), .second, .val (.long m0), .second, .val (.long m2), .second, .unset, .unset, .unset, .unset, .unset, .unset, .unset, .unset, .unset, .unset, .unset, .unset] [])) _
  refine XS.lconst X0.here hx rfl (hb hby at_48) ?_
  show Steps p.tables e below (T0.setTop (mkF m 49 #[.val (.long tp), .second, .val (.int md), .val (.int lw), .val (.int fl), .val (.int k1), .val (.long m1), .second, .val (.long m0), .second, .val (.long m2), .second, .unset, .unset, .unset, .unset, .unset, .unset, .unset, .unset, .unset, .unset, .unset, .unset] [(.long (1 : Int64))])) _
  refine XS.lstore X0.here hx rfl (hb hby at_49) rfl (l' := #[.val (.long tp), .second, .val (.int md), .val (.int lw), .val (.int fl), .val (.int k1), .val (.long m1), .second, .val (.long m0), .second, .val (.long (1 : Int64)), .second, .unset, .unset, .unset, .unset, .unset, .unset, .unset, .unset, .unset, .unset, .unset, .unset]) rfl ?_
  exact kt
set_option maxRecDepth 65536 in
set_option maxHeartbeats 40000000 in
theorem pC {p : Program} {l : Launch} {e : Env} {R : Room} {s : State} {m : MethodId} {args : Array Value} {below : List Frame} {meth : Method} {c : Code} {T0 : State} {locs : List Loc} {cells slots : Nat} {Z : State} {a0 : Array Value} (tp : Int64) (md : Int32) (lw : Int32) (fl : Int32) (k1 : Int32) (m1 : Int64) (m0 : Int64) (m2 : Int64)
    (X0 : Stand p l e R s m args below meth c T0 locs cells slots) (hx : p.tables.exec = Jvm.exec) (hZ : Z.Warmed39 s.vm) (hw : ∀ d ∈ tables_1, d.before a0 Z = true) (hby : c.code = code) (hown : s.vm.findClass "com/example/crestwatch/crestwatch/core/ExactSumRoundedPinLaw" = some m.cls) :
    ∀ target, Steps p.tables e below (T0.setTop (mkF m 71 #[.val (.long tp), .second, .val (.int md), .val (.int lw), .val (.int fl), .val (.int k1), .val (.long m1), .second, .val (.long m0), .second, .val (.long m2), .second, .val (.long m0), .second, .val (.long (m1 <<< (k1 &&& 0x3f).toInt64)), .second, .val (.long (m2 <<< ((k1 + (4 : Int32)) &&& 0x3f).toInt64)), .second, .unset, .unset, .unset, .unset, .unset, .unset] [])) target → Steps p.tables e below (T0.setTop (mkF m 51 #[.val (.long tp), .second, .val (.int md), .val (.int lw), .val (.int fl), .val (.int k1), .val (.long m1), .second, .val (.long m0), .second, .val (.long m2), .second, .unset, .unset, .unset, .unset, .unset, .unset, .unset, .unset, .unset, .unset, .unset, .unset] [])) target := by
  intro target kt
  show Steps p.tables e below (T0.setTop (mkF m 51 #[.val (.long tp), .second, .val (.int md), .val (.int lw), .val (.int fl), .val (.int k1), .val (.long m1), .second, .val (.long m0), .second, .val (.long m2), .second, .unset, .unset, .unset, .unset, .unset, .unset, .unset, .unset, .unset, .unset, .unset, .unset] [])) _
  refine XS.lload X0.here hx rfl (hb hby at_51) rfl ?_
  show Steps p.tables e below (T0.setTop (mkF m 53 #[.val (.long tp), .second, .val (.int md), .val (.int lw), .val (.int fl), .val (.int k1), .val (.long m1), .second, .val (.long m0), .second, .val (.long m2), .second, .unset, .unset, .unset, .unset, .unset, .unset, .unset, .unset, .unset, .unset, .unset, .unset] [(.long m0)])) _
  refine XS.lstore X0.here hx rfl (hb hby at_53) rfl (l' := #[.val (.long tp), .second, .val (.int md), .val (.int lw), .val (.int fl), .val (.int k1), .val (.long m1), .second, .val (.long m0), .second, .val (.long m2), .second, .val (.long m0), .second, .unset, .unset, .unset, .unset, .unset, .unset, .unset, .unset, .unset, .unset]) rfl ?_
  show Steps p.tables e below (T0.setTop (mkF m 55 #[.val (.long tp), .second, .val (.int md), .val (.int lw), .val (.int fl), .val (.int k1), .val (.long m1), .second, .val (.long m0), .second, .val (.long m2), .second, .val (.long m0), .second, .unset, .unset, .unset, .unset, .unset, .unset, .unset, .unset, .unset, .unset] [])) _
  refine XS.lload X0.here hx rfl (hb hby at_55) rfl ?_
  show Steps p.tables e below (T0.setTop (mkF m 57 #[.val (.long tp), .second, .val (.int md), .val (.int lw), .val (.int fl), .val (.int k1), .val (.long m1), .second, .val (.long m0), .second, .val (.long m2), .second, .val (.long m0), .second, .unset, .unset, .unset, .unset, .unset, .unset, .unset, .unset, .unset, .unset] [(.long m1)])) _
  refine XS.iload X0.here hx rfl (hb hby at_57) rfl ?_
  show Steps p.tables e below (T0.setTop (mkF m 59 #[.val (.long tp), .second, .val (.int md), .val (.int lw), .val (.int fl), .val (.int k1), .val (.long m1), .second, .val (.long m0), .second, .val (.long m2), .second, .val (.long m0), .second, .unset, .unset, .unset, .unset, .unset, .unset, .unset, .unset, .unset, .unset] [(.int k1), (.long m1)])) _
  refine XS.lshl X0.here hx rfl (hb hby at_59) rfl ?_
  show Steps p.tables e below (T0.setTop (mkF m 60 #[.val (.long tp), .second, .val (.int md), .val (.int lw), .val (.int fl), .val (.int k1), .val (.long m1), .second, .val (.long m0), .second, .val (.long m2), .second, .val (.long m0), .second, .unset, .unset, .unset, .unset, .unset, .unset, .unset, .unset, .unset, .unset] [(.long (m1 <<< (k1 &&& 0x3f).toInt64))])) _
  refine XS.lstore X0.here hx rfl (hb hby at_60) rfl (l' := #[.val (.long tp), .second, .val (.int md), .val (.int lw), .val (.int fl), .val (.int k1), .val (.long m1), .second, .val (.long m0), .second, .val (.long m2), .second, .val (.long m0), .second, .val (.long (m1 <<< (k1 &&& 0x3f).toInt64)), .second, .unset, .unset, .unset, .unset, .unset, .unset, .unset, .unset]) rfl ?_
  show Steps p.tables e below (T0.setTop (mkF m 62 #[.val (.long tp), .second, .val (.int md), .val (.int lw), .val (.int fl), .val (.int k1), .val (.long m1), .second, .val (.long m0), .second, .val (.long m2), .second, .val (.long m0), .second, .val (.long (m1 <<< (k1 &&& 0x3f).toInt64)), .second, .unset, .unset, .unset, .unset, .unset, .unset, .unset, .unset] [])) _
  refine XS.lload X0.here hx rfl (hb hby at_62) rfl ?_
  show Steps p.tables e below (T0.setTop (mkF m 64 #[.val (.long tp), .second, .val (.int md), .val (.int lw), .val (.int fl), .val (.int k1), .val (.long m1), .second, .val (.long m0), .second, .val (.long m2), .second, .val (.long m0), .second, .val (.long (m1 <<< (k1 &&& 0x3f).toInt64)), .second, .unset, .unset, .unset, .unset, .unset, .unset, .unset, .unset] [(.long m2)])) _
  refine XS.iload X0.here hx rfl (hb hby at_64) rfl ?_
  show Steps p.tables e below (T0.setTop (mkF m 66 #[.val (.long tp), .second, .val (.int md), .val (.int lw), .val (.int fl), .val (.int k1), .val (.long m1), .second, .val (.long m0), .second, .val (.long m2), .second, .val (.long m0), .second, .val (.long (m1 <<< (k1 &&& 0x3f).toInt64)), .second, .unset, .unset, .unset, .unset, .unset, .unset, .unset, .unset] [(.int k1), (.long m2)])) _
  refine XS.iconst X0.here hx rfl (hb hby at_66) ?_
  show Steps p.tables e below (T0.setTop (mkF m 67 #[.val (.long tp), .second, .val (.int md), .val (.int lw), .val (.int fl), .val (.int k1), .val (.long m1), .second, .val (.long m0), .second, .val (.long m2), .second, .val (.long m0), .second, .val (.long (m1 <<< (k1 &&& 0x3f).toInt64)), .second, .unset, .unset, .unset, .unset, .unset, .unset, .unset, .unset] [(.int (4 : Int32)), (.int k1), (.long m2)])) _
  refine XS.iadd X0.here hx rfl (hb hby at_67) rfl ?_
  show Steps p.tables e below (T0.setTop (mkF m 68 #[.val (.long tp), .second, .val (.int md), .val (.int lw), .val (.int fl), .val (.int k1), .val (.long m1), .second, .val (.long m0), .second, .val (.long m2), .second, .val (.long m0), .second, .val (.long (m1 <<< (k1 &&& 0x3f).toInt64)), .second, .unset, .unset, .unset, .unset, .unset, .unset, .unset, .unset] [(.int (k1 + (4 : Int32))), (.long m2)])) _
  refine XS.lshl X0.here hx rfl (hb hby at_68) rfl ?_
  show Steps p.tables e below (T0.setTop (mkF m 69 #[.val (.long tp), .second, .val (.int md), .val (.int lw), .val (.int fl), .val (.int k1), .val (.long m1), .second, .val (.long m0), .second, .val (.long m2), .second, .val (.long m0), .second, .val (.long (m1 <<< (k1 &&& 0x3f).toInt64)), .second, .unset, .unset, .unset, .unset, .unset, .unset, .unset, .unset] [(.long (m2 <<< ((k1 + (4 : Int32)) &&& 0x3f).toInt64))])) _
  refine XS.lstore X0.here hx rfl (hb hby at_69) rfl (l' := #[.val (.long tp), .second, .val (.int md), .val (.int lw), .val (.int fl), .val (.int k1), .val (.long m1), .second, .val (.long m0), .second, .val (.long m2), .second, .val (.long m0), .second, .val (.long (m1 <<< (k1 &&& 0x3f).toInt64)), .second, .val (.long (m2 <<< ((k1 + (4 : Int32)) &&& 0x3f).toInt64)), .second, .unset, .unset, .unset, .unset, .unset, .unset]) rfl ?_
  exact kt
set_option maxRecDepth 65536 in
set_option maxHeartbeats 40000000 in
theorem pDt {p : Program} {l : Launch} {e : Env} {R : Room} {s : State} {m : MethodId} {args : Array Value} {below : List Frame} {meth : Method} {c : Code} {T0 : State} {locs : List Loc} {cells slots : Nat} {Z : State} {a0 : Array Value} (tp : Int64) (md : Int32) (lw : Int32) (fl : Int32) (k1 : Int32) (m1 : Int64) (m0 : Int64) (m2 : Int64) (u0 : Int64) (u1 : Int64) (u2 : Int64)
    (X0 : Stand p l e R s m args below meth c T0 locs cells slots) (hx : p.tables.exec = Jvm.exec) (hZ : Z.Warmed39 s.vm) (hw : ∀ d ∈ tables_1, d.before a0 Z = true) (hby : c.code = code) (hown : s.vm.findClass "com/example/crestwatch/crestwatch/core/ExactSumRoundedPinLaw" = some m.cls) (hc76 : (fl &&& (8 : Int32)) = (0 : Int32)) :
    ∀ target, Steps p.tables e below (T0.setTop (mkF m 84 #[.val (.long tp), .second, .val (.int md), .val (.int lw), .val (.int fl), .val (.int k1), .val (.long m1), .second, .val (.long m0), .second, .val (.long m2), .second, .val (.long u0), .second, .val (.long u1), .second, .val (.long u2), .second, .unset, .unset, .unset, .unset, .unset, .unset] [])) target → Steps p.tables e below (T0.setTop (mkF m 71 #[.val (.long tp), .second, .val (.int md), .val (.int lw), .val (.int fl), .val (.int k1), .val (.long m1), .second, .val (.long m0), .second, .val (.long m2), .second, .val (.long u0), .second, .val (.long u1), .second, .val (.long u2), .second, .unset, .unset, .unset, .unset, .unset, .unset] [])) target := by
  intro target kt
  show Steps p.tables e below (T0.setTop (mkF m 71 #[.val (.long tp), .second, .val (.int md), .val (.int lw), .val (.int fl), .val (.int k1), .val (.long m1), .second, .val (.long m0), .second, .val (.long m2), .second, .val (.long u0), .second, .val (.long u1), .second, .val (.long u2), .second, .unset, .unset, .unset, .unset, .unset, .unset] [])) _
  refine XS.iload X0.here hx rfl (hb hby at_71) rfl ?_
  show Steps p.tables e below (T0.setTop (mkF m 73 #[.val (.long tp), .second, .val (.int md), .val (.int lw), .val (.int fl), .val (.int k1), .val (.long m1), .second, .val (.long m0), .second, .val (.long m2), .second, .val (.long u0), .second, .val (.long u1), .second, .val (.long u2), .second, .unset, .unset, .unset, .unset, .unset, .unset] [(.int fl)])) _
  refine XS.bipush X0.here hx rfl (hb hby at_73) ?_
  show Steps p.tables e below (T0.setTop (mkF m 75 #[.val (.long tp), .second, .val (.int md), .val (.int lw), .val (.int fl), .val (.int k1), .val (.long m1), .second, .val (.long m0), .second, .val (.long m2), .second, .val (.long u0), .second, .val (.long u1), .second, .val (.long u2), .second, .unset, .unset, .unset, .unset, .unset, .unset] [(.int (8 : Int32)), (.int fl)])) _
  refine XS.iand X0.here hx rfl (hb hby at_75) rfl ?_
  show Steps p.tables e below (T0.setTop (mkF m 76 #[.val (.long tp), .second, .val (.int md), .val (.int lw), .val (.int fl), .val (.int k1), .val (.long m1), .second, .val (.long m0), .second, .val (.long m2), .second, .val (.long u0), .second, .val (.long u1), .second, .val (.long u2), .second, .unset, .unset, .unset, .unset, .unset, .unset] [(.int (fl &&& (8 : Int32)))])) _
  refine XS.ifYes X0.here hx rfl (pc0 := 76) (pc' := 84) rfl (hb hby at_76) rfl ((if0 _ _).trans (teq hc76).1) (by decide) (by decide) ?_
  exact kt
set_option maxRecDepth 65536 in
set_option maxHeartbeats 40000000 in
theorem pDf {p : Program} {l : Launch} {e : Env} {R : Room} {s : State} {m : MethodId} {args : Array Value} {below : List Frame} {meth : Method} {c : Code} {T0 : State} {locs : List Loc} {cells slots : Nat} {Z : State} {a0 : Array Value} (tp : Int64) (md : Int32) (lw : Int32) (fl : Int32) (k1 : Int32) (m1 : Int64) (m0 : Int64) (m2 : Int64) (u0 : Int64) (u1 : Int64) (u2 : Int64)
    (X0 : Stand p l e R s m args below meth c T0 locs cells slots) (hx : p.tables.exec = Jvm.exec) (hZ : Z.Warmed39 s.vm) (hw : ∀ d ∈ tables_1, d.before a0 Z = true) (hby : c.code = code) (hown : s.vm.findClass "com/example/crestwatch/crestwatch/core/ExactSumRoundedPinLaw" = some m.cls) (hc76 : ¬ ((fl &&& (8 : Int32)) = (0 : Int32))) :
    ∀ target, Steps p.tables e below (T0.setTop (mkF m 84 #[.val (.long tp), .second, .val (.int md), .val (.int lw), .val (.int fl), .val (.int k1), .val (.long m1), .second, .val (.long m0), .second, .val (.long m2), .second, .val (.long (-u0)), .second, .val (.long u1), .second, .val (.long u2), .second, .unset, .unset, .unset, .unset, .unset, .unset] [])) target → Steps p.tables e below (T0.setTop (mkF m 71 #[.val (.long tp), .second, .val (.int md), .val (.int lw), .val (.int fl), .val (.int k1), .val (.long m1), .second, .val (.long m0), .second, .val (.long m2), .second, .val (.long u0), .second, .val (.long u1), .second, .val (.long u2), .second, .unset, .unset, .unset, .unset, .unset, .unset] [])) target := by
  intro target kt
  show Steps p.tables e below (T0.setTop (mkF m 71 #[.val (.long tp), .second, .val (.int md), .val (.int lw), .val (.int fl), .val (.int k1), .val (.long m1), .second, .val (.long m0), .second, .val (.long m2), .second, .val (.long u0), .second, .val (.long u1), .second, .val (.long u2), .second, .unset, .unset, .unset, .unset, .unset, .unset] [])) _
  refine XS.iload X0.here hx rfl (hb hby at_71) rfl ?_
  show Steps p.tables e below (T0.setTop (mkF m 73 #[.val (.long tp), .second, .val (.int md), .val (.int lw), .val (.int fl), .val (.int k1), .val (.long m1), .second, .val (.long m0), .second, .val (.long m2), .second, .val (.long u0), .second, .val (.long u1), .second, .val (.long u2), .second, .unset, .unset, .unset, .unset, .unset, .unset] [(.int fl)])) _
  refine XS.bipush X0.here hx rfl (hb hby at_73) ?_
  show Steps p.tables e below (T0.setTop (mkF m 75 #[.val (.long tp), .second, .val (.int md), .val (.int lw), .val (.int fl), .val (.int k1), .val (.long m1), .second, .val (.long m0), .second, .val (.long m2), .second, .val (.long u0), .second, .val (.long u1), .second, .val (.long u2), .second, .unset, .unset, .unset, .unset, .unset, .unset] [(.int (8 : Int32)), (.int fl)])) _
  refine XS.iand X0.here hx rfl (hb hby at_75) rfl ?_
  show Steps p.tables e below (T0.setTop (mkF m 76 #[.val (.long tp), .second, .val (.int md), .val (.int lw), .val (.int fl), .val (.int k1), .val (.long m1), .second, .val (.long m0), .second, .val (.long m2), .second, .val (.long u0), .second, .val (.long u1), .second, .val (.long u2), .second, .unset, .unset, .unset, .unset, .unset, .unset] [(.int (fl &&& (8 : Int32)))])) _
  refine XS.ifNo X0.here hx rfl (hb hby at_76) rfl ((if0 _ _).trans (feq hc76).1) ?_
  show Steps p.tables e below (T0.setTop (mkF m 79 #[.val (.long tp), .second, .val (.int md), .val (.int lw), .val (.int fl), .val (.int k1), .val (.long m1), .second, .val (.long m0), .second, .val (.long m2), .second, .val (.long u0), .second, .val (.long u1), .second, .val (.long u2), .second, .unset, .unset, .unset, .unset, .unset, .unset] [])) _
  refine XS.lload X0.here hx rfl (hb hby at_79) rfl ?_
  show Steps p.tables e below (T0.setTop (mkF m 81 #[.val (.long tp), .second, .val (.int md), .val (.int lw), .val (.int fl), .val (.int k1), .val (.long m1), .second, .val (.long m0), .second, .val (.long m2), .second, .val (.long u0), .second, .val (.long u1), .second, .val (.long u2), .second, .unset, .unset, .unset, .unset, .unset, .unset] [(.long u0)])) _
  refine XS.lneg X0.here hx rfl (hb hby at_81) rfl ?_
  show Steps p.tables e below (T0.setTop (mkF m 82 #[.val (.long tp), .second, .val (.int md), .val (.int lw), .val (.int fl), .val (.int k1), .val (.long m1), .second, .val (.long m0), .second, .val (.long m2), .second, .val (.long u0), .second, .val (.long u1), .second, .val (.long u2), .second, .unset, .unset, .unset, .unset, .unset, .unset] [(.long (-u0))])) _
  refine XS.lstore X0.here hx rfl (hb hby at_82) rfl (l' := #[.val (.long tp), .second, .val (.int md), .val (.int lw), .val (.int fl), .val (.int k1), .val (.long m1), .second, .val (.long m0), .second, .val (.long m2), .second, .val (.long (-u0)), .second, .val (.long u1), .second, .val (.long u2), .second, .unset, .unset, .unset, .unset, .unset, .unset]) rfl ?_
  exact kt
set_option maxRecDepth 65536 in
set_option maxHeartbeats 40000000 in
theorem pEt {p : Program} {l : Launch} {e : Env} {R : Room} {s : State} {m : MethodId} {args : Array Value} {below : List Frame} {meth : Method} {c : Code} {T0 : State} {locs : List Loc} {cells slots : Nat} {Z : State} {a0 : Array Value} (tp : Int64) (md : Int32) (lw : Int32) (fl : Int32) (k1 : Int32) (m1 : Int64) (m0 : Int64) (m2 : Int64) (u0 : Int64) (u1 : Int64) (u2 : Int64)
    (X0 : Stand p l e R s m args below meth c T0 locs cells slots) (hx : p.tables.exec = Jvm.exec) (hZ : Z.Warmed39 s.vm) (hw : ∀ d ∈ tables_1, d.before a0 Z = true) (hby : c.code = code) (hown : s.vm.findClass "com/example/crestwatch/crestwatch/core/ExactSumRoundedPinLaw" = some m.cls) (hc89 : (fl &&& (16 : Int32)) = (0 : Int32)) :
    ∀ target, Steps p.tables e below (T0.setTop (mkF m 97 #[.val (.long tp), .second, .val (.int md), .val (.int lw), .val (.int fl), .val (.int k1), .val (.long m1), .second, .val (.long m0), .second, .val (.long m2), .second, .val (.long u0), .second, .val (.long u1), .second, .val (.long u2), .second, .unset, .unset, .unset, .unset, .unset, .unset] [])) target → Steps p.tables e below (T0.setTop (mkF m 84 #[.val (.long tp), .second, .val (.int md), .val (.int lw), .val (.int fl), .val (.int k1), .val (.long m1), .second, .val (.long m0), .second, .val (.long m2), .second, .val (.long u0), .second, .val (.long u1), .second, .val (.long u2), .second, .unset, .unset, .unset, .unset, .unset, .unset] [])) target := by
  intro target kt
  show Steps p.tables e below (T0.setTop (mkF m 84 #[.val (.long tp), .second, .val (.int md), .val (.int lw), .val (.int fl), .val (.int k1), .val (.long m1), .second, .val (.long m0), .second, .val (.long m2), .second, .val (.long u0), .second, .val (.long u1), .second, .val (.long u2), .second, .unset, .unset, .unset, .unset, .unset, .unset] [])) _
  refine XS.iload X0.here hx rfl (hb hby at_84) rfl ?_
  show Steps p.tables e below (T0.setTop (mkF m 86 #[.val (.long tp), .second, .val (.int md), .val (.int lw), .val (.int fl), .val (.int k1), .val (.long m1), .second, .val (.long m0), .second, .val (.long m2), .second, .val (.long u0), .second, .val (.long u1), .second, .val (.long u2), .second, .unset, .unset, .unset, .unset, .unset, .unset] [(.int fl)])) _
  refine XS.bipush X0.here hx rfl (hb hby at_86) ?_
  show Steps p.tables e below (T0.setTop (mkF m 88 #[.val (.long tp), .second, .val (.int md), .val (.int lw), .val (.int fl), .val (.int k1), .val (.long m1), .second, .val (.long m0), .second, .val (.long m2), .second, .val (.long u0), .second, .val (.long u1), .second, .val (.long u2), .second, .unset, .unset, .unset, .unset, .unset, .unset] [(.int (16 : Int32)), (.int fl)])) _
  refine XS.iand X0.here hx rfl (hb hby at_88) rfl ?_
  show Steps p.tables e below (T0.setTop (mkF m 89 #[.val (.long tp), .second, .val (.int md), .val (.int lw), .val (.int fl), .val (.int k1), .val (.long m1), .second, .val (.long m0), .second, .val (.long m2), .second, .val (.long u0), .second, .val (.long u1), .second, .val (.long u2), .second, .unset, .unset, .unset, .unset, .unset, .unset] [(.int (fl &&& (16 : Int32)))])) _
  refine XS.ifYes X0.here hx rfl (pc0 := 89) (pc' := 97) rfl (hb hby at_89) rfl ((if0 _ _).trans (teq hc89).1) (by decide) (by decide) ?_
  exact kt
set_option maxRecDepth 65536 in
set_option maxHeartbeats 40000000 in
theorem pEf {p : Program} {l : Launch} {e : Env} {R : Room} {s : State} {m : MethodId} {args : Array Value} {below : List Frame} {meth : Method} {c : Code} {T0 : State} {locs : List Loc} {cells slots : Nat} {Z : State} {a0 : Array Value} (tp : Int64) (md : Int32) (lw : Int32) (fl : Int32) (k1 : Int32) (m1 : Int64) (m0 : Int64) (m2 : Int64) (u0 : Int64) (u1 : Int64) (u2 : Int64)
    (X0 : Stand p l e R s m args below meth c T0 locs cells slots) (hx : p.tables.exec = Jvm.exec) (hZ : Z.Warmed39 s.vm) (hw : ∀ d ∈ tables_1, d.before a0 Z = true) (hby : c.code = code) (hown : s.vm.findClass "com/example/crestwatch/crestwatch/core/ExactSumRoundedPinLaw" = some m.cls) (hc89 : ¬ ((fl &&& (16 : Int32)) = (0 : Int32))) :
    ∀ target, Steps p.tables e below (T0.setTop (mkF m 97 #[.val (.long tp), .second, .val (.int md), .val (.int lw), .val (.int fl), .val (.int k1), .val (.long m1), .second, .val (.long m0), .second, .val (.long m2), .second, .val (.long u0), .second, .val (.long (-u1)), .second, .val (.long u2), .second, .unset, .unset, .unset, .unset, .unset, .unset] [])) target → Steps p.tables e below (T0.setTop (mkF m 84 #[.val (.long tp), .second, .val (.int md), .val (.int lw), .val (.int fl), .val (.int k1), .val (.long m1), .second, .val (.long m0), .second, .val (.long m2), .second, .val (.long u0), .second, .val (.long u1), .second, .val (.long u2), .second, .unset, .unset, .unset, .unset, .unset, .unset] [])) target := by
  intro target kt
  show Steps p.tables e below (T0.setTop (mkF m 84 #[.val (.long tp), .second, .val (.int md), .val (.int lw), .val (.int fl), .val (.int k1), .val (.long m1), .second, .val (.long m0), .second, .val (.long m2), .second, .val (.long u0), .second, .val (.long u1), .second, .val (.long u2), .second, .unset, .unset, .unset, .unset, .unset, .unset] [])) _
  refine XS.iload X0.here hx rfl (hb hby at_84) rfl ?_
  show Steps p.tables e below (T0.setTop (mkF m 86 #[.val (.long tp), .second, .val (.int md), .val (.int lw), .val (.int fl), .val (.int k1), .val (.long m1), .second, .val (.long m0), .second, .val (.long m2), .second, .val (.long u0), .second, .val (.long u1), .second, .val (.long u2), .second, .unset, .unset, .unset, .unset, .unset, .unset] [(.int fl)])) _
  refine XS.bipush X0.here hx rfl (hb hby at_86) ?_
  show Steps p.tables e below (T0.setTop (mkF m 88 #[.val (.long tp), .second, .val (.int md), .val (.int lw), .val (.int fl), .val (.int k1), .val (.long m1), .second, .val (.long m0), .second, .val (.long m2), .second, .val (.long u0), .second, .val (.long u1), .second, .val (.long u2), .second, .unset, .unset, .unset, .unset, .unset, .unset] [(.int (16 : Int32)), (.int fl)])) _
  refine XS.iand X0.here hx rfl (hb hby at_88) rfl ?_
  show Steps p.tables e below (T0.setTop (mkF m 89 #[.val (.long tp), .second, .val (.int md), .val (.int lw), .val (.int fl), .val (.int k1), .val (.long m1), .second, .val (.long m0), .second, .val (.long m2), .second, .val (.long u0), .second, .val (.long u1), .second, .val (.long u2), .second, .unset, .unset, .unset, .unset, .unset, .unset] [(.int (fl &&& (16 : Int32)))])) _
  refine XS.ifNo X0.here hx rfl (hb hby at_89) rfl ((if0 _ _).trans (feq hc89).1) ?_
  show Steps p.tables e below (T0.setTop (mkF m 92 #[.val (.long tp), .second, .val (.int md), .val (.int lw), .val (.int fl), .val (.int k1), .val (.long m1), .second, .val (.long m0), .second, .val (.long m2), .second, .val (.long u0), .second, .val (.long u1), .second, .val (.long u2), .second, .unset, .unset, .unset, .unset, .unset, .unset] [])) _
  refine XS.lload X0.here hx rfl (hb hby at_92) rfl ?_
  show Steps p.tables e below (T0.setTop (mkF m 94 #[.val (.long tp), .second, .val (.int md), .val (.int lw), .val (.int fl), .val (.int k1), .val (.long m1), .second, .val (.long m0), .second, .val (.long m2), .second, .val (.long u0), .second, .val (.long u1), .second, .val (.long u2), .second, .unset, .unset, .unset, .unset, .unset, .unset] [(.long u1)])) _
  refine XS.lneg X0.here hx rfl (hb hby at_94) rfl ?_
  show Steps p.tables e below (T0.setTop (mkF m 95 #[.val (.long tp), .second, .val (.int md), .val (.int lw), .val (.int fl), .val (.int k1), .val (.long m1), .second, .val (.long m0), .second, .val (.long m2), .second, .val (.long u0), .second, .val (.long u1), .second, .val (.long u2), .second, .unset, .unset, .unset, .unset, .unset, .unset] [(.long (-u1))])) _
  refine XS.lstore X0.here hx rfl (hb hby at_95) rfl (l' := #[.val (.long tp), .second, .val (.int md), .val (.int lw), .val (.int fl), .val (.int k1), .val (.long m1), .second, .val (.long m0), .second, .val (.long m2), .second, .val (.long u0), .second, .val (.long (-u1)), .second, .val (.long u2), .second, .unset, .unset, .unset, .unset, .unset, .unset]) rfl ?_
  exact kt
set_option maxRecDepth 65536 in
set_option maxHeartbeats 40000000 in
theorem pFt {p : Program} {l : Launch} {e : Env} {R : Room} {s : State} {m : MethodId} {args : Array Value} {below : List Frame} {meth : Method} {c : Code} {T0 : State} {locs : List Loc} {cells slots : Nat} {Z : State} {a0 : Array Value} (tp : Int64) (md : Int32) (lw : Int32) (fl : Int32) (k1 : Int32) (m1 : Int64) (m0 : Int64) (m2 : Int64) (u0 : Int64) (u1 : Int64) (u2 : Int64)
    (X0 : Stand p l e R s m args below meth c T0 locs cells slots) (hx : p.tables.exec = Jvm.exec) (hZ : Z.Warmed39 s.vm) (hw : ∀ d ∈ tables_1, d.before a0 Z = true) (hby : c.code = code) (hown : s.vm.findClass "com/example/crestwatch/crestwatch/core/ExactSumRoundedPinLaw" = some m.cls) (hc102 : (fl &&& (32 : Int32)) = (0 : Int32)) :
    ∀ target, Steps p.tables e below (T0.setTop (mkF m 110 #[.val (.long tp), .second, .val (.int md), .val (.int lw), .val (.int fl), .val (.int k1), .val (.long m1), .second, .val (.long m0), .second, .val (.long m2), .second, .val (.long u0), .second, .val (.long u1), .second, .val (.long u2), .second, .unset, .unset, .unset, .unset, .unset, .unset] [])) target → Steps p.tables e below (T0.setTop (mkF m 97 #[.val (.long tp), .second, .val (.int md), .val (.int lw), .val (.int fl), .val (.int k1), .val (.long m1), .second, .val (.long m0), .second, .val (.long m2), .second, .val (.long u0), .second, .val (.long u1), .second, .val (.long u2), .second, .unset, .unset, .unset, .unset, .unset, .unset] [])) target := by
  intro target kt
  show Steps p.tables e below (T0.setTop (mkF m 97 #[.val (.long tp), .second, .val (.int md), .val (.int lw), .val (.int fl), .val (.int k1), .val (.long m1), .second, .val (.long m0), .second, .val (.long m2), .second, .val (.long u0), .second, .val (.long u1), .second, .val (.long u2), .second, .unset, .unset, .unset, .unset, .unset, .unset] [])) _
  refine XS.iload X0.here hx rfl (hb hby at_97) rfl ?_
  show Steps p.tables e below (T0.setTop (mkF m 99 #[.val (.long tp), .second, .val (.int md), .val (.int lw), .val (.int fl), .val (.int k1), .val (.long m1), .second, .val (.long m0), .second, .val (.long m2), .second, .val (.long u0), .second, .val (.long u1), .second, .val (.long u2), .second, .unset, .unset, .unset, .unset, .unset, .unset] [(.int fl)])) _
  refine XS.bipush X0.here hx rfl (hb hby at_99) ?_
  show Steps p.tables e below (T0.setTop (mkF m 101 #[.val (.long tp), .second, .val (.int md), .val (.int lw), .val (.int fl), .val (.int k1), .val (.long m1), .second, .val (.long m0), .second, .val (.long m2), .second, .val (.long u0), .second, .val (.long u1), .second, .val (.long u2), .second, .unset, .unset, .unset, .unset, .unset, .unset] [(.int (32 : Int32)), (.int fl)])) _
  refine XS.iand X0.here hx rfl (hb hby at_101) rfl ?_
  show Steps p.tables e below (T0.setTop (mkF m 102 #[.val (.long tp), .second, .val (.int md), .val (.int lw), .val (.int fl), .val (.int k1), .val (.long m1), .second, .val (.long m0), .second, .val (.long m2), .second, .val (.long u0), .second, .val (.long u1), .second, .val (.long u2), .second, .unset, .unset, .unset, .unset, .unset, .unset] [(.int (fl &&& (32 : Int32)))])) _
  refine XS.ifYes X0.here hx rfl (pc0 := 102) (pc' := 110) rfl (hb hby at_102) rfl ((if0 _ _).trans (teq hc102).1) (by decide) (by decide) ?_
  exact kt
set_option maxRecDepth 65536 in
set_option maxHeartbeats 40000000 in
theorem pFf {p : Program} {l : Launch} {e : Env} {R : Room} {s : State} {m : MethodId} {args : Array Value} {below : List Frame} {meth : Method} {c : Code} {T0 : State} {locs : List Loc} {cells slots : Nat} {Z : State} {a0 : Array Value} (tp : Int64) (md : Int32) (lw : Int32) (fl : Int32) (k1 : Int32) (m1 : Int64) (m0 : Int64) (m2 : Int64) (u0 : Int64) (u1 : Int64) (u2 : Int64)
    (X0 : Stand p l e R s m args below meth c T0 locs cells slots) (hx : p.tables.exec = Jvm.exec) (hZ : Z.Warmed39 s.vm) (hw : ∀ d ∈ tables_1, d.before a0 Z = true) (hby : c.code = code) (hown : s.vm.findClass "com/example/crestwatch/crestwatch/core/ExactSumRoundedPinLaw" = some m.cls) (hc102 : ¬ ((fl &&& (32 : Int32)) = (0 : Int32))) :
    ∀ target, Steps p.tables e below (T0.setTop (mkF m 110 #[.val (.long tp), .second, .val (.int md), .val (.int lw), .val (.int fl), .val (.int k1), .val (.long m1), .second, .val (.long m0), .second, .val (.long m2), .second, .val (.long u0), .second, .val (.long u1), .second, .val (.long (-u2)), .second, .unset, .unset, .unset, .unset, .unset, .unset] [])) target → Steps p.tables e below (T0.setTop (mkF m 97 #[.val (.long tp), .second, .val (.int md), .val (.int lw), .val (.int fl), .val (.int k1), .val (.long m1), .second, .val (.long m0), .second, .val (.long m2), .second, .val (.long u0), .second, .val (.long u1), .second, .val (.long u2), .second, .unset, .unset, .unset, .unset, .unset, .unset] [])) target := by
  intro target kt
  show Steps p.tables e below (T0.setTop (mkF m 97 #[.val (.long tp), .second, .val (.int md), .val (.int lw), .val (.int fl), .val (.int k1), .val (.long m1), .second, .val (.long m0), .second, .val (.long m2), .second, .val (.long u0), .second, .val (.long u1), .second, .val (.long u2), .second, .unset, .unset, .unset, .unset, .unset, .unset] [])) _
  refine XS.iload X0.here hx rfl (hb hby at_97) rfl ?_
  show Steps p.tables e below (T0.setTop (mkF m 99 #[.val (.long tp), .second, .val (.int md), .val (.int lw), .val (.int fl), .val (.int k1), .val (.long m1), .second, .val (.long m0), .second, .val (.long m2), .second, .val (.long u0), .second, .val (.long u1), .second, .val (.long u2), .second, .unset, .unset, .unset, .unset, .unset, .unset] [(.int fl)])) _
  refine XS.bipush X0.here hx rfl (hb hby at_99) ?_
  show Steps p.tables e below (T0.setTop (mkF m 101 #[.val (.long tp), .second, .val (.int md), .val (.int lw), .val (.int fl), .val (.int k1), .val (.long m1), .second, .val (.long m0), .second, .val (.long m2), .second, .val (.long u0), .second, .val (.long u1), .second, .val (.long u2), .second, .unset, .unset, .unset, .unset, .unset, .unset] [(.int (32 : Int32)), (.int fl)])) _
  refine XS.iand X0.here hx rfl (hb hby at_101) rfl ?_
  show Steps p.tables e below (T0.setTop (mkF m 102 #[.val (.long tp), .second, .val (.int md), .val (.int lw), .val (.int fl), .val (.int k1), .val (.long m1), .second, .val (.long m0), .second, .val (.long m2), .second, .val (.long u0), .second, .val (.long u1), .second, .val (.long u2), .second, .unset, .unset, .unset, .unset, .unset, .unset] [(.int (fl &&& (32 : Int32)))])) _
  refine XS.ifNo X0.here hx rfl (hb hby at_102) rfl ((if0 _ _).trans (feq hc102).1) ?_
  show Steps p.tables e below (T0.setTop (mkF m 105 #[.val (.long tp), .second, .val (.int md), .val (.int lw), .val (.int fl), .val (.int k1), .val (.long m1), .second, .val (.long m0), .second, .val (.long m2), .second, .val (.long u0), .second, .val (.long u1), .second, .val (.long u2), .second, .unset, .unset, .unset, .unset, .unset, .unset] [])) _
  refine XS.lload X0.here hx rfl (hb hby at_105) rfl ?_
  show Steps p.tables e below (T0.setTop (mkF m 107 #[.val (.long tp), .second, .val (.int md), .val (.int lw), .val (.int fl), .val (.int k1), .val (.long m1), .second, .val (.long m0), .second, .val (.long m2), .second, .val (.long u0), .second, .val (.long u1), .second, .val (.long u2), .second, .unset, .unset, .unset, .unset, .unset, .unset] [(.long u2)])) _
  refine XS.lneg X0.here hx rfl (hb hby at_107) rfl ?_
  show Steps p.tables e below (T0.setTop (mkF m 108 #[.val (.long tp), .second, .val (.int md), .val (.int lw), .val (.int fl), .val (.int k1), .val (.long m1), .second, .val (.long m0), .second, .val (.long m2), .second, .val (.long u0), .second, .val (.long u1), .second, .val (.long u2), .second, .unset, .unset, .unset, .unset, .unset, .unset] [(.long (-u2))])) _
  refine XS.lstore X0.here hx rfl (hb hby at_108) rfl (l' := #[.val (.long tp), .second, .val (.int md), .val (.int lw), .val (.int fl), .val (.int k1), .val (.long m1), .second, .val (.long m0), .second, .val (.long m2), .second, .val (.long u0), .second, .val (.long u1), .second, .val (.long (-u2)), .second, .unset, .unset, .unset, .unset, .unset, .unset]) rfl ?_
  exact kt
set_option maxRecDepth 65536 in
set_option maxHeartbeats 40000000 in
theorem pG {p : Program} {l : Launch} {e : Env} {R : Room} {s : State} {m : MethodId} {args : Array Value} {below : List Frame} {meth : Method} {c : Code} {T0 : State} {locs : List Loc} {cells slots : Nat} {Z : State} {a0 : Array Value} (tp : Int64) (md : Int32) (lw : Int32) (fl : Int32) (k1 : Int32) (m1 : Int64) (m0 : Int64) (m2 : Int64) (u0 : Int64) (u1 : Int64) (u2 : Int64)
    (X0 : Stand p l e R s m args below meth c T0 locs cells slots) (hx : p.tables.exec = Jvm.exec) (hZ : Z.Warmed39 s.vm) (hw : ∀ d ∈ tables_1, d.before a0 Z = true) (hby : c.code = code) (hown : s.vm.findClass "com/example/crestwatch/crestwatch/core/ExactSumRoundedPinLaw" = some m.cls) :
    ∀ target, Steps p.tables e below (T0.setTop (mkF m 122 #[.val (.long tp), .second, .val (.int md), .val (.int lw), .val (.int fl), .val (.int k1), .val (.long m1), .second, .val (.long m0), .second, .val (.long m2), .second, .val (.long u0), .second, .val (.long u1), .second, .val (.long u2), .second, .val (.double (FP.l2d (((lw.toInt64) <<< ((20 : Int32) &&& 0x3f).toInt64) ||| (1099511627776 : Int64)))), .second, .unset, .unset, .unset, .unset] [])) target → Steps p.tables e below (T0.setTop (mkF m 110 #[.val (.long tp), .second, .val (.int md), .val (.int lw), .val (.int fl), .val (.int k1), .val (.long m1), .second, .val (.long m0), .second, .val (.long m2), .second, .val (.long u0), .second, .val (.long u1), .second, .val (.long u2), .second, .unset, .unset, .unset, .unset, .unset, .unset] [])) target := by
  intro target kt
  show Steps p.tables e below (T0.setTop (mkF m 110 #[.val (.long tp), .second, .val (.int md), .val (.int lw), .val (.int fl), .val (.int k1), .val (.long m1), .second, .val (.long m0), .second, .val (.long m2), .second, .val (.long u0), .second, .val (.long u1), .second, .val (.long u2), .second, .unset, .unset, .unset, .unset, .unset, .unset] [])) _
  refine XS.iloadN X0.here hx rfl (hb hby at_110) rfl ?_
  show Steps p.tables e below (T0.setTop (mkF m 111 #[.val (.long tp), .second, .val (.int md), .val (.int lw), .val (.int fl), .val (.int k1), .val (.long m1), .second, .val (.long m0), .second, .val (.long m2), .second, .val (.long u0), .second, .val (.long u1), .second, .val (.long u2), .second, .unset, .unset, .unset, .unset, .unset, .unset] [(.int lw)])) _
  refine XS.i2l X0.here hx rfl (hb hby at_111) rfl ?_
  show Steps p.tables e below (T0.setTop (mkF m 112 #[.val (.long tp), .second, .val (.int md), .val (.int lw), .val (.int fl), .val (.int k1), .val (.long m1), .second, .val (.long m0), .second, .val (.long m2), .second, .val (.long u0), .second, .val (.long u1), .second, .val (.long u2), .second, .unset, .unset, .unset, .unset, .unset, .unset] [(.long (lw.toInt64))])) _
  refine XS.bipush X0.here hx rfl (hb hby at_112) ?_
  show Steps p.tables e below (T0.setTop (mkF m 114 #[.val (.long tp), .second, .val (.int md), .val (.int lw), .val (.int fl), .val (.int k1), .val (.long m1), .second, .val (.long m0), .second, .val (.long m2), .second, .val (.long u0), .second, .val (.long u1), .second, .val (.long u2), .second, .unset, .unset, .unset, .unset, .unset, .unset] [(.int (20 : Int32)), (.long (lw.toInt64))])) _
  refine XS.lshl X0.here hx rfl (hb hby at_114) rfl ?_
  show Steps p.tables e below (T0.setTop (mkF m 115 #[.val (.long tp), .second, .val (.int md), .val (.int lw), .val (.int fl), .val (.int k1), .val (.long m1), .second, .val (.long m0), .second, .val (.long m2), .second, .val (.long u0), .second, .val (.long u1), .second, .val (.long u2), .second, .unset, .unset, .unset, .unset, .unset, .unset] [(.long ((lw.toInt64) <<< ((20 : Int32) &&& 0x3f).toInt64))])) _
  refine X0.ldc2Long hx hown (mvT hZ (hw _ (List.mem_of_getElem? (i := 2) rfl))) (g := (mkF m 115 #[.val (.long tp), .second, .val (.int md), .val (.int lw), .val (.int fl), .val (.int k1), .val (.long m1), .second, .val (.long m0), .second, .val (.long m2), .second, .val (.long u0), .second, .val (.long u1), .second, .val (.long u2), .second, .unset, .unset, .unset, .unset, .unset, .unset] [(.long ((lw.toInt64) <<< ((20 : Int32) &&& 0x3f).toInt64))])) rfl (hb hby at_115) _ ?_
  show Steps p.tables e below (T0.setTop (mkF m 118 #[.val (.long tp), .second, .val (.int md), .val (.int lw), .val (.int fl), .val (.int k1), .val (.long m1), .second, .val (.long m0), .second, .val (.long m2), .second, .val (.long u0), .second, .val (.long u1), .second, .val (.long u2), .second, .unset, .unset, .unset, .unset, .unset, .unset] [(.long (1099511627776 : Int64)), (.long ((lw.toInt64) <<< ((20 : Int32) &&& 0x3f).toInt64))])) _
  refine XS.lor X0.here hx rfl (hb hby at_118) rfl ?_
  show Steps p.tables e below (T0.setTop (mkF m 119 #[.val (.long tp), .second, .val (.int md), .val (.int lw), .val (.int fl), .val (.int k1), .val (.long m1), .second, .val (.long m0), .second, .val (.long m2), .second, .val (.long u0), .second, .val (.long u1), .second, .val (.long u2), .second, .unset, .unset, .unset, .unset, .unset, .unset] [(.long (((lw.toInt64) <<< ((20 : Int32) &&& 0x3f).toInt64) ||| (1099511627776 : Int64)))])) _
  refine XS.l2dS X0.here hx rfl (hb hby at_119) rfl rfl ?_
  show Steps p.tables e below (T0.setTop (mkF m 120 #[.val (.long tp), .second, .val (.int md), .val (.int lw), .val (.int fl), .val (.int k1), .val (.long m1), .second, .val (.long m0), .second, .val (.long m2), .second, .val (.long u0), .second, .val (.long u1), .second, .val (.long u2), .second, .unset, .unset, .unset, .unset, .unset, .unset] [(.double (FP.l2d (((lw.toInt64) <<< ((20 : Int32) &&& 0x3f).toInt64) ||| (1099511627776 : Int64))))])) _
  refine XS.dstore X0.here hx rfl (hb hby at_120) rfl (l' := #[.val (.long tp), .second, .val (.int md), .val (.int lw), .val (.int fl), .val (.int k1), .val (.long m1), .second, .val (.long m0), .second, .val (.long m2), .second, .val (.long u0), .second, .val (.long u1), .second, .val (.long u2), .second, .val (.double (FP.l2d (((lw.toInt64) <<< ((20 : Int32) &&& 0x3f).toInt64) ||| (1099511627776 : Int64)))), .second, .unset, .unset, .unset, .unset]) rfl ?_
  exact kt
theorem own_s0 {p : Program} {l : Launch} {e : Env} {R : Room} {s : State} {m : MethodId} {args : Array Value} {below : List Frame} {meth : Method} {c : Code} {T0 : State} {locs : List Loc} {cells slots : Nat} {Z : State} {a0 : Array Value} (tp : Int64) (md lw fl : Int32) (k1 : Int32) (m1 m0 m2 u0 u1 u2 : Int64) (X0 : Stand p l e R s m args below meth c T0 locs cells slots) (hx : p.tables.exec = Jvm.exec) (hZ : Z.Warmed39 s.vm) (hw : ∀ d ∈ tables_1, d.before a0 Z = true) (hby : c.code = code) (hown : s.vm.findClass "com/example/crestwatch/crestwatch/core/ExactSumRoundedPinLaw" = some m.cls) : ∀ target, Steps p.tables e below (T0.setTop (mkF m 84 #[.val (.long tp), .second, .val (.int md), .val (.int lw), .val (.int fl), .val (.int k1), .val (.long m1), .second, .val (.long m0), .second, .val (.long m2), .second, .val (.long (if (fl &&& (8 : Int32)) = (0 : Int32) then u0 else -u0)), .second, .val (.long u1), .second, .val (.long u2), .second, .unset, .unset, .unset, .unset, .unset, .unset] [])) target → Steps p.tables e below (T0.setTop (mkF m 71 #[.val (.long tp), .second, .val (.int md), .val (.int lw), .val (.int fl), .val (.int k1), .val (.long m1), .second, .val (.long m0), .second, .val (.long m2), .second, .val (.long u0), .second, .val (.long u1), .second, .val (.long u2), .second, .unset, .unset, .unset, .unset, .unset, .unset] [])) target := by
  by_cases hb : (fl &&& (8 : Int32)) = (0 : Int32)
  · rw [if_pos hb]; exact pDt tp md lw fl k1 m1 m0 m2 u0 u1 u2 X0 hx hZ hw hby hown hb
  · rw [if_neg hb]; exact pDf tp md lw fl k1 m1 m0 m2 u0 u1 u2 X0 hx hZ hw hby hown hb
theorem own_s1 {p : Program} {l : Launch} {e : Env} {R : Room} {s : State} {m : MethodId} {args : Array Value} {below : List Frame} {meth : Method} {c : Code} {T0 : State} {locs : List Loc} {cells slots : Nat} {Z : State} {a0 : Array Value} (tp : Int64) (md lw fl : Int32) (k1 : Int32) (m1 m0 m2 u0 u1 u2 : Int64) (X0 : Stand p l e R s m args below meth c T0 locs cells slots) (hx : p.tables.exec = Jvm.exec) (hZ : Z.Warmed39 s.vm) (hw : ∀ d ∈ tables_1, d.before a0 Z = true) (hby : c.code = code) (hown : s.vm.findClass "com/example/crestwatch/crestwatch/core/ExactSumRoundedPinLaw" = some m.cls) : ∀ target, Steps p.tables e below (T0.setTop (mkF m 97 #[.val (.long tp), .second, .val (.int md), .val (.int lw), .val (.int fl), .val (.int k1), .val (.long m1), .second, .val (.long m0), .second, .val (.long m2), .second, .val (.long u0), .second, .val (.long (if (fl &&& (16 : Int32)) = (0 : Int32) then u1 else -u1)), .second, .val (.long u2), .second, .unset, .unset, .unset, .unset, .unset, .unset] [])) target → Steps p.tables e below (T0.setTop (mkF m 84 #[.val (.long tp), .second, .val (.int md), .val (.int lw), .val (.int fl), .val (.int k1), .val (.long m1), .second, .val (.long m0), .second, .val (.long m2), .second, .val (.long u0), .second, .val (.long u1), .second, .val (.long u2), .second, .unset, .unset, .unset, .unset, .unset, .unset] [])) target := by
  by_cases hb : (fl &&& (16 : Int32)) = (0 : Int32)
  · rw [if_pos hb]; exact pEt tp md lw fl k1 m1 m0 m2 u0 u1 u2 X0 hx hZ hw hby hown hb
  · rw [if_neg hb]; exact pEf tp md lw fl k1 m1 m0 m2 u0 u1 u2 X0 hx hZ hw hby hown hb
theorem own_s2 {p : Program} {l : Launch} {e : Env} {R : Room} {s : State} {m : MethodId} {args : Array Value} {below : List Frame} {meth : Method} {c : Code} {T0 : State} {locs : List Loc} {cells slots : Nat} {Z : State} {a0 : Array Value} (tp : Int64) (md lw fl : Int32) (k1 : Int32) (m1 m0 m2 u0 u1 u2 : Int64) (X0 : Stand p l e R s m args below meth c T0 locs cells slots) (hx : p.tables.exec = Jvm.exec) (hZ : Z.Warmed39 s.vm) (hw : ∀ d ∈ tables_1, d.before a0 Z = true) (hby : c.code = code) (hown : s.vm.findClass "com/example/crestwatch/crestwatch/core/ExactSumRoundedPinLaw" = some m.cls) : ∀ target, Steps p.tables e below (T0.setTop (mkF m 110 #[.val (.long tp), .second, .val (.int md), .val (.int lw), .val (.int fl), .val (.int k1), .val (.long m1), .second, .val (.long m0), .second, .val (.long m2), .second, .val (.long u0), .second, .val (.long u1), .second, .val (.long (if (fl &&& (32 : Int32)) = (0 : Int32) then u2 else -u2)), .second, .unset, .unset, .unset, .unset, .unset, .unset] [])) target → Steps p.tables e below (T0.setTop (mkF m 97 #[.val (.long tp), .second, .val (.int md), .val (.int lw), .val (.int fl), .val (.int k1), .val (.long m1), .second, .val (.long m0), .second, .val (.long m2), .second, .val (.long u0), .second, .val (.long u1), .second, .val (.long u2), .second, .unset, .unset, .unset, .unset, .unset, .unset] [])) target := by
  by_cases hb : (fl &&& (32 : Int32)) = (0 : Int32)
  · rw [if_pos hb]; exact pFt tp md lw fl k1 m1 m0 m2 u0 u1 u2 X0 hx hZ hw hby hown hb
  · rw [if_neg hb]; exact pFf tp md lw fl k1 m1 m0 m2 u0 u1 u2 X0 hx hZ hw hby hown hb
set_option maxRecDepth 65536 in
set_option maxHeartbeats 40000000 in
theorem own_pre {p : Program} {l : Launch} {e : Env} {R : Room} {s : State} {m : MethodId} {args : Array Value} {below : List Frame} {meth : Method} {c : Code} {T0 : State} {locs : List Loc} {cells slots : Nat} {Z : State} {a0 : Array Value} (tp : Int64) (md lw fl : Int32) (X0 : Stand p l e R s m args below meth c T0 locs cells slots) (hx : p.tables.exec = Jvm.exec) (hZ : Z.Warmed39 s.vm) (hw : ∀ d ∈ tables_1, d.before a0 Z = true) (hby : c.code = code) (hown : s.vm.findClass "com/example/crestwatch/crestwatch/core/ExactSumRoundedPinLaw" = some m.cls) : ∃ (kk : Int32) (m1 m0 m2 z0 z1 z2 : Int64) (jk : UInt64) (K : Nat), OwnP K z0 z1 z2 ∧ ∀ target, Steps p.tables e below (T0.setTop (mkF m 122 #[.val (.long tp), .second, .val (.int md), .val (.int lw), .val (.int fl), .val (.int kk), .val (.long m1), .second, .val (.long m0), .second, .val (.long m2), .second, .val (.long z0), .second, .val (.long z1), .second, .val (.long z2), .second, .val (.double jk), .second, .unset, .unset, .unset, .unset] [])) target → Steps p.tables e below (T0.setTop (mkF m 0 #[.val (.long tp), .second, .val (.int md), .val (.int lw), .val (.int fl), .unset, .unset, .unset, .unset, .unset, .unset, .unset, .unset, .unset, .unset, .unset, .unset, .unset, .unset, .unset, .unset, .unset, .unset, .unset] [])) target := by
  have hk1 := own_k1 md
  obtain ⟨k1, ek1⟩ : ∃ k1, ((1 : Int32) + (md &&& (3 : Int32))) = k1 := ⟨_, rfl⟩
  rw [ek1] at hk1
  obtain ⟨m1, em1⟩ : ∃ m1, ((1 : Int64) + ((((md.toUInt32 >>> ((2 : Int32) &&& 31).toUInt32).toInt32) &&& (7 : Int32)).toInt64)) = m1 := ⟨_, rfl⟩
  obtain ⟨m0, em0⟩ : ∃ m0, ((1 : Int64) + (((lw &&& (2147483647 : Int32)) % (((1 : Int32) <<< (k1 &&& 31)) - (1 : Int32))).toInt64)) = m0 := ⟨_, rfl⟩
  obtain ⟨m2, em2⟩ : ∃ m2, (tp &&& (9007199254740991 : Int64)) = m2 := ⟨_, rfl⟩
  have hA := pA tp md lw fl k1 m1 m0 m2 X0 hx hZ hw hby hown ek1 em1 (own_nz hk1) em0 em2
  have r2 := own_m2 tp
  rw [em2] at r2
  obtain ⟨m3, r3, hB⟩ : ∃ m3 : Int64, (1 ≤ m3.toInt ∧ m3.toInt < 9007199254740992) ∧ ∀ target, Steps p.tables e below (T0.setTop (mkF m 51 #[.val (.long tp), .second, .val (.int md), .val (.int lw), .val (.int fl), .val (.int k1), .val (.long m1), .second, .val (.long m0), .second, .val (.long m3), .second, .unset, .unset, .unset, .unset, .unset, .unset, .unset, .unset, .unset, .unset, .unset, .unset] [])) target → Steps p.tables e below (T0.setTop (mkF m 41 #[.val (.long tp), .second, .val (.int md), .val (.int lw), .val (.int fl), .val (.int k1), .val (.long m1), .second, .val (.long m0), .second, .val (.long m2), .second, .unset, .unset, .unset, .unset, .unset, .unset, .unset, .unset, .unset, .unset, .unset, .unset] [])) target := by
    by_cases hz : (lcmpW m2 (0 : Int64)) = (0 : Int32)
    · exact ⟨(1 : Int64), by decide, pBf tp md lw fl k1 m1 m0 m2 X0 hx hZ hw hby hown hz⟩
    · refine ⟨m2, ?_, pBt tp md lw fl k1 m1 m0 m2 X0 hx hZ hw hby hown hz⟩
      have q : m2.toInt ≠ 0 := fun q => hz ((lw_eq _ _).mpr (Int64.toInt_inj.mp q))
      omega
  have hC := pC tp md lw fl k1 m1 m0 m3 X0 hx hZ hw hby hown
  obtain ⟨K, hP⟩ := own_arith hk1 (own_m1 em1) em0 r3 ((fl &&& (8 : Int32)) = (0 : Int32)) ((fl &&& (16 : Int32)) = (0 : Int32)) ((fl &&& (32 : Int32)) = (0 : Int32))
  refine ⟨k1, m1, m0, m3, _, _, _, (FP.l2d (((lw.toInt64) <<< ((20 : Int32) &&& 0x3f).toInt64) ||| (1099511627776 : Int64))), K, hP, fun target kt => ?_⟩
  refine hA _ (hB _ (hC _ ?_))
  refine own_s0 tp md lw fl k1 m1 m0 m3 _ _ _ X0 hx hZ hw hby hown _ ?_
  refine own_s1 tp md lw fl k1 m1 m0 m3 _ _ _ X0 hx hZ hw hby hown _ ?_
  refine own_s2 tp md lw fl k1 m1 m0 m3 _ _ _ X0 hx hZ hw hby hown _ ?_
  exact pG _ _ _ _ _ _ _ _ _ _ _ X0 hx hZ hw hby hown _ kt
theorem pd_0 : parseMethodDescriptor "([DI)D" = some ⟨[(.array .double), .int], some .double⟩ := by decide +kernel
theorem pn_1 : plainName "com/example/crestwatch/crestwatch/core/ExactSumRoundedPinLaw" = true := by first | (simp [plainName, overriddenIn]; done) | decide +kernel
def Q_rm0_0 (Z : State) (tp : Int64) (md : Int32) (lw : Int32) (fl : Int32) (h0 : Heap) (n0 : Nat) (v : Option Value) (h : Heap) (L : List Loc) : Prop := v = some (.int (1 : Int32)) ∧ Fr n0 L
theorem ef_rm0_0 (m : MethodId) (tp : Int64) (md : Int32) (lw : Int32) (fl : Int32) : entryFrame m #[(.long tp), (.int md), (.int lw), (.int fl)] maxLocals = mkF m 0 #[.val (.long tp), .second, .val (.int md), .val (.int lw), .val (.int fl), .unset, .unset, .unset, .unset, .unset, .unset, .unset, .unset, .unset, .unset, .unset, .unset, .unset, .unset, .unset, .unset, .unset, .unset, .unset] [] := by first | (simp [entryFrame, mkF, argsToLocals, Value.category, maxLocals]; done) | rfl
set_option maxRecDepth 65536 in
set_option maxHeartbeats 40000000 in
theorem rm0_0 (l : Launch) (Z : State) (a0 : Array Value) (hw : ∀ d ∈ tables_1, d.before a0 Z = true) (ws : List Jvm.Cond) (tp : Int64) (md : Int32) (lw : Int32) (fl : Int32) (h0 : Heap) (n0 : Nat) (Z0 : n0 ≤ h0.size) (hc161 : (fl &&& (1 : Int32)) = (0 : Int32)) (hc186 : (fl &&& (2 : Int32)) = (0 : Int32)) (hc211 : (fl &&& (4 : Int32)) = (0 : Int32)) :
    MetFree l x (head1 (Jvm.Cond.code x code maxLocals ret :: ws) room_1) (fun a U => a = #[(.long tp), (.int md), (.int lw), (.int fl)] ∧ Z.Warmed39 U.vm ∧ U.heap = h0) (fun _ _ _ _ _ => True) (fun _ U o U' => ∃ v L, o = .returned v ∧ Q_rm0_0 Z tp md lw fl h0 n0 v U'.heap L ∧ FrameEnd U o U' L room_1.cells room_1.slots) := by
  refine MetFree.of_bodySF (plainFor_of_name pn_1) hisR ?_
  intro p e s m args below meth c s₁ Bd hml0 hP hK
  obtain ⟨rfl, hZ, hh⟩ := hP
  have hx := Bd.exec
  have hby := Bd.bytes
  have hml : c.maxLocals = 24 := hml0
  have hown : s.vm.findClass "com/example/crestwatch/crestwatch/core/ExactSumRoundedPinLaw" = some m.cls := findClass_of_methodNamed Bd.named
  have hnm := (name_of_methodNamed Bd.named Bd.method).1
  have X0 : Stand p l e room_1 s m #[(.long tp), (.int md), (.int lw), (.int fl)] below meth c s₁ [] 0 0 := Stand.of_body Bd
  have e0 : s₁.heap = h0 := by rw [← hh, Bd.state]; rfl
  have N0 := Fr.nil n0
  have pre0 : ∀ t, Steps p.tables e below (s₁.setTop (mkF m 0 #[.val (.long tp), .second, .val (.int md), .val (.int lw), .val (.int fl), .unset, .unset, .unset, .unset, .unset, .unset, .unset, .unset, .unset, .unset, .unset, .unset, .unset, .unset, .unset, .unset, .unset, .unset, .unset] [])) t → Steps p.tables e below (s₁.setTop (entryFrame m #[(.long tp), (.int md), (.int lw), (.int fl)] maxLocals)) t := fun t k => castTop (ef_rm0_0 m tp md lw fl) k
  obtain ⟨kk, m1, m0, m2, z0, z1, z2, jk, K, hP, stp⟩ := own_pre tp md lw fl X0 hx hZ hw hby hown
  obtain ⟨c1, c2, c3, c4, c5, M, c6, c7⟩ := hP
  have b0 : z0.toInt.natAbs < 16 := by have : 2 ^ K ≤ 2 ^ 4 := Nat.pow_le_pow_right (by decide) c1; omega
  have b2 : z2.toInt.natAbs < 2 ^ 61 := by
    rw [c7]
    calc M * 2 ^ (K + 4) < 2 ^ 53 * 2 ^ (K + 4) := Nat.mul_lt_mul_of_pos_right c6 (Nat.two_pow_pos _)
      _ ≤ 2 ^ 53 * 2 ^ 8 := Nat.mul_le_mul_left _ (Nat.pow_le_pow_right (by decide) (by omega))
      _ = 2 ^ 61 := by decide
  have e53 := own_e53
  have e61 := own_e61
  have e63 := own_e63
  have x0 := own_small_exact (p := z0) (by omega)
  have x1 := own_small_exact (p := z1) (by omega)
  have x2 := own_exact (p := z2) ⟨M, _, c6, c7⟩ (by omega)
  have y0 := own_D x0 (by omega)
  have y1 := own_D x1 (by omega)
  have y2 := own_D x2 (by omega)
  have l0 : (0 : Int64).toInt = 0 := by decide
  obtain ⟨T1, h1, k1, X1, e1, E1, A1, st1⟩ := newP X0 hx hZ (hw _ (List.mem_of_getElem? (i := 3) rfl)) e0 (g := (mkF m 123 #[.val (.long tp), .second, .val (.int md), .val (.int lw), .val (.int fl), .val (.int kk), .val (.long m1), .second, .val (.long m0), .second, .val (.long m2), .second, .val (.long z0), .second, .val (.long z1), .second, .val (.long z2), .second, .val (.double jk), .second, .unset, .unset, .unset, .unset] [(.int (4 : Int32))])) rfl (hb hby at_123) rfl (by decide) (cap := 4) (by decide) (by decide) (by decide) (by decide)
  obtain ⟨b1, g1⟩ : ∃ z, z = h0.size := ⟨_, rfl⟩
  rw [← g1] at A1 st1
  have V1 : Arv Z h1 b1 k1 .double (4 : Int32) [(.double 0), (.double 0), (.double 0), (.double 0)] (.double 0) := (Arv.new A1 (by decide)).pad (pad_rep [] (.double 0) 4)
  have Vc2 := V1
  obtain ⟨cl2, Ar2, q2, S2, M2, H2, G2⟩ := Vc2
  have hin2 : ¬ ((0 : Int32) < 0 ∨ cl2.slots.size ≤ ((0 : Int32)).toNatClampNeg) := inb_of S2 ⟨by decide, by decide⟩
  obtain ⟨T2, h2, X2, e2, W2, st2⟩ := stD X1 hx hZ e1 Ar2 (j := (0 : Int32)) hin2 (g := (mkF m 132 #[.val (.long tp), .second, .val (.int md), .val (.int lw), .val (.int fl), .val (.int kk), .val (.long m1), .second, .val (.long m0), .second, .val (.long m2), .second, .val (.long z0), .second, .val (.long z1), .second, .val (.long z2), .second, .val (.double jk), .second, .val (.ref b1), .unset, .unset, .unset] [(.double jk), (.int (0 : Int32)), (.ref b1)])) rfl rfl (hb hby at_132)
  have V2 : Arv Z h2 b1 k1 .double (4 : Int32) [(.double jk), (.double 0), (.double 0), (.double 0)] (.double 0) := Arv.set Ar2 q2 S2 M2 H2 G2 rfl W2 0 rfl (Nat.le_of_ble_eq_true rfl)
  have N2 := Fr.snoc X2 N0 (Nat.le_trans Z0 (Nat.le_of_eq g1.symm))
  have Vc3 := V2
  obtain ⟨cl3, Ar3, q3, S3, M3, H3, G3⟩ := Vc3
  have hin3 : ¬ ((1 : Int32) < 0 ∨ cl3.slots.size ≤ ((1 : Int32)).toNatClampNeg) := inb_of S3 ⟨by decide, by decide⟩
  obtain ⟨T3, h3, X3, e3, W3, st3⟩ := stD X2 hx hZ e2 Ar3 (j := (1 : Int32)) hin3 (g := (mkF m 138 #[.val (.long tp), .second, .val (.int md), .val (.int lw), .val (.int fl), .val (.int kk), .val (.long m1), .second, .val (.long m0), .second, .val (.long m2), .second, .val (.long z0), .second, .val (.long z1), .second, .val (.long z2), .second, .val (.double jk), .second, .val (.ref b1), .unset, .unset, .unset] [(.double jk), (.int (1 : Int32)), (.ref b1)])) rfl rfl (hb hby at_138)
  have V3 : Arv Z h3 b1 k1 .double (4 : Int32) [(.double jk), (.double jk), (.double 0), (.double 0)] (.double 0) := Arv.set Ar3 q3 S3 M3 H3 G3 rfl W3 1 rfl (Nat.le_of_ble_eq_true rfl)
  have N3 := Fr.snoc X3 N2 (Nat.le_trans Z0 (Nat.le_of_eq g1.symm))
  have Vc4 := V3
  obtain ⟨cl4, Ar4, q4, S4, M4, H4, G4⟩ := Vc4
  have hin4 : ¬ ((2 : Int32) < 0 ∨ cl4.slots.size ≤ ((2 : Int32)).toNatClampNeg) := inb_of S4 ⟨by decide, by decide⟩
  obtain ⟨T4, h4, X4, e4, W4, st4⟩ := stD X3 hx hZ e3 Ar4 (j := (2 : Int32)) hin4 (g := (mkF m 144 #[.val (.long tp), .second, .val (.int md), .val (.int lw), .val (.int fl), .val (.int kk), .val (.long m1), .second, .val (.long m0), .second, .val (.long m2), .second, .val (.long z0), .second, .val (.long z1), .second, .val (.long z2), .second, .val (.double jk), .second, .val (.ref b1), .unset, .unset, .unset] [(.double jk), (.int (2 : Int32)), (.ref b1)])) rfl rfl (hb hby at_144)
  have V4 : Arv Z h4 b1 k1 .double (4 : Int32) [(.double jk), (.double jk), (.double jk), (.double 0)] (.double 0) := Arv.set Ar4 q4 S4 M4 H4 G4 rfl W4 2 rfl (Nat.le_of_ble_eq_true rfl)
  have N4 := Fr.snoc X4 N3 (Nat.le_trans Z0 (Nat.le_of_eq g1.symm))
  have Vc5 := V4
  obtain ⟨cl5, Ar5, q5, S5, M5, H5, G5⟩ := Vc5
  have hin5 : ¬ ((3 : Int32) < 0 ∨ cl5.slots.size ≤ ((3 : Int32)).toNatClampNeg) := inb_of S5 ⟨by decide, by decide⟩
  obtain ⟨T5, h5, X5, e5, W5, st5⟩ := stD X4 hx hZ e4 Ar5 (j := (3 : Int32)) hin5 (g := (mkF m 150 #[.val (.long tp), .second, .val (.int md), .val (.int lw), .val (.int fl), .val (.int kk), .val (.long m1), .second, .val (.long m0), .second, .val (.long m2), .second, .val (.long z0), .second, .val (.long z1), .second, .val (.long z2), .second, .val (.double jk), .second, .val (.ref b1), .unset, .unset, .unset] [(.double jk), (.int (3 : Int32)), (.ref b1)])) rfl rfl (hb hby at_150)
  have V5 : Arv Z h5 b1 k1 .double (4 : Int32) [(.double jk), (.double jk), (.double jk), (.double jk)] (.double 0) := Arv.set Ar5 q5 S5 M5 H5 G5 rfl W5 3 rfl (Nat.le_of_ble_eq_true rfl)
  have N5 := Fr.snoc X5 N4 (Nat.le_trans Z0 (Nat.le_of_eq g1.symm))
  obtain ⟨_, _, ⟨T6, L6, k6, n6⟩, -, X6, ⟨Lc6, hQ6, l6, y6, z6⟩, st6⟩ := Jvm.LawKit.callS X5 hx (y := (⟨"com/example/crestwatch/crestwatch/core/ExactSum", "rounded", "([DI)D"⟩ : MethodName)) hown (mvT hZ (hw _ (List.mem_of_getElem? (i := 4) rfl))) (mvT hZ (hw _ (List.mem_of_getElem? (i := 5) rfl))) (mvT hZ (hw _ (List.mem_of_getElem? (i := 6) rfl))) (mvT hZ (hw _ (List.mem_of_getElem? (i := 7) rfl))) (by decide) (backOf (W := 0) (rd_0 l Z a0 hw [] b1 k1 jk jk jk jk ((0 : Int64).toInt) h5 n0 (Nat.le_trans (Nat.le_trans (Nat.le_trans (Nat.le_trans (Nat.le_trans Z0 E1.1) (Keep.of_wr W2).1) (Keep.of_wr W3).1) (Keep.of_wr W4).1) (Keep.of_wr W5).1) V5 l0.symm) hZ (hw _ (List.mem_of_getElem? (i := 7) rfl)) (hw _ (List.mem_of_getElem? (i := 6) rfl)) (by decide) (by decide)) (g := (mkF m 236 #[.val (.long tp), .second, .val (.int md), .val (.int lw), .val (.int fl), .val (.int kk), .val (.long m1), .second, .val (.long m0), .second, .val (.long m2), .second, .val (.long z0), .second, .val (.long z1), .second, .val (.long z2), .second, .val (.double jk), .second, .val (.ref b1), .val (.int (0 : Int32)), .val (.long (0 : Int64)), .second] [(.int (0 : Int32)), (.ref b1)])) rfl (by rw [hml]; rfl) (argsL := [(.ref b1), (.int (0 : Int32))]) (rest := []) (lenOf pd_0 rfl) rfl (by show 2 * 0 + _ ≤ _; exact Nat.le_of_eq rfl) (hb hby at_236) (fun _ _ => ⟨rfl, e5, (by decide : 1 + 0 ≤ _), (by decide : 4 + 0 ≤ _)⟩)
  dsimp only [Pt.U, Pt.locs, Pt.cells, Pt.slots] at X6 l6 y6 z6 st6 hQ6
  subst l6 y6 z6
  obtain ⟨res_6, rfl, Nq6, e6, Pq6_0⟩ := hQ6
  have N6 := Fr.app N5 Nq6
  obtain ⟨fs, hr, hrun, hended, hW, hsame⟩ := X6.leave (v := some (.int (1 : Int32))) (fun h => by rw [Bd.returns] at h; cases h)
  refine ⟨_, _, pre0 _ ?_, hrun, hended, _, _, rfl, ?_, ⟨_, rfl⟩, hW, hsame.mono (by decide) (by decide)⟩
  · show Steps p.tables e below (s₁.setTop (mkF m 0 #[.val (.long tp), .second, .val (.int md), .val (.int lw), .val (.int fl), .unset, .unset, .unset, .unset, .unset, .unset, .unset, .unset, .unset, .unset, .unset, .unset, .unset, .unset, .unset, .unset, .unset, .unset, .unset] [])) _
    refine stp _ ?_
    show Steps p.tables e below (s₁.setTop (mkF m 122 #[.val (.long tp), .second, .val (.int md), .val (.int lw), .val (.int fl), .val (.int kk), .val (.long m1), .second, .val (.long m0), .second, .val (.long m2), .second, .val (.long z0), .second, .val (.long z1), .second, .val (.long z2), .second, .val (.double jk), .second, .unset, .unset, .unset, .unset] [])) _
    refine XS.iconst X0.here hx rfl (hb hby at_122) ?_
    show Steps p.tables e below (s₁.setTop (mkF m 123 #[.val (.long tp), .second, .val (.int md), .val (.int lw), .val (.int fl), .val (.int kk), .val (.long m1), .second, .val (.long m0), .second, .val (.long m2), .second, .val (.long z0), .second, .val (.long z1), .second, .val (.long z2), .second, .val (.double jk), .second, .unset, .unset, .unset, .unset] [(.int (4 : Int32))])) _
    refine st1 _ ?_
    show Steps p.tables e below (T1.setTop (mkF m 125 #[.val (.long tp), .second, .val (.int md), .val (.int lw), .val (.int fl), .val (.int kk), .val (.long m1), .second, .val (.long m0), .second, .val (.long m2), .second, .val (.long z0), .second, .val (.long z1), .second, .val (.long z2), .second, .val (.double jk), .second, .unset, .unset, .unset, .unset] [(.ref b1)])) _
    refine XS.astore X1.here hx rfl (hb hby at_125) rfl rfl (l' := #[.val (.long tp), .second, .val (.int md), .val (.int lw), .val (.int fl), .val (.int kk), .val (.long m1), .second, .val (.long m0), .second, .val (.long m2), .second, .val (.long z0), .second, .val (.long z1), .second, .val (.long z2), .second, .val (.double jk), .second, .val (.ref b1), .unset, .unset, .unset]) rfl ?_
    show Steps p.tables e below (T1.setTop (mkF m 127 #[.val (.long tp), .second, .val (.int md), .val (.int lw), .val (.int fl), .val (.int kk), .val (.long m1), .second, .val (.long m0), .second, .val (.long m2), .second, .val (.long z0), .second, .val (.long z1), .second, .val (.long z2), .second, .val (.double jk), .second, .val (.ref b1), .unset, .unset, .unset] [])) _
    refine XS.aload X1.here hx rfl (hb hby at_127) rfl rfl ?_
    show Steps p.tables e below (T1.setTop (mkF m 129 #[.val (.long tp), .second, .val (.int md), .val (.int lw), .val (.int fl), .val (.int kk), .val (.long m1), .second, .val (.long m0), .second, .val (.long m2), .second, .val (.long z0), .second, .val (.long z1), .second, .val (.long z2), .second, .val (.double jk), .second, .val (.ref b1), .unset, .unset, .unset] [(.ref b1)])) _
    refine XS.iconst X1.here hx rfl (hb hby at_129) ?_
    show Steps p.tables e below (T1.setTop (mkF m 130 #[.val (.long tp), .second, .val (.int md), .val (.int lw), .val (.int fl), .val (.int kk), .val (.long m1), .second, .val (.long m0), .second, .val (.long m2), .second, .val (.long z0), .second, .val (.long z1), .second, .val (.long z2), .second, .val (.double jk), .second, .val (.ref b1), .unset, .unset, .unset] [(.int (0 : Int32)), (.ref b1)])) _
    refine XS.dload X1.here hx rfl (hb hby at_130) rfl ?_
    show Steps p.tables e below (T1.setTop (mkF m 132 #[.val (.long tp), .second, .val (.int md), .val (.int lw), .val (.int fl), .val (.int kk), .val (.long m1), .second, .val (.long m0), .second, .val (.long m2), .second, .val (.long z0), .second, .val (.long z1), .second, .val (.long z2), .second, .val (.double jk), .second, .val (.ref b1), .unset, .unset, .unset] [(.double jk), (.int (0 : Int32)), (.ref b1)])) _
    refine st2 _ ?_
    show Steps p.tables e below (T2.setTop (mkF m 133 #[.val (.long tp), .second, .val (.int md), .val (.int lw), .val (.int fl), .val (.int kk), .val (.long m1), .second, .val (.long m0), .second, .val (.long m2), .second, .val (.long z0), .second, .val (.long z1), .second, .val (.long z2), .second, .val (.double jk), .second, .val (.ref b1), .unset, .unset, .unset] [])) _
    refine XS.aload X2.here hx rfl (hb hby at_133) rfl rfl ?_
    show Steps p.tables e below (T2.setTop (mkF m 135 #[.val (.long tp), .second, .val (.int md), .val (.int lw), .val (.int fl), .val (.int kk), .val (.long m1), .second, .val (.long m0), .second, .val (.long m2), .second, .val (.long z0), .second, .val (.long z1), .second, .val (.long z2), .second, .val (.double jk), .second, .val (.ref b1), .unset, .unset, .unset] [(.ref b1)])) _
    refine XS.iconst X2.here hx rfl (hb hby at_135) ?_
    show Steps p.tables e below (T2.setTop (mkF m 136 #[.val (.long tp), .second, .val (.int md), .val (.int lw), .val (.int fl), .val (.int kk), .val (.long m1), .second, .val (.long m0), .second, .val (.long m2), .second, .val (.long z0), .second, .val (.long z1), .second, .val (.long z2), .second, .val (.double jk), .second, .val (.ref b1), .unset, .unset, .unset] [(.int (1 : Int32)), (.ref b1)])) _
    refine XS.dload X2.here hx rfl (hb hby at_136) rfl ?_
    show Steps p.tables e below (T2.setTop (mkF m 138 #[.val (.long tp), .second, .val (.int md), .val (.int lw), .val (.int fl), .val (.int kk), .val (.long m1), .second, .val (.long m0), .second, .val (.long m2), .second, .val (.long z0), .second, .val (.long z1), .second, .val (.long z2), .second, .val (.double jk), .second, .val (.ref b1), .unset, .unset, .unset] [(.double jk), (.int (1 : Int32)), (.ref b1)])) _
    refine st3 _ ?_
    show Steps p.tables e below (T3.setTop (mkF m 139 #[.val (.long tp), .second, .val (.int md), .val (.int lw), .val (.int fl), .val (.int kk), .val (.long m1), .second, .val (.long m0), .second, .val (.long m2), .second, .val (.long z0), .second, .val (.long z1), .second, .val (.long z2), .second, .val (.double jk), .second, .val (.ref b1), .unset, .unset, .unset] [])) _
    refine XS.aload X3.here hx rfl (hb hby at_139) rfl rfl ?_
    show Steps p.tables e below (T3.setTop (mkF m 141 #[.val (.long tp), .second, .val (.int md), .val (.int lw), .val (.int fl), .val (.int kk), .val (.long m1), .second, .val (.long m0), .second, .val (.long m2), .second, .val (.long z0), .second, .val (.long z1), .second, .val (.long z2), .second, .val (.double jk), .second, .val (.ref b1), .unset, .unset, .unset] [(.ref b1)])) _
    refine XS.iconst X3.here hx rfl (hb hby at_141) ?_
    show Steps p.tables e below (T3.setTop (mkF m 142 #[.val (.long tp), .second, .val (.int md), .val (.int lw), .val (.int fl), .val (.int kk), .val (.long m1), .second, .val (.long m0), .second, .val (.long m2), .second, .val (.long z0), .second, .val (.long z1), .second, .val (.long z2), .second, .val (.double jk), .second, .val (.ref b1), .unset, .unset, .unset] [(.int (2 : Int32)), (.ref b1)])) _
    refine XS.dload X3.here hx rfl (hb hby at_142) rfl ?_
    show Steps p.tables e below (T3.setTop (mkF m 144 #[.val (.long tp), .second, .val (.int md), .val (.int lw), .val (.int fl), .val (.int kk), .val (.long m1), .second, .val (.long m0), .second, .val (.long m2), .second, .val (.long z0), .second, .val (.long z1), .second, .val (.long z2), .second, .val (.double jk), .second, .val (.ref b1), .unset, .unset, .unset] [(.double jk), (.int (2 : Int32)), (.ref b1)])) _
    refine st4 _ ?_
    show Steps p.tables e below (T4.setTop (mkF m 145 #[.val (.long tp), .second, .val (.int md), .val (.int lw), .val (.int fl), .val (.int kk), .val (.long m1), .second, .val (.long m0), .second, .val (.long m2), .second, .val (.long z0), .second, .val (.long z1), .second, .val (.long z2), .second, .val (.double jk), .second, .val (.ref b1), .unset, .unset, .unset] [])) _
    refine XS.aload X4.here hx rfl (hb hby at_145) rfl rfl ?_
    show Steps p.tables e below (T4.setTop (mkF m 147 #[.val (.long tp), .second, .val (.int md), .val (.int lw), .val (.int fl), .val (.int kk), .val (.long m1), .second, .val (.long m0), .second, .val (.long m2), .second, .val (.long z0), .second, .val (.long z1), .second, .val (.long z2), .second, .val (.double jk), .second, .val (.ref b1), .unset, .unset, .unset] [(.ref b1)])) _
    refine XS.iconst X4.here hx rfl (hb hby at_147) ?_
    show Steps p.tables e below (T4.setTop (mkF m 148 #[.val (.long tp), .second, .val (.int md), .val (.int lw), .val (.int fl), .val (.int kk), .val (.long m1), .second, .val (.long m0), .second, .val (.long m2), .second, .val (.long z0), .second, .val (.long z1), .second, .val (.long z2), .second, .val (.double jk), .second, .val (.ref b1), .unset, .unset, .unset] [(.int (3 : Int32)), (.ref b1)])) _
    refine XS.dload X4.here hx rfl (hb hby at_148) rfl ?_
    show Steps p.tables e below (T4.setTop (mkF m 150 #[.val (.long tp), .second, .val (.int md), .val (.int lw), .val (.int fl), .val (.int kk), .val (.long m1), .second, .val (.long m0), .second, .val (.long m2), .second, .val (.long z0), .second, .val (.long z1), .second, .val (.long z2), .second, .val (.double jk), .second, .val (.ref b1), .unset, .unset, .unset] [(.double jk), (.int (3 : Int32)), (.ref b1)])) _
    refine st5 _ ?_
    show Steps p.tables e below (T5.setTop (mkF m 151 #[.val (.long tp), .second, .val (.int md), .val (.int lw), .val (.int fl), .val (.int kk), .val (.long m1), .second, .val (.long m0), .second, .val (.long m2), .second, .val (.long z0), .second, .val (.long z1), .second, .val (.long z2), .second, .val (.double jk), .second, .val (.ref b1), .unset, .unset, .unset] [])) _
    refine XS.iconst X5.here hx rfl (hb hby at_151) ?_
    show Steps p.tables e below (T5.setTop (mkF m 152 #[.val (.long tp), .second, .val (.int md), .val (.int lw), .val (.int fl), .val (.int kk), .val (.long m1), .second, .val (.long m0), .second, .val (.long m2), .second, .val (.long z0), .second, .val (.long z1), .second, .val (.long z2), .second, .val (.double jk), .second, .val (.ref b1), .unset, .unset, .unset] [(.int (0 : Int32))])) _
    refine XS.istore X5.here hx rfl (hb hby at_152) rfl (l' := #[.val (.long tp), .second, .val (.int md), .val (.int lw), .val (.int fl), .val (.int kk), .val (.long m1), .second, .val (.long m0), .second, .val (.long m2), .second, .val (.long z0), .second, .val (.long z1), .second, .val (.long z2), .second, .val (.double jk), .second, .val (.ref b1), .val (.int (0 : Int32)), .unset, .unset]) rfl ?_
    show Steps p.tables e below (T5.setTop (mkF m 154 #[.val (.long tp), .second, .val (.int md), .val (.int lw), .val (.int fl), .val (.int kk), .val (.long m1), .second, .val (.long m0), .second, .val (.long m2), .second, .val (.long z0), .second, .val (.long z1), .second, .val (.long z2), .second, .val (.double jk), .second, .val (.ref b1), .val (.int (0 : Int32)), .unset, .unset] [])) _
    refine XS.lconst X5.here hx rfl (hb hby at_154) ?_
    show Steps p.tables e below (T5.setTop (mkF m 155 #[.val (.long tp), .second, .val (.int md), .val (.int lw), .val (.int fl), .val (.int kk), .val (.long m1), .second, .val (.long m0), .second, .val (.long m2), .second, .val (.long z0), .second, .val (.long z1), .second, .val (.long z2), .second, .val (.double jk), .second, .val (.ref b1), .val (.int (0 : Int32)), .unset, .unset] [(.long (0 : Int64))])) _
    refine XS.lstore X5.here hx rfl (hb hby at_155) rfl (l' := #[.val (.long tp), .second, .val (.int md), .val (.int lw), .val (.int fl), .val (.int kk), .val (.long m1), .second, .val (.long m0), .second, .val (.long m2), .second, .val (.long z0), .second, .val (.long z1), .second, .val (.long z2), .second, .val (.double jk), .second, .val (.ref b1), .val (.int (0 : Int32)), .val (.long (0 : Int64)), .second]) rfl ?_
    show Steps p.tables e below (T5.setTop (mkF m 157 #[.val (.long tp), .second, .val (.int md), .val (.int lw), .val (.int fl), .val (.int kk), .val (.long m1), .second, .val (.long m0), .second, .val (.long m2), .second, .val (.long z0), .second, .val (.long z1), .second, .val (.long z2), .second, .val (.double jk), .second, .val (.ref b1), .val (.int (0 : Int32)), .val (.long (0 : Int64)), .second] [])) _
    refine XS.iload X5.here hx rfl (hb hby at_157) rfl ?_
    show Steps p.tables e below (T5.setTop (mkF m 159 #[.val (.long tp), .second, .val (.int md), .val (.int lw), .val (.int fl), .val (.int kk), .val (.long m1), .second, .val (.long m0), .second, .val (.long m2), .second, .val (.long z0), .second, .val (.long z1), .second, .val (.long z2), .second, .val (.double jk), .second, .val (.ref b1), .val (.int (0 : Int32)), .val (.long (0 : Int64)), .second] [(.int fl)])) _
    refine XS.iconst X5.here hx rfl (hb hby at_159) ?_
    show Steps p.tables e below (T5.setTop (mkF m 160 #[.val (.long tp), .second, .val (.int md), .val (.int lw), .val (.int fl), .val (.int kk), .val (.long m1), .second, .val (.long m0), .second, .val (.long m2), .second, .val (.long z0), .second, .val (.long z1), .second, .val (.long z2), .second, .val (.double jk), .second, .val (.ref b1), .val (.int (0 : Int32)), .val (.long (0 : Int64)), .second] [(.int (1 : Int32)), (.int fl)])) _
    refine XS.iand X5.here hx rfl (hb hby at_160) rfl ?_
    show Steps p.tables e below (T5.setTop (mkF m 161 #[.val (.long tp), .second, .val (.int md), .val (.int lw), .val (.int fl), .val (.int kk), .val (.long m1), .second, .val (.long m0), .second, .val (.long m2), .second, .val (.long z0), .second, .val (.long z1), .second, .val (.long z2), .second, .val (.double jk), .second, .val (.ref b1), .val (.int (0 : Int32)), .val (.long (0 : Int64)), .second] [(.int (fl &&& (1 : Int32)))])) _
    refine XS.ifYes X5.here hx rfl (pc0 := 161) (pc' := 182) rfl (hb hby at_161) rfl ((if0 _ _).trans (teq hc161).1) (by decide) (by decide) ?_
    show Steps p.tables e below (T5.setTop (mkF m 182 #[.val (.long tp), .second, .val (.int md), .val (.int lw), .val (.int fl), .val (.int kk), .val (.long m1), .second, .val (.long m0), .second, .val (.long m2), .second, .val (.long z0), .second, .val (.long z1), .second, .val (.long z2), .second, .val (.double jk), .second, .val (.ref b1), .val (.int (0 : Int32)), .val (.long (0 : Int64)), .second] [])) _
    refine XS.iload X5.here hx rfl (hb hby at_182) rfl ?_
    show Steps p.tables e below (T5.setTop (mkF m 184 #[.val (.long tp), .second, .val (.int md), .val (.int lw), .val (.int fl), .val (.int kk), .val (.long m1), .second, .val (.long m0), .second, .val (.long m2), .second, .val (.long z0), .second, .val (.long z1), .second, .val (.long z2), .second, .val (.double jk), .second, .val (.ref b1), .val (.int (0 : Int32)), .val (.long (0 : Int64)), .second] [(.int fl)])) _
    refine XS.iconst X5.here hx rfl (hb hby at_184) ?_
    show Steps p.tables e below (T5.setTop (mkF m 185 #[.val (.long tp), .second, .val (.int md), .val (.int lw), .val (.int fl), .val (.int kk), .val (.long m1), .second, .val (.long m0), .second, .val (.long m2), .second, .val (.long z0), .second, .val (.long z1), .second, .val (.long z2), .second, .val (.double jk), .second, .val (.ref b1), .val (.int (0 : Int32)), .val (.long (0 : Int64)), .second] [(.int (2 : Int32)), (.int fl)])) _
    refine XS.iand X5.here hx rfl (hb hby at_185) rfl ?_
    show Steps p.tables e below (T5.setTop (mkF m 186 #[.val (.long tp), .second, .val (.int md), .val (.int lw), .val (.int fl), .val (.int kk), .val (.long m1), .second, .val (.long m0), .second, .val (.long m2), .second, .val (.long z0), .second, .val (.long z1), .second, .val (.long z2), .second, .val (.double jk), .second, .val (.ref b1), .val (.int (0 : Int32)), .val (.long (0 : Int64)), .second] [(.int (fl &&& (2 : Int32)))])) _
    refine XS.ifYes X5.here hx rfl (pc0 := 186) (pc' := 207) rfl (hb hby at_186) rfl ((if0 _ _).trans (teq hc186).1) (by decide) (by decide) ?_
    show Steps p.tables e below (T5.setTop (mkF m 207 #[.val (.long tp), .second, .val (.int md), .val (.int lw), .val (.int fl), .val (.int kk), .val (.long m1), .second, .val (.long m0), .second, .val (.long m2), .second, .val (.long z0), .second, .val (.long z1), .second, .val (.long z2), .second, .val (.double jk), .second, .val (.ref b1), .val (.int (0 : Int32)), .val (.long (0 : Int64)), .second] [])) _
    refine XS.iload X5.here hx rfl (hb hby at_207) rfl ?_
    show Steps p.tables e below (T5.setTop (mkF m 209 #[.val (.long tp), .second, .val (.int md), .val (.int lw), .val (.int fl), .val (.int kk), .val (.long m1), .second, .val (.long m0), .second, .val (.long m2), .second, .val (.long z0), .second, .val (.long z1), .second, .val (.long z2), .second, .val (.double jk), .second, .val (.ref b1), .val (.int (0 : Int32)), .val (.long (0 : Int64)), .second] [(.int fl)])) _
    refine XS.iconst X5.here hx rfl (hb hby at_209) ?_
    show Steps p.tables e below (T5.setTop (mkF m 210 #[.val (.long tp), .second, .val (.int md), .val (.int lw), .val (.int fl), .val (.int kk), .val (.long m1), .second, .val (.long m0), .second, .val (.long m2), .second, .val (.long z0), .second, .val (.long z1), .second, .val (.long z2), .second, .val (.double jk), .second, .val (.ref b1), .val (.int (0 : Int32)), .val (.long (0 : Int64)), .second] [(.int (4 : Int32)), (.int fl)])) _
    refine XS.iand X5.here hx rfl (hb hby at_210) rfl ?_
    show Steps p.tables e below (T5.setTop (mkF m 211 #[.val (.long tp), .second, .val (.int md), .val (.int lw), .val (.int fl), .val (.int kk), .val (.long m1), .second, .val (.long m0), .second, .val (.long m2), .second, .val (.long z0), .second, .val (.long z1), .second, .val (.long z2), .second, .val (.double jk), .second, .val (.ref b1), .val (.int (0 : Int32)), .val (.long (0 : Int64)), .second] [(.int (fl &&& (4 : Int32)))])) _
    refine XS.ifYes X5.here hx rfl (pc0 := 211) (pc' := 232) rfl (hb hby at_211) rfl ((if0 _ _).trans (teq hc211).1) (by decide) (by decide) ?_
    show Steps p.tables e below (T5.setTop (mkF m 232 #[.val (.long tp), .second, .val (.int md), .val (.int lw), .val (.int fl), .val (.int kk), .val (.long m1), .second, .val (.long m0), .second, .val (.long m2), .second, .val (.long z0), .second, .val (.long z1), .second, .val (.long z2), .second, .val (.double jk), .second, .val (.ref b1), .val (.int (0 : Int32)), .val (.long (0 : Int64)), .second] [])) _
    refine XS.aload X5.here hx rfl (hb hby at_232) rfl rfl ?_
    show Steps p.tables e below (T5.setTop (mkF m 234 #[.val (.long tp), .second, .val (.int md), .val (.int lw), .val (.int fl), .val (.int kk), .val (.long m1), .second, .val (.long m0), .second, .val (.long m2), .second, .val (.long z0), .second, .val (.long z1), .second, .val (.long z2), .second, .val (.double jk), .second, .val (.ref b1), .val (.int (0 : Int32)), .val (.long (0 : Int64)), .second] [(.ref b1)])) _
    refine XS.iload X5.here hx rfl (hb hby at_234) rfl ?_
    show Steps p.tables e below (T5.setTop (mkF m 236 #[.val (.long tp), .second, .val (.int md), .val (.int lw), .val (.int fl), .val (.int kk), .val (.long m1), .second, .val (.long m0), .second, .val (.long m2), .second, .val (.long z0), .second, .val (.long z1), .second, .val (.long z2), .second, .val (.double jk), .second, .val (.ref b1), .val (.int (0 : Int32)), .val (.long (0 : Int64)), .second] [(.int (0 : Int32)), (.ref b1)])) _
    refine st6 _ ?_
    show Steps p.tables e below (T6.setTop (mkF m 239 #[.val (.long tp), .second, .val (.int md), .val (.int lw), .val (.int fl), .val (.int kk), .val (.long m1), .second, .val (.long m0), .second, .val (.long m2), .second, .val (.long z0), .second, .val (.long z1), .second, .val (.long z2), .second, .val (.double jk), .second, .val (.ref b1), .val (.int (0 : Int32)), .val (.long (0 : Int64)), .second] [(.double res_6)])) _
    refine XS.lload X6.here hx rfl (hb hby at_239) rfl ?_
    show Steps p.tables e below (T6.setTop (mkF m 241 #[.val (.long tp), .second, .val (.int md), .val (.int lw), .val (.int fl), .val (.int kk), .val (.long m1), .second, .val (.long m0), .second, .val (.long m2), .second, .val (.long z0), .second, .val (.long z1), .second, .val (.long z2), .second, .val (.double jk), .second, .val (.ref b1), .val (.int (0 : Int32)), .val (.long (0 : Int64)), .second] [(.long (0 : Int64)), (.double res_6)])) _
    refine XS.l2dS X6.here hx rfl (hb hby at_241) rfl rfl ?_
    show Steps p.tables e below (T6.setTop (mkF m 242 #[.val (.long tp), .second, .val (.int md), .val (.int lw), .val (.int fl), .val (.int kk), .val (.long m1), .second, .val (.long m0), .second, .val (.long m2), .second, .val (.long z0), .second, .val (.long z1), .second, .val (.long z2), .second, .val (.double jk), .second, .val (.ref b1), .val (.int (0 : Int32)), .val (.long (0 : Int64)), .second] [(.double (FP.l2d (0 : Int64))), (.double res_6)])) _
    refine XS.dcmpS X6.here hx rfl (hb hby at_242) rfl (v := (0 : Int32)) ((own_eq Pq6_0 (own_l2d (by omega)) .l).mpr rfl) ?_
    show Steps p.tables e below (T6.setTop (mkF m 243 #[.val (.long tp), .second, .val (.int md), .val (.int lw), .val (.int fl), .val (.int kk), .val (.long m1), .second, .val (.long m0), .second, .val (.long m2), .second, .val (.long z0), .second, .val (.long z1), .second, .val (.long z2), .second, .val (.double jk), .second, .val (.ref b1), .val (.int (0 : Int32)), .val (.long (0 : Int64)), .second] [(.int (0 : Int32))])) _
    refine XS.ifNo X6.here hx rfl (hb hby at_243) rfl ((if0 _ _).trans (teq (rfl : (0 : Int32) = (0 : Int32))).2) ?_
    show Steps p.tables e below (T6.setTop (mkF m 246 #[.val (.long tp), .second, .val (.int md), .val (.int lw), .val (.int fl), .val (.int kk), .val (.long m1), .second, .val (.long m0), .second, .val (.long m2), .second, .val (.long z0), .second, .val (.long z1), .second, .val (.long z2), .second, .val (.double jk), .second, .val (.ref b1), .val (.int (0 : Int32)), .val (.long (0 : Int64)), .second] [])) _
    refine XS.iconst X6.here hx rfl (hb hby at_246) ?_
    show Steps p.tables e below (T6.setTop (mkF m 247 #[.val (.long tp), .second, .val (.int md), .val (.int lw), .val (.int fl), .val (.int kk), .val (.long m1), .second, .val (.long m0), .second, .val (.long m2), .second, .val (.long z0), .second, .val (.long z1), .second, .val (.long z2), .second, .val (.double jk), .second, .val (.ref b1), .val (.int (0 : Int32)), .val (.long (0 : Int64)), .second] [(.int (1 : Int32))])) _
    refine XS.goto X6.here hx rfl (pc0 := 247) (pc' := 251) rfl (hb hby at_247) (by decide) (by decide) ?_
    show Steps p.tables e below (T6.setTop (mkF m 251 #[.val (.long tp), .second, .val (.int md), .val (.int lw), .val (.int fl), .val (.int kk), .val (.long m1), .second, .val (.long m0), .second, .val (.long m2), .second, .val (.long z0), .second, .val (.long z1), .second, .val (.long z2), .second, .val (.double jk), .second, .val (.ref b1), .val (.int (0 : Int32)), .val (.long (0 : Int64)), .second] [(.int (1 : Int32))])) _
    exact retN X6 hx (t := .boolean) Bd.returns (by simp) (hb hby at_251) hr
  · show Q_rm0_0 Z tp md lw fl h0 n0 _ T6.heap _
    rw [e6]
    exact ⟨rfl, N6⟩
def Q_rm0_1 (Z : State) (tp : Int64) (md : Int32) (lw : Int32) (fl : Int32) (h0 : Heap) (n0 : Nat) (v : Option Value) (h : Heap) (L : List Loc) : Prop := v = some (.int (1 : Int32)) ∧ Fr n0 L
theorem ef_rm0_1 (m : MethodId) (tp : Int64) (md : Int32) (lw : Int32) (fl : Int32) : entryFrame m #[(.long tp), (.int md), (.int lw), (.int fl)] maxLocals = mkF m 0 #[.val (.long tp), .second, .val (.int md), .val (.int lw), .val (.int fl), .unset, .unset, .unset, .unset, .unset, .unset, .unset, .unset, .unset, .unset, .unset, .unset, .unset, .unset, .unset, .unset, .unset, .unset, .unset] [] := by first | (simp [entryFrame, mkF, argsToLocals, Value.category, maxLocals]; done) | rfl
set_option maxRecDepth 65536 in
set_option maxHeartbeats 40000000 in
theorem rm0_1 (l : Launch) (Z : State) (a0 : Array Value) (hw : ∀ d ∈ tables_1, d.before a0 Z = true) (ws : List Jvm.Cond) (tp : Int64) (md : Int32) (lw : Int32) (fl : Int32) (h0 : Heap) (n0 : Nat) (Z0 : n0 ≤ h0.size) (hc161 : ¬ ((fl &&& (1 : Int32)) = (0 : Int32))) (hc186 : (fl &&& (2 : Int32)) = (0 : Int32)) (hc211 : (fl &&& (4 : Int32)) = (0 : Int32)) :
    MetFree l x (head1 (Jvm.Cond.code x code maxLocals ret :: ws) room_1) (fun a U => a = #[(.long tp), (.int md), (.int lw), (.int fl)] ∧ Z.Warmed39 U.vm ∧ U.heap = h0) (fun _ _ _ _ _ => True) (fun _ U o U' => ∃ v L, o = .returned v ∧ Q_rm0_1 Z tp md lw fl h0 n0 v U'.heap L ∧ FrameEnd U o U' L room_1.cells room_1.slots) := by
  refine MetFree.of_bodySF (plainFor_of_name pn_1) hisR ?_
  intro p e s m args below meth c s₁ Bd hml0 hP hK
  obtain ⟨rfl, hZ, hh⟩ := hP
  have hx := Bd.exec
  have hby := Bd.bytes
  have hml : c.maxLocals = 24 := hml0
  have hown : s.vm.findClass "com/example/crestwatch/crestwatch/core/ExactSumRoundedPinLaw" = some m.cls := findClass_of_methodNamed Bd.named
  have hnm := (name_of_methodNamed Bd.named Bd.method).1
  have X0 : Stand p l e room_1 s m #[(.long tp), (.int md), (.int lw), (.int fl)] below meth c s₁ [] 0 0 := Stand.of_body Bd
  have e0 : s₁.heap = h0 := by rw [← hh, Bd.state]; rfl
  have N0 := Fr.nil n0
  have pre0 : ∀ t, Steps p.tables e below (s₁.setTop (mkF m 0 #[.val (.long tp), .second, .val (.int md), .val (.int lw), .val (.int fl), .unset, .unset, .unset, .unset, .unset, .unset, .unset, .unset, .unset, .unset, .unset, .unset, .unset, .unset, .unset, .unset, .unset, .unset, .unset] [])) t → Steps p.tables e below (s₁.setTop (entryFrame m #[(.long tp), (.int md), (.int lw), (.int fl)] maxLocals)) t := fun t k => castTop (ef_rm0_1 m tp md lw fl) k
  obtain ⟨kk, m1, m0, m2, z0, z1, z2, jk, K, hP, stp⟩ := own_pre tp md lw fl X0 hx hZ hw hby hown
  obtain ⟨c1, c2, c3, c4, c5, M, c6, c7⟩ := hP
  have b0 : z0.toInt.natAbs < 16 := by have : 2 ^ K ≤ 2 ^ 4 := Nat.pow_le_pow_right (by decide) c1; omega
  have b2 : z2.toInt.natAbs < 2 ^ 61 := by
    rw [c7]
    calc M * 2 ^ (K + 4) < 2 ^ 53 * 2 ^ (K + 4) := Nat.mul_lt_mul_of_pos_right c6 (Nat.two_pow_pos _)
      _ ≤ 2 ^ 53 * 2 ^ 8 := Nat.mul_le_mul_left _ (Nat.pow_le_pow_right (by decide) (by omega))
      _ = 2 ^ 61 := by decide
  have e53 := own_e53
  have e61 := own_e61
  have e63 := own_e63
  have x0 := own_small_exact (p := z0) (by omega)
  have x1 := own_small_exact (p := z1) (by omega)
  have x2 := own_exact (p := z2) ⟨M, _, c6, c7⟩ (by omega)
  have y0 := own_D x0 (by omega)
  have y1 := own_D x1 (by omega)
  have y2 := own_D x2 (by omega)
  have l0 : (0 : Int64).toInt = 0 := by decide
  have s0 : ((0 : Int64) + z0).toInt = z0.toInt := by have q := own_addL (a := (0 : Int64)) (b := z0) (by omega); omega
  obtain ⟨T1, h1, k1, X1, e1, E1, A1, st1⟩ := newP X0 hx hZ (hw _ (List.mem_of_getElem? (i := 3) rfl)) e0 (g := (mkF m 123 #[.val (.long tp), .second, .val (.int md), .val (.int lw), .val (.int fl), .val (.int kk), .val (.long m1), .second, .val (.long m0), .second, .val (.long m2), .second, .val (.long z0), .second, .val (.long z1), .second, .val (.long z2), .second, .val (.double jk), .second, .unset, .unset, .unset, .unset] [(.int (4 : Int32))])) rfl (hb hby at_123) rfl (by decide) (cap := 4) (by decide) (by decide) (by decide) (by decide)
  obtain ⟨b1, g1⟩ : ∃ z, z = h0.size := ⟨_, rfl⟩
  rw [← g1] at A1 st1
  have V1 : Arv Z h1 b1 k1 .double (4 : Int32) [(.double 0), (.double 0), (.double 0), (.double 0)] (.double 0) := (Arv.new A1 (by decide)).pad (pad_rep [] (.double 0) 4)
  have Vc2 := V1
  obtain ⟨cl2, Ar2, q2, S2, M2, H2, G2⟩ := Vc2
  have hin2 : ¬ ((0 : Int32) < 0 ∨ cl2.slots.size ≤ ((0 : Int32)).toNatClampNeg) := inb_of S2 ⟨by decide, by decide⟩
  obtain ⟨T2, h2, X2, e2, W2, st2⟩ := stD X1 hx hZ e1 Ar2 (j := (0 : Int32)) hin2 (g := (mkF m 132 #[.val (.long tp), .second, .val (.int md), .val (.int lw), .val (.int fl), .val (.int kk), .val (.long m1), .second, .val (.long m0), .second, .val (.long m2), .second, .val (.long z0), .second, .val (.long z1), .second, .val (.long z2), .second, .val (.double jk), .second, .val (.ref b1), .unset, .unset, .unset] [(.double jk), (.int (0 : Int32)), (.ref b1)])) rfl rfl (hb hby at_132)
  have V2 : Arv Z h2 b1 k1 .double (4 : Int32) [(.double jk), (.double 0), (.double 0), (.double 0)] (.double 0) := Arv.set Ar2 q2 S2 M2 H2 G2 rfl W2 0 rfl (Nat.le_of_ble_eq_true rfl)
  have N2 := Fr.snoc X2 N0 (Nat.le_trans Z0 (Nat.le_of_eq g1.symm))
  have Vc3 := V2
  obtain ⟨cl3, Ar3, q3, S3, M3, H3, G3⟩ := Vc3
  have hin3 : ¬ ((1 : Int32) < 0 ∨ cl3.slots.size ≤ ((1 : Int32)).toNatClampNeg) := inb_of S3 ⟨by decide, by decide⟩
  obtain ⟨T3, h3, X3, e3, W3, st3⟩ := stD X2 hx hZ e2 Ar3 (j := (1 : Int32)) hin3 (g := (mkF m 138 #[.val (.long tp), .second, .val (.int md), .val (.int lw), .val (.int fl), .val (.int kk), .val (.long m1), .second, .val (.long m0), .second, .val (.long m2), .second, .val (.long z0), .second, .val (.long z1), .second, .val (.long z2), .second, .val (.double jk), .second, .val (.ref b1), .unset, .unset, .unset] [(.double jk), (.int (1 : Int32)), (.ref b1)])) rfl rfl (hb hby at_138)
  have V3 : Arv Z h3 b1 k1 .double (4 : Int32) [(.double jk), (.double jk), (.double 0), (.double 0)] (.double 0) := Arv.set Ar3 q3 S3 M3 H3 G3 rfl W3 1 rfl (Nat.le_of_ble_eq_true rfl)
  have N3 := Fr.snoc X3 N2 (Nat.le_trans Z0 (Nat.le_of_eq g1.symm))
  have Vc4 := V3
  obtain ⟨cl4, Ar4, q4, S4, M4, H4, G4⟩ := Vc4
  have hin4 : ¬ ((2 : Int32) < 0 ∨ cl4.slots.size ≤ ((2 : Int32)).toNatClampNeg) := inb_of S4 ⟨by decide, by decide⟩
  obtain ⟨T4, h4, X4, e4, W4, st4⟩ := stD X3 hx hZ e3 Ar4 (j := (2 : Int32)) hin4 (g := (mkF m 144 #[.val (.long tp), .second, .val (.int md), .val (.int lw), .val (.int fl), .val (.int kk), .val (.long m1), .second, .val (.long m0), .second, .val (.long m2), .second, .val (.long z0), .second, .val (.long z1), .second, .val (.long z2), .second, .val (.double jk), .second, .val (.ref b1), .unset, .unset, .unset] [(.double jk), (.int (2 : Int32)), (.ref b1)])) rfl rfl (hb hby at_144)
  have V4 : Arv Z h4 b1 k1 .double (4 : Int32) [(.double jk), (.double jk), (.double jk), (.double 0)] (.double 0) := Arv.set Ar4 q4 S4 M4 H4 G4 rfl W4 2 rfl (Nat.le_of_ble_eq_true rfl)
  have N4 := Fr.snoc X4 N3 (Nat.le_trans Z0 (Nat.le_of_eq g1.symm))
  have Vc5 := V4
  obtain ⟨cl5, Ar5, q5, S5, M5, H5, G5⟩ := Vc5
  have hin5 : ¬ ((3 : Int32) < 0 ∨ cl5.slots.size ≤ ((3 : Int32)).toNatClampNeg) := inb_of S5 ⟨by decide, by decide⟩
  obtain ⟨T5, h5, X5, e5, W5, st5⟩ := stD X4 hx hZ e4 Ar5 (j := (3 : Int32)) hin5 (g := (mkF m 150 #[.val (.long tp), .second, .val (.int md), .val (.int lw), .val (.int fl), .val (.int kk), .val (.long m1), .second, .val (.long m0), .second, .val (.long m2), .second, .val (.long z0), .second, .val (.long z1), .second, .val (.long z2), .second, .val (.double jk), .second, .val (.ref b1), .unset, .unset, .unset] [(.double jk), (.int (3 : Int32)), (.ref b1)])) rfl rfl (hb hby at_150)
  have V5 : Arv Z h5 b1 k1 .double (4 : Int32) [(.double jk), (.double jk), (.double jk), (.double jk)] (.double 0) := Arv.set Ar5 q5 S5 M5 H5 G5 rfl W5 3 rfl (Nat.le_of_ble_eq_true rfl)
  have N5 := Fr.snoc X5 N4 (Nat.le_trans Z0 (Nat.le_of_eq g1.symm))
  have Vc6 := V5
  obtain ⟨cl6, Ar6, q6, S6, M6, H6, G6⟩ := Vc6
  have hin6 : ¬ ((0 : Int32) < 0 ∨ cl6.slots.size ≤ ((0 : Int32)).toNatClampNeg) := inb_of S6 ⟨by decide, by decide⟩
  obtain ⟨T6, h6, X6, e6, W6, st6⟩ := stD X5 hx hZ e5 Ar6 (j := (0 : Int32)) hin6 (g := (mkF m 171 #[.val (.long tp), .second, .val (.int md), .val (.int lw), .val (.int fl), .val (.int kk), .val (.long m1), .second, .val (.long m0), .second, .val (.long m2), .second, .val (.long z0), .second, .val (.long z1), .second, .val (.long z2), .second, .val (.double jk), .second, .val (.ref b1), .val (.int (0 : Int32)), .val (.long (0 : Int64)), .second] [(.double (FP.l2d z0)), (.int (0 : Int32)), (.ref b1)])) rfl rfl (hb hby at_171)
  have V6 : Arv Z h6 b1 k1 .double (4 : Int32) [(.double (FP.l2d z0)), (.double jk), (.double jk), (.double jk)] (.double 0) := Arv.set Ar6 q6 S6 M6 H6 G6 rfl W6 0 rfl (Nat.le_of_ble_eq_true rfl)
  have N6 := Fr.snoc X6 N5 (Nat.le_trans Z0 (Nat.le_of_eq g1.symm))
  obtain ⟨_, _, ⟨T7, L7, k7, n7⟩, -, X7, ⟨Lc7, hQ7, l7, y7, z7⟩, st7⟩ := Jvm.LawKit.callS X6 hx (y := (⟨"com/example/crestwatch/crestwatch/core/ExactSum", "rounded", "([DI)D"⟩ : MethodName)) hown (mvT hZ (hw _ (List.mem_of_getElem? (i := 4) rfl))) (mvT hZ (hw _ (List.mem_of_getElem? (i := 5) rfl))) (mvT hZ (hw _ (List.mem_of_getElem? (i := 6) rfl))) (mvT hZ (hw _ (List.mem_of_getElem? (i := 7) rfl))) (by decide) (backOf (W := 0) (rd_1 l Z a0 hw [] b1 k1 (FP.l2d z0) jk jk jk (((0 : Int64) + z0).toInt) h6 n0 (Nat.le_trans (Nat.le_trans (Nat.le_trans (Nat.le_trans (Nat.le_trans (Nat.le_trans Z0 E1.1) (Keep.of_wr W2).1) (Keep.of_wr W3).1) (Keep.of_wr W4).1) (Keep.of_wr W5).1) (Keep.of_wr W6).1) V6 (by rw [s0, x0]; exact y0)) hZ (hw _ (List.mem_of_getElem? (i := 7) rfl)) (hw _ (List.mem_of_getElem? (i := 6) rfl)) (by decide) (by decide)) (g := (mkF m 236 #[.val (.long tp), .second, .val (.int md), .val (.int lw), .val (.int fl), .val (.int kk), .val (.long m1), .second, .val (.long m0), .second, .val (.long m2), .second, .val (.long z0), .second, .val (.long z1), .second, .val (.long z2), .second, .val (.double jk), .second, .val (.ref b1), .val (.int (1 : Int32)), .val (.long ((0 : Int64) + z0)), .second] [(.int (1 : Int32)), (.ref b1)])) rfl (by rw [hml]; rfl) (argsL := [(.ref b1), (.int (1 : Int32))]) (rest := []) (lenOf pd_0 rfl) rfl (by show 2 * 0 + _ ≤ _; exact Nat.le_of_eq rfl) (hb hby at_236) (fun _ _ => ⟨rfl, e6, (by decide : 1 + 0 ≤ _), (by decide : 4 + 0 ≤ _)⟩)
  dsimp only [Pt.U, Pt.locs, Pt.cells, Pt.slots] at X7 l7 y7 z7 st7 hQ7
  subst l7 y7 z7
  obtain ⟨res_7, rfl, Nq7, e7, Pq7_0⟩ := hQ7
  have N7 := Fr.app N6 Nq7
  obtain ⟨fs, hr, hrun, hended, hW, hsame⟩ := X7.leave (v := some (.int (1 : Int32))) (fun h => by rw [Bd.returns] at h; cases h)
  refine ⟨_, _, pre0 _ ?_, hrun, hended, _, _, rfl, ?_, ⟨_, rfl⟩, hW, hsame.mono (by decide) (by decide)⟩
  · show Steps p.tables e below (s₁.setTop (mkF m 0 #[.val (.long tp), .second, .val (.int md), .val (.int lw), .val (.int fl), .unset, .unset, .unset, .unset, .unset, .unset, .unset, .unset, .unset, .unset, .unset, .unset, .unset, .unset, .unset, .unset, .unset, .unset, .unset] [])) _
    refine stp _ ?_
    show Steps p.tables e below (s₁.setTop (mkF m 122 #[.val (.long tp), .second, .val (.int md), .val (.int lw), .val (.int fl), .val (.int kk), .val (.long m1), .second, .val (.long m0), .second, .val (.long m2), .second, .val (.long z0), .second, .val (.long z1), .second, .val (.long z2), .second, .val (.double jk), .second, .unset, .unset, .unset, .unset] [])) _
    refine XS.iconst X0.here hx rfl (hb hby at_122) ?_
    show Steps p.tables e below (s₁.setTop (mkF m 123 #[.val (.long tp), .second, .val (.int md), .val (.int lw), .val (.int fl), .val (.int kk), .val (.long m1), .second, .val (.long m0), .second, .val (.long m2), .second, .val (.long z0), .second, .val (.long z1), .second, .val (.long z2), .second, .val (.double jk), .second, .unset, .unset, .unset, .unset] [(.int (4 : Int32))])) _
    refine st1 _ ?_
    show Steps p.tables e below (T1.setTop (mkF m 125 #[.val (.long tp), .second, .val (.int md), .val (.int lw), .val (.int fl), .val (.int kk), .val (.long m1), .second, .val (.long m0), .second, .val (.long m2), .second, .val (.long z0), .second, .val (.long z1), .second, .val (.long z2), .second, .val (.double jk), .second, .unset, .unset, .unset, .unset] [(.ref b1)])) _
    refine XS.astore X1.here hx rfl (hb hby at_125) rfl rfl (l' := #[.val (.long tp), .second, .val (.int md), .val (.int lw), .val (.int fl), .val (.int kk), .val (.long m1), .second, .val (.long m0), .second, .val (.long m2), .second, .val (.long z0), .second, .val (.long z1), .second, .val (.long z2), .second, .val (.double jk), .second, .val (.ref b1), .unset, .unset, .unset]) rfl ?_
    show Steps p.tables e below (T1.setTop (mkF m 127 #[.val (.long tp), .second, .val (.int md), .val (.int lw), .val (.int fl), .val (.int kk), .val (.long m1), .second, .val (.long m0), .second, .val (.long m2), .second, .val (.long z0), .second, .val (.long z1), .second, .val (.long z2), .second, .val (.double jk), .second, .val (.ref b1), .unset, .unset, .unset] [])) _
    refine XS.aload X1.here hx rfl (hb hby at_127) rfl rfl ?_
    show Steps p.tables e below (T1.setTop (mkF m 129 #[.val (.long tp), .second, .val (.int md), .val (.int lw), .val (.int fl), .val (.int kk), .val (.long m1), .second, .val (.long m0), .second, .val (.long m2), .second, .val (.long z0), .second, .val (.long z1), .second, .val (.long z2), .second, .val (.double jk), .second, .val (.ref b1), .unset, .unset, .unset] [(.ref b1)])) _
    refine XS.iconst X1.here hx rfl (hb hby at_129) ?_
    show Steps p.tables e below (T1.setTop (mkF m 130 #[.val (.long tp), .second, .val (.int md), .val (.int lw), .val (.int fl), .val (.int kk), .val (.long m1), .second, .val (.long m0), .second, .val (.long m2), .second, .val (.long z0), .second, .val (.long z1), .second, .val (.long z2), .second, .val (.double jk), .second, .val (.ref b1), .unset, .unset, .unset] [(.int (0 : Int32)), (.ref b1)])) _
    refine XS.dload X1.here hx rfl (hb hby at_130) rfl ?_
    show Steps p.tables e below (T1.setTop (mkF m 132 #[.val (.long tp), .second, .val (.int md), .val (.int lw), .val (.int fl), .val (.int kk), .val (.long m1), .second, .val (.long m0), .second, .val (.long m2), .second, .val (.long z0), .second, .val (.long z1), .second, .val (.long z2), .second, .val (.double jk), .second, .val (.ref b1), .unset, .unset, .unset] [(.double jk), (.int (0 : Int32)), (.ref b1)])) _
    refine st2 _ ?_
    show Steps p.tables e below (T2.setTop (mkF m 133 #[.val (.long tp), .second, .val (.int md), .val (.int lw), .val (.int fl), .val (.int kk), .val (.long m1), .second, .val (.long m0), .second, .val (.long m2), .second, .val (.long z0), .second, .val (.long z1), .second, .val (.long z2), .second, .val (.double jk), .second, .val (.ref b1), .unset, .unset, .unset] [])) _
    refine XS.aload X2.here hx rfl (hb hby at_133) rfl rfl ?_
    show Steps p.tables e below (T2.setTop (mkF m 135 #[.val (.long tp), .second, .val (.int md), .val (.int lw), .val (.int fl), .val (.int kk), .val (.long m1), .second, .val (.long m0), .second, .val (.long m2), .second, .val (.long z0), .second, .val (.long z1), .second, .val (.long z2), .second, .val (.double jk), .second, .val (.ref b1), .unset, .unset, .unset] [(.ref b1)])) _
    refine XS.iconst X2.here hx rfl (hb hby at_135) ?_
    show Steps p.tables e below (T2.setTop (mkF m 136 #[.val (.long tp), .second, .val (.int md), .val (.int lw), .val (.int fl), .val (.int kk), .val (.long m1), .second, .val (.long m0), .second, .val (.long m2), .second, .val (.long z0), .second, .val (.long z1), .second, .val (.long z2), .second, .val (.double jk), .second, .val (.ref b1), .unset, .unset, .unset] [(.int (1 : Int32)), (.ref b1)])) _
    refine XS.dload X2.here hx rfl (hb hby at_136) rfl ?_
    show Steps p.tables e below (T2.setTop (mkF m 138 #[.val (.long tp), .second, .val (.int md), .val (.int lw), .val (.int fl), .val (.int kk), .val (.long m1), .second, .val (.long m0), .second, .val (.long m2), .second, .val (.long z0), .second, .val (.long z1), .second, .val (.long z2), .second, .val (.double jk), .second, .val (.ref b1), .unset, .unset, .unset] [(.double jk), (.int (1 : Int32)), (.ref b1)])) _
    refine st3 _ ?_
    show Steps p.tables e below (T3.setTop (mkF m 139 #[.val (.long tp), .second, .val (.int md), .val (.int lw), .val (.int fl), .val (.int kk), .val (.long m1), .second, .val (.long m0), .second, .val (.long m2), .second, .val (.long z0), .second, .val (.long z1), .second, .val (.long z2), .second, .val (.double jk), .second, .val (.ref b1), .unset, .unset, .unset] [])) _
    refine XS.aload X3.here hx rfl (hb hby at_139) rfl rfl ?_
    show Steps p.tables e below (T3.setTop (mkF m 141 #[.val (.long tp), .second, .val (.int md), .val (.int lw), .val (.int fl), .val (.int kk), .val (.long m1), .second, .val (.long m0), .second, .val (.long m2), .second, .val (.long z0), .second, .val (.long z1), .second, .val (.long z2), .second, .val (.double jk), .second, .val (.ref b1), .unset, .unset, .unset] [(.ref b1)])) _
    refine XS.iconst X3.here hx rfl (hb hby at_141) ?_
    show Steps p.tables e below (T3.setTop (mkF m 142 #[.val (.long tp), .second, .val (.int md), .val (.int lw), .val (.int fl), .val (.int kk), .val (.long m1), .second, .val (.long m0), .second, .val (.long m2), .second, .val (.long z0), .second, .val (.long z1), .second, .val (.long z2), .second, .val (.double jk), .second, .val (.ref b1), .unset, .unset, .unset] [(.int (2 : Int32)), (.ref b1)])) _
    refine XS.dload X3.here hx rfl (hb hby at_142) rfl ?_
    show Steps p.tables e below (T3.setTop (mkF m 144 #[.val (.long tp), .second, .val (.int md), .val (.int lw), .val (.int fl), .val (.int kk), .val (.long m1), .second, .val (.long m0), .second, .val (.long m2), .second, .val (.long z0), .second, .val (.long z1), .second, .val (.long z2), .second, .val (.double jk), .second, .val (.ref b1), .unset, .unset, .unset] [(.double jk), (.int (2 : Int32)), (.ref b1)])) _
    refine st4 _ ?_
    show Steps p.tables e below (T4.setTop (mkF m 145 #[.val (.long tp), .second, .val (.int md), .val (.int lw), .val (.int fl), .val (.int kk), .val (.long m1), .second, .val (.long m0), .second, .val (.long m2), .second, .val (.long z0), .second, .val (.long z1), .second, .val (.long z2), .second, .val (.double jk), .second, .val (.ref b1), .unset, .unset, .unset] [])) _
    refine XS.aload X4.here hx rfl (hb hby at_145) rfl rfl ?_
    show Steps p.tables e below (T4.setTop (mkF m 147 #[.val (.long tp), .second, .val (.int md), .val (.int lw), .val (.int fl), .val (.int kk), .val (.long m1), .second, .val (.long m0), .second, .val (.long m2), .second, .val (.long z0), .second, .val (.long z1), .second, .val (.long z2), .second, .val (.double jk), .second, .val (.ref b1), .unset, .unset, .unset] [(.ref b1)])) _
    refine XS.iconst X4.here hx rfl (hb hby at_147) ?_
    show Steps p.tables e below (T4.setTop (mkF m 148 #[.val (.long tp), .second, .val (.int md), .val (.int lw), .val (.int fl), .val (.int kk), .val (.long m1), .second, .val (.long m0), .second, .val (.long m2), .second, .val (.long z0), .second, .val (.long z1), .second, .val (.long z2), .second, .val (.double jk), .second, .val (.ref b1), .unset, .unset, .unset] [(.int (3 : Int32)), (.ref b1)])) _
    refine XS.dload X4.here hx rfl (hb hby at_148) rfl ?_
    show Steps p.tables e below (T4.setTop (mkF m 150 #[.val (.long tp), .second, .val (.int md), .val (.int lw), .val (.int fl), .val (.int kk), .val (.long m1), .second, .val (.long m0), .second, .val (.long m2), .second, .val (.long z0), .second, .val (.long z1), .second, .val (.long z2), .second, .val (.double jk), .second, .val (.ref b1), .unset, .unset, .unset] [(.double jk), (.int (3 : Int32)), (.ref b1)])) _
    refine st5 _ ?_
    show Steps p.tables e below (T5.setTop (mkF m 151 #[.val (.long tp), .second, .val (.int md), .val (.int lw), .val (.int fl), .val (.int kk), .val (.long m1), .second, .val (.long m0), .second, .val (.long m2), .second, .val (.long z0), .second, .val (.long z1), .second, .val (.long z2), .second, .val (.double jk), .second, .val (.ref b1), .unset, .unset, .unset] [])) _
    refine XS.iconst X5.here hx rfl (hb hby at_151) ?_
    show Steps p.tables e below (T5.setTop (mkF m 152 #[.val (.long tp), .second, .val (.int md), .val (.int lw), .val (.int fl), .val (.int kk), .val (.long m1), .second, .val (.long m0), .second, .val (.long m2), .second, .val (.long z0), .second, .val (.long z1), .second, .val (.long z2), .second, .val (.double jk), .second, .val (.ref b1), .unset, .unset, .unset] [(.int (0 : Int32))])) _
    refine XS.istore X5.here hx rfl (hb hby at_152) rfl (l' := #[.val (.long tp), .second, .val (.int md), .val (.int lw), .val (.int fl), .val (.int kk), .val (.long m1), .second, .val (.long m0), .second, .val (.long m2), .second, .val (.long z0), .second, .val (.long z1), .second, .val (.long z2), .second, .val (.double jk), .second, .val (.ref b1), .val (.int (0 : Int32)), .unset, .unset]) rfl ?_
    show Steps p.tables e below (T5.setTop (mkF m 154 #[.val (.long tp), .second, .val (.int md), .val (.int lw), .val (.int fl), .val (.int kk), .val (.long m1), .second, .val (.long m0), .second, .val (.long m2), .second, .val (.long z0), .second, .val (.long z1), .second, .val (.long z2), .second, .val (.double jk), .second, .val (.ref b1), .val (.int (0 : Int32)), .unset, .unset] [])) _
    refine XS.lconst X5.here hx rfl (hb hby at_154) ?_
    show Steps p.tables e below (T5.setTop (mkF m 155 #[.val (.long tp), .second, .val (.int md), .val (.int lw), .val (.int fl), .val (.int kk), .val (.long m1), .second, .val (.long m0), .second, .val (.long m2), .second, .val (.long z0), .second, .val (.long z1), .second, .val (.long z2), .second, .val (.double jk), .second, .val (.ref b1), .val (.int (0 : Int32)), .unset, .unset] [(.long (0 : Int64))])) _
    refine XS.lstore X5.here hx rfl (hb hby at_155) rfl (l' := #[.val (.long tp), .second, .val (.int md), .val (.int lw), .val (.int fl), .val (.int kk), .val (.long m1), .second, .val (.long m0), .second, .val (.long m2), .second, .val (.long z0), .second, .val (.long z1), .second, .val (.long z2), .second, .val (.double jk), .second, .val (.ref b1), .val (.int (0 : Int32)), .val (.long (0 : Int64)), .second]) rfl ?_
    show Steps p.tables e below (T5.setTop (mkF m 157 #[.val (.long tp), .second, .val (.int md), .val (.int lw), .val (.int fl), .val (.int kk), .val (.long m1), .second, .val (.long m0), .second, .val (.long m2), .second, .val (.long z0), .second, .val (.long z1), .second, .val (.long z2), .second, .val (.double jk), .second, .val (.ref b1), .val (.int (0 : Int32)), .val (.long (0 : Int64)), .second] [])) _
    refine XS.iload X5.here hx rfl (hb hby at_157) rfl ?_
    show Steps p.tables e below (T5.setTop (mkF m 159 #[.val (.long tp), .second, .val (.int md), .val (.int lw), .val (.int fl), .val (.int kk), .val (.long m1), .second, .val (.long m0), .second, .val (.long m2), .second, .val (.long z0), .second, .val (.long z1), .second, .val (.long z2), .second, .val (.double jk), .second, .val (.ref b1), .val (.int (0 : Int32)), .val (.long (0 : Int64)), .second] [(.int fl)])) _
    refine XS.iconst X5.here hx rfl (hb hby at_159) ?_
    show Steps p.tables e below (T5.setTop (mkF m 160 #[.val (.long tp), .second, .val (.int md), .val (.int lw), .val (.int fl), .val (.int kk), .val (.long m1), .second, .val (.long m0), .second, .val (.long m2), .second, .val (.long z0), .second, .val (.long z1), .second, .val (.long z2), .second, .val (.double jk), .second, .val (.ref b1), .val (.int (0 : Int32)), .val (.long (0 : Int64)), .second] [(.int (1 : Int32)), (.int fl)])) _
    refine XS.iand X5.here hx rfl (hb hby at_160) rfl ?_
    show Steps p.tables e below (T5.setTop (mkF m 161 #[.val (.long tp), .second, .val (.int md), .val (.int lw), .val (.int fl), .val (.int kk), .val (.long m1), .second, .val (.long m0), .second, .val (.long m2), .second, .val (.long z0), .second, .val (.long z1), .second, .val (.long z2), .second, .val (.double jk), .second, .val (.ref b1), .val (.int (0 : Int32)), .val (.long (0 : Int64)), .second] [(.int (fl &&& (1 : Int32)))])) _
    refine XS.ifNo X5.here hx rfl (hb hby at_161) rfl ((if0 _ _).trans (feq hc161).1) ?_
    show Steps p.tables e below (T5.setTop (mkF m 164 #[.val (.long tp), .second, .val (.int md), .val (.int lw), .val (.int fl), .val (.int kk), .val (.long m1), .second, .val (.long m0), .second, .val (.long m2), .second, .val (.long z0), .second, .val (.long z1), .second, .val (.long z2), .second, .val (.double jk), .second, .val (.ref b1), .val (.int (0 : Int32)), .val (.long (0 : Int64)), .second] [])) _
    refine XS.aload X5.here hx rfl (hb hby at_164) rfl rfl ?_
    show Steps p.tables e below (T5.setTop (mkF m 166 #[.val (.long tp), .second, .val (.int md), .val (.int lw), .val (.int fl), .val (.int kk), .val (.long m1), .second, .val (.long m0), .second, .val (.long m2), .second, .val (.long z0), .second, .val (.long z1), .second, .val (.long z2), .second, .val (.double jk), .second, .val (.ref b1), .val (.int (0 : Int32)), .val (.long (0 : Int64)), .second] [(.ref b1)])) _
    refine XS.iload X5.here hx rfl (hb hby at_166) rfl ?_
    show Steps p.tables e below (T5.setTop (mkF m 168 #[.val (.long tp), .second, .val (.int md), .val (.int lw), .val (.int fl), .val (.int kk), .val (.long m1), .second, .val (.long m0), .second, .val (.long m2), .second, .val (.long z0), .second, .val (.long z1), .second, .val (.long z2), .second, .val (.double jk), .second, .val (.ref b1), .val (.int (0 : Int32)), .val (.long (0 : Int64)), .second] [(.int (0 : Int32)), (.ref b1)])) _
    refine XS.lload X5.here hx rfl (hb hby at_168) rfl ?_
    show Steps p.tables e below (T5.setTop (mkF m 170 #[.val (.long tp), .second, .val (.int md), .val (.int lw), .val (.int fl), .val (.int kk), .val (.long m1), .second, .val (.long m0), .second, .val (.long m2), .second, .val (.long z0), .second, .val (.long z1), .second, .val (.long z2), .second, .val (.double jk), .second, .val (.ref b1), .val (.int (0 : Int32)), .val (.long (0 : Int64)), .second] [(.long z0), (.int (0 : Int32)), (.ref b1)])) _
    refine XS.l2dS X5.here hx rfl (hb hby at_170) rfl rfl ?_
    show Steps p.tables e below (T5.setTop (mkF m 171 #[.val (.long tp), .second, .val (.int md), .val (.int lw), .val (.int fl), .val (.int kk), .val (.long m1), .second, .val (.long m0), .second, .val (.long m2), .second, .val (.long z0), .second, .val (.long z1), .second, .val (.long z2), .second, .val (.double jk), .second, .val (.ref b1), .val (.int (0 : Int32)), .val (.long (0 : Int64)), .second] [(.double (FP.l2d z0)), (.int (0 : Int32)), (.ref b1)])) _
    refine st6 _ ?_
    show Steps p.tables e below (T6.setTop (mkF m 172 #[.val (.long tp), .second, .val (.int md), .val (.int lw), .val (.int fl), .val (.int kk), .val (.long m1), .second, .val (.long m0), .second, .val (.long m2), .second, .val (.long z0), .second, .val (.long z1), .second, .val (.long z2), .second, .val (.double jk), .second, .val (.ref b1), .val (.int (0 : Int32)), .val (.long (0 : Int64)), .second] [])) _
    refine XS.iinc X6.here hx rfl (hb hby at_172) rfl (l' := #[.val (.long tp), .second, .val (.int md), .val (.int lw), .val (.int fl), .val (.int kk), .val (.long m1), .second, .val (.long m0), .second, .val (.long m2), .second, .val (.long z0), .second, .val (.long z1), .second, .val (.long z2), .second, .val (.double jk), .second, .val (.ref b1), .val (.int ((0 : Int32) + (1 : Int32))), .val (.long (0 : Int64)), .second]) rfl ?_
    show Steps p.tables e below (T6.setTop (mkF m 175 #[.val (.long tp), .second, .val (.int md), .val (.int lw), .val (.int fl), .val (.int kk), .val (.long m1), .second, .val (.long m0), .second, .val (.long m2), .second, .val (.long z0), .second, .val (.long z1), .second, .val (.long z2), .second, .val (.double jk), .second, .val (.ref b1), .val (.int ((0 : Int32) + (1 : Int32))), .val (.long (0 : Int64)), .second] [])) _
    rw [show ((0 : Int32) + (1 : Int32)) = (1 : Int32) from by decide]
    show Steps p.tables e below (T6.setTop (mkF m 175 #[.val (.long tp), .second, .val (.int md), .val (.int lw), .val (.int fl), .val (.int kk), .val (.long m1), .second, .val (.long m0), .second, .val (.long m2), .second, .val (.long z0), .second, .val (.long z1), .second, .val (.long z2), .second, .val (.double jk), .second, .val (.ref b1), .val (.int (1 : Int32)), .val (.long (0 : Int64)), .second] [])) _
    refine XS.lload X6.here hx rfl (hb hby at_175) rfl ?_
    show Steps p.tables e below (T6.setTop (mkF m 177 #[.val (.long tp), .second, .val (.int md), .val (.int lw), .val (.int fl), .val (.int kk), .val (.long m1), .second, .val (.long m0), .second, .val (.long m2), .second, .val (.long z0), .second, .val (.long z1), .second, .val (.long z2), .second, .val (.double jk), .second, .val (.ref b1), .val (.int (1 : Int32)), .val (.long (0 : Int64)), .second] [(.long (0 : Int64))])) _
    refine XS.lload X6.here hx rfl (hb hby at_177) rfl ?_
    show Steps p.tables e below (T6.setTop (mkF m 179 #[.val (.long tp), .second, .val (.int md), .val (.int lw), .val (.int fl), .val (.int kk), .val (.long m1), .second, .val (.long m0), .second, .val (.long m2), .second, .val (.long z0), .second, .val (.long z1), .second, .val (.long z2), .second, .val (.double jk), .second, .val (.ref b1), .val (.int (1 : Int32)), .val (.long (0 : Int64)), .second] [(.long z0), (.long (0 : Int64))])) _
    refine XS.ladd X6.here hx rfl (hb hby at_179) rfl ?_
    show Steps p.tables e below (T6.setTop (mkF m 180 #[.val (.long tp), .second, .val (.int md), .val (.int lw), .val (.int fl), .val (.int kk), .val (.long m1), .second, .val (.long m0), .second, .val (.long m2), .second, .val (.long z0), .second, .val (.long z1), .second, .val (.long z2), .second, .val (.double jk), .second, .val (.ref b1), .val (.int (1 : Int32)), .val (.long (0 : Int64)), .second] [(.long ((0 : Int64) + z0))])) _
    refine XS.lstore X6.here hx rfl (hb hby at_180) rfl (l' := #[.val (.long tp), .second, .val (.int md), .val (.int lw), .val (.int fl), .val (.int kk), .val (.long m1), .second, .val (.long m0), .second, .val (.long m2), .second, .val (.long z0), .second, .val (.long z1), .second, .val (.long z2), .second, .val (.double jk), .second, .val (.ref b1), .val (.int (1 : Int32)), .val (.long ((0 : Int64) + z0)), .second]) rfl ?_
    show Steps p.tables e below (T6.setTop (mkF m 182 #[.val (.long tp), .second, .val (.int md), .val (.int lw), .val (.int fl), .val (.int kk), .val (.long m1), .second, .val (.long m0), .second, .val (.long m2), .second, .val (.long z0), .second, .val (.long z1), .second, .val (.long z2), .second, .val (.double jk), .second, .val (.ref b1), .val (.int (1 : Int32)), .val (.long ((0 : Int64) + z0)), .second] [])) _
    refine XS.iload X6.here hx rfl (hb hby at_182) rfl ?_
    show Steps p.tables e below (T6.setTop (mkF m 184 #[.val (.long tp), .second, .val (.int md), .val (.int lw), .val (.int fl), .val (.int kk), .val (.long m1), .second, .val (.long m0), .second, .val (.long m2), .second, .val (.long z0), .second, .val (.long z1), .second, .val (.long z2), .second, .val (.double jk), .second, .val (.ref b1), .val (.int (1 : Int32)), .val (.long ((0 : Int64) + z0)), .second] [(.int fl)])) _
    refine XS.iconst X6.here hx rfl (hb hby at_184) ?_
    show Steps p.tables e below (T6.setTop (mkF m 185 #[.val (.long tp), .second, .val (.int md), .val (.int lw), .val (.int fl), .val (.int kk), .val (.long m1), .second, .val (.long m0), .second, .val (.long m2), .second, .val (.long z0), .second, .val (.long z1), .second, .val (.long z2), .second, .val (.double jk), .second, .val (.ref b1), .val (.int (1 : Int32)), .val (.long ((0 : Int64) + z0)), .second] [(.int (2 : Int32)), (.int fl)])) _
    refine XS.iand X6.here hx rfl (hb hby at_185) rfl ?_
    show Steps p.tables e below (T6.setTop (mkF m 186 #[.val (.long tp), .second, .val (.int md), .val (.int lw), .val (.int fl), .val (.int kk), .val (.long m1), .second, .val (.long m0), .second, .val (.long m2), .second, .val (.long z0), .second, .val (.long z1), .second, .val (.long z2), .second, .val (.double jk), .second, .val (.ref b1), .val (.int (1 : Int32)), .val (.long ((0 : Int64) + z0)), .second] [(.int (fl &&& (2 : Int32)))])) _
    refine XS.ifYes X6.here hx rfl (pc0 := 186) (pc' := 207) rfl (hb hby at_186) rfl ((if0 _ _).trans (teq hc186).1) (by decide) (by decide) ?_
    show Steps p.tables e below (T6.setTop (mkF m 207 #[.val (.long tp), .second, .val (.int md), .val (.int lw), .val (.int fl), .val (.int kk), .val (.long m1), .second, .val (.long m0), .second, .val (.long m2), .second, .val (.long z0), .second, .val (.long z1), .second, .val (.long z2), .second, .val (.double jk), .second, .val (.ref b1), .val (.int (1 : Int32)), .val (.long ((0 : Int64) + z0)), .second] [])) _
    refine XS.iload X6.here hx rfl (hb hby at_207) rfl ?_
    show Steps p.tables e below (T6.setTop (mkF m 209 #[.val (.long tp), .second, .val (.int md), .val (.int lw), .val (.int fl), .val (.int kk), .val (.long m1), .second, .val (.long m0), .second, .val (.long m2), .second, .val (.long z0), .second, .val (.long z1), .second, .val (.long z2), .second, .val (.double jk), .second, .val (.ref b1), .val (.int (1 : Int32)), .val (.long ((0 : Int64) + z0)), .second] [(.int fl)])) _
    refine XS.iconst X6.here hx rfl (hb hby at_209) ?_
    show Steps p.tables e below (T6.setTop (mkF m 210 #[.val (.long tp), .second, .val (.int md), .val (.int lw), .val (.int fl), .val (.int kk), .val (.long m1), .second, .val (.long m0), .second, .val (.long m2), .second, .val (.long z0), .second, .val (.long z1), .second, .val (.long z2), .second, .val (.double jk), .second, .val (.ref b1), .val (.int (1 : Int32)), .val (.long ((0 : Int64) + z0)), .second] [(.int (4 : Int32)), (.int fl)])) _
    refine XS.iand X6.here hx rfl (hb hby at_210) rfl ?_
    show Steps p.tables e below (T6.setTop (mkF m 211 #[.val (.long tp), .second, .val (.int md), .val (.int lw), .val (.int fl), .val (.int kk), .val (.long m1), .second, .val (.long m0), .second, .val (.long m2), .second, .val (.long z0), .second, .val (.long z1), .second, .val (.long z2), .second, .val (.double jk), .second, .val (.ref b1), .val (.int (1 : Int32)), .val (.long ((0 : Int64) + z0)), .second] [(.int (fl &&& (4 : Int32)))])) _
    refine XS.ifYes X6.here hx rfl (pc0 := 211) (pc' := 232) rfl (hb hby at_211) rfl ((if0 _ _).trans (teq hc211).1) (by decide) (by decide) ?_
    show Steps p.tables e below (T6.setTop (mkF m 232 #[.val (.long tp), .second, .val (.int md), .val (.int lw), .val (.int fl), .val (.int kk), .val (.long m1), .second, .val (.long m0), .second, .val (.long m2), .second, .val (.long z0), .second, .val (.long z1), .second, .val (.long z2), .second, .val (.double jk), .second, .val (.ref b1), .val (.int (1 : Int32)), .val (.long ((0 : Int64) + z0)), .second] [])) _
    refine XS.aload X6.here hx rfl (hb hby at_232) rfl rfl ?_
    show Steps p.tables e below (T6.setTop (mkF m 234 #[.val (.long tp), .second, .val (.int md), .val (.int lw), .val (.int fl), .val (.int kk), .val (.long m1), .second, .val (.long m0), .second, .val (.long m2), .second, .val (.long z0), .second, .val (.long z1), .second, .val (.long z2), .second, .val (.double jk), .second, .val (.ref b1), .val (.int (1 : Int32)), .val (.long ((0 : Int64) + z0)), .second] [(.ref b1)])) _
    refine XS.iload X6.here hx rfl (hb hby at_234) rfl ?_
    show Steps p.tables e below (T6.setTop (mkF m 236 #[.val (.long tp), .second, .val (.int md), .val (.int lw), .val (.int fl), .val (.int kk), .val (.long m1), .second, .val (.long m0), .second, .val (.long m2), .second, .val (.long z0), .second, .val (.long z1), .second, .val (.long z2), .second, .val (.double jk), .second, .val (.ref b1), .val (.int (1 : Int32)), .val (.long ((0 : Int64) + z0)), .second] [(.int (1 : Int32)), (.ref b1)])) _
    refine st7 _ ?_
    show Steps p.tables e below (T7.setTop (mkF m 239 #[.val (.long tp), .second, .val (.int md), .val (.int lw), .val (.int fl), .val (.int kk), .val (.long m1), .second, .val (.long m0), .second, .val (.long m2), .second, .val (.long z0), .second, .val (.long z1), .second, .val (.long z2), .second, .val (.double jk), .second, .val (.ref b1), .val (.int (1 : Int32)), .val (.long ((0 : Int64) + z0)), .second] [(.double res_7)])) _
    refine XS.lload X7.here hx rfl (hb hby at_239) rfl ?_
    show Steps p.tables e below (T7.setTop (mkF m 241 #[.val (.long tp), .second, .val (.int md), .val (.int lw), .val (.int fl), .val (.int kk), .val (.long m1), .second, .val (.long m0), .second, .val (.long m2), .second, .val (.long z0), .second, .val (.long z1), .second, .val (.long z2), .second, .val (.double jk), .second, .val (.ref b1), .val (.int (1 : Int32)), .val (.long ((0 : Int64) + z0)), .second] [(.long ((0 : Int64) + z0)), (.double res_7)])) _
    refine XS.l2dS X7.here hx rfl (hb hby at_241) rfl rfl ?_
    show Steps p.tables e below (T7.setTop (mkF m 242 #[.val (.long tp), .second, .val (.int md), .val (.int lw), .val (.int fl), .val (.int kk), .val (.long m1), .second, .val (.long m0), .second, .val (.long m2), .second, .val (.long z0), .second, .val (.long z1), .second, .val (.long z2), .second, .val (.double jk), .second, .val (.ref b1), .val (.int (1 : Int32)), .val (.long ((0 : Int64) + z0)), .second] [(.double (FP.l2d ((0 : Int64) + z0))), (.double res_7)])) _
    refine XS.dcmpS X7.here hx rfl (hb hby at_242) rfl (v := (0 : Int32)) ((own_eq Pq7_0 (own_l2d (by omega)) .l).mpr rfl) ?_
    show Steps p.tables e below (T7.setTop (mkF m 243 #[.val (.long tp), .second, .val (.int md), .val (.int lw), .val (.int fl), .val (.int kk), .val (.long m1), .second, .val (.long m0), .second, .val (.long m2), .second, .val (.long z0), .second, .val (.long z1), .second, .val (.long z2), .second, .val (.double jk), .second, .val (.ref b1), .val (.int (1 : Int32)), .val (.long ((0 : Int64) + z0)), .second] [(.int (0 : Int32))])) _
    refine XS.ifNo X7.here hx rfl (hb hby at_243) rfl ((if0 _ _).trans (teq (rfl : (0 : Int32) = (0 : Int32))).2) ?_
    show Steps p.tables e below (T7.setTop (mkF m 246 #[.val (.long tp), .second, .val (.int md), .val (.int lw), .val (.int fl), .val (.int kk), .val (.long m1), .second, .val (.long m0), .second, .val (.long m2), .second, .val (.long z0), .second, .val (.long z1), .second, .val (.long z2), .second, .val (.double jk), .second, .val (.ref b1), .val (.int (1 : Int32)), .val (.long ((0 : Int64) + z0)), .second] [])) _
    refine XS.iconst X7.here hx rfl (hb hby at_246) ?_
    show Steps p.tables e below (T7.setTop (mkF m 247 #[.val (.long tp), .second, .val (.int md), .val (.int lw), .val (.int fl), .val (.int kk), .val (.long m1), .second, .val (.long m0), .second, .val (.long m2), .second, .val (.long z0), .second, .val (.long z1), .second, .val (.long z2), .second, .val (.double jk), .second, .val (.ref b1), .val (.int (1 : Int32)), .val (.long ((0 : Int64) + z0)), .second] [(.int (1 : Int32))])) _
    refine XS.goto X7.here hx rfl (pc0 := 247) (pc' := 251) rfl (hb hby at_247) (by decide) (by decide) ?_
    show Steps p.tables e below (T7.setTop (mkF m 251 #[.val (.long tp), .second, .val (.int md), .val (.int lw), .val (.int fl), .val (.int kk), .val (.long m1), .second, .val (.long m0), .second, .val (.long m2), .second, .val (.long z0), .second, .val (.long z1), .second, .val (.long z2), .second, .val (.double jk), .second, .val (.ref b1), .val (.int (1 : Int32)), .val (.long ((0 : Int64) + z0)), .second] [(.int (1 : Int32))])) _
    exact retN X7 hx (t := .boolean) Bd.returns (by simp) (hb hby at_251) hr
  · show Q_rm0_1 Z tp md lw fl h0 n0 _ T7.heap _
    rw [e7]
    exact ⟨rfl, N7⟩
def Q_rm0_2 (Z : State) (tp : Int64) (md : Int32) (lw : Int32) (fl : Int32) (h0 : Heap) (n0 : Nat) (v : Option Value) (h : Heap) (L : List Loc) : Prop := v = some (.int (1 : Int32)) ∧ Fr n0 L
theorem ef_rm0_2 (m : MethodId) (tp : Int64) (md : Int32) (lw : Int32) (fl : Int32) : entryFrame m #[(.long tp), (.int md), (.int lw), (.int fl)] maxLocals = mkF m 0 #[.val (.long tp), .second, .val (.int md), .val (.int lw), .val (.int fl), .unset, .unset, .unset, .unset, .unset, .unset, .unset, .unset, .unset, .unset, .unset, .unset, .unset, .unset, .unset, .unset, .unset, .unset, .unset] [] := by first | (simp [entryFrame, mkF, argsToLocals, Value.category, maxLocals]; done) | rfl
set_option maxRecDepth 65536 in
set_option maxHeartbeats 40000000 in
theorem rm0_2 (l : Launch) (Z : State) (a0 : Array Value) (hw : ∀ d ∈ tables_1, d.before a0 Z = true) (ws : List Jvm.Cond) (tp : Int64) (md : Int32) (lw : Int32) (fl : Int32) (h0 : Heap) (n0 : Nat) (Z0 : n0 ≤ h0.size) (hc161 : (fl &&& (1 : Int32)) = (0 : Int32)) (hc186 : ¬ ((fl &&& (2 : Int32)) = (0 : Int32))) (hc211 : (fl &&& (4 : Int32)) = (0 : Int32)) :
    MetFree l x (head1 (Jvm.Cond.code x code maxLocals ret :: ws) room_1) (fun a U => a = #[(.long tp), (.int md), (.int lw), (.int fl)] ∧ Z.Warmed39 U.vm ∧ U.heap = h0) (fun _ _ _ _ _ => True) (fun _ U o U' => ∃ v L, o = .returned v ∧ Q_rm0_2 Z tp md lw fl h0 n0 v U'.heap L ∧ FrameEnd U o U' L room_1.cells room_1.slots) := by
  refine MetFree.of_bodySF (plainFor_of_name pn_1) hisR ?_
  intro p e s m args below meth c s₁ Bd hml0 hP hK
  obtain ⟨rfl, hZ, hh⟩ := hP
  have hx := Bd.exec
  have hby := Bd.bytes
  have hml : c.maxLocals = 24 := hml0
  have hown : s.vm.findClass "com/example/crestwatch/crestwatch/core/ExactSumRoundedPinLaw" = some m.cls := findClass_of_methodNamed Bd.named
  have hnm := (name_of_methodNamed Bd.named Bd.method).1
  have X0 : Stand p l e room_1 s m #[(.long tp), (.int md), (.int lw), (.int fl)] below meth c s₁ [] 0 0 := Stand.of_body Bd
  have e0 : s₁.heap = h0 := by rw [← hh, Bd.state]; rfl
  have N0 := Fr.nil n0
  have pre0 : ∀ t, Steps p.tables e below (s₁.setTop (mkF m 0 #[.val (.long tp), .second, .val (.int md), .val (.int lw), .val (.int fl), .unset, .unset, .unset, .unset, .unset, .unset, .unset, .unset, .unset, .unset, .unset, .unset, .unset, .unset, .unset, .unset, .unset, .unset, .unset] [])) t → Steps p.tables e below (s₁.setTop (entryFrame m #[(.long tp), (.int md), (.int lw), (.int fl)] maxLocals)) t := fun t k => castTop (ef_rm0_2 m tp md lw fl) k
  obtain ⟨kk, m1, m0, m2, z0, z1, z2, jk, K, hP, stp⟩ := own_pre tp md lw fl X0 hx hZ hw hby hown
  obtain ⟨c1, c2, c3, c4, c5, M, c6, c7⟩ := hP
  have b0 : z0.toInt.natAbs < 16 := by have : 2 ^ K ≤ 2 ^ 4 := Nat.pow_le_pow_right (by decide) c1; omega
  have b2 : z2.toInt.natAbs < 2 ^ 61 := by
    rw [c7]
    calc M * 2 ^ (K + 4) < 2 ^ 53 * 2 ^ (K + 4) := Nat.mul_lt_mul_of_pos_right c6 (Nat.two_pow_pos _)
      _ ≤ 2 ^ 53 * 2 ^ 8 := Nat.mul_le_mul_left _ (Nat.pow_le_pow_right (by decide) (by omega))
      _ = 2 ^ 61 := by decide
  have e53 := own_e53
  have e61 := own_e61
  have e63 := own_e63
  have x0 := own_small_exact (p := z0) (by omega)
  have x1 := own_small_exact (p := z1) (by omega)
  have x2 := own_exact (p := z2) ⟨M, _, c6, c7⟩ (by omega)
  have y0 := own_D x0 (by omega)
  have y1 := own_D x1 (by omega)
  have y2 := own_D x2 (by omega)
  have l0 : (0 : Int64).toInt = 0 := by decide
  have s1 : ((0 : Int64) + z1).toInt = z1.toInt := by have q := own_addL (a := (0 : Int64)) (b := z1) (by omega); omega
  obtain ⟨T1, h1, k1, X1, e1, E1, A1, st1⟩ := newP X0 hx hZ (hw _ (List.mem_of_getElem? (i := 3) rfl)) e0 (g := (mkF m 123 #[.val (.long tp), .second, .val (.int md), .val (.int lw), .val (.int fl), .val (.int kk), .val (.long m1), .second, .val (.long m0), .second, .val (.long m2), .second, .val (.long z0), .second, .val (.long z1), .second, .val (.long z2), .second, .val (.double jk), .second, .unset, .unset, .unset, .unset] [(.int (4 : Int32))])) rfl (hb hby at_123) rfl (by decide) (cap := 4) (by decide) (by decide) (by decide) (by decide)
  obtain ⟨b1, g1⟩ : ∃ z, z = h0.size := ⟨_, rfl⟩
  rw [← g1] at A1 st1
  have V1 : Arv Z h1 b1 k1 .double (4 : Int32) [(.double 0), (.double 0), (.double 0), (.double 0)] (.double 0) := (Arv.new A1 (by decide)).pad (pad_rep [] (.double 0) 4)
  have Vc2 := V1
  obtain ⟨cl2, Ar2, q2, S2, M2, H2, G2⟩ := Vc2
  have hin2 : ¬ ((0 : Int32) < 0 ∨ cl2.slots.size ≤ ((0 : Int32)).toNatClampNeg) := inb_of S2 ⟨by decide, by decide⟩
  obtain ⟨T2, h2, X2, e2, W2, st2⟩ := stD X1 hx hZ e1 Ar2 (j := (0 : Int32)) hin2 (g := (mkF m 132 #[.val (.long tp), .second, .val (.int md), .val (.int lw), .val (.int fl), .val (.int kk), .val (.long m1), .second, .val (.long m0), .second, .val (.long m2), .second, .val (.long z0), .second, .val (.long z1), .second, .val (.long z2), .second, .val (.double jk), .second, .val (.ref b1), .unset, .unset, .unset] [(.double jk), (.int (0 : Int32)), (.ref b1)])) rfl rfl (hb hby at_132)
  have V2 : Arv Z h2 b1 k1 .double (4 : Int32) [(.double jk), (.double 0), (.double 0), (.double 0)] (.double 0) := Arv.set Ar2 q2 S2 M2 H2 G2 rfl W2 0 rfl (Nat.le_of_ble_eq_true rfl)
  have N2 := Fr.snoc X2 N0 (Nat.le_trans Z0 (Nat.le_of_eq g1.symm))
  have Vc3 := V2
  obtain ⟨cl3, Ar3, q3, S3, M3, H3, G3⟩ := Vc3
  have hin3 : ¬ ((1 : Int32) < 0 ∨ cl3.slots.size ≤ ((1 : Int32)).toNatClampNeg) := inb_of S3 ⟨by decide, by decide⟩
  obtain ⟨T3, h3, X3, e3, W3, st3⟩ := stD X2 hx hZ e2 Ar3 (j := (1 : Int32)) hin3 (g := (mkF m 138 #[.val (.long tp), .second, .val (.int md), .val (.int lw), .val (.int fl), .val (.int kk), .val (.long m1), .second, .val (.long m0), .second, .val (.long m2), .second, .val (.long z0), .second, .val (.long z1), .second, .val (.long z2), .second, .val (.double jk), .second, .val (.ref b1), .unset, .unset, .unset] [(.double jk), (.int (1 : Int32)), (.ref b1)])) rfl rfl (hb hby at_138)
  have V3 : Arv Z h3 b1 k1 .double (4 : Int32) [(.double jk), (.double jk), (.double 0), (.double 0)] (.double 0) := Arv.set Ar3 q3 S3 M3 H3 G3 rfl W3 1 rfl (Nat.le_of_ble_eq_true rfl)
  have N3 := Fr.snoc X3 N2 (Nat.le_trans Z0 (Nat.le_of_eq g1.symm))
  have Vc4 := V3
  obtain ⟨cl4, Ar4, q4, S4, M4, H4, G4⟩ := Vc4
  have hin4 : ¬ ((2 : Int32) < 0 ∨ cl4.slots.size ≤ ((2 : Int32)).toNatClampNeg) := inb_of S4 ⟨by decide, by decide⟩
  obtain ⟨T4, h4, X4, e4, W4, st4⟩ := stD X3 hx hZ e3 Ar4 (j := (2 : Int32)) hin4 (g := (mkF m 144 #[.val (.long tp), .second, .val (.int md), .val (.int lw), .val (.int fl), .val (.int kk), .val (.long m1), .second, .val (.long m0), .second, .val (.long m2), .second, .val (.long z0), .second, .val (.long z1), .second, .val (.long z2), .second, .val (.double jk), .second, .val (.ref b1), .unset, .unset, .unset] [(.double jk), (.int (2 : Int32)), (.ref b1)])) rfl rfl (hb hby at_144)
  have V4 : Arv Z h4 b1 k1 .double (4 : Int32) [(.double jk), (.double jk), (.double jk), (.double 0)] (.double 0) := Arv.set Ar4 q4 S4 M4 H4 G4 rfl W4 2 rfl (Nat.le_of_ble_eq_true rfl)
  have N4 := Fr.snoc X4 N3 (Nat.le_trans Z0 (Nat.le_of_eq g1.symm))
  have Vc5 := V4
  obtain ⟨cl5, Ar5, q5, S5, M5, H5, G5⟩ := Vc5
  have hin5 : ¬ ((3 : Int32) < 0 ∨ cl5.slots.size ≤ ((3 : Int32)).toNatClampNeg) := inb_of S5 ⟨by decide, by decide⟩
  obtain ⟨T5, h5, X5, e5, W5, st5⟩ := stD X4 hx hZ e4 Ar5 (j := (3 : Int32)) hin5 (g := (mkF m 150 #[.val (.long tp), .second, .val (.int md), .val (.int lw), .val (.int fl), .val (.int kk), .val (.long m1), .second, .val (.long m0), .second, .val (.long m2), .second, .val (.long z0), .second, .val (.long z1), .second, .val (.long z2), .second, .val (.double jk), .second, .val (.ref b1), .unset, .unset, .unset] [(.double jk), (.int (3 : Int32)), (.ref b1)])) rfl rfl (hb hby at_150)
  have V5 : Arv Z h5 b1 k1 .double (4 : Int32) [(.double jk), (.double jk), (.double jk), (.double jk)] (.double 0) := Arv.set Ar5 q5 S5 M5 H5 G5 rfl W5 3 rfl (Nat.le_of_ble_eq_true rfl)
  have N5 := Fr.snoc X5 N4 (Nat.le_trans Z0 (Nat.le_of_eq g1.symm))
  have Vc6 := V5
  obtain ⟨cl6, Ar6, q6, S6, M6, H6, G6⟩ := Vc6
  have hin6 : ¬ ((0 : Int32) < 0 ∨ cl6.slots.size ≤ ((0 : Int32)).toNatClampNeg) := inb_of S6 ⟨by decide, by decide⟩
  obtain ⟨T6, h6, X6, e6, W6, st6⟩ := stD X5 hx hZ e5 Ar6 (j := (0 : Int32)) hin6 (g := (mkF m 196 #[.val (.long tp), .second, .val (.int md), .val (.int lw), .val (.int fl), .val (.int kk), .val (.long m1), .second, .val (.long m0), .second, .val (.long m2), .second, .val (.long z0), .second, .val (.long z1), .second, .val (.long z2), .second, .val (.double jk), .second, .val (.ref b1), .val (.int (0 : Int32)), .val (.long (0 : Int64)), .second] [(.double (FP.l2d z1)), (.int (0 : Int32)), (.ref b1)])) rfl rfl (hb hby at_196)
  have V6 : Arv Z h6 b1 k1 .double (4 : Int32) [(.double (FP.l2d z1)), (.double jk), (.double jk), (.double jk)] (.double 0) := Arv.set Ar6 q6 S6 M6 H6 G6 rfl W6 0 rfl (Nat.le_of_ble_eq_true rfl)
  have N6 := Fr.snoc X6 N5 (Nat.le_trans Z0 (Nat.le_of_eq g1.symm))
  obtain ⟨_, _, ⟨T7, L7, k7, n7⟩, -, X7, ⟨Lc7, hQ7, l7, y7, z7⟩, st7⟩ := Jvm.LawKit.callS X6 hx (y := (⟨"com/example/crestwatch/crestwatch/core/ExactSum", "rounded", "([DI)D"⟩ : MethodName)) hown (mvT hZ (hw _ (List.mem_of_getElem? (i := 4) rfl))) (mvT hZ (hw _ (List.mem_of_getElem? (i := 5) rfl))) (mvT hZ (hw _ (List.mem_of_getElem? (i := 6) rfl))) (mvT hZ (hw _ (List.mem_of_getElem? (i := 7) rfl))) (by decide) (backOf (W := 0) (rd_1 l Z a0 hw [] b1 k1 (FP.l2d z1) jk jk jk (((0 : Int64) + z1).toInt) h6 n0 (Nat.le_trans (Nat.le_trans (Nat.le_trans (Nat.le_trans (Nat.le_trans (Nat.le_trans Z0 E1.1) (Keep.of_wr W2).1) (Keep.of_wr W3).1) (Keep.of_wr W4).1) (Keep.of_wr W5).1) (Keep.of_wr W6).1) V6 (by rw [s1, x1]; exact y1)) hZ (hw _ (List.mem_of_getElem? (i := 7) rfl)) (hw _ (List.mem_of_getElem? (i := 6) rfl)) (by decide) (by decide)) (g := (mkF m 236 #[.val (.long tp), .second, .val (.int md), .val (.int lw), .val (.int fl), .val (.int kk), .val (.long m1), .second, .val (.long m0), .second, .val (.long m2), .second, .val (.long z0), .second, .val (.long z1), .second, .val (.long z2), .second, .val (.double jk), .second, .val (.ref b1), .val (.int (1 : Int32)), .val (.long ((0 : Int64) + z1)), .second] [(.int (1 : Int32)), (.ref b1)])) rfl (by rw [hml]; rfl) (argsL := [(.ref b1), (.int (1 : Int32))]) (rest := []) (lenOf pd_0 rfl) rfl (by show 2 * 0 + _ ≤ _; exact Nat.le_of_eq rfl) (hb hby at_236) (fun _ _ => ⟨rfl, e6, (by decide : 1 + 0 ≤ _), (by decide : 4 + 0 ≤ _)⟩)
  dsimp only [Pt.U, Pt.locs, Pt.cells, Pt.slots] at X7 l7 y7 z7 st7 hQ7
  subst l7 y7 z7
  obtain ⟨res_7, rfl, Nq7, e7, Pq7_0⟩ := hQ7
  have N7 := Fr.app N6 Nq7
  obtain ⟨fs, hr, hrun, hended, hW, hsame⟩ := X7.leave (v := some (.int (1 : Int32))) (fun h => by rw [Bd.returns] at h; cases h)
  refine ⟨_, _, pre0 _ ?_, hrun, hended, _, _, rfl, ?_, ⟨_, rfl⟩, hW, hsame.mono (by decide) (by decide)⟩
  · show Steps p.tables e below (s₁.setTop (mkF m 0 #[.val (.long tp), .second, .val (.int md), .val (.int lw), .val (.int fl), .unset, .unset, .unset, .unset, .unset, .unset, .unset, .unset, .unset, .unset, .unset, .unset, .unset, .unset, .unset, .unset, .unset, .unset, .unset] [])) _
    refine stp _ ?_
    show Steps p.tables e below (s₁.setTop (mkF m 122 #[.val (.long tp), .second, .val (.int md), .val (.int lw), .val (.int fl), .val (.int kk), .val (.long m1), .second, .val (.long m0), .second, .val (.long m2), .second, .val (.long z0), .second, .val (.long z1), .second, .val (.long z2), .second, .val (.double jk), .second, .unset, .unset, .unset, .unset] [])) _
    refine XS.iconst X0.here hx rfl (hb hby at_122) ?_
    show Steps p.tables e below (s₁.setTop (mkF m 123 #[.val (.long tp), .second, .val (.int md), .val (.int lw), .val (.int fl), .val (.int kk), .val (.long m1), .second, .val (.long m0), .second, .val (.long m2), .second, .val (.long z0), .second, .val (.long z1), .second, .val (.long z2), .second, .val (.double jk), .second, .unset, .unset, .unset, .unset] [(.int (4 : Int32))])) _
    refine st1 _ ?_
    show Steps p.tables e below (T1.setTop (mkF m 125 #[.val (.long tp), .second, .val (.int md), .val (.int lw), .val (.int fl), .val (.int kk), .val (.long m1), .second, .val (.long m0), .second, .val (.long m2), .second, .val (.long z0), .second, .val (.long z1), .second, .val (.long z2), .second, .val (.double jk), .second, .unset, .unset, .unset, .unset] [(.ref b1)])) _
    refine XS.astore X1.here hx rfl (hb hby at_125) rfl rfl (l' := #[.val (.long tp), .second, .val (.int md), .val (.int lw), .val (.int fl), .val (.int kk), .val (.long m1), .second, .val (.long m0), .second, .val (.long m2), .second, .val (.long z0), .second, .val (.long z1), .second, .val (.long z2), .second, .val (.double jk), .second, .val (.ref b1), .unset, .unset, .unset]) rfl ?_
    show Steps p.tables e below (T1.setTop (mkF m 127 #[.val (.long tp), .second, .val (.int md), .val (.int lw), .val (.int fl), .val (.int kk), .val (.long m1), .second, .val (.long m0), .second, .val (.long m2), .second, .val (.long z0), .second, .val (.long z1), .second, .val (.long z2), .second, .val (.double jk), .second, .val (.ref b1), .unset, .unset, .unset] [])) _
    refine XS.aload X1.here hx rfl (hb hby at_127) rfl rfl ?_
    show Steps p.tables e below (T1.setTop (mkF m 129 #[.val (.long tp), .second, .val (.int md), .val (.int lw), .val (.int fl), .val (.int kk), .val (.long m1), .second, .val (.long m0), .second, .val (.long m2), .second, .val (.long z0), .second, .val (.long z1), .second, .val (.long z2), .second, .val (.double jk), .second, .val (.ref b1), .unset, .unset, .unset] [(.ref b1)])) _
    refine XS.iconst X1.here hx rfl (hb hby at_129) ?_
    show Steps p.tables e below (T1.setTop (mkF m 130 #[.val (.long tp), .second, .val (.int md), .val (.int lw), .val (.int fl), .val (.int kk), .val (.long m1), .second, .val (.long m0), .second, .val (.long m2), .second, .val (.long z0), .second, .val (.long z1), .second, .val (.long z2), .second, .val (.double jk), .second, .val (.ref b1), .unset, .unset, .unset] [(.int (0 : Int32)), (.ref b1)])) _
    refine XS.dload X1.here hx rfl (hb hby at_130) rfl ?_
    show Steps p.tables e below (T1.setTop (mkF m 132 #[.val (.long tp), .second, .val (.int md), .val (.int lw), .val (.int fl), .val (.int kk), .val (.long m1), .second, .val (.long m0), .second, .val (.long m2), .second, .val (.long z0), .second, .val (.long z1), .second, .val (.long z2), .second, .val (.double jk), .second, .val (.ref b1), .unset, .unset, .unset] [(.double jk), (.int (0 : Int32)), (.ref b1)])) _
    refine st2 _ ?_
    show Steps p.tables e below (T2.setTop (mkF m 133 #[.val (.long tp), .second, .val (.int md), .val (.int lw), .val (.int fl), .val (.int kk), .val (.long m1), .second, .val (.long m0), .second, .val (.long m2), .second, .val (.long z0), .second, .val (.long z1), .second, .val (.long z2), .second, .val (.double jk), .second, .val (.ref b1), .unset, .unset, .unset] [])) _
    refine XS.aload X2.here hx rfl (hb hby at_133) rfl rfl ?_
    show Steps p.tables e below (T2.setTop (mkF m 135 #[.val (.long tp), .second, .val (.int md), .val (.int lw), .val (.int fl), .val (.int kk), .val (.long m1), .second, .val (.long m0), .second, .val (.long m2), .second, .val (.long z0), .second, .val (.long z1), .second, .val (.long z2), .second, .val (.double jk), .second, .val (.ref b1), .unset, .unset, .unset] [(.ref b1)])) _
    refine XS.iconst X2.here hx rfl (hb hby at_135) ?_
    show Steps p.tables e below (T2.setTop (mkF m 136 #[.val (.long tp), .second, .val (.int md), .val (.int lw), .val (.int fl), .val (.int kk), .val (.long m1), .second, .val (.long m0), .second, .val (.long m2), .second, .val (.long z0), .second, .val (.long z1), .second, .val (.long z2), .second, .val (.double jk), .second, .val (.ref b1), .unset, .unset, .unset] [(.int (1 : Int32)), (.ref b1)])) _
    refine XS.dload X2.here hx rfl (hb hby at_136) rfl ?_
    show Steps p.tables e below (T2.setTop (mkF m 138 #[.val (.long tp), .second, .val (.int md), .val (.int lw), .val (.int fl), .val (.int kk), .val (.long m1), .second, .val (.long m0), .second, .val (.long m2), .second, .val (.long z0), .second, .val (.long z1), .second, .val (.long z2), .second, .val (.double jk), .second, .val (.ref b1), .unset, .unset, .unset] [(.double jk), (.int (1 : Int32)), (.ref b1)])) _
    refine st3 _ ?_
    show Steps p.tables e below (T3.setTop (mkF m 139 #[.val (.long tp), .second, .val (.int md), .val (.int lw), .val (.int fl), .val (.int kk), .val (.long m1), .second, .val (.long m0), .second, .val (.long m2), .second, .val (.long z0), .second, .val (.long z1), .second, .val (.long z2), .second, .val (.double jk), .second, .val (.ref b1), .unset, .unset, .unset] [])) _
    refine XS.aload X3.here hx rfl (hb hby at_139) rfl rfl ?_
    show Steps p.tables e below (T3.setTop (mkF m 141 #[.val (.long tp), .second, .val (.int md), .val (.int lw), .val (.int fl), .val (.int kk), .val (.long m1), .second, .val (.long m0), .second, .val (.long m2), .second, .val (.long z0), .second, .val (.long z1), .second, .val (.long z2), .second, .val (.double jk), .second, .val (.ref b1), .unset, .unset, .unset] [(.ref b1)])) _
    refine XS.iconst X3.here hx rfl (hb hby at_141) ?_
    show Steps p.tables e below (T3.setTop (mkF m 142 #[.val (.long tp), .second, .val (.int md), .val (.int lw), .val (.int fl), .val (.int kk), .val (.long m1), .second, .val (.long m0), .second, .val (.long m2), .second, .val (.long z0), .second, .val (.long z1), .second, .val (.long z2), .second, .val (.double jk), .second, .val (.ref b1), .unset, .unset, .unset] [(.int (2 : Int32)), (.ref b1)])) _
    refine XS.dload X3.here hx rfl (hb hby at_142) rfl ?_
    show Steps p.tables e below (T3.setTop (mkF m 144 #[.val (.long tp), .second, .val (.int md), .val (.int lw), .val (.int fl), .val (.int kk), .val (.long m1), .second, .val (.long m0), .second, .val (.long m2), .second, .val (.long z0), .second, .val (.long z1), .second, .val (.long z2), .second, .val (.double jk), .second, .val (.ref b1), .unset, .unset, .unset] [(.double jk), (.int (2 : Int32)), (.ref b1)])) _
    refine st4 _ ?_
    show Steps p.tables e below (T4.setTop (mkF m 145 #[.val (.long tp), .second, .val (.int md), .val (.int lw), .val (.int fl), .val (.int kk), .val (.long m1), .second, .val (.long m0), .second, .val (.long m2), .second, .val (.long z0), .second, .val (.long z1), .second, .val (.long z2), .second, .val (.double jk), .second, .val (.ref b1), .unset, .unset, .unset] [])) _
    refine XS.aload X4.here hx rfl (hb hby at_145) rfl rfl ?_
    show Steps p.tables e below (T4.setTop (mkF m 147 #[.val (.long tp), .second, .val (.int md), .val (.int lw), .val (.int fl), .val (.int kk), .val (.long m1), .second, .val (.long m0), .second, .val (.long m2), .second, .val (.long z0), .second, .val (.long z1), .second, .val (.long z2), .second, .val (.double jk), .second, .val (.ref b1), .unset, .unset, .unset] [(.ref b1)])) _
    refine XS.iconst X4.here hx rfl (hb hby at_147) ?_
    show Steps p.tables e below (T4.setTop (mkF m 148 #[.val (.long tp), .second, .val (.int md), .val (.int lw), .val (.int fl), .val (.int kk), .val (.long m1), .second, .val (.long m0), .second, .val (.long m2), .second, .val (.long z0), .second, .val (.long z1), .second, .val (.long z2), .second, .val (.double jk), .second, .val (.ref b1), .unset, .unset, .unset] [(.int (3 : Int32)), (.ref b1)])) _
    refine XS.dload X4.here hx rfl (hb hby at_148) rfl ?_
    show Steps p.tables e below (T4.setTop (mkF m 150 #[.val (.long tp), .second, .val (.int md), .val (.int lw), .val (.int fl), .val (.int kk), .val (.long m1), .second, .val (.long m0), .second, .val (.long m2), .second, .val (.long z0), .second, .val (.long z1), .second, .val (.long z2), .second, .val (.double jk), .second, .val (.ref b1), .unset, .unset, .unset] [(.double jk), (.int (3 : Int32)), (.ref b1)])) _
    refine st5 _ ?_
    show Steps p.tables e below (T5.setTop (mkF m 151 #[.val (.long tp), .second, .val (.int md), .val (.int lw), .val (.int fl), .val (.int kk), .val (.long m1), .second, .val (.long m0), .second, .val (.long m2), .second, .val (.long z0), .second, .val (.long z1), .second, .val (.long z2), .second, .val (.double jk), .second, .val (.ref b1), .unset, .unset, .unset] [])) _
    refine XS.iconst X5.here hx rfl (hb hby at_151) ?_
    show Steps p.tables e below (T5.setTop (mkF m 152 #[.val (.long tp), .second, .val (.int md), .val (.int lw), .val (.int fl), .val (.int kk), .val (.long m1), .second, .val (.long m0), .second, .val (.long m2), .second, .val (.long z0), .second, .val (.long z1), .second, .val (.long z2), .second, .val (.double jk), .second, .val (.ref b1), .unset, .unset, .unset] [(.int (0 : Int32))])) _
    refine XS.istore X5.here hx rfl (hb hby at_152) rfl (l' := #[.val (.long tp), .second, .val (.int md), .val (.int lw), .val (.int fl), .val (.int kk), .val (.long m1), .second, .val (.long m0), .second, .val (.long m2), .second, .val (.long z0), .second, .val (.long z1), .second, .val (.long z2), .second, .val (.double jk), .second, .val (.ref b1), .val (.int (0 : Int32)), .unset, .unset]) rfl ?_
    show Steps p.tables e below (T5.setTop (mkF m 154 #[.val (.long tp), .second, .val (.int md), .val (.int lw), .val (.int fl), .val (.int kk), .val (.long m1), .second, .val (.long m0), .second, .val (.long m2), .second, .val (.long z0), .second, .val (.long z1), .second, .val (.long z2), .second, .val (.double jk), .second, .val (.ref b1), .val (.int (0 : Int32)), .unset, .unset] [])) _
    refine XS.lconst X5.here hx rfl (hb hby at_154) ?_
    show Steps p.tables e below (T5.setTop (mkF m 155 #[.val (.long tp), .second, .val (.int md), .val (.int lw), .val (.int fl), .val (.int kk), .val (.long m1), .second, .val (.long m0), .second, .val (.long m2), .second, .val (.long z0), .second, .val (.long z1), .second, .val (.long z2), .second, .val (.double jk), .second, .val (.ref b1), .val (.int (0 : Int32)), .unset, .unset] [(.long (0 : Int64))])) _
    refine XS.lstore X5.here hx rfl (hb hby at_155) rfl (l' := #[.val (.long tp), .second, .val (.int md), .val (.int lw), .val (.int fl), .val (.int kk), .val (.long m1), .second, .val (.long m0), .second, .val (.long m2), .second, .val (.long z0), .second, .val (.long z1), .second, .val (.long z2), .second, .val (.double jk), .second, .val (.ref b1), .val (.int (0 : Int32)), .val (.long (0 : Int64)), .second]) rfl ?_
    show Steps p.tables e below (T5.setTop (mkF m 157 #[.val (.long tp), .second, .val (.int md), .val (.int lw), .val (.int fl), .val (.int kk), .val (.long m1), .second, .val (.long m0), .second, .val (.long m2), .second, .val (.long z0), .second, .val (.long z1), .second, .val (.long z2), .second, .val (.double jk), .second, .val (.ref b1), .val (.int (0 : Int32)), .val (.long (0 : Int64)), .second] [])) _
    refine XS.iload X5.here hx rfl (hb hby at_157) rfl ?_
    show Steps p.tables e below (T5.setTop (mkF m 159 #[.val (.long tp), .second, .val (.int md), .val (.int lw), .val (.int fl), .val (.int kk), .val (.long m1), .second, .val (.long m0), .second, .val (.long m2), .second, .val (.long z0), .second, .val (.long z1), .second, .val (.long z2), .second, .val (.double jk), .second, .val (.ref b1), .val (.int (0 : Int32)), .val (.long (0 : Int64)), .second] [(.int fl)])) _
    refine XS.iconst X5.here hx rfl (hb hby at_159) ?_
    show Steps p.tables e below (T5.setTop (mkF m 160 #[.val (.long tp), .second, .val (.int md), .val (.int lw), .val (.int fl), .val (.int kk), .val (.long m1), .second, .val (.long m0), .second, .val (.long m2), .second, .val (.long z0), .second, .val (.long z1), .second, .val (.long z2), .second, .val (.double jk), .second, .val (.ref b1), .val (.int (0 : Int32)), .val (.long (0 : Int64)), .second] [(.int (1 : Int32)), (.int fl)])) _
    refine XS.iand X5.here hx rfl (hb hby at_160) rfl ?_
    show Steps p.tables e below (T5.setTop (mkF m 161 #[.val (.long tp), .second, .val (.int md), .val (.int lw), .val (.int fl), .val (.int kk), .val (.long m1), .second, .val (.long m0), .second, .val (.long m2), .second, .val (.long z0), .second, .val (.long z1), .second, .val (.long z2), .second, .val (.double jk), .second, .val (.ref b1), .val (.int (0 : Int32)), .val (.long (0 : Int64)), .second] [(.int (fl &&& (1 : Int32)))])) _
    refine XS.ifYes X5.here hx rfl (pc0 := 161) (pc' := 182) rfl (hb hby at_161) rfl ((if0 _ _).trans (teq hc161).1) (by decide) (by decide) ?_
    show Steps p.tables e below (T5.setTop (mkF m 182 #[.val (.long tp), .second, .val (.int md), .val (.int lw), .val (.int fl), .val (.int kk), .val (.long m1), .second, .val (.long m0), .second, .val (.long m2), .second, .val (.long z0), .second, .val (.long z1), .second, .val (.long z2), .second, .val (.double jk), .second, .val (.ref b1), .val (.int (0 : Int32)), .val (.long (0 : Int64)), .second] [])) _
    refine XS.iload X5.here hx rfl (hb hby at_182) rfl ?_
    show Steps p.tables e below (T5.setTop (mkF m 184 #[.val (.long tp), .second, .val (.int md), .val (.int lw), .val (.int fl), .val (.int kk), .val (.long m1), .second, .val (.long m0), .second, .val (.long m2), .second, .val (.long z0), .second, .val (.long z1), .second, .val (.long z2), .second, .val (.double jk), .second, .val (.ref b1), .val (.int (0 : Int32)), .val (.long (0 : Int64)), .second] [(.int fl)])) _
    refine XS.iconst X5.here hx rfl (hb hby at_184) ?_
    show Steps p.tables e below (T5.setTop (mkF m 185 #[.val (.long tp), .second, .val (.int md), .val (.int lw), .val (.int fl), .val (.int kk), .val (.long m1), .second, .val (.long m0), .second, .val (.long m2), .second, .val (.long z0), .second, .val (.long z1), .second, .val (.long z2), .second, .val (.double jk), .second, .val (.ref b1), .val (.int (0 : Int32)), .val (.long (0 : Int64)), .second] [(.int (2 : Int32)), (.int fl)])) _
    refine XS.iand X5.here hx rfl (hb hby at_185) rfl ?_
    show Steps p.tables e below (T5.setTop (mkF m 186 #[.val (.long tp), .second, .val (.int md), .val (.int lw), .val (.int fl), .val (.int kk), .val (.long m1), .second, .val (.long m0), .second, .val (.long m2), .second, .val (.long z0), .second, .val (.long z1), .second, .val (.long z2), .second, .val (.double jk), .second, .val (.ref b1), .val (.int (0 : Int32)), .val (.long (0 : Int64)), .second] [(.int (fl &&& (2 : Int32)))])) _
    refine XS.ifNo X5.here hx rfl (hb hby at_186) rfl ((if0 _ _).trans (feq hc186).1) ?_
    show Steps p.tables e below (T5.setTop (mkF m 189 #[.val (.long tp), .second, .val (.int md), .val (.int lw), .val (.int fl), .val (.int kk), .val (.long m1), .second, .val (.long m0), .second, .val (.long m2), .second, .val (.long z0), .second, .val (.long z1), .second, .val (.long z2), .second, .val (.double jk), .second, .val (.ref b1), .val (.int (0 : Int32)), .val (.long (0 : Int64)), .second] [])) _
    refine XS.aload X5.here hx rfl (hb hby at_189) rfl rfl ?_
    show Steps p.tables e below (T5.setTop (mkF m 191 #[.val (.long tp), .second, .val (.int md), .val (.int lw), .val (.int fl), .val (.int kk), .val (.long m1), .second, .val (.long m0), .second, .val (.long m2), .second, .val (.long z0), .second, .val (.long z1), .second, .val (.long z2), .second, .val (.double jk), .second, .val (.ref b1), .val (.int (0 : Int32)), .val (.long (0 : Int64)), .second] [(.ref b1)])) _
    refine XS.iload X5.here hx rfl (hb hby at_191) rfl ?_
    show Steps p.tables e below (T5.setTop (mkF m 193 #[.val (.long tp), .second, .val (.int md), .val (.int lw), .val (.int fl), .val (.int kk), .val (.long m1), .second, .val (.long m0), .second, .val (.long m2), .second, .val (.long z0), .second, .val (.long z1), .second, .val (.long z2), .second, .val (.double jk), .second, .val (.ref b1), .val (.int (0 : Int32)), .val (.long (0 : Int64)), .second] [(.int (0 : Int32)), (.ref b1)])) _
    refine XS.lload X5.here hx rfl (hb hby at_193) rfl ?_
    show Steps p.tables e below (T5.setTop (mkF m 195 #[.val (.long tp), .second, .val (.int md), .val (.int lw), .val (.int fl), .val (.int kk), .val (.long m1), .second, .val (.long m0), .second, .val (.long m2), .second, .val (.long z0), .second, .val (.long z1), .second, .val (.long z2), .second, .val (.double jk), .second, .val (.ref b1), .val (.int (0 : Int32)), .val (.long (0 : Int64)), .second] [(.long z1), (.int (0 : Int32)), (.ref b1)])) _
    refine XS.l2dS X5.here hx rfl (hb hby at_195) rfl rfl ?_
    show Steps p.tables e below (T5.setTop (mkF m 196 #[.val (.long tp), .second, .val (.int md), .val (.int lw), .val (.int fl), .val (.int kk), .val (.long m1), .second, .val (.long m0), .second, .val (.long m2), .second, .val (.long z0), .second, .val (.long z1), .second, .val (.long z2), .second, .val (.double jk), .second, .val (.ref b1), .val (.int (0 : Int32)), .val (.long (0 : Int64)), .second] [(.double (FP.l2d z1)), (.int (0 : Int32)), (.ref b1)])) _
    refine st6 _ ?_
    show Steps p.tables e below (T6.setTop (mkF m 197 #[.val (.long tp), .second, .val (.int md), .val (.int lw), .val (.int fl), .val (.int kk), .val (.long m1), .second, .val (.long m0), .second, .val (.long m2), .second, .val (.long z0), .second, .val (.long z1), .second, .val (.long z2), .second, .val (.double jk), .second, .val (.ref b1), .val (.int (0 : Int32)), .val (.long (0 : Int64)), .second] [])) _
    refine XS.iinc X6.here hx rfl (hb hby at_197) rfl (l' := #[.val (.long tp), .second, .val (.int md), .val (.int lw), .val (.int fl), .val (.int kk), .val (.long m1), .second, .val (.long m0), .second, .val (.long m2), .second, .val (.long z0), .second, .val (.long z1), .second, .val (.long z2), .second, .val (.double jk), .second, .val (.ref b1), .val (.int ((0 : Int32) + (1 : Int32))), .val (.long (0 : Int64)), .second]) rfl ?_
    show Steps p.tables e below (T6.setTop (mkF m 200 #[.val (.long tp), .second, .val (.int md), .val (.int lw), .val (.int fl), .val (.int kk), .val (.long m1), .second, .val (.long m0), .second, .val (.long m2), .second, .val (.long z0), .second, .val (.long z1), .second, .val (.long z2), .second, .val (.double jk), .second, .val (.ref b1), .val (.int ((0 : Int32) + (1 : Int32))), .val (.long (0 : Int64)), .second] [])) _
    rw [show ((0 : Int32) + (1 : Int32)) = (1 : Int32) from by decide]
    show Steps p.tables e below (T6.setTop (mkF m 200 #[.val (.long tp), .second, .val (.int md), .val (.int lw), .val (.int fl), .val (.int kk), .val (.long m1), .second, .val (.long m0), .second, .val (.long m2), .second, .val (.long z0), .second, .val (.long z1), .second, .val (.long z2), .second, .val (.double jk), .second, .val (.ref b1), .val (.int (1 : Int32)), .val (.long (0 : Int64)), .second] [])) _
    refine XS.lload X6.here hx rfl (hb hby at_200) rfl ?_
    show Steps p.tables e below (T6.setTop (mkF m 202 #[.val (.long tp), .second, .val (.int md), .val (.int lw), .val (.int fl), .val (.int kk), .val (.long m1), .second, .val (.long m0), .second, .val (.long m2), .second, .val (.long z0), .second, .val (.long z1), .second, .val (.long z2), .second, .val (.double jk), .second, .val (.ref b1), .val (.int (1 : Int32)), .val (.long (0 : Int64)), .second] [(.long (0 : Int64))])) _
    refine XS.lload X6.here hx rfl (hb hby at_202) rfl ?_
    show Steps p.tables e below (T6.setTop (mkF m 204 #[.val (.long tp), .second, .val (.int md), .val (.int lw), .val (.int fl), .val (.int kk), .val (.long m1), .second, .val (.long m0), .second, .val (.long m2), .second, .val (.long z0), .second, .val (.long z1), .second, .val (.long z2), .second, .val (.double jk), .second, .val (.ref b1), .val (.int (1 : Int32)), .val (.long (0 : Int64)), .second] [(.long z1), (.long (0 : Int64))])) _
    refine XS.ladd X6.here hx rfl (hb hby at_204) rfl ?_
    show Steps p.tables e below (T6.setTop (mkF m 205 #[.val (.long tp), .second, .val (.int md), .val (.int lw), .val (.int fl), .val (.int kk), .val (.long m1), .second, .val (.long m0), .second, .val (.long m2), .second, .val (.long z0), .second, .val (.long z1), .second, .val (.long z2), .second, .val (.double jk), .second, .val (.ref b1), .val (.int (1 : Int32)), .val (.long (0 : Int64)), .second] [(.long ((0 : Int64) + z1))])) _
    refine XS.lstore X6.here hx rfl (hb hby at_205) rfl (l' := #[.val (.long tp), .second, .val (.int md), .val (.int lw), .val (.int fl), .val (.int kk), .val (.long m1), .second, .val (.long m0), .second, .val (.long m2), .second, .val (.long z0), .second, .val (.long z1), .second, .val (.long z2), .second, .val (.double jk), .second, .val (.ref b1), .val (.int (1 : Int32)), .val (.long ((0 : Int64) + z1)), .second]) rfl ?_
    show Steps p.tables e below (T6.setTop (mkF m 207 #[.val (.long tp), .second, .val (.int md), .val (.int lw), .val (.int fl), .val (.int kk), .val (.long m1), .second, .val (.long m0), .second, .val (.long m2), .second, .val (.long z0), .second, .val (.long z1), .second, .val (.long z2), .second, .val (.double jk), .second, .val (.ref b1), .val (.int (1 : Int32)), .val (.long ((0 : Int64) + z1)), .second] [])) _
    refine XS.iload X6.here hx rfl (hb hby at_207) rfl ?_
    show Steps p.tables e below (T6.setTop (mkF m 209 #[.val (.long tp), .second, .val (.int md), .val (.int lw), .val (.int fl), .val (.int kk), .val (.long m1), .second, .val (.long m0), .second, .val (.long m2), .second, .val (.long z0), .second, .val (.long z1), .second, .val (.long z2), .second, .val (.double jk), .second, .val (.ref b1), .val (.int (1 : Int32)), .val (.long ((0 : Int64) + z1)), .second] [(.int fl)])) _
    refine XS.iconst X6.here hx rfl (hb hby at_209) ?_
    show Steps p.tables e below (T6.setTop (mkF m 210 #[.val (.long tp), .second, .val (.int md), .val (.int lw), .val (.int fl), .val (.int kk), .val (.long m1), .second, .val (.long m0), .second, .val (.long m2), .second, .val (.long z0), .second, .val (.long z1), .second, .val (.long z2), .second, .val (.double jk), .second, .val (.ref b1), .val (.int (1 : Int32)), .val (.long ((0 : Int64) + z1)), .second] [(.int (4 : Int32)), (.int fl)])) _
    refine XS.iand X6.here hx rfl (hb hby at_210) rfl ?_
    show Steps p.tables e below (T6.setTop (mkF m 211 #[.val (.long tp), .second, .val (.int md), .val (.int lw), .val (.int fl), .val (.int kk), .val (.long m1), .second, .val (.long m0), .second, .val (.long m2), .second, .val (.long z0), .second, .val (.long z1), .second, .val (.long z2), .second, .val (.double jk), .second, .val (.ref b1), .val (.int (1 : Int32)), .val (.long ((0 : Int64) + z1)), .second] [(.int (fl &&& (4 : Int32)))])) _
    refine XS.ifYes X6.here hx rfl (pc0 := 211) (pc' := 232) rfl (hb hby at_211) rfl ((if0 _ _).trans (teq hc211).1) (by decide) (by decide) ?_
    show Steps p.tables e below (T6.setTop (mkF m 232 #[.val (.long tp), .second, .val (.int md), .val (.int lw), .val (.int fl), .val (.int kk), .val (.long m1), .second, .val (.long m0), .second, .val (.long m2), .second, .val (.long z0), .second, .val (.long z1), .second, .val (.long z2), .second, .val (.double jk), .second, .val (.ref b1), .val (.int (1 : Int32)), .val (.long ((0 : Int64) + z1)), .second] [])) _
    refine XS.aload X6.here hx rfl (hb hby at_232) rfl rfl ?_
    show Steps p.tables e below (T6.setTop (mkF m 234 #[.val (.long tp), .second, .val (.int md), .val (.int lw), .val (.int fl), .val (.int kk), .val (.long m1), .second, .val (.long m0), .second, .val (.long m2), .second, .val (.long z0), .second, .val (.long z1), .second, .val (.long z2), .second, .val (.double jk), .second, .val (.ref b1), .val (.int (1 : Int32)), .val (.long ((0 : Int64) + z1)), .second] [(.ref b1)])) _
    refine XS.iload X6.here hx rfl (hb hby at_234) rfl ?_
    show Steps p.tables e below (T6.setTop (mkF m 236 #[.val (.long tp), .second, .val (.int md), .val (.int lw), .val (.int fl), .val (.int kk), .val (.long m1), .second, .val (.long m0), .second, .val (.long m2), .second, .val (.long z0), .second, .val (.long z1), .second, .val (.long z2), .second, .val (.double jk), .second, .val (.ref b1), .val (.int (1 : Int32)), .val (.long ((0 : Int64) + z1)), .second] [(.int (1 : Int32)), (.ref b1)])) _
    refine st7 _ ?_
    show Steps p.tables e below (T7.setTop (mkF m 239 #[.val (.long tp), .second, .val (.int md), .val (.int lw), .val (.int fl), .val (.int kk), .val (.long m1), .second, .val (.long m0), .second, .val (.long m2), .second, .val (.long z0), .second, .val (.long z1), .second, .val (.long z2), .second, .val (.double jk), .second, .val (.ref b1), .val (.int (1 : Int32)), .val (.long ((0 : Int64) + z1)), .second] [(.double res_7)])) _
    refine XS.lload X7.here hx rfl (hb hby at_239) rfl ?_
    show Steps p.tables e below (T7.setTop (mkF m 241 #[.val (.long tp), .second, .val (.int md), .val (.int lw), .val (.int fl), .val (.int kk), .val (.long m1), .second, .val (.long m0), .second, .val (.long m2), .second, .val (.long z0), .second, .val (.long z1), .second, .val (.long z2), .second, .val (.double jk), .second, .val (.ref b1), .val (.int (1 : Int32)), .val (.long ((0 : Int64) + z1)), .second] [(.long ((0 : Int64) + z1)), (.double res_7)])) _
    refine XS.l2dS X7.here hx rfl (hb hby at_241) rfl rfl ?_
    show Steps p.tables e below (T7.setTop (mkF m 242 #[.val (.long tp), .second, .val (.int md), .val (.int lw), .val (.int fl), .val (.int kk), .val (.long m1), .second, .val (.long m0), .second, .val (.long m2), .second, .val (.long z0), .second, .val (.long z1), .second, .val (.long z2), .second, .val (.double jk), .second, .val (.ref b1), .val (.int (1 : Int32)), .val (.long ((0 : Int64) + z1)), .second] [(.double (FP.l2d ((0 : Int64) + z1))), (.double res_7)])) _
    refine XS.dcmpS X7.here hx rfl (hb hby at_242) rfl (v := (0 : Int32)) ((own_eq Pq7_0 (own_l2d (by omega)) .l).mpr rfl) ?_
    show Steps p.tables e below (T7.setTop (mkF m 243 #[.val (.long tp), .second, .val (.int md), .val (.int lw), .val (.int fl), .val (.int kk), .val (.long m1), .second, .val (.long m0), .second, .val (.long m2), .second, .val (.long z0), .second, .val (.long z1), .second, .val (.long z2), .second, .val (.double jk), .second, .val (.ref b1), .val (.int (1 : Int32)), .val (.long ((0 : Int64) + z1)), .second] [(.int (0 : Int32))])) _
    refine XS.ifNo X7.here hx rfl (hb hby at_243) rfl ((if0 _ _).trans (teq (rfl : (0 : Int32) = (0 : Int32))).2) ?_
    show Steps p.tables e below (T7.setTop (mkF m 246 #[.val (.long tp), .second, .val (.int md), .val (.int lw), .val (.int fl), .val (.int kk), .val (.long m1), .second, .val (.long m0), .second, .val (.long m2), .second, .val (.long z0), .second, .val (.long z1), .second, .val (.long z2), .second, .val (.double jk), .second, .val (.ref b1), .val (.int (1 : Int32)), .val (.long ((0 : Int64) + z1)), .second] [])) _
    refine XS.iconst X7.here hx rfl (hb hby at_246) ?_
    show Steps p.tables e below (T7.setTop (mkF m 247 #[.val (.long tp), .second, .val (.int md), .val (.int lw), .val (.int fl), .val (.int kk), .val (.long m1), .second, .val (.long m0), .second, .val (.long m2), .second, .val (.long z0), .second, .val (.long z1), .second, .val (.long z2), .second, .val (.double jk), .second, .val (.ref b1), .val (.int (1 : Int32)), .val (.long ((0 : Int64) + z1)), .second] [(.int (1 : Int32))])) _
    refine XS.goto X7.here hx rfl (pc0 := 247) (pc' := 251) rfl (hb hby at_247) (by decide) (by decide) ?_
    show Steps p.tables e below (T7.setTop (mkF m 251 #[.val (.long tp), .second, .val (.int md), .val (.int lw), .val (.int fl), .val (.int kk), .val (.long m1), .second, .val (.long m0), .second, .val (.long m2), .second, .val (.long z0), .second, .val (.long z1), .second, .val (.long z2), .second, .val (.double jk), .second, .val (.ref b1), .val (.int (1 : Int32)), .val (.long ((0 : Int64) + z1)), .second] [(.int (1 : Int32))])) _
    exact retN X7 hx (t := .boolean) Bd.returns (by simp) (hb hby at_251) hr
  · show Q_rm0_2 Z tp md lw fl h0 n0 _ T7.heap _
    rw [e7]
    exact ⟨rfl, N7⟩
def Q_rm0_3 (Z : State) (tp : Int64) (md : Int32) (lw : Int32) (fl : Int32) (h0 : Heap) (n0 : Nat) (v : Option Value) (h : Heap) (L : List Loc) : Prop := v = some (.int (1 : Int32)) ∧ Fr n0 L
theorem ef_rm0_3 (m : MethodId) (tp : Int64) (md : Int32) (lw : Int32) (fl : Int32) : entryFrame m #[(.long tp), (.int md), (.int lw), (.int fl)] maxLocals = mkF m 0 #[.val (.long tp), .second, .val (.int md), .val (.int lw), .val (.int fl), .unset, .unset, .unset, .unset, .unset, .unset, .unset, .unset, .unset, .unset, .unset, .unset, .unset, .unset, .unset, .unset, .unset, .unset, .unset] [] := by first | (simp [entryFrame, mkF, argsToLocals, Value.category, maxLocals]; done) | rfl
set_option maxRecDepth 65536 in
set_option maxHeartbeats 40000000 in
theorem rm0_3 (l : Launch) (Z : State) (a0 : Array Value) (hw : ∀ d ∈ tables_1, d.before a0 Z = true) (ws : List Jvm.Cond) (tp : Int64) (md : Int32) (lw : Int32) (fl : Int32) (h0 : Heap) (n0 : Nat) (Z0 : n0 ≤ h0.size) (hc161 : ¬ ((fl &&& (1 : Int32)) = (0 : Int32))) (hc186 : ¬ ((fl &&& (2 : Int32)) = (0 : Int32))) (hc211 : (fl &&& (4 : Int32)) = (0 : Int32)) :
    MetFree l x (head1 (Jvm.Cond.code x code maxLocals ret :: ws) room_1) (fun a U => a = #[(.long tp), (.int md), (.int lw), (.int fl)] ∧ Z.Warmed39 U.vm ∧ U.heap = h0) (fun _ _ _ _ _ => True) (fun _ U o U' => ∃ v L, o = .returned v ∧ Q_rm0_3 Z tp md lw fl h0 n0 v U'.heap L ∧ FrameEnd U o U' L room_1.cells room_1.slots) := by
  refine MetFree.of_bodySF (plainFor_of_name pn_1) hisR ?_
  intro p e s m args below meth c s₁ Bd hml0 hP hK
  obtain ⟨rfl, hZ, hh⟩ := hP
  have hx := Bd.exec
  have hby := Bd.bytes
  have hml : c.maxLocals = 24 := hml0
  have hown : s.vm.findClass "com/example/crestwatch/crestwatch/core/ExactSumRoundedPinLaw" = some m.cls := findClass_of_methodNamed Bd.named
  have hnm := (name_of_methodNamed Bd.named Bd.method).1
  have X0 : Stand p l e room_1 s m #[(.long tp), (.int md), (.int lw), (.int fl)] below meth c s₁ [] 0 0 := Stand.of_body Bd
  have e0 : s₁.heap = h0 := by rw [← hh, Bd.state]; rfl
  have N0 := Fr.nil n0
  have pre0 : ∀ t, Steps p.tables e below (s₁.setTop (mkF m 0 #[.val (.long tp), .second, .val (.int md), .val (.int lw), .val (.int fl), .unset, .unset, .unset, .unset, .unset, .unset, .unset, .unset, .unset, .unset, .unset, .unset, .unset, .unset, .unset, .unset, .unset, .unset, .unset] [])) t → Steps p.tables e below (s₁.setTop (entryFrame m #[(.long tp), (.int md), (.int lw), (.int fl)] maxLocals)) t := fun t k => castTop (ef_rm0_3 m tp md lw fl) k
  obtain ⟨kk, m1, m0, m2, z0, z1, z2, jk, K, hP, stp⟩ := own_pre tp md lw fl X0 hx hZ hw hby hown
  obtain ⟨c1, c2, c3, c4, c5, M, c6, c7⟩ := hP
  have b0 : z0.toInt.natAbs < 16 := by have : 2 ^ K ≤ 2 ^ 4 := Nat.pow_le_pow_right (by decide) c1; omega
  have b2 : z2.toInt.natAbs < 2 ^ 61 := by
    rw [c7]
    calc M * 2 ^ (K + 4) < 2 ^ 53 * 2 ^ (K + 4) := Nat.mul_lt_mul_of_pos_right c6 (Nat.two_pow_pos _)
      _ ≤ 2 ^ 53 * 2 ^ 8 := Nat.mul_le_mul_left _ (Nat.pow_le_pow_right (by decide) (by omega))
      _ = 2 ^ 61 := by decide
  have e53 := own_e53
  have e61 := own_e61
  have e63 := own_e63
  have x0 := own_small_exact (p := z0) (by omega)
  have x1 := own_small_exact (p := z1) (by omega)
  have x2 := own_exact (p := z2) ⟨M, _, c6, c7⟩ (by omega)
  have y0 := own_D x0 (by omega)
  have y1 := own_D x1 (by omega)
  have y2 := own_D x2 (by omega)
  have l0 : (0 : Int64).toInt = 0 := by decide
  have s0 : ((0 : Int64) + z0).toInt = z0.toInt := by have q := own_addL (a := (0 : Int64)) (b := z0) (by omega); omega
  have s1 : (((0 : Int64) + z0) + z1).toInt = z0.toInt + z1.toInt := by have q := own_addL (a := ((0 : Int64) + z0)) (b := z1) (by omega); omega
  obtain ⟨T1, h1, k1, X1, e1, E1, A1, st1⟩ := newP X0 hx hZ (hw _ (List.mem_of_getElem? (i := 3) rfl)) e0 (g := (mkF m 123 #[.val (.long tp), .second, .val (.int md), .val (.int lw), .val (.int fl), .val (.int kk), .val (.long m1), .second, .val (.long m0), .second, .val (.long m2), .second, .val (.long z0), .second, .val (.long z1), .second, .val (.long z2), .second, .val (.double jk), .second, .unset, .unset, .unset, .unset] [(.int (4 : Int32))])) rfl (hb hby at_123) rfl (by decide) (cap := 4) (by decide) (by decide) (by decide) (by decide)
  obtain ⟨b1, g1⟩ : ∃ z, z = h0.size := ⟨_, rfl⟩
  rw [← g1] at A1 st1
  have V1 : Arv Z h1 b1 k1 .double (4 : Int32) [(.double 0), (.double 0), (.double 0), (.double 0)] (.double 0) := (Arv.new A1 (by decide)).pad (pad_rep [] (.double 0) 4)
  have Vc2 := V1
  obtain ⟨cl2, Ar2, q2, S2, M2, H2, G2⟩ := Vc2
  have hin2 : ¬ ((0 : Int32) < 0 ∨ cl2.slots.size ≤ ((0 : Int32)).toNatClampNeg) := inb_of S2 ⟨by decide, by decide⟩
  obtain ⟨T2, h2, X2, e2, W2, st2⟩ := stD X1 hx hZ e1 Ar2 (j := (0 : Int32)) hin2 (g := (mkF m 132 #[.val (.long tp), .second, .val (.int md), .val (.int lw), .val (.int fl), .val (.int kk), .val (.long m1), .second, .val (.long m0), .second, .val (.long m2), .second, .val (.long z0), .second, .val (.long z1), .second, .val (.long z2), .second, .val (.double jk), .second, .val (.ref b1), .unset, .unset, .unset] [(.double jk), (.int (0 : Int32)), (.ref b1)])) rfl rfl (hb hby at_132)
  have V2 : Arv Z h2 b1 k1 .double (4 : Int32) [(.double jk), (.double 0), (.double 0), (.double 0)] (.double 0) := Arv.set Ar2 q2 S2 M2 H2 G2 rfl W2 0 rfl (Nat.le_of_ble_eq_true rfl)
  have N2 := Fr.snoc X2 N0 (Nat.le_trans Z0 (Nat.le_of_eq g1.symm))
  have Vc3 := V2
  obtain ⟨cl3, Ar3, q3, S3, M3, H3, G3⟩ := Vc3
  have hin3 : ¬ ((1 : Int32) < 0 ∨ cl3.slots.size ≤ ((1 : Int32)).toNatClampNeg) := inb_of S3 ⟨by decide, by decide⟩
  obtain ⟨T3, h3, X3, e3, W3, st3⟩ := stD X2 hx hZ e2 Ar3 (j := (1 : Int32)) hin3 (g := (mkF m 138 #[.val (.long tp), .second, .val (.int md), .val (.int lw), .val (.int fl), .val (.int kk), .val (.long m1), .second, .val (.long m0), .second, .val (.long m2), .second, .val (.long z0), .second, .val (.long z1), .second, .val (.long z2), .second, .val (.double jk), .second, .val (.ref b1), .unset, .unset, .unset] [(.double jk), (.int (1 : Int32)), (.ref b1)])) rfl rfl (hb hby at_138)
  have V3 : Arv Z h3 b1 k1 .double (4 : Int32) [(.double jk), (.double jk), (.double 0), (.double 0)] (.double 0) := Arv.set Ar3 q3 S3 M3 H3 G3 rfl W3 1 rfl (Nat.le_of_ble_eq_true rfl)
  have N3 := Fr.snoc X3 N2 (Nat.le_trans Z0 (Nat.le_of_eq g1.symm))
  have Vc4 := V3
  obtain ⟨cl4, Ar4, q4, S4, M4, H4, G4⟩ := Vc4
  have hin4 : ¬ ((2 : Int32) < 0 ∨ cl4.slots.size ≤ ((2 : Int32)).toNatClampNeg) := inb_of S4 ⟨by decide, by decide⟩
  obtain ⟨T4, h4, X4, e4, W4, st4⟩ := stD X3 hx hZ e3 Ar4 (j := (2 : Int32)) hin4 (g := (mkF m 144 #[.val (.long tp), .second, .val (.int md), .val (.int lw), .val (.int fl), .val (.int kk), .val (.long m1), .second, .val (.long m0), .second, .val (.long m2), .second, .val (.long z0), .second, .val (.long z1), .second, .val (.long z2), .second, .val (.double jk), .second, .val (.ref b1), .unset, .unset, .unset] [(.double jk), (.int (2 : Int32)), (.ref b1)])) rfl rfl (hb hby at_144)
  have V4 : Arv Z h4 b1 k1 .double (4 : Int32) [(.double jk), (.double jk), (.double jk), (.double 0)] (.double 0) := Arv.set Ar4 q4 S4 M4 H4 G4 rfl W4 2 rfl (Nat.le_of_ble_eq_true rfl)
  have N4 := Fr.snoc X4 N3 (Nat.le_trans Z0 (Nat.le_of_eq g1.symm))
  have Vc5 := V4
  obtain ⟨cl5, Ar5, q5, S5, M5, H5, G5⟩ := Vc5
  have hin5 : ¬ ((3 : Int32) < 0 ∨ cl5.slots.size ≤ ((3 : Int32)).toNatClampNeg) := inb_of S5 ⟨by decide, by decide⟩
  obtain ⟨T5, h5, X5, e5, W5, st5⟩ := stD X4 hx hZ e4 Ar5 (j := (3 : Int32)) hin5 (g := (mkF m 150 #[.val (.long tp), .second, .val (.int md), .val (.int lw), .val (.int fl), .val (.int kk), .val (.long m1), .second, .val (.long m0), .second, .val (.long m2), .second, .val (.long z0), .second, .val (.long z1), .second, .val (.long z2), .second, .val (.double jk), .second, .val (.ref b1), .unset, .unset, .unset] [(.double jk), (.int (3 : Int32)), (.ref b1)])) rfl rfl (hb hby at_150)
  have V5 : Arv Z h5 b1 k1 .double (4 : Int32) [(.double jk), (.double jk), (.double jk), (.double jk)] (.double 0) := Arv.set Ar5 q5 S5 M5 H5 G5 rfl W5 3 rfl (Nat.le_of_ble_eq_true rfl)
  have N5 := Fr.snoc X5 N4 (Nat.le_trans Z0 (Nat.le_of_eq g1.symm))
  have Vc6 := V5
  obtain ⟨cl6, Ar6, q6, S6, M6, H6, G6⟩ := Vc6
  have hin6 : ¬ ((0 : Int32) < 0 ∨ cl6.slots.size ≤ ((0 : Int32)).toNatClampNeg) := inb_of S6 ⟨by decide, by decide⟩
  obtain ⟨T6, h6, X6, e6, W6, st6⟩ := stD X5 hx hZ e5 Ar6 (j := (0 : Int32)) hin6 (g := (mkF m 171 #[.val (.long tp), .second, .val (.int md), .val (.int lw), .val (.int fl), .val (.int kk), .val (.long m1), .second, .val (.long m0), .second, .val (.long m2), .second, .val (.long z0), .second, .val (.long z1), .second, .val (.long z2), .second, .val (.double jk), .second, .val (.ref b1), .val (.int (0 : Int32)), .val (.long (0 : Int64)), .second] [(.double (FP.l2d z0)), (.int (0 : Int32)), (.ref b1)])) rfl rfl (hb hby at_171)
  have V6 : Arv Z h6 b1 k1 .double (4 : Int32) [(.double (FP.l2d z0)), (.double jk), (.double jk), (.double jk)] (.double 0) := Arv.set Ar6 q6 S6 M6 H6 G6 rfl W6 0 rfl (Nat.le_of_ble_eq_true rfl)
  have N6 := Fr.snoc X6 N5 (Nat.le_trans Z0 (Nat.le_of_eq g1.symm))
  have Vc7 := V6
  obtain ⟨cl7, Ar7, q7, S7, M7, H7, G7⟩ := Vc7
  have hin7 : ¬ ((1 : Int32) < 0 ∨ cl7.slots.size ≤ ((1 : Int32)).toNatClampNeg) := inb_of S7 ⟨by decide, by decide⟩
  obtain ⟨T7, h7, X7, e7, W7, st7⟩ := stD X6 hx hZ e6 Ar7 (j := (1 : Int32)) hin7 (g := (mkF m 196 #[.val (.long tp), .second, .val (.int md), .val (.int lw), .val (.int fl), .val (.int kk), .val (.long m1), .second, .val (.long m0), .second, .val (.long m2), .second, .val (.long z0), .second, .val (.long z1), .second, .val (.long z2), .second, .val (.double jk), .second, .val (.ref b1), .val (.int (1 : Int32)), .val (.long ((0 : Int64) + z0)), .second] [(.double (FP.l2d z1)), (.int (1 : Int32)), (.ref b1)])) rfl rfl (hb hby at_196)
  have V7 : Arv Z h7 b1 k1 .double (4 : Int32) [(.double (FP.l2d z0)), (.double (FP.l2d z1)), (.double jk), (.double jk)] (.double 0) := Arv.set Ar7 q7 S7 M7 H7 G7 rfl W7 1 rfl (Nat.le_of_ble_eq_true rfl)
  have N7 := Fr.snoc X7 N6 (Nat.le_trans Z0 (Nat.le_of_eq g1.symm))
  obtain ⟨_, _, ⟨T8, L8, k8, n8⟩, -, X8, ⟨Lc8, hQ8, l8, y8, z8⟩, st8⟩ := Jvm.LawKit.callS X7 hx (y := (⟨"com/example/crestwatch/crestwatch/core/ExactSum", "rounded", "([DI)D"⟩ : MethodName)) hown (mvT hZ (hw _ (List.mem_of_getElem? (i := 4) rfl))) (mvT hZ (hw _ (List.mem_of_getElem? (i := 5) rfl))) (mvT hZ (hw _ (List.mem_of_getElem? (i := 6) rfl))) (mvT hZ (hw _ (List.mem_of_getElem? (i := 7) rfl))) (by decide) (backOf (W := 0) (rd_2 l Z a0 hw [] b1 k1 (FP.l2d z0) (FP.l2d z1) jk jk z0.toInt z1.toInt ((((0 : Int64) + z0) + z1).toInt) h7 n0 (Nat.le_trans (Nat.le_trans (Nat.le_trans (Nat.le_trans (Nat.le_trans (Nat.le_trans (Nat.le_trans Z0 E1.1) (Keep.of_wr W2).1) (Keep.of_wr W3).1) (Keep.of_wr W4).1) (Keep.of_wr W5).1) (Keep.of_wr W6).1) (Keep.of_wr W7).1) V7 y0 y1 (by omega) (by rw [s1]; omega)) hZ (hw _ (List.mem_of_getElem? (i := 7) rfl)) (hw _ (List.mem_of_getElem? (i := 6) rfl)) (by decide) (by decide)) (g := (mkF m 236 #[.val (.long tp), .second, .val (.int md), .val (.int lw), .val (.int fl), .val (.int kk), .val (.long m1), .second, .val (.long m0), .second, .val (.long m2), .second, .val (.long z0), .second, .val (.long z1), .second, .val (.long z2), .second, .val (.double jk), .second, .val (.ref b1), .val (.int (2 : Int32)), .val (.long (((0 : Int64) + z0) + z1)), .second] [(.int (2 : Int32)), (.ref b1)])) rfl (by rw [hml]; rfl) (argsL := [(.ref b1), (.int (2 : Int32))]) (rest := []) (lenOf pd_0 rfl) rfl (by show 2 * 0 + _ ≤ _; exact Nat.le_of_eq rfl) (hb hby at_236) (fun _ _ => ⟨rfl, e7, (by decide : 1 + 0 ≤ _), (by decide : 4 + 0 ≤ _)⟩)
  dsimp only [Pt.U, Pt.locs, Pt.cells, Pt.slots] at X8 l8 y8 z8 st8 hQ8
  subst l8 y8 z8
  obtain ⟨res_8, rfl, Nq8, e8, Pq8_0⟩ := hQ8
  have N8 := Fr.app N7 Nq8
  obtain ⟨fs, hr, hrun, hended, hW, hsame⟩ := X8.leave (v := some (.int (1 : Int32))) (fun h => by rw [Bd.returns] at h; cases h)
  refine ⟨_, _, pre0 _ ?_, hrun, hended, _, _, rfl, ?_, ⟨_, rfl⟩, hW, hsame.mono (by decide) (by decide)⟩
  · show Steps p.tables e below (s₁.setTop (mkF m 0 #[.val (.long tp), .second, .val (.int md), .val (.int lw), .val (.int fl), .unset, .unset, .unset, .unset, .unset, .unset, .unset, .unset, .unset, .unset, .unset, .unset, .unset, .unset, .unset, .unset, .unset, .unset, .unset] [])) _
    refine stp _ ?_
    show Steps p.tables e below (s₁.setTop (mkF m 122 #[.val (.long tp), .second, .val (.int md), .val (.int lw), .val (.int fl), .val (.int kk), .val (.long m1), .second, .val (.long m0), .second, .val (.long m2), .second, .val (.long z0), .second, .val (.long z1), .second, .val (.long z2), .second, .val (.double jk), .second, .unset, .unset, .unset, .unset] [])) _
    refine XS.iconst X0.here hx rfl (hb hby at_122) ?_
    show Steps p.tables e below (s₁.setTop (mkF m 123 #[.val (.long tp), .second, .val (.int md), .val (.int lw), .val (.int fl), .val (.int kk), .val (.long m1), .second, .val (.long m0), .second, .val (.long m2), .second, .val (.long z0), .second, .val (.long z1), .second, .val (.long z2), .second, .val (.double jk), .second, .unset, .unset, .unset, .unset] [(.int (4 : Int32))])) _
    refine st1 _ ?_
    show Steps p.tables e below (T1.setTop (mkF m 125 #[.val (.long tp), .second, .val (.int md), .val (.int lw), .val (.int fl), .val (.int kk), .val (.long m1), .second, .val (.long m0), .second, .val (.long m2), .second, .val (.long z0), .second, .val (.long z1), .second, .val (.long z2), .second, .val (.double jk), .second, .unset, .unset, .unset, .unset] [(.ref b1)])) _
    refine XS.astore X1.here hx rfl (hb hby at_125) rfl rfl (l' := #[.val (.long tp), .second, .val (.int md), .val (.int lw), .val (.int fl), .val (.int kk), .val (.long m1), .second, .val (.long m0), .second, .val (.long m2), .second, .val (.long z0), .second, .val (.long z1), .second, .val (.long z2), .second, .val (.double jk), .second, .val (.ref b1), .unset, .unset, .unset]) rfl ?_
    show Steps p.tables e below (T1.setTop (mkF m 127 #[.val (.long tp), .second, .val (.int md), .val (.int lw), .val (.int fl), .val (.int kk), .val (.long m1), .second, .val (.long m0), .second, .val (.long m2), .second, .val (.long z0), .second, .val (.long z1), .second, .val (.long z2), .second, .val (.double jk), .second, .val (.ref b1), .unset, .unset, .unset] [])) _
    refine XS.aload X1.here hx rfl (hb hby at_127) rfl rfl ?_
    show Steps p.tables e below (T1.setTop (mkF m 129 #[.val (.long tp), .second, .val (.int md), .val (.int lw), .val (.int fl), .val (.int kk), .val (.long m1), .second, .val (.long m0), .second, .val (.long m2), .second, .val (.long z0), .second, .val (.long z1), .second, .val (.long z2), .second, .val (.double jk), .second, .val (.ref b1), .unset, .unset, .unset] [(.ref b1)])) _
    refine XS.iconst X1.here hx rfl (hb hby at_129) ?_
    show Steps p.tables e below (T1.setTop (mkF m 130 #[.val (.long tp), .second, .val (.int md), .val (.int lw), .val (.int fl), .val (.int kk), .val (.long m1), .second, .val (.long m0), .second, .val (.long m2), .second, .val (.long z0), .second, .val (.long z1), .second, .val (.long z2), .second, .val (.double jk), .second, .val (.ref b1), .unset, .unset, .unset] [(.int (0 : Int32)), (.ref b1)])) _
    refine XS.dload X1.here hx rfl (hb hby at_130) rfl ?_
    show Steps p.tables e below (T1.setTop (mkF m 132 #[.val (.long tp), .second, .val (.int md), .val (.int lw), .val (.int fl), .val (.int kk), .val (.long m1), .second, .val (.long m0), .second, .val (.long m2), .second, .val (.long z0), .second, .val (.long z1), .second, .val (.long z2), .second, .val (.double jk), .second, .val (.ref b1), .unset, .unset, .unset] [(.double jk), (.int (0 : Int32)), (.ref b1)])) _
    refine st2 _ ?_
    show Steps p.tables e below (T2.setTop (mkF m 133 #[.val (.long tp), .second, .val (.int md), .val (.int lw), .val (.int fl), .val (.int kk), .val (.long m1), .second, .val (.long m0), .second, .val (.long m2), .second, .val (.long z0), .second, .val (.long z1), .second, .val (.long z2), .second, .val (.double jk), .second, .val (.ref b1), .unset, .unset, .unset] [])) _
    refine XS.aload X2.here hx rfl (hb hby at_133) rfl rfl ?_
    show Steps p.tables e below (T2.setTop (mkF m 135 #[.val (.long tp), .second, .val (.int md), .val (.int lw), .val (.int fl), .val (.int kk), .val (.long m1), .second, .val (.long m0), .second, .val (.long m2), .second, .val (.long z0), .second, .val (.long z1), .second, .val (.long z2), .second, .val (.double jk), .second, .val (.ref b1), .unset, .unset, .unset] [(.ref b1)])) _
    refine XS.iconst X2.here hx rfl (hb hby at_135) ?_
    show Steps p.tables e below (T2.setTop (mkF m 136 #[.val (.long tp), .second, .val (.int md), .val (.int lw), .val (.int fl), .val (.int kk), .val (.long m1), .second, .val (.long m0), .second, .val (.long m2), .second, .val (.long z0), .second, .val (.long z1), .second, .val (.long z2), .second, .val (.double jk), .second, .val (.ref b1), .unset, .unset, .unset] [(.int (1 : Int32)), (.ref b1)])) _
    refine XS.dload X2.here hx rfl (hb hby at_136) rfl ?_
    show Steps p.tables e below (T2.setTop (mkF m 138 #[.val (.long tp), .second, .val (.int md), .val (.int lw), .val (.int fl), .val (.int kk), .val (.long m1), .second, .val (.long m0), .second, .val (.long m2), .second, .val (.long z0), .second, .val (.long z1), .second, .val (.long z2), .second, .val (.double jk), .second, .val (.ref b1), .unset, .unset, .unset] [(.double jk), (.int (1 : Int32)), (.ref b1)])) _
    refine st3 _ ?_
    show Steps p.tables e below (T3.setTop (mkF m 139 #[.val (.long tp), .second, .val (.int md), .val (.int lw), .val (.int fl), .val (.int kk), .val (.long m1), .second, .val (.long m0), .second, .val (.long m2), .second, .val (.long z0), .second, .val (.long z1), .second, .val (.long z2), .second, .val (.double jk), .second, .val (.ref b1), .unset, .unset, .unset] [])) _
    refine XS.aload X3.here hx rfl (hb hby at_139) rfl rfl ?_
    show Steps p.tables e below (T3.setTop (mkF m 141 #[.val (.long tp), .second, .val (.int md), .val (.int lw), .val (.int fl), .val (.int kk), .val (.long m1), .second, .val (.long m0), .second, .val (.long m2), .second, .val (.long z0), .second, .val (.long z1), .second, .val (.long z2), .second, .val (.double jk), .second, .val (.ref b1), .unset, .unset, .unset] [(.ref b1)])) _
    refine XS.iconst X3.here hx rfl (hb hby at_141) ?_
    show Steps p.tables e below (T3.setTop (mkF m 142 #[.val (.long tp), .second, .val (.int md), .val (.int lw), .val (.int fl), .val (.int kk), .val (.long m1), .second, .val (.long m0), .second, .val (.long m2), .second, .val (.long z0), .second, .val (.long z1), .second, .val (.long z2), .second, .val (.double jk), .second, .val (.ref b1), .unset, .unset, .unset] [(.int (2 : Int32)), (.ref b1)])) _
    refine XS.dload X3.here hx rfl (hb hby at_142) rfl ?_
    show Steps p.tables e below (T3.setTop (mkF m 144 #[.val (.long tp), .second, .val (.int md), .val (.int lw), .val (.int fl), .val (.int kk), .val (.long m1), .second, .val (.long m0), .second, .val (.long m2), .second, .val (.long z0), .second, .val (.long z1), .second, .val (.long z2), .second, .val (.double jk), .second, .val (.ref b1), .unset, .unset, .unset] [(.double jk), (.int (2 : Int32)), (.ref b1)])) _
    refine st4 _ ?_
    show Steps p.tables e below (T4.setTop (mkF m 145 #[.val (.long tp), .second, .val (.int md), .val (.int lw), .val (.int fl), .val (.int kk), .val (.long m1), .second, .val (.long m0), .second, .val (.long m2), .second, .val (.long z0), .second, .val (.long z1), .second, .val (.long z2), .second, .val (.double jk), .second, .val (.ref b1), .unset, .unset, .unset] [])) _
    refine XS.aload X4.here hx rfl (hb hby at_145) rfl rfl ?_
    show Steps p.tables e below (T4.setTop (mkF m 147 #[.val (.long tp), .second, .val (.int md), .val (.int lw), .val (.int fl), .val (.int kk), .val (.long m1), .second, .val (.long m0), .second, .val (.long m2), .second, .val (.long z0), .second, .val (.long z1), .second, .val (.long z2), .second, .val (.double jk), .second, .val (.ref b1), .unset, .unset, .unset] [(.ref b1)])) _
    refine XS.iconst X4.here hx rfl (hb hby at_147) ?_
    show Steps p.tables e below (T4.setTop (mkF m 148 #[.val (.long tp), .second, .val (.int md), .val (.int lw), .val (.int fl), .val (.int kk), .val (.long m1), .second, .val (.long m0), .second, .val (.long m2), .second, .val (.long z0), .second, .val (.long z1), .second, .val (.long z2), .second, .val (.double jk), .second, .val (.ref b1), .unset, .unset, .unset] [(.int (3 : Int32)), (.ref b1)])) _
    refine XS.dload X4.here hx rfl (hb hby at_148) rfl ?_
    show Steps p.tables e below (T4.setTop (mkF m 150 #[.val (.long tp), .second, .val (.int md), .val (.int lw), .val (.int fl), .val (.int kk), .val (.long m1), .second, .val (.long m0), .second, .val (.long m2), .second, .val (.long z0), .second, .val (.long z1), .second, .val (.long z2), .second, .val (.double jk), .second, .val (.ref b1), .unset, .unset, .unset] [(.double jk), (.int (3 : Int32)), (.ref b1)])) _
    refine st5 _ ?_
    show Steps p.tables e below (T5.setTop (mkF m 151 #[.val (.long tp), .second, .val (.int md), .val (.int lw), .val (.int fl), .val (.int kk), .val (.long m1), .second, .val (.long m0), .second, .val (.long m2), .second, .val (.long z0), .second, .val (.long z1), .second, .val (.long z2), .second, .val (.double jk), .second, .val (.ref b1), .unset, .unset, .unset] [])) _
    refine XS.iconst X5.here hx rfl (hb hby at_151) ?_
    show Steps p.tables e below (T5.setTop (mkF m 152 #[.val (.long tp), .second, .val (.int md), .val (.int lw), .val (.int fl), .val (.int kk), .val (.long m1), .second, .val (.long m0), .second, .val (.long m2), .second, .val (.long z0), .second, .val (.long z1), .second, .val (.long z2), .second, .val (.double jk), .second, .val (.ref b1), .unset, .unset, .unset] [(.int (0 : Int32))])) _
    refine XS.istore X5.here hx rfl (hb hby at_152) rfl (l' := #[.val (.long tp), .second, .val (.int md), .val (.int lw), .val (.int fl), .val (.int kk), .val (.long m1), .second, .val (.long m0), .second, .val (.long m2), .second, .val (.long z0), .second, .val (.long z1), .second, .val (.long z2), .second, .val (.double jk), .second, .val (.ref b1), .val (.int (0 : Int32)), .unset, .unset]) rfl ?_
    show Steps p.tables e below (T5.setTop (mkF m 154 #[.val (.long tp), .second, .val (.int md), .val (.int lw), .val (.int fl), .val (.int kk), .val (.long m1), .second, .val (.long m0), .second, .val (.long m2), .second, .val (.long z0), .second, .val (.long z1), .second, .val (.long z2), .second, .val (.double jk), .second, .val (.ref b1), .val (.int (0 : Int32)), .unset, .unset] [])) _
    refine XS.lconst X5.here hx rfl (hb hby at_154) ?_
    show Steps p.tables e below (T5.setTop (mkF m 155 #[.val (.long tp), .second, .val (.int md), .val (.int lw), .val (.int fl), .val (.int kk), .val (.long m1), .second, .val (.long m0), .second, .val (.long m2), .second, .val (.long z0), .second, .val (.long z1), .second, .val (.long z2), .second, .val (.double jk), .second, .val (.ref b1), .val (.int (0 : Int32)), .unset, .unset] [(.long (0 : Int64))])) _
    refine XS.lstore X5.here hx rfl (hb hby at_155) rfl (l' := #[.val (.long tp), .second, .val (.int md), .val (.int lw), .val (.int fl), .val (.int kk), .val (.long m1), .second, .val (.long m0), .second, .val (.long m2), .second, .val (.long z0), .second, .val (.long z1), .second, .val (.long z2), .second, .val (.double jk), .second, .val (.ref b1), .val (.int (0 : Int32)), .val (.long (0 : Int64)), .second]) rfl ?_
    show Steps p.tables e below (T5.setTop (mkF m 157 #[.val (.long tp), .second, .val (.int md), .val (.int lw), .val (.int fl), .val (.int kk), .val (.long m1), .second, .val (.long m0), .second, .val (.long m2), .second, .val (.long z0), .second, .val (.long z1), .second, .val (.long z2), .second, .val (.double jk), .second, .val (.ref b1), .val (.int (0 : Int32)), .val (.long (0 : Int64)), .second] [])) _
    refine XS.iload X5.here hx rfl (hb hby at_157) rfl ?_
    show Steps p.tables e below (T5.setTop (mkF m 159 #[.val (.long tp), .second, .val (.int md), .val (.int lw), .val (.int fl), .val (.int kk), .val (.long m1), .second, .val (.long m0), .second, .val (.long m2), .second, .val (.long z0), .second, .val (.long z1), .second, .val (.long z2), .second, .val (.double jk), .second, .val (.ref b1), .val (.int (0 : Int32)), .val (.long (0 : Int64)), .second] [(.int fl)])) _
    refine XS.iconst X5.here hx rfl (hb hby at_159) ?_
    show Steps p.tables e below (T5.setTop (mkF m 160 #[.val (.long tp), .second, .val (.int md), .val (.int lw), .val (.int fl), .val (.int kk), .val (.long m1), .second, .val (.long m0), .second, .val (.long m2), .second, .val (.long z0), .second, .val (.long z1), .second, .val (.long z2), .second, .val (.double jk), .second, .val (.ref b1), .val (.int (0 : Int32)), .val (.long (0 : Int64)), .second] [(.int (1 : Int32)), (.int fl)])) _
    refine XS.iand X5.here hx rfl (hb hby at_160) rfl ?_
    show Steps p.tables e below (T5.setTop (mkF m 161 #[.val (.long tp), .second, .val (.int md), .val (.int lw), .val (.int fl), .val (.int kk), .val (.long m1), .second, .val (.long m0), .second, .val (.long m2), .second, .val (.long z0), .second, .val (.long z1), .second, .val (.long z2), .second, .val (.double jk), .second, .val (.ref b1), .val (.int (0 : Int32)), .val (.long (0 : Int64)), .second] [(.int (fl &&& (1 : Int32)))])) _
    refine XS.ifNo X5.here hx rfl (hb hby at_161) rfl ((if0 _ _).trans (feq hc161).1) ?_
    show Steps p.tables e below (T5.setTop (mkF m 164 #[.val (.long tp), .second, .val (.int md), .val (.int lw), .val (.int fl), .val (.int kk), .val (.long m1), .second, .val (.long m0), .second, .val (.long m2), .second, .val (.long z0), .second, .val (.long z1), .second, .val (.long z2), .second, .val (.double jk), .second, .val (.ref b1), .val (.int (0 : Int32)), .val (.long (0 : Int64)), .second] [])) _
    refine XS.aload X5.here hx rfl (hb hby at_164) rfl rfl ?_
    show Steps p.tables e below (T5.setTop (mkF m 166 #[.val (.long tp), .second, .val (.int md), .val (.int lw), .val (.int fl), .val (.int kk), .val (.long m1), .second, .val (.long m0), .second, .val (.long m2), .second, .val (.long z0), .second, .val (.long z1), .second, .val (.long z2), .second, .val (.double jk), .second, .val (.ref b1), .val (.int (0 : Int32)), .val (.long (0 : Int64)), .second] [(.ref b1)])) _
    refine XS.iload X5.here hx rfl (hb hby at_166) rfl ?_
    show Steps p.tables e below (T5.setTop (mkF m 168 #[.val (.long tp), .second, .val (.int md), .val (.int lw), .val (.int fl), .val (.int kk), .val (.long m1), .second, .val (.long m0), .second, .val (.long m2), .second, .val (.long z0), .second, .val (.long z1), .second, .val (.long z2), .second, .val (.double jk), .second, .val (.ref b1), .val (.int (0 : Int32)), .val (.long (0 : Int64)), .second] [(.int (0 : Int32)), (.ref b1)])) _
    refine XS.lload X5.here hx rfl (hb hby at_168) rfl ?_
    show Steps p.tables e below (T5.setTop (mkF m 170 #[.val (.long tp), .second, .val (.int md), .val (.int lw), .val (.int fl), .val (.int kk), .val (.long m1), .second, .val (.long m0), .second, .val (.long m2), .second, .val (.long z0), .second, .val (.long z1), .second, .val (.long z2), .second, .val (.double jk), .second, .val (.ref b1), .val (.int (0 : Int32)), .val (.long (0 : Int64)), .second] [(.long z0), (.int (0 : Int32)), (.ref b1)])) _
    refine XS.l2dS X5.here hx rfl (hb hby at_170) rfl rfl ?_
    show Steps p.tables e below (T5.setTop (mkF m 171 #[.val (.long tp), .second, .val (.int md), .val (.int lw), .val (.int fl), .val (.int kk), .val (.long m1), .second, .val (.long m0), .second, .val (.long m2), .second, .val (.long z0), .second, .val (.long z1), .second, .val (.long z2), .second, .val (.double jk), .second, .val (.ref b1), .val (.int (0 : Int32)), .val (.long (0 : Int64)), .second] [(.double (FP.l2d z0)), (.int (0 : Int32)), (.ref b1)])) _
    refine st6 _ ?_
    show Steps p.tables e below (T6.setTop (mkF m 172 #[.val (.long tp), .second, .val (.int md), .val (.int lw), .val (.int fl), .val (.int kk), .val (.long m1), .second, .val (.long m0), .second, .val (.long m2), .second, .val (.long z0), .second, .val (.long z1), .second, .val (.long z2), .second, .val (.double jk), .second, .val (.ref b1), .val (.int (0 : Int32)), .val (.long (0 : Int64)), .second] [])) _
    refine XS.iinc X6.here hx rfl (hb hby at_172) rfl (l' := #[.val (.long tp), .second, .val (.int md), .val (.int lw), .val (.int fl), .val (.int kk), .val (.long m1), .second, .val (.long m0), .second, .val (.long m2), .second, .val (.long z0), .second, .val (.long z1), .second, .val (.long z2), .second, .val (.double jk), .second, .val (.ref b1), .val (.int ((0 : Int32) + (1 : Int32))), .val (.long (0 : Int64)), .second]) rfl ?_
    show Steps p.tables e below (T6.setTop (mkF m 175 #[.val (.long tp), .second, .val (.int md), .val (.int lw), .val (.int fl), .val (.int kk), .val (.long m1), .second, .val (.long m0), .second, .val (.long m2), .second, .val (.long z0), .second, .val (.long z1), .second, .val (.long z2), .second, .val (.double jk), .second, .val (.ref b1), .val (.int ((0 : Int32) + (1 : Int32))), .val (.long (0 : Int64)), .second] [])) _
    rw [show ((0 : Int32) + (1 : Int32)) = (1 : Int32) from by decide]
    show Steps p.tables e below (T6.setTop (mkF m 175 #[.val (.long tp), .second, .val (.int md), .val (.int lw), .val (.int fl), .val (.int kk), .val (.long m1), .second, .val (.long m0), .second, .val (.long m2), .second, .val (.long z0), .second, .val (.long z1), .second, .val (.long z2), .second, .val (.double jk), .second, .val (.ref b1), .val (.int (1 : Int32)), .val (.long (0 : Int64)), .second] [])) _
    refine XS.lload X6.here hx rfl (hb hby at_175) rfl ?_
    show Steps p.tables e below (T6.setTop (mkF m 177 #[.val (.long tp), .second, .val (.int md), .val (.int lw), .val (.int fl), .val (.int kk), .val (.long m1), .second, .val (.long m0), .second, .val (.long m2), .second, .val (.long z0), .second, .val (.long z1), .second, .val (.long z2), .second, .val (.double jk), .second, .val (.ref b1), .val (.int (1 : Int32)), .val (.long (0 : Int64)), .second] [(.long (0 : Int64))])) _
    refine XS.lload X6.here hx rfl (hb hby at_177) rfl ?_
    show Steps p.tables e below (T6.setTop (mkF m 179 #[.val (.long tp), .second, .val (.int md), .val (.int lw), .val (.int fl), .val (.int kk), .val (.long m1), .second, .val (.long m0), .second, .val (.long m2), .second, .val (.long z0), .second, .val (.long z1), .second, .val (.long z2), .second, .val (.double jk), .second, .val (.ref b1), .val (.int (1 : Int32)), .val (.long (0 : Int64)), .second] [(.long z0), (.long (0 : Int64))])) _
    refine XS.ladd X6.here hx rfl (hb hby at_179) rfl ?_
    show Steps p.tables e below (T6.setTop (mkF m 180 #[.val (.long tp), .second, .val (.int md), .val (.int lw), .val (.int fl), .val (.int kk), .val (.long m1), .second, .val (.long m0), .second, .val (.long m2), .second, .val (.long z0), .second, .val (.long z1), .second, .val (.long z2), .second, .val (.double jk), .second, .val (.ref b1), .val (.int (1 : Int32)), .val (.long (0 : Int64)), .second] [(.long ((0 : Int64) + z0))])) _
    refine XS.lstore X6.here hx rfl (hb hby at_180) rfl (l' := #[.val (.long tp), .second, .val (.int md), .val (.int lw), .val (.int fl), .val (.int kk), .val (.long m1), .second, .val (.long m0), .second, .val (.long m2), .second, .val (.long z0), .second, .val (.long z1), .second, .val (.long z2), .second, .val (.double jk), .second, .val (.ref b1), .val (.int (1 : Int32)), .val (.long ((0 : Int64) + z0)), .second]) rfl ?_
    show Steps p.tables e below (T6.setTop (mkF m 182 #[.val (.long tp), .second, .val (.int md), .val (.int lw), .val (.int fl), .val (.int kk), .val (.long m1), .second, .val (.long m0), .second, .val (.long m2), .second, .val (.long z0), .second, .val (.long z1), .second, .val (.long z2), .second, .val (.double jk), .second, .val (.ref b1), .val (.int (1 : Int32)), .val (.long ((0 : Int64) + z0)), .second] [])) _
    refine XS.iload X6.here hx rfl (hb hby at_182) rfl ?_
    show Steps p.tables e below (T6.setTop (mkF m 184 #[.val (.long tp), .second, .val (.int md), .val (.int lw), .val (.int fl), .val (.int kk), .val (.long m1), .second, .val (.long m0), .second, .val (.long m2), .second, .val (.long z0), .second, .val (.long z1), .second, .val (.long z2), .second, .val (.double jk), .second, .val (.ref b1), .val (.int (1 : Int32)), .val (.long ((0 : Int64) + z0)), .second] [(.int fl)])) _
    refine XS.iconst X6.here hx rfl (hb hby at_184) ?_
    show Steps p.tables e below (T6.setTop (mkF m 185 #[.val (.long tp), .second, .val (.int md), .val (.int lw), .val (.int fl), .val (.int kk), .val (.long m1), .second, .val (.long m0), .second, .val (.long m2), .second, .val (.long z0), .second, .val (.long z1), .second, .val (.long z2), .second, .val (.double jk), .second, .val (.ref b1), .val (.int (1 : Int32)), .val (.long ((0 : Int64) + z0)), .second] [(.int (2 : Int32)), (.int fl)])) _
    refine XS.iand X6.here hx rfl (hb hby at_185) rfl ?_
    show Steps p.tables e below (T6.setTop (mkF m 186 #[.val (.long tp), .second, .val (.int md), .val (.int lw), .val (.int fl), .val (.int kk), .val (.long m1), .second, .val (.long m0), .second, .val (.long m2), .second, .val (.long z0), .second, .val (.long z1), .second, .val (.long z2), .second, .val (.double jk), .second, .val (.ref b1), .val (.int (1 : Int32)), .val (.long ((0 : Int64) + z0)), .second] [(.int (fl &&& (2 : Int32)))])) _
    refine XS.ifNo X6.here hx rfl (hb hby at_186) rfl ((if0 _ _).trans (feq hc186).1) ?_
    show Steps p.tables e below (T6.setTop (mkF m 189 #[.val (.long tp), .second, .val (.int md), .val (.int lw), .val (.int fl), .val (.int kk), .val (.long m1), .second, .val (.long m0), .second, .val (.long m2), .second, .val (.long z0), .second, .val (.long z1), .second, .val (.long z2), .second, .val (.double jk), .second, .val (.ref b1), .val (.int (1 : Int32)), .val (.long ((0 : Int64) + z0)), .second] [])) _
    refine XS.aload X6.here hx rfl (hb hby at_189) rfl rfl ?_
    show Steps p.tables e below (T6.setTop (mkF m 191 #[.val (.long tp), .second, .val (.int md), .val (.int lw), .val (.int fl), .val (.int kk), .val (.long m1), .second, .val (.long m0), .second, .val (.long m2), .second, .val (.long z0), .second, .val (.long z1), .second, .val (.long z2), .second, .val (.double jk), .second, .val (.ref b1), .val (.int (1 : Int32)), .val (.long ((0 : Int64) + z0)), .second] [(.ref b1)])) _
    refine XS.iload X6.here hx rfl (hb hby at_191) rfl ?_
    show Steps p.tables e below (T6.setTop (mkF m 193 #[.val (.long tp), .second, .val (.int md), .val (.int lw), .val (.int fl), .val (.int kk), .val (.long m1), .second, .val (.long m0), .second, .val (.long m2), .second, .val (.long z0), .second, .val (.long z1), .second, .val (.long z2), .second, .val (.double jk), .second, .val (.ref b1), .val (.int (1 : Int32)), .val (.long ((0 : Int64) + z0)), .second] [(.int (1 : Int32)), (.ref b1)])) _
    refine XS.lload X6.here hx rfl (hb hby at_193) rfl ?_
    show Steps p.tables e below (T6.setTop (mkF m 195 #[.val (.long tp), .second, .val (.int md), .val (.int lw), .val (.int fl), .val (.int kk), .val (.long m1), .second, .val (.long m0), .second, .val (.long m2), .second, .val (.long z0), .second, .val (.long z1), .second, .val (.long z2), .second, .val (.double jk), .second, .val (.ref b1), .val (.int (1 : Int32)), .val (.long ((0 : Int64) + z0)), .second] [(.long z1), (.int (1 : Int32)), (.ref b1)])) _
    refine XS.l2dS X6.here hx rfl (hb hby at_195) rfl rfl ?_
    show Steps p.tables e below (T6.setTop (mkF m 196 #[.val (.long tp), .second, .val (.int md), .val (.int lw), .val (.int fl), .val (.int kk), .val (.long m1), .second, .val (.long m0), .second, .val (.long m2), .second, .val (.long z0), .second, .val (.long z1), .second, .val (.long z2), .second, .val (.double jk), .second, .val (.ref b1), .val (.int (1 : Int32)), .val (.long ((0 : Int64) + z0)), .second] [(.double (FP.l2d z1)), (.int (1 : Int32)), (.ref b1)])) _
    refine st7 _ ?_
    show Steps p.tables e below (T7.setTop (mkF m 197 #[.val (.long tp), .second, .val (.int md), .val (.int lw), .val (.int fl), .val (.int kk), .val (.long m1), .second, .val (.long m0), .second, .val (.long m2), .second, .val (.long z0), .second, .val (.long z1), .second, .val (.long z2), .second, .val (.double jk), .second, .val (.ref b1), .val (.int (1 : Int32)), .val (.long ((0 : Int64) + z0)), .second] [])) _
    refine XS.iinc X7.here hx rfl (hb hby at_197) rfl (l' := #[.val (.long tp), .second, .val (.int md), .val (.int lw), .val (.int fl), .val (.int kk), .val (.long m1), .second, .val (.long m0), .second, .val (.long m2), .second, .val (.long z0), .second, .val (.long z1), .second, .val (.long z2), .second, .val (.double jk), .second, .val (.ref b1), .val (.int ((1 : Int32) + (1 : Int32))), .val (.long ((0 : Int64) + z0)), .second]) rfl ?_
    show Steps p.tables e below (T7.setTop (mkF m 200 #[.val (.long tp), .second, .val (.int md), .val (.int lw), .val (.int fl), .val (.int kk), .val (.long m1), .second, .val (.long m0), .second, .val (.long m2), .second, .val (.long z0), .second, .val (.long z1), .second, .val (.long z2), .second, .val (.double jk), .second, .val (.ref b1), .val (.int ((1 : Int32) + (1 : Int32))), .val (.long ((0 : Int64) + z0)), .second] [])) _
    rw [show ((1 : Int32) + (1 : Int32)) = (2 : Int32) from by decide]
    show Steps p.tables e below (T7.setTop (mkF m 200 #[.val (.long tp), .second, .val (.int md), .val (.int lw), .val (.int fl), .val (.int kk), .val (.long m1), .second, .val (.long m0), .second, .val (.long m2), .second, .val (.long z0), .second, .val (.long z1), .second, .val (.long z2), .second, .val (.double jk), .second, .val (.ref b1), .val (.int (2 : Int32)), .val (.long ((0 : Int64) + z0)), .second] [])) _
    refine XS.lload X7.here hx rfl (hb hby at_200) rfl ?_
    show Steps p.tables e below (T7.setTop (mkF m 202 #[.val (.long tp), .second, .val (.int md), .val (.int lw), .val (.int fl), .val (.int kk), .val (.long m1), .second, .val (.long m0), .second, .val (.long m2), .second, .val (.long z0), .second, .val (.long z1), .second, .val (.long z2), .second, .val (.double jk), .second, .val (.ref b1), .val (.int (2 : Int32)), .val (.long ((0 : Int64) + z0)), .second] [(.long ((0 : Int64) + z0))])) _
    refine XS.lload X7.here hx rfl (hb hby at_202) rfl ?_
    show Steps p.tables e below (T7.setTop (mkF m 204 #[.val (.long tp), .second, .val (.int md), .val (.int lw), .val (.int fl), .val (.int kk), .val (.long m1), .second, .val (.long m0), .second, .val (.long m2), .second, .val (.long z0), .second, .val (.long z1), .second, .val (.long z2), .second, .val (.double jk), .second, .val (.ref b1), .val (.int (2 : Int32)), .val (.long ((0 : Int64) + z0)), .second] [(.long z1), (.long ((0 : Int64) + z0))])) _
    refine XS.ladd X7.here hx rfl (hb hby at_204) rfl ?_
    show Steps p.tables e below (T7.setTop (mkF m 205 #[.val (.long tp), .second, .val (.int md), .val (.int lw), .val (.int fl), .val (.int kk), .val (.long m1), .second, .val (.long m0), .second, .val (.long m2), .second, .val (.long z0), .second, .val (.long z1), .second, .val (.long z2), .second, .val (.double jk), .second, .val (.ref b1), .val (.int (2 : Int32)), .val (.long ((0 : Int64) + z0)), .second] [(.long (((0 : Int64) + z0) + z1))])) _
    refine XS.lstore X7.here hx rfl (hb hby at_205) rfl (l' := #[.val (.long tp), .second, .val (.int md), .val (.int lw), .val (.int fl), .val (.int kk), .val (.long m1), .second, .val (.long m0), .second, .val (.long m2), .second, .val (.long z0), .second, .val (.long z1), .second, .val (.long z2), .second, .val (.double jk), .second, .val (.ref b1), .val (.int (2 : Int32)), .val (.long (((0 : Int64) + z0) + z1)), .second]) rfl ?_
    show Steps p.tables e below (T7.setTop (mkF m 207 #[.val (.long tp), .second, .val (.int md), .val (.int lw), .val (.int fl), .val (.int kk), .val (.long m1), .second, .val (.long m0), .second, .val (.long m2), .second, .val (.long z0), .second, .val (.long z1), .second, .val (.long z2), .second, .val (.double jk), .second, .val (.ref b1), .val (.int (2 : Int32)), .val (.long (((0 : Int64) + z0) + z1)), .second] [])) _
    refine XS.iload X7.here hx rfl (hb hby at_207) rfl ?_
    show Steps p.tables e below (T7.setTop (mkF m 209 #[.val (.long tp), .second, .val (.int md), .val (.int lw), .val (.int fl), .val (.int kk), .val (.long m1), .second, .val (.long m0), .second, .val (.long m2), .second, .val (.long z0), .second, .val (.long z1), .second, .val (.long z2), .second, .val (.double jk), .second, .val (.ref b1), .val (.int (2 : Int32)), .val (.long (((0 : Int64) + z0) + z1)), .second] [(.int fl)])) _
    refine XS.iconst X7.here hx rfl (hb hby at_209) ?_
    show Steps p.tables e below (T7.setTop (mkF m 210 #[.val (.long tp), .second, .val (.int md), .val (.int lw), .val (.int fl), .val (.int kk), .val (.long m1), .second, .val (.long m0), .second, .val (.long m2), .second, .val (.long z0), .second, .val (.long z1), .second, .val (.long z2), .second, .val (.double jk), .second, .val (.ref b1), .val (.int (2 : Int32)), .val (.long (((0 : Int64) + z0) + z1)), .second] [(.int (4 : Int32)), (.int fl)])) _
    refine XS.iand X7.here hx rfl (hb hby at_210) rfl ?_
    show Steps p.tables e below (T7.setTop (mkF m 211 #[.val (.long tp), .second, .val (.int md), .val (.int lw), .val (.int fl), .val (.int kk), .val (.long m1), .second, .val (.long m0), .second, .val (.long m2), .second, .val (.long z0), .second, .val (.long z1), .second, .val (.long z2), .second, .val (.double jk), .second, .val (.ref b1), .val (.int (2 : Int32)), .val (.long (((0 : Int64) + z0) + z1)), .second] [(.int (fl &&& (4 : Int32)))])) _
    refine XS.ifYes X7.here hx rfl (pc0 := 211) (pc' := 232) rfl (hb hby at_211) rfl ((if0 _ _).trans (teq hc211).1) (by decide) (by decide) ?_
    show Steps p.tables e below (T7.setTop (mkF m 232 #[.val (.long tp), .second, .val (.int md), .val (.int lw), .val (.int fl), .val (.int kk), .val (.long m1), .second, .val (.long m0), .second, .val (.long m2), .second, .val (.long z0), .second, .val (.long z1), .second, .val (.long z2), .second, .val (.double jk), .second, .val (.ref b1), .val (.int (2 : Int32)), .val (.long (((0 : Int64) + z0) + z1)), .second] [])) _
    refine XS.aload X7.here hx rfl (hb hby at_232) rfl rfl ?_
    show Steps p.tables e below (T7.setTop (mkF m 234 #[.val (.long tp), .second, .val (.int md), .val (.int lw), .val (.int fl), .val (.int kk), .val (.long m1), .second, .val (.long m0), .second, .val (.long m2), .second, .val (.long z0), .second, .val (.long z1), .second, .val (.long z2), .second, .val (.double jk), .second, .val (.ref b1), .val (.int (2 : Int32)), .val (.long (((0 : Int64) + z0) + z1)), .second] [(.ref b1)])) _
    refine XS.iload X7.here hx rfl (hb hby at_234) rfl ?_
    show Steps p.tables e below (T7.setTop (mkF m 236 #[.val (.long tp), .second, .val (.int md), .val (.int lw), .val (.int fl), .val (.int kk), .val (.long m1), .second, .val (.long m0), .second, .val (.long m2), .second, .val (.long z0), .second, .val (.long z1), .second, .val (.long z2), .second, .val (.double jk), .second, .val (.ref b1), .val (.int (2 : Int32)), .val (.long (((0 : Int64) + z0) + z1)), .second] [(.int (2 : Int32)), (.ref b1)])) _
    refine st8 _ ?_
    show Steps p.tables e below (T8.setTop (mkF m 239 #[.val (.long tp), .second, .val (.int md), .val (.int lw), .val (.int fl), .val (.int kk), .val (.long m1), .second, .val (.long m0), .second, .val (.long m2), .second, .val (.long z0), .second, .val (.long z1), .second, .val (.long z2), .second, .val (.double jk), .second, .val (.ref b1), .val (.int (2 : Int32)), .val (.long (((0 : Int64) + z0) + z1)), .second] [(.double res_8)])) _
    refine XS.lload X8.here hx rfl (hb hby at_239) rfl ?_
    show Steps p.tables e below (T8.setTop (mkF m 241 #[.val (.long tp), .second, .val (.int md), .val (.int lw), .val (.int fl), .val (.int kk), .val (.long m1), .second, .val (.long m0), .second, .val (.long m2), .second, .val (.long z0), .second, .val (.long z1), .second, .val (.long z2), .second, .val (.double jk), .second, .val (.ref b1), .val (.int (2 : Int32)), .val (.long (((0 : Int64) + z0) + z1)), .second] [(.long (((0 : Int64) + z0) + z1)), (.double res_8)])) _
    refine XS.l2dS X8.here hx rfl (hb hby at_241) rfl rfl ?_
    show Steps p.tables e below (T8.setTop (mkF m 242 #[.val (.long tp), .second, .val (.int md), .val (.int lw), .val (.int fl), .val (.int kk), .val (.long m1), .second, .val (.long m0), .second, .val (.long m2), .second, .val (.long z0), .second, .val (.long z1), .second, .val (.long z2), .second, .val (.double jk), .second, .val (.ref b1), .val (.int (2 : Int32)), .val (.long (((0 : Int64) + z0) + z1)), .second] [(.double (FP.l2d (((0 : Int64) + z0) + z1))), (.double res_8)])) _
    refine XS.dcmpS X8.here hx rfl (hb hby at_242) rfl (v := (0 : Int32)) ((own_eq Pq8_0 (own_l2d (by omega)) .l).mpr rfl) ?_
    show Steps p.tables e below (T8.setTop (mkF m 243 #[.val (.long tp), .second, .val (.int md), .val (.int lw), .val (.int fl), .val (.int kk), .val (.long m1), .second, .val (.long m0), .second, .val (.long m2), .second, .val (.long z0), .second, .val (.long z1), .second, .val (.long z2), .second, .val (.double jk), .second, .val (.ref b1), .val (.int (2 : Int32)), .val (.long (((0 : Int64) + z0) + z1)), .second] [(.int (0 : Int32))])) _
    refine XS.ifNo X8.here hx rfl (hb hby at_243) rfl ((if0 _ _).trans (teq (rfl : (0 : Int32) = (0 : Int32))).2) ?_
    show Steps p.tables e below (T8.setTop (mkF m 246 #[.val (.long tp), .second, .val (.int md), .val (.int lw), .val (.int fl), .val (.int kk), .val (.long m1), .second, .val (.long m0), .second, .val (.long m2), .second, .val (.long z0), .second, .val (.long z1), .second, .val (.long z2), .second, .val (.double jk), .second, .val (.ref b1), .val (.int (2 : Int32)), .val (.long (((0 : Int64) + z0) + z1)), .second] [])) _
    refine XS.iconst X8.here hx rfl (hb hby at_246) ?_
    show Steps p.tables e below (T8.setTop (mkF m 247 #[.val (.long tp), .second, .val (.int md), .val (.int lw), .val (.int fl), .val (.int kk), .val (.long m1), .second, .val (.long m0), .second, .val (.long m2), .second, .val (.long z0), .second, .val (.long z1), .second, .val (.long z2), .second, .val (.double jk), .second, .val (.ref b1), .val (.int (2 : Int32)), .val (.long (((0 : Int64) + z0) + z1)), .second] [(.int (1 : Int32))])) _
    refine XS.goto X8.here hx rfl (pc0 := 247) (pc' := 251) rfl (hb hby at_247) (by decide) (by decide) ?_
    show Steps p.tables e below (T8.setTop (mkF m 251 #[.val (.long tp), .second, .val (.int md), .val (.int lw), .val (.int fl), .val (.int kk), .val (.long m1), .second, .val (.long m0), .second, .val (.long m2), .second, .val (.long z0), .second, .val (.long z1), .second, .val (.long z2), .second, .val (.double jk), .second, .val (.ref b1), .val (.int (2 : Int32)), .val (.long (((0 : Int64) + z0) + z1)), .second] [(.int (1 : Int32))])) _
    exact retN X8 hx (t := .boolean) Bd.returns (by simp) (hb hby at_251) hr
  · show Q_rm0_3 Z tp md lw fl h0 n0 _ T8.heap _
    rw [e8]
    exact ⟨rfl, N8⟩
def Q_rm0_4 (Z : State) (tp : Int64) (md : Int32) (lw : Int32) (fl : Int32) (h0 : Heap) (n0 : Nat) (v : Option Value) (h : Heap) (L : List Loc) : Prop := v = some (.int (1 : Int32)) ∧ Fr n0 L
theorem ef_rm0_4 (m : MethodId) (tp : Int64) (md : Int32) (lw : Int32) (fl : Int32) : entryFrame m #[(.long tp), (.int md), (.int lw), (.int fl)] maxLocals = mkF m 0 #[.val (.long tp), .second, .val (.int md), .val (.int lw), .val (.int fl), .unset, .unset, .unset, .unset, .unset, .unset, .unset, .unset, .unset, .unset, .unset, .unset, .unset, .unset, .unset, .unset, .unset, .unset, .unset] [] := by first | (simp [entryFrame, mkF, argsToLocals, Value.category, maxLocals]; done) | rfl
set_option maxRecDepth 65536 in
set_option maxHeartbeats 40000000 in
theorem rm0_4 (l : Launch) (Z : State) (a0 : Array Value) (hw : ∀ d ∈ tables_1, d.before a0 Z = true) (ws : List Jvm.Cond) (tp : Int64) (md : Int32) (lw : Int32) (fl : Int32) (h0 : Heap) (n0 : Nat) (Z0 : n0 ≤ h0.size) (hc161 : (fl &&& (1 : Int32)) = (0 : Int32)) (hc186 : (fl &&& (2 : Int32)) = (0 : Int32)) (hc211 : ¬ ((fl &&& (4 : Int32)) = (0 : Int32))) :
    MetFree l x (head1 (Jvm.Cond.code x code maxLocals ret :: ws) room_1) (fun a U => a = #[(.long tp), (.int md), (.int lw), (.int fl)] ∧ Z.Warmed39 U.vm ∧ U.heap = h0) (fun _ _ _ _ _ => True) (fun _ U o U' => ∃ v L, o = .returned v ∧ Q_rm0_4 Z tp md lw fl h0 n0 v U'.heap L ∧ FrameEnd U o U' L room_1.cells room_1.slots) := by
  refine MetFree.of_bodySF (plainFor_of_name pn_1) hisR ?_
  intro p e s m args below meth c s₁ Bd hml0 hP hK
  obtain ⟨rfl, hZ, hh⟩ := hP
  have hx := Bd.exec
  have hby := Bd.bytes
  have hml : c.maxLocals = 24 := hml0
  have hown : s.vm.findClass "com/example/crestwatch/crestwatch/core/ExactSumRoundedPinLaw" = some m.cls := findClass_of_methodNamed Bd.named
  have hnm := (name_of_methodNamed Bd.named Bd.method).1
  have X0 : Stand p l e room_1 s m #[(.long tp), (.int md), (.int lw), (.int fl)] below meth c s₁ [] 0 0 := Stand.of_body Bd
  have e0 : s₁.heap = h0 := by rw [← hh, Bd.state]; rfl
  have N0 := Fr.nil n0
  have pre0 : ∀ t, Steps p.tables e below (s₁.setTop (mkF m 0 #[.val (.long tp), .second, .val (.int md), .val (.int lw), .val (.int fl), .unset, .unset, .unset, .unset, .unset, .unset, .unset, .unset, .unset, .unset, .unset, .unset, .unset, .unset, .unset, .unset, .unset, .unset, .unset] [])) t → Steps p.tables e below (s₁.setTop (entryFrame m #[(.long tp), (.int md), (.int lw), (.int fl)] maxLocals)) t := fun t k => castTop (ef_rm0_4 m tp md lw fl) k
  obtain ⟨kk, m1, m0, m2, z0, z1, z2, jk, K, hP, stp⟩ := own_pre tp md lw fl X0 hx hZ hw hby hown
  obtain ⟨c1, c2, c3, c4, c5, M, c6, c7⟩ := hP
  have b0 : z0.toInt.natAbs < 16 := by have : 2 ^ K ≤ 2 ^ 4 := Nat.pow_le_pow_right (by decide) c1; omega
  have b2 : z2.toInt.natAbs < 2 ^ 61 := by
    rw [c7]
    calc M * 2 ^ (K + 4) < 2 ^ 53 * 2 ^ (K + 4) := Nat.mul_lt_mul_of_pos_right c6 (Nat.two_pow_pos _)
      _ ≤ 2 ^ 53 * 2 ^ 8 := Nat.mul_le_mul_left _ (Nat.pow_le_pow_right (by decide) (by omega))
      _ = 2 ^ 61 := by decide
  have e53 := own_e53
  have e61 := own_e61
  have e63 := own_e63
  have x0 := own_small_exact (p := z0) (by omega)
  have x1 := own_small_exact (p := z1) (by omega)
  have x2 := own_exact (p := z2) ⟨M, _, c6, c7⟩ (by omega)
  have y0 := own_D x0 (by omega)
  have y1 := own_D x1 (by omega)
  have y2 := own_D x2 (by omega)
  have l0 : (0 : Int64).toInt = 0 := by decide
  have s2 : ((0 : Int64) + z2).toInt = z2.toInt := by have q := own_addL (a := (0 : Int64)) (b := z2) (by omega); omega
  obtain ⟨T1, h1, k1, X1, e1, E1, A1, st1⟩ := newP X0 hx hZ (hw _ (List.mem_of_getElem? (i := 3) rfl)) e0 (g := (mkF m 123 #[.val (.long tp), .second, .val (.int md), .val (.int lw), .val (.int fl), .val (.int kk), .val (.long m1), .second, .val (.long m0), .second, .val (.long m2), .second, .val (.long z0), .second, .val (.long z1), .second, .val (.long z2), .second, .val (.double jk), .second, .unset, .unset, .unset, .unset] [(.int (4 : Int32))])) rfl (hb hby at_123) rfl (by decide) (cap := 4) (by decide) (by decide) (by decide) (by decide)
  obtain ⟨b1, g1⟩ : ∃ z, z = h0.size := ⟨_, rfl⟩
  rw [← g1] at A1 st1
  have V1 : Arv Z h1 b1 k1 .double (4 : Int32) [(.double 0), (.double 0), (.double 0), (.double 0)] (.double 0) := (Arv.new A1 (by decide)).pad (pad_rep [] (.double 0) 4)
  have Vc2 := V1
  obtain ⟨cl2, Ar2, q2, S2, M2, H2, G2⟩ := Vc2
  have hin2 : ¬ ((0 : Int32) < 0 ∨ cl2.slots.size ≤ ((0 : Int32)).toNatClampNeg) := inb_of S2 ⟨by decide, by decide⟩
  obtain ⟨T2, h2, X2, e2, W2, st2⟩ := stD X1 hx hZ e1 Ar2 (j := (0 : Int32)) hin2 (g := (mkF m 132 #[.val (.long tp), .second, .val (.int md), .val (.int lw), .val (.int fl), .val (.int kk), .val (.long m1), .second, .val (.long m0), .second, .val (.long m2), .second, .val (.long z0), .second, .val (.long z1), .second, .val (.long z2), .second, .val (.double jk), .second, .val (.ref b1), .unset, .unset, .unset] [(.double jk), (.int (0 : Int32)), (.ref b1)])) rfl rfl (hb hby at_132)
  have V2 : Arv Z h2 b1 k1 .double (4 : Int32) [(.double jk), (.double 0), (.double 0), (.double 0)] (.double 0) := Arv.set Ar2 q2 S2 M2 H2 G2 rfl W2 0 rfl (Nat.le_of_ble_eq_true rfl)
  have N2 := Fr.snoc X2 N0 (Nat.le_trans Z0 (Nat.le_of_eq g1.symm))
  have Vc3 := V2
  obtain ⟨cl3, Ar3, q3, S3, M3, H3, G3⟩ := Vc3
  have hin3 : ¬ ((1 : Int32) < 0 ∨ cl3.slots.size ≤ ((1 : Int32)).toNatClampNeg) := inb_of S3 ⟨by decide, by decide⟩
  obtain ⟨T3, h3, X3, e3, W3, st3⟩ := stD X2 hx hZ e2 Ar3 (j := (1 : Int32)) hin3 (g := (mkF m 138 #[.val (.long tp), .second, .val (.int md), .val (.int lw), .val (.int fl), .val (.int kk), .val (.long m1), .second, .val (.long m0), .second, .val (.long m2), .second, .val (.long z0), .second, .val (.long z1), .second, .val (.long z2), .second, .val (.double jk), .second, .val (.ref b1), .unset, .unset, .unset] [(.double jk), (.int (1 : Int32)), (.ref b1)])) rfl rfl (hb hby at_138)
  have V3 : Arv Z h3 b1 k1 .double (4 : Int32) [(.double jk), (.double jk), (.double 0), (.double 0)] (.double 0) := Arv.set Ar3 q3 S3 M3 H3 G3 rfl W3 1 rfl (Nat.le_of_ble_eq_true rfl)
  have N3 := Fr.snoc X3 N2 (Nat.le_trans Z0 (Nat.le_of_eq g1.symm))
  have Vc4 := V3
  obtain ⟨cl4, Ar4, q4, S4, M4, H4, G4⟩ := Vc4
  have hin4 : ¬ ((2 : Int32) < 0 ∨ cl4.slots.size ≤ ((2 : Int32)).toNatClampNeg) := inb_of S4 ⟨by decide, by decide⟩
  obtain ⟨T4, h4, X4, e4, W4, st4⟩ := stD X3 hx hZ e3 Ar4 (j := (2 : Int32)) hin4 (g := (mkF m 144 #[.val (.long tp), .second, .val (.int md), .val (.int lw), .val (.int fl), .val (.int kk), .val (.long m1), .second, .val (.long m0), .second, .val (.long m2), .second, .val (.long z0), .second, .val (.long z1), .second, .val (.long z2), .second, .val (.double jk), .second, .val (.ref b1), .unset, .unset, .unset] [(.double jk), (.int (2 : Int32)), (.ref b1)])) rfl rfl (hb hby at_144)
  have V4 : Arv Z h4 b1 k1 .double (4 : Int32) [(.double jk), (.double jk), (.double jk), (.double 0)] (.double 0) := Arv.set Ar4 q4 S4 M4 H4 G4 rfl W4 2 rfl (Nat.le_of_ble_eq_true rfl)
  have N4 := Fr.snoc X4 N3 (Nat.le_trans Z0 (Nat.le_of_eq g1.symm))
  have Vc5 := V4
  obtain ⟨cl5, Ar5, q5, S5, M5, H5, G5⟩ := Vc5
  have hin5 : ¬ ((3 : Int32) < 0 ∨ cl5.slots.size ≤ ((3 : Int32)).toNatClampNeg) := inb_of S5 ⟨by decide, by decide⟩
  obtain ⟨T5, h5, X5, e5, W5, st5⟩ := stD X4 hx hZ e4 Ar5 (j := (3 : Int32)) hin5 (g := (mkF m 150 #[.val (.long tp), .second, .val (.int md), .val (.int lw), .val (.int fl), .val (.int kk), .val (.long m1), .second, .val (.long m0), .second, .val (.long m2), .second, .val (.long z0), .second, .val (.long z1), .second, .val (.long z2), .second, .val (.double jk), .second, .val (.ref b1), .unset, .unset, .unset] [(.double jk), (.int (3 : Int32)), (.ref b1)])) rfl rfl (hb hby at_150)
  have V5 : Arv Z h5 b1 k1 .double (4 : Int32) [(.double jk), (.double jk), (.double jk), (.double jk)] (.double 0) := Arv.set Ar5 q5 S5 M5 H5 G5 rfl W5 3 rfl (Nat.le_of_ble_eq_true rfl)
  have N5 := Fr.snoc X5 N4 (Nat.le_trans Z0 (Nat.le_of_eq g1.symm))
  have Vc6 := V5
  obtain ⟨cl6, Ar6, q6, S6, M6, H6, G6⟩ := Vc6
  have hin6 : ¬ ((0 : Int32) < 0 ∨ cl6.slots.size ≤ ((0 : Int32)).toNatClampNeg) := inb_of S6 ⟨by decide, by decide⟩
  obtain ⟨T6, h6, X6, e6, W6, st6⟩ := stD X5 hx hZ e5 Ar6 (j := (0 : Int32)) hin6 (g := (mkF m 221 #[.val (.long tp), .second, .val (.int md), .val (.int lw), .val (.int fl), .val (.int kk), .val (.long m1), .second, .val (.long m0), .second, .val (.long m2), .second, .val (.long z0), .second, .val (.long z1), .second, .val (.long z2), .second, .val (.double jk), .second, .val (.ref b1), .val (.int (0 : Int32)), .val (.long (0 : Int64)), .second] [(.double (FP.l2d z2)), (.int (0 : Int32)), (.ref b1)])) rfl rfl (hb hby at_221)
  have V6 : Arv Z h6 b1 k1 .double (4 : Int32) [(.double (FP.l2d z2)), (.double jk), (.double jk), (.double jk)] (.double 0) := Arv.set Ar6 q6 S6 M6 H6 G6 rfl W6 0 rfl (Nat.le_of_ble_eq_true rfl)
  have N6 := Fr.snoc X6 N5 (Nat.le_trans Z0 (Nat.le_of_eq g1.symm))
  obtain ⟨_, _, ⟨T7, L7, k7, n7⟩, -, X7, ⟨Lc7, hQ7, l7, y7, z7⟩, st7⟩ := Jvm.LawKit.callS X6 hx (y := (⟨"com/example/crestwatch/crestwatch/core/ExactSum", "rounded", "([DI)D"⟩ : MethodName)) hown (mvT hZ (hw _ (List.mem_of_getElem? (i := 4) rfl))) (mvT hZ (hw _ (List.mem_of_getElem? (i := 5) rfl))) (mvT hZ (hw _ (List.mem_of_getElem? (i := 6) rfl))) (mvT hZ (hw _ (List.mem_of_getElem? (i := 7) rfl))) (by decide) (backOf (W := 0) (rd_1 l Z a0 hw [] b1 k1 (FP.l2d z2) jk jk jk (((0 : Int64) + z2).toInt) h6 n0 (Nat.le_trans (Nat.le_trans (Nat.le_trans (Nat.le_trans (Nat.le_trans (Nat.le_trans Z0 E1.1) (Keep.of_wr W2).1) (Keep.of_wr W3).1) (Keep.of_wr W4).1) (Keep.of_wr W5).1) (Keep.of_wr W6).1) V6 (by rw [s2, x2]; exact y2)) hZ (hw _ (List.mem_of_getElem? (i := 7) rfl)) (hw _ (List.mem_of_getElem? (i := 6) rfl)) (by decide) (by decide)) (g := (mkF m 236 #[.val (.long tp), .second, .val (.int md), .val (.int lw), .val (.int fl), .val (.int kk), .val (.long m1), .second, .val (.long m0), .second, .val (.long m2), .second, .val (.long z0), .second, .val (.long z1), .second, .val (.long z2), .second, .val (.double jk), .second, .val (.ref b1), .val (.int (1 : Int32)), .val (.long ((0 : Int64) + z2)), .second] [(.int (1 : Int32)), (.ref b1)])) rfl (by rw [hml]; rfl) (argsL := [(.ref b1), (.int (1 : Int32))]) (rest := []) (lenOf pd_0 rfl) rfl (by show 2 * 0 + _ ≤ _; exact Nat.le_of_eq rfl) (hb hby at_236) (fun _ _ => ⟨rfl, e6, (by decide : 1 + 0 ≤ _), (by decide : 4 + 0 ≤ _)⟩)
  dsimp only [Pt.U, Pt.locs, Pt.cells, Pt.slots] at X7 l7 y7 z7 st7 hQ7
  subst l7 y7 z7
  obtain ⟨res_7, rfl, Nq7, e7, Pq7_0⟩ := hQ7
  have N7 := Fr.app N6 Nq7
  obtain ⟨fs, hr, hrun, hended, hW, hsame⟩ := X7.leave (v := some (.int (1 : Int32))) (fun h => by rw [Bd.returns] at h; cases h)
  refine ⟨_, _, pre0 _ ?_, hrun, hended, _, _, rfl, ?_, ⟨_, rfl⟩, hW, hsame.mono (by decide) (by decide)⟩
  · show Steps p.tables e below (s₁.setTop (mkF m 0 #[.val (.long tp), .second, .val (.int md), .val (.int lw), .val (.int fl), .unset, .unset, .unset, .unset, .unset, .unset, .unset, .unset, .unset, .unset, .unset, .unset, .unset, .unset, .unset, .unset, .unset, .unset, .unset] [])) _
    refine stp _ ?_
    show Steps p.tables e below (s₁.setTop (mkF m 122 #[.val (.long tp), .second, .val (.int md), .val (.int lw), .val (.int fl), .val (.int kk), .val (.long m1), .second, .val (.long m0), .second, .val (.long m2), .second, .val (.long z0), .second, .val (.long z1), .second, .val (.long z2), .second, .val (.double jk), .second, .unset, .unset, .unset, .unset] [])) _
    refine XS.iconst X0.here hx rfl (hb hby at_122) ?_
    show Steps p.tables e below (s₁.setTop (mkF m 123 #[.val (.long tp), .second, .val (.int md), .val (.int lw), .val (.int fl), .val (.int kk), .val (.long m1), .second, .val (.long m0), .second, .val (.long m2), .second, .val (.long z0), .second, .val (.long z1), .second, .val (.long z2), .second, .val (.double jk), .second, .unset, .unset, .unset, .unset] [(.int (4 : Int32))])) _
    refine st1 _ ?_
    show Steps p.tables e below (T1.setTop (mkF m 125 #[.val (.long tp), .second, .val (.int md), .val (.int lw), .val (.int fl), .val (.int kk), .val (.long m1), .second, .val (.long m0), .second, .val (.long m2), .second, .val (.long z0), .second, .val (.long z1), .second, .val (.long z2), .second, .val (.double jk), .second, .unset, .unset, .unset, .unset] [(.ref b1)])) _
    refine XS.astore X1.here hx rfl (hb hby at_125) rfl rfl (l' := #[.val (.long tp), .second, .val (.int md), .val (.int lw), .val (.int fl), .val (.int kk), .val (.long m1), .second, .val (.long m0), .second, .val (.long m2), .second, .val (.long z0), .second, .val (.long z1), .second, .val (.long z2), .second, .val (.double jk), .second, .val (.ref b1), .unset, .unset, .unset]) rfl ?_
    show Steps p.tables e below (T1.setTop (mkF m 127 #[.val (.long tp), .second, .val (.int md), .val (.int lw), .val (.int fl), .val (.int kk), .val (.long m1), .second, .val (.long m0), .second, .val (.long m2), .second, .val (.long z0), .second, .val (.long z1), .second, .val (.long z2), .second, .val (.double jk), .second, .val (.ref b1), .unset, .unset, .unset] [])) _
    refine XS.aload X1.here hx rfl (hb hby at_127) rfl rfl ?_
    show Steps p.tables e below (T1.setTop (mkF m 129 #[.val (.long tp), .second, .val (.int md), .val (.int lw), .val (.int fl), .val (.int kk), .val (.long m1), .second, .val (.long m0), .second, .val (.long m2), .second, .val (.long z0), .second, .val (.long z1), .second, .val (.long z2), .second, .val (.double jk), .second, .val (.ref b1), .unset, .unset, .unset] [(.ref b1)])) _
    refine XS.iconst X1.here hx rfl (hb hby at_129) ?_
    show Steps p.tables e below (T1.setTop (mkF m 130 #[.val (.long tp), .second, .val (.int md), .val (.int lw), .val (.int fl), .val (.int kk), .val (.long m1), .second, .val (.long m0), .second, .val (.long m2), .second, .val (.long z0), .second, .val (.long z1), .second, .val (.long z2), .second, .val (.double jk), .second, .val (.ref b1), .unset, .unset, .unset] [(.int (0 : Int32)), (.ref b1)])) _
    refine XS.dload X1.here hx rfl (hb hby at_130) rfl ?_
    show Steps p.tables e below (T1.setTop (mkF m 132 #[.val (.long tp), .second, .val (.int md), .val (.int lw), .val (.int fl), .val (.int kk), .val (.long m1), .second, .val (.long m0), .second, .val (.long m2), .second, .val (.long z0), .second, .val (.long z1), .second, .val (.long z2), .second, .val (.double jk), .second, .val (.ref b1), .unset, .unset, .unset] [(.double jk), (.int (0 : Int32)), (.ref b1)])) _
    refine st2 _ ?_
    show Steps p.tables e below (T2.setTop (mkF m 133 #[.val (.long tp), .second, .val (.int md), .val (.int lw), .val (.int fl), .val (.int kk), .val (.long m1), .second, .val (.long m0), .second, .val (.long m2), .second, .val (.long z0), .second, .val (.long z1), .second, .val (.long z2), .second, .val (.double jk), .second, .val (.ref b1), .unset, .unset, .unset] [])) _
    refine XS.aload X2.here hx rfl (hb hby at_133) rfl rfl ?_
    show Steps p.tables e below (T2.setTop (mkF m 135 #[.val (.long tp), .second, .val (.int md), .val (.int lw), .val (.int fl), .val (.int kk), .val (.long m1), .second, .val (.long m0), .second, .val (.long m2), .second, .val (.long z0), .second, .val (.long z1), .second, .val (.long z2), .second, .val (.double jk), .second, .val (.ref b1), .unset, .unset, .unset] [(.ref b1)])) _
    refine XS.iconst X2.here hx rfl (hb hby at_135) ?_
    show Steps p.tables e below (T2.setTop (mkF m 136 #[.val (.long tp), .second, .val (.int md), .val (.int lw), .val (.int fl), .val (.int kk), .val (.long m1), .second, .val (.long m0), .second, .val (.long m2), .second, .val (.long z0), .second, .val (.long z1), .second, .val (.long z2), .second, .val (.double jk), .second, .val (.ref b1), .unset, .unset, .unset] [(.int (1 : Int32)), (.ref b1)])) _
    refine XS.dload X2.here hx rfl (hb hby at_136) rfl ?_
    show Steps p.tables e below (T2.setTop (mkF m 138 #[.val (.long tp), .second, .val (.int md), .val (.int lw), .val (.int fl), .val (.int kk), .val (.long m1), .second, .val (.long m0), .second, .val (.long m2), .second, .val (.long z0), .second, .val (.long z1), .second, .val (.long z2), .second, .val (.double jk), .second, .val (.ref b1), .unset, .unset, .unset] [(.double jk), (.int (1 : Int32)), (.ref b1)])) _
    refine st3 _ ?_
    show Steps p.tables e below (T3.setTop (mkF m 139 #[.val (.long tp), .second, .val (.int md), .val (.int lw), .val (.int fl), .val (.int kk), .val (.long m1), .second, .val (.long m0), .second, .val (.long m2), .second, .val (.long z0), .second, .val (.long z1), .second, .val (.long z2), .second, .val (.double jk), .second, .val (.ref b1), .unset, .unset, .unset] [])) _
    refine XS.aload X3.here hx rfl (hb hby at_139) rfl rfl ?_
    show Steps p.tables e below (T3.setTop (mkF m 141 #[.val (.long tp), .second, .val (.int md), .val (.int lw), .val (.int fl), .val (.int kk), .val (.long m1), .second, .val (.long m0), .second, .val (.long m2), .second, .val (.long z0), .second, .val (.long z1), .second, .val (.long z2), .second, .val (.double jk), .second, .val (.ref b1), .unset, .unset, .unset] [(.ref b1)])) _
    refine XS.iconst X3.here hx rfl (hb hby at_141) ?_
    show Steps p.tables e below (T3.setTop (mkF m 142 #[.val (.long tp), .second, .val (.int md), .val (.int lw), .val (.int fl), .val (.int kk), .val (.long m1), .second, .val (.long m0), .second, .val (.long m2), .second, .val (.long z0), .second, .val (.long z1), .second, .val (.long z2), .second, .val (.double jk), .second, .val (.ref b1), .unset, .unset, .unset] [(.int (2 : Int32)), (.ref b1)])) _
    refine XS.dload X3.here hx rfl (hb hby at_142) rfl ?_
    show Steps p.tables e below (T3.setTop (mkF m 144 #[.val (.long tp), .second, .val (.int md), .val (.int lw), .val (.int fl), .val (.int kk), .val (.long m1), .second, .val (.long m0), .second, .val (.long m2), .second, .val (.long z0), .second, .val (.long z1), .second, .val (.long z2), .second, .val (.double jk), .second, .val (.ref b1), .unset, .unset, .unset] [(.double jk), (.int (2 : Int32)), (.ref b1)])) _
    refine st4 _ ?_
    show Steps p.tables e below (T4.setTop (mkF m 145 #[.val (.long tp), .second, .val (.int md), .val (.int lw), .val (.int fl), .val (.int kk), .val (.long m1), .second, .val (.long m0), .second, .val (.long m2), .second, .val (.long z0), .second, .val (.long z1), .second, .val (.long z2), .second, .val (.double jk), .second, .val (.ref b1), .unset, .unset, .unset] [])) _
    refine XS.aload X4.here hx rfl (hb hby at_145) rfl rfl ?_
    show Steps p.tables e below (T4.setTop (mkF m 147 #[.val (.long tp), .second, .val (.int md), .val (.int lw), .val (.int fl), .val (.int kk), .val (.long m1), .second, .val (.long m0), .second, .val (.long m2), .second, .val (.long z0), .second, .val (.long z1), .second, .val (.long z2), .second, .val (.double jk), .second, .val (.ref b1), .unset, .unset, .unset] [(.ref b1)])) _
    refine XS.iconst X4.here hx rfl (hb hby at_147) ?_
    show Steps p.tables e below (T4.setTop (mkF m 148 #[.val (.long tp), .second, .val (.int md), .val (.int lw), .val (.int fl), .val (.int kk), .val (.long m1), .second, .val (.long m0), .second, .val (.long m2), .second, .val (.long z0), .second, .val (.long z1), .second, .val (.long z2), .second, .val (.double jk), .second, .val (.ref b1), .unset, .unset, .unset] [(.int (3 : Int32)), (.ref b1)])) _
    refine XS.dload X4.here hx rfl (hb hby at_148) rfl ?_
    show Steps p.tables e below (T4.setTop (mkF m 150 #[.val (.long tp), .second, .val (.int md), .val (.int lw), .val (.int fl), .val (.int kk), .val (.long m1), .second, .val (.long m0), .second, .val (.long m2), .second, .val (.long z0), .second, .val (.long z1), .second, .val (.long z2), .second, .val (.double jk), .second, .val (.ref b1), .unset, .unset, .unset] [(.double jk), (.int (3 : Int32)), (.ref b1)])) _
    refine st5 _ ?_
    show Steps p.tables e below (T5.setTop (mkF m 151 #[.val (.long tp), .second, .val (.int md), .val (.int lw), .val (.int fl), .val (.int kk), .val (.long m1), .second, .val (.long m0), .second, .val (.long m2), .second, .val (.long z0), .second, .val (.long z1), .second, .val (.long z2), .second, .val (.double jk), .second, .val (.ref b1), .unset, .unset, .unset] [])) _
    refine XS.iconst X5.here hx rfl (hb hby at_151) ?_
    show Steps p.tables e below (T5.setTop (mkF m 152 #[.val (.long tp), .second, .val (.int md), .val (.int lw), .val (.int fl), .val (.int kk), .val (.long m1), .second, .val (.long m0), .second, .val (.long m2), .second, .val (.long z0), .second, .val (.long z1), .second, .val (.long z2), .second, .val (.double jk), .second, .val (.ref b1), .unset, .unset, .unset] [(.int (0 : Int32))])) _
    refine XS.istore X5.here hx rfl (hb hby at_152) rfl (l' := #[.val (.long tp), .second, .val (.int md), .val (.int lw), .val (.int fl), .val (.int kk), .val (.long m1), .second, .val (.long m0), .second, .val (.long m2), .second, .val (.long z0), .second, .val (.long z1), .second, .val (.long z2), .second, .val (.double jk), .second, .val (.ref b1), .val (.int (0 : Int32)), .unset, .unset]) rfl ?_
    show Steps p.tables e below (T5.setTop (mkF m 154 #[.val (.long tp), .second, .val (.int md), .val (.int lw), .val (.int fl), .val (.int kk), .val (.long m1), .second, .val (.long m0), .second, .val (.long m2), .second, .val (.long z0), .second, .val (.long z1), .second, .val (.long z2), .second, .val (.double jk), .second, .val (.ref b1), .val (.int (0 : Int32)), .unset, .unset] [])) _
    refine XS.lconst X5.here hx rfl (hb hby at_154) ?_
    show Steps p.tables e below (T5.setTop (mkF m 155 #[.val (.long tp), .second, .val (.int md), .val (.int lw), .val (.int fl), .val (.int kk), .val (.long m1), .second, .val (.long m0), .second, .val (.long m2), .second, .val (.long z0), .second, .val (.long z1), .second, .val (.long z2), .second, .val (.double jk), .second, .val (.ref b1), .val (.int (0 : Int32)), .unset, .unset] [(.long (0 : Int64))])) _
    refine XS.lstore X5.here hx rfl (hb hby at_155) rfl (l' := #[.val (.long tp), .second, .val (.int md), .val (.int lw), .val (.int fl), .val (.int kk), .val (.long m1), .second, .val (.long m0), .second, .val (.long m2), .second, .val (.long z0), .second, .val (.long z1), .second, .val (.long z2), .second, .val (.double jk), .second, .val (.ref b1), .val (.int (0 : Int32)), .val (.long (0 : Int64)), .second]) rfl ?_
    show Steps p.tables e below (T5.setTop (mkF m 157 #[.val (.long tp), .second, .val (.int md), .val (.int lw), .val (.int fl), .val (.int kk), .val (.long m1), .second, .val (.long m0), .second, .val (.long m2), .second, .val (.long z0), .second, .val (.long z1), .second, .val (.long z2), .second, .val (.double jk), .second, .val (.ref b1), .val (.int (0 : Int32)), .val (.long (0 : Int64)), .second] [])) _
    refine XS.iload X5.here hx rfl (hb hby at_157) rfl ?_
    show Steps p.tables e below (T5.setTop (mkF m 159 #[.val (.long tp), .second, .val (.int md), .val (.int lw), .val (.int fl), .val (.int kk), .val (.long m1), .second, .val (.long m0), .second, .val (.long m2), .second, .val (.long z0), .second, .val (.long z1), .second, .val (.long z2), .second, .val (.double jk), .second, .val (.ref b1), .val (.int (0 : Int32)), .val (.long (0 : Int64)), .second] [(.int fl)])) _
    refine XS.iconst X5.here hx rfl (hb hby at_159) ?_
    show Steps p.tables e below (T5.setTop (mkF m 160 #[.val (.long tp), .second, .val (.int md), .val (.int lw), .val (.int fl), .val (.int kk), .val (.long m1), .second, .val (.long m0), .second, .val (.long m2), .second, .val (.long z0), .second, .val (.long z1), .second, .val (.long z2), .second, .val (.double jk), .second, .val (.ref b1), .val (.int (0 : Int32)), .val (.long (0 : Int64)), .second] [(.int (1 : Int32)), (.int fl)])) _
    refine XS.iand X5.here hx rfl (hb hby at_160) rfl ?_
    show Steps p.tables e below (T5.setTop (mkF m 161 #[.val (.long tp), .second, .val (.int md), .val (.int lw), .val (.int fl), .val (.int kk), .val (.long m1), .second, .val (.long m0), .second, .val (.long m2), .second, .val (.long z0), .second, .val (.long z1), .second, .val (.long z2), .second, .val (.double jk), .second, .val (.ref b1), .val (.int (0 : Int32)), .val (.long (0 : Int64)), .second] [(.int (fl &&& (1 : Int32)))])) _
    refine XS.ifYes X5.here hx rfl (pc0 := 161) (pc' := 182) rfl (hb hby at_161) rfl ((if0 _ _).trans (teq hc161).1) (by decide) (by decide) ?_
    show Steps p.tables e below (T5.setTop (mkF m 182 #[.val (.long tp), .second, .val (.int md), .val (.int lw), .val (.int fl), .val (.int kk), .val (.long m1), .second, .val (.long m0), .second, .val (.long m2), .second, .val (.long z0), .second, .val (.long z1), .second, .val (.long z2), .second, .val (.double jk), .second, .val (.ref b1), .val (.int (0 : Int32)), .val (.long (0 : Int64)), .second] [])) _
    refine XS.iload X5.here hx rfl (hb hby at_182) rfl ?_
    show Steps p.tables e below (T5.setTop (mkF m 184 #[.val (.long tp), .second, .val (.int md), .val (.int lw), .val (.int fl), .val (.int kk), .val (.long m1), .second, .val (.long m0), .second, .val (.long m2), .second, .val (.long z0), .second, .val (.long z1), .second, .val (.long z2), .second, .val (.double jk), .second, .val (.ref b1), .val (.int (0 : Int32)), .val (.long (0 : Int64)), .second] [(.int fl)])) _
    refine XS.iconst X5.here hx rfl (hb hby at_184) ?_
    show Steps p.tables e below (T5.setTop (mkF m 185 #[.val (.long tp), .second, .val (.int md), .val (.int lw), .val (.int fl), .val (.int kk), .val (.long m1), .second, .val (.long m0), .second, .val (.long m2), .second, .val (.long z0), .second, .val (.long z1), .second, .val (.long z2), .second, .val (.double jk), .second, .val (.ref b1), .val (.int (0 : Int32)), .val (.long (0 : Int64)), .second] [(.int (2 : Int32)), (.int fl)])) _
    refine XS.iand X5.here hx rfl (hb hby at_185) rfl ?_
    show Steps p.tables e below (T5.setTop (mkF m 186 #[.val (.long tp), .second, .val (.int md), .val (.int lw), .val (.int fl), .val (.int kk), .val (.long m1), .second, .val (.long m0), .second, .val (.long m2), .second, .val (.long z0), .second, .val (.long z1), .second, .val (.long z2), .second, .val (.double jk), .second, .val (.ref b1), .val (.int (0 : Int32)), .val (.long (0 : Int64)), .second] [(.int (fl &&& (2 : Int32)))])) _
    refine XS.ifYes X5.here hx rfl (pc0 := 186) (pc' := 207) rfl (hb hby at_186) rfl ((if0 _ _).trans (teq hc186).1) (by decide) (by decide) ?_
    show Steps p.tables e below (T5.setTop (mkF m 207 #[.val (.long tp), .second, .val (.int md), .val (.int lw), .val (.int fl), .val (.int kk), .val (.long m1), .second, .val (.long m0), .second, .val (.long m2), .second, .val (.long z0), .second, .val (.long z1), .second, .val (.long z2), .second, .val (.double jk), .second, .val (.ref b1), .val (.int (0 : Int32)), .val (.long (0 : Int64)), .second] [])) _
    refine XS.iload X5.here hx rfl (hb hby at_207) rfl ?_
    show Steps p.tables e below (T5.setTop (mkF m 209 #[.val (.long tp), .second, .val (.int md), .val (.int lw), .val (.int fl), .val (.int kk), .val (.long m1), .second, .val (.long m0), .second, .val (.long m2), .second, .val (.long z0), .second, .val (.long z1), .second, .val (.long z2), .second, .val (.double jk), .second, .val (.ref b1), .val (.int (0 : Int32)), .val (.long (0 : Int64)), .second] [(.int fl)])) _
    refine XS.iconst X5.here hx rfl (hb hby at_209) ?_
    show Steps p.tables e below (T5.setTop (mkF m 210 #[.val (.long tp), .second, .val (.int md), .val (.int lw), .val (.int fl), .val (.int kk), .val (.long m1), .second, .val (.long m0), .second, .val (.long m2), .second, .val (.long z0), .second, .val (.long z1), .second, .val (.long z2), .second, .val (.double jk), .second, .val (.ref b1), .val (.int (0 : Int32)), .val (.long (0 : Int64)), .second] [(.int (4 : Int32)), (.int fl)])) _
    refine XS.iand X5.here hx rfl (hb hby at_210) rfl ?_
    show Steps p.tables e below (T5.setTop (mkF m 211 #[.val (.long tp), .second, .val (.int md), .val (.int lw), .val (.int fl), .val (.int kk), .val (.long m1), .second, .val (.long m0), .second, .val (.long m2), .second, .val (.long z0), .second, .val (.long z1), .second, .val (.long z2), .second, .val (.double jk), .second, .val (.ref b1), .val (.int (0 : Int32)), .val (.long (0 : Int64)), .second] [(.int (fl &&& (4 : Int32)))])) _
    refine XS.ifNo X5.here hx rfl (hb hby at_211) rfl ((if0 _ _).trans (feq hc211).1) ?_
    show Steps p.tables e below (T5.setTop (mkF m 214 #[.val (.long tp), .second, .val (.int md), .val (.int lw), .val (.int fl), .val (.int kk), .val (.long m1), .second, .val (.long m0), .second, .val (.long m2), .second, .val (.long z0), .second, .val (.long z1), .second, .val (.long z2), .second, .val (.double jk), .second, .val (.ref b1), .val (.int (0 : Int32)), .val (.long (0 : Int64)), .second] [])) _
    refine XS.aload X5.here hx rfl (hb hby at_214) rfl rfl ?_
    show Steps p.tables e below (T5.setTop (mkF m 216 #[.val (.long tp), .second, .val (.int md), .val (.int lw), .val (.int fl), .val (.int kk), .val (.long m1), .second, .val (.long m0), .second, .val (.long m2), .second, .val (.long z0), .second, .val (.long z1), .second, .val (.long z2), .second, .val (.double jk), .second, .val (.ref b1), .val (.int (0 : Int32)), .val (.long (0 : Int64)), .second] [(.ref b1)])) _
    refine XS.iload X5.here hx rfl (hb hby at_216) rfl ?_
    show Steps p.tables e below (T5.setTop (mkF m 218 #[.val (.long tp), .second, .val (.int md), .val (.int lw), .val (.int fl), .val (.int kk), .val (.long m1), .second, .val (.long m0), .second, .val (.long m2), .second, .val (.long z0), .second, .val (.long z1), .second, .val (.long z2), .second, .val (.double jk), .second, .val (.ref b1), .val (.int (0 : Int32)), .val (.long (0 : Int64)), .second] [(.int (0 : Int32)), (.ref b1)])) _
    refine XS.lload X5.here hx rfl (hb hby at_218) rfl ?_
    show Steps p.tables e below (T5.setTop (mkF m 220 #[.val (.long tp), .second, .val (.int md), .val (.int lw), .val (.int fl), .val (.int kk), .val (.long m1), .second, .val (.long m0), .second, .val (.long m2), .second, .val (.long z0), .second, .val (.long z1), .second, .val (.long z2), .second, .val (.double jk), .second, .val (.ref b1), .val (.int (0 : Int32)), .val (.long (0 : Int64)), .second] [(.long z2), (.int (0 : Int32)), (.ref b1)])) _
    refine XS.l2dS X5.here hx rfl (hb hby at_220) rfl rfl ?_
    show Steps p.tables e below (T5.setTop (mkF m 221 #[.val (.long tp), .second, .val (.int md), .val (.int lw), .val (.int fl), .val (.int kk), .val (.long m1), .second, .val (.long m0), .second, .val (.long m2), .second, .val (.long z0), .second, .val (.long z1), .second, .val (.long z2), .second, .val (.double jk), .second, .val (.ref b1), .val (.int (0 : Int32)), .val (.long (0 : Int64)), .second] [(.double (FP.l2d z2)), (.int (0 : Int32)), (.ref b1)])) _
    refine st6 _ ?_
    show Steps p.tables e below (T6.setTop (mkF m 222 #[.val (.long tp), .second, .val (.int md), .val (.int lw), .val (.int fl), .val (.int kk), .val (.long m1), .second, .val (.long m0), .second, .val (.long m2), .second, .val (.long z0), .second, .val (.long z1), .second, .val (.long z2), .second, .val (.double jk), .second, .val (.ref b1), .val (.int (0 : Int32)), .val (.long (0 : Int64)), .second] [])) _
    refine XS.iinc X6.here hx rfl (hb hby at_222) rfl (l' := #[.val (.long tp), .second, .val (.int md), .val (.int lw), .val (.int fl), .val (.int kk), .val (.long m1), .second, .val (.long m0), .second, .val (.long m2), .second, .val (.long z0), .second, .val (.long z1), .second, .val (.long z2), .second, .val (.double jk), .second, .val (.ref b1), .val (.int ((0 : Int32) + (1 : Int32))), .val (.long (0 : Int64)), .second]) rfl ?_
    show Steps p.tables e below (T6.setTop (mkF m 225 #[.val (.long tp), .second, .val (.int md), .val (.int lw), .val (.int fl), .val (.int kk), .val (.long m1), .second, .val (.long m0), .second, .val (.long m2), .second, .val (.long z0), .second, .val (.long z1), .second, .val (.long z2), .second, .val (.double jk), .second, .val (.ref b1), .val (.int ((0 : Int32) + (1 : Int32))), .val (.long (0 : Int64)), .second] [])) _
    rw [show ((0 : Int32) + (1 : Int32)) = (1 : Int32) from by decide]
    show Steps p.tables e below (T6.setTop (mkF m 225 #[.val (.long tp), .second, .val (.int md), .val (.int lw), .val (.int fl), .val (.int kk), .val (.long m1), .second, .val (.long m0), .second, .val (.long m2), .second, .val (.long z0), .second, .val (.long z1), .second, .val (.long z2), .second, .val (.double jk), .second, .val (.ref b1), .val (.int (1 : Int32)), .val (.long (0 : Int64)), .second] [])) _
    refine XS.lload X6.here hx rfl (hb hby at_225) rfl ?_
    show Steps p.tables e below (T6.setTop (mkF m 227 #[.val (.long tp), .second, .val (.int md), .val (.int lw), .val (.int fl), .val (.int kk), .val (.long m1), .second, .val (.long m0), .second, .val (.long m2), .second, .val (.long z0), .second, .val (.long z1), .second, .val (.long z2), .second, .val (.double jk), .second, .val (.ref b1), .val (.int (1 : Int32)), .val (.long (0 : Int64)), .second] [(.long (0 : Int64))])) _
    refine XS.lload X6.here hx rfl (hb hby at_227) rfl ?_
    show Steps p.tables e below (T6.setTop (mkF m 229 #[.val (.long tp), .second, .val (.int md), .val (.int lw), .val (.int fl), .val (.int kk), .val (.long m1), .second, .val (.long m0), .second, .val (.long m2), .second, .val (.long z0), .second, .val (.long z1), .second, .val (.long z2), .second, .val (.double jk), .second, .val (.ref b1), .val (.int (1 : Int32)), .val (.long (0 : Int64)), .second] [(.long z2), (.long (0 : Int64))])) _
    refine XS.ladd X6.here hx rfl (hb hby at_229) rfl ?_
    show Steps p.tables e below (T6.setTop (mkF m 230 #[.val (.long tp), .second, .val (.int md), .val (.int lw), .val (.int fl), .val (.int kk), .val (.long m1), .second, .val (.long m0), .second, .val (.long m2), .second, .val (.long z0), .second, .val (.long z1), .second, .val (.long z2), .second, .val (.double jk), .second, .val (.ref b1), .val (.int (1 : Int32)), .val (.long (0 : Int64)), .second] [(.long ((0 : Int64) + z2))])) _
    refine XS.lstore X6.here hx rfl (hb hby at_230) rfl (l' := #[.val (.long tp), .second, .val (.int md), .val (.int lw), .val (.int fl), .val (.int kk), .val (.long m1), .second, .val (.long m0), .second, .val (.long m2), .second, .val (.long z0), .second, .val (.long z1), .second, .val (.long z2), .second, .val (.double jk), .second, .val (.ref b1), .val (.int (1 : Int32)), .val (.long ((0 : Int64) + z2)), .second]) rfl ?_
    show Steps p.tables e below (T6.setTop (mkF m 232 #[.val (.long tp), .second, .val (.int md), .val (.int lw), .val (.int fl), .val (.int kk), .val (.long m1), .second, .val (.long m0), .second, .val (.long m2), .second, .val (.long z0), .second, .val (.long z1), .second, .val (.long z2), .second, .val (.double jk), .second, .val (.ref b1), .val (.int (1 : Int32)), .val (.long ((0 : Int64) + z2)), .second] [])) _
    refine XS.aload X6.here hx rfl (hb hby at_232) rfl rfl ?_
    show Steps p.tables e below (T6.setTop (mkF m 234 #[.val (.long tp), .second, .val (.int md), .val (.int lw), .val (.int fl), .val (.int kk), .val (.long m1), .second, .val (.long m0), .second, .val (.long m2), .second, .val (.long z0), .second, .val (.long z1), .second, .val (.long z2), .second, .val (.double jk), .second, .val (.ref b1), .val (.int (1 : Int32)), .val (.long ((0 : Int64) + z2)), .second] [(.ref b1)])) _
    refine XS.iload X6.here hx rfl (hb hby at_234) rfl ?_
    show Steps p.tables e below (T6.setTop (mkF m 236 #[.val (.long tp), .second, .val (.int md), .val (.int lw), .val (.int fl), .val (.int kk), .val (.long m1), .second, .val (.long m0), .second, .val (.long m2), .second, .val (.long z0), .second, .val (.long z1), .second, .val (.long z2), .second, .val (.double jk), .second, .val (.ref b1), .val (.int (1 : Int32)), .val (.long ((0 : Int64) + z2)), .second] [(.int (1 : Int32)), (.ref b1)])) _
    refine st7 _ ?_
    show Steps p.tables e below (T7.setTop (mkF m 239 #[.val (.long tp), .second, .val (.int md), .val (.int lw), .val (.int fl), .val (.int kk), .val (.long m1), .second, .val (.long m0), .second, .val (.long m2), .second, .val (.long z0), .second, .val (.long z1), .second, .val (.long z2), .second, .val (.double jk), .second, .val (.ref b1), .val (.int (1 : Int32)), .val (.long ((0 : Int64) + z2)), .second] [(.double res_7)])) _
    refine XS.lload X7.here hx rfl (hb hby at_239) rfl ?_
    show Steps p.tables e below (T7.setTop (mkF m 241 #[.val (.long tp), .second, .val (.int md), .val (.int lw), .val (.int fl), .val (.int kk), .val (.long m1), .second, .val (.long m0), .second, .val (.long m2), .second, .val (.long z0), .second, .val (.long z1), .second, .val (.long z2), .second, .val (.double jk), .second, .val (.ref b1), .val (.int (1 : Int32)), .val (.long ((0 : Int64) + z2)), .second] [(.long ((0 : Int64) + z2)), (.double res_7)])) _
    refine XS.l2dS X7.here hx rfl (hb hby at_241) rfl rfl ?_
    show Steps p.tables e below (T7.setTop (mkF m 242 #[.val (.long tp), .second, .val (.int md), .val (.int lw), .val (.int fl), .val (.int kk), .val (.long m1), .second, .val (.long m0), .second, .val (.long m2), .second, .val (.long z0), .second, .val (.long z1), .second, .val (.long z2), .second, .val (.double jk), .second, .val (.ref b1), .val (.int (1 : Int32)), .val (.long ((0 : Int64) + z2)), .second] [(.double (FP.l2d ((0 : Int64) + z2))), (.double res_7)])) _
    refine XS.dcmpS X7.here hx rfl (hb hby at_242) rfl (v := (0 : Int32)) ((own_eq Pq7_0 (own_l2d (by omega)) .l).mpr rfl) ?_
    show Steps p.tables e below (T7.setTop (mkF m 243 #[.val (.long tp), .second, .val (.int md), .val (.int lw), .val (.int fl), .val (.int kk), .val (.long m1), .second, .val (.long m0), .second, .val (.long m2), .second, .val (.long z0), .second, .val (.long z1), .second, .val (.long z2), .second, .val (.double jk), .second, .val (.ref b1), .val (.int (1 : Int32)), .val (.long ((0 : Int64) + z2)), .second] [(.int (0 : Int32))])) _
    refine XS.ifNo X7.here hx rfl (hb hby at_243) rfl ((if0 _ _).trans (teq (rfl : (0 : Int32) = (0 : Int32))).2) ?_
    show Steps p.tables e below (T7.setTop (mkF m 246 #[.val (.long tp), .second, .val (.int md), .val (.int lw), .val (.int fl), .val (.int kk), .val (.long m1), .second, .val (.long m0), .second, .val (.long m2), .second, .val (.long z0), .second, .val (.long z1), .second, .val (.long z2), .second, .val (.double jk), .second, .val (.ref b1), .val (.int (1 : Int32)), .val (.long ((0 : Int64) + z2)), .second] [])) _
    refine XS.iconst X7.here hx rfl (hb hby at_246) ?_
    show Steps p.tables e below (T7.setTop (mkF m 247 #[.val (.long tp), .second, .val (.int md), .val (.int lw), .val (.int fl), .val (.int kk), .val (.long m1), .second, .val (.long m0), .second, .val (.long m2), .second, .val (.long z0), .second, .val (.long z1), .second, .val (.long z2), .second, .val (.double jk), .second, .val (.ref b1), .val (.int (1 : Int32)), .val (.long ((0 : Int64) + z2)), .second] [(.int (1 : Int32))])) _
    refine XS.goto X7.here hx rfl (pc0 := 247) (pc' := 251) rfl (hb hby at_247) (by decide) (by decide) ?_
    show Steps p.tables e below (T7.setTop (mkF m 251 #[.val (.long tp), .second, .val (.int md), .val (.int lw), .val (.int fl), .val (.int kk), .val (.long m1), .second, .val (.long m0), .second, .val (.long m2), .second, .val (.long z0), .second, .val (.long z1), .second, .val (.long z2), .second, .val (.double jk), .second, .val (.ref b1), .val (.int (1 : Int32)), .val (.long ((0 : Int64) + z2)), .second] [(.int (1 : Int32))])) _
    exact retN X7 hx (t := .boolean) Bd.returns (by simp) (hb hby at_251) hr
  · show Q_rm0_4 Z tp md lw fl h0 n0 _ T7.heap _
    rw [e7]
    exact ⟨rfl, N7⟩
def Q_rm0_5 (Z : State) (tp : Int64) (md : Int32) (lw : Int32) (fl : Int32) (h0 : Heap) (n0 : Nat) (v : Option Value) (h : Heap) (L : List Loc) : Prop := v = some (.int (1 : Int32)) ∧ Fr n0 L
theorem ef_rm0_5 (m : MethodId) (tp : Int64) (md : Int32) (lw : Int32) (fl : Int32) : entryFrame m #[(.long tp), (.int md), (.int lw), (.int fl)] maxLocals = mkF m 0 #[.val (.long tp), .second, .val (.int md), .val (.int lw), .val (.int fl), .unset, .unset, .unset, .unset, .unset, .unset, .unset, .unset, .unset, .unset, .unset, .unset, .unset, .unset, .unset, .unset, .unset, .unset, .unset] [] := by first | (simp [entryFrame, mkF, argsToLocals, Value.category, maxLocals]; done) | rfl
set_option maxRecDepth 65536 in
set_option maxHeartbeats 40000000 in
theorem rm0_5 (l : Launch) (Z : State) (a0 : Array Value) (hw : ∀ d ∈ tables_1, d.before a0 Z = true) (ws : List Jvm.Cond) (tp : Int64) (md : Int32) (lw : Int32) (fl : Int32) (h0 : Heap) (n0 : Nat) (Z0 : n0 ≤ h0.size) (hc161 : ¬ ((fl &&& (1 : Int32)) = (0 : Int32))) (hc186 : (fl &&& (2 : Int32)) = (0 : Int32)) (hc211 : ¬ ((fl &&& (4 : Int32)) = (0 : Int32))) :
    MetFree l x (head1 (Jvm.Cond.code x code maxLocals ret :: ws) room_1) (fun a U => a = #[(.long tp), (.int md), (.int lw), (.int fl)] ∧ Z.Warmed39 U.vm ∧ U.heap = h0) (fun _ _ _ _ _ => True) (fun _ U o U' => ∃ v L, o = .returned v ∧ Q_rm0_5 Z tp md lw fl h0 n0 v U'.heap L ∧ FrameEnd U o U' L room_1.cells room_1.slots) := by
  refine MetFree.of_bodySF (plainFor_of_name pn_1) hisR ?_
  intro p e s m args below meth c s₁ Bd hml0 hP hK
  obtain ⟨rfl, hZ, hh⟩ := hP
  have hx := Bd.exec
  have hby := Bd.bytes
  have hml : c.maxLocals = 24 := hml0
  have hown : s.vm.findClass "com/example/crestwatch/crestwatch/core/ExactSumRoundedPinLaw" = some m.cls := findClass_of_methodNamed Bd.named
  have hnm := (name_of_methodNamed Bd.named Bd.method).1
  have X0 : Stand p l e room_1 s m #[(.long tp), (.int md), (.int lw), (.int fl)] below meth c s₁ [] 0 0 := Stand.of_body Bd
  have e0 : s₁.heap = h0 := by rw [← hh, Bd.state]; rfl
  have N0 := Fr.nil n0
  have pre0 : ∀ t, Steps p.tables e below (s₁.setTop (mkF m 0 #[.val (.long tp), .second, .val (.int md), .val (.int lw), .val (.int fl), .unset, .unset, .unset, .unset, .unset, .unset, .unset, .unset, .unset, .unset, .unset, .unset, .unset, .unset, .unset, .unset, .unset, .unset, .unset] [])) t → Steps p.tables e below (s₁.setTop (entryFrame m #[(.long tp), (.int md), (.int lw), (.int fl)] maxLocals)) t := fun t k => castTop (ef_rm0_5 m tp md lw fl) k
  obtain ⟨kk, m1, m0, m2, z0, z1, z2, jk, K, hP, stp⟩ := own_pre tp md lw fl X0 hx hZ hw hby hown
  obtain ⟨c1, c2, c3, c4, c5, M, c6, c7⟩ := hP
  have b0 : z0.toInt.natAbs < 16 := by have : 2 ^ K ≤ 2 ^ 4 := Nat.pow_le_pow_right (by decide) c1; omega
  have b2 : z2.toInt.natAbs < 2 ^ 61 := by
    rw [c7]
    calc M * 2 ^ (K + 4) < 2 ^ 53 * 2 ^ (K + 4) := Nat.mul_lt_mul_of_pos_right c6 (Nat.two_pow_pos _)
      _ ≤ 2 ^ 53 * 2 ^ 8 := Nat.mul_le_mul_left _ (Nat.pow_le_pow_right (by decide) (by omega))
      _ = 2 ^ 61 := by decide
  have e53 := own_e53
  have e61 := own_e61
  have e63 := own_e63
  have x0 := own_small_exact (p := z0) (by omega)
  have x1 := own_small_exact (p := z1) (by omega)
  have x2 := own_exact (p := z2) ⟨M, _, c6, c7⟩ (by omega)
  have y0 := own_D x0 (by omega)
  have y1 := own_D x1 (by omega)
  have y2 := own_D x2 (by omega)
  have l0 : (0 : Int64).toInt = 0 := by decide
  have s0 : ((0 : Int64) + z0).toInt = z0.toInt := by have q := own_addL (a := (0 : Int64)) (b := z0) (by omega); omega
  have s2 : (((0 : Int64) + z0) + z2).toInt = z0.toInt + z2.toInt := by have q := own_addL (a := ((0 : Int64) + z0)) (b := z2) (by omega); omega
  obtain ⟨T1, h1, k1, X1, e1, E1, A1, st1⟩ := newP X0 hx hZ (hw _ (List.mem_of_getElem? (i := 3) rfl)) e0 (g := (mkF m 123 #[.val (.long tp), .second, .val (.int md), .val (.int lw), .val (.int fl), .val (.int kk), .val (.long m1), .second, .val (.long m0), .second, .val (.long m2), .second, .val (.long z0), .second, .val (.long z1), .second, .val (.long z2), .second, .val (.double jk), .second, .unset, .unset, .unset, .unset] [(.int (4 : Int32))])) rfl (hb hby at_123) rfl (by decide) (cap := 4) (by decide) (by decide) (by decide) (by decide)
  obtain ⟨b1, g1⟩ : ∃ z, z = h0.size := ⟨_, rfl⟩
  rw [← g1] at A1 st1
  have V1 : Arv Z h1 b1 k1 .double (4 : Int32) [(.double 0), (.double 0), (.double 0), (.double 0)] (.double 0) := (Arv.new A1 (by decide)).pad (pad_rep [] (.double 0) 4)
  have Vc2 := V1
  obtain ⟨cl2, Ar2, q2, S2, M2, H2, G2⟩ := Vc2
  have hin2 : ¬ ((0 : Int32) < 0 ∨ cl2.slots.size ≤ ((0 : Int32)).toNatClampNeg) := inb_of S2 ⟨by decide, by decide⟩
  obtain ⟨T2, h2, X2, e2, W2, st2⟩ := stD X1 hx hZ e1 Ar2 (j := (0 : Int32)) hin2 (g := (mkF m 132 #[.val (.long tp), .second, .val (.int md), .val (.int lw), .val (.int fl), .val (.int kk), .val (.long m1), .second, .val (.long m0), .second, .val (.long m2), .second, .val (.long z0), .second, .val (.long z1), .second, .val (.long z2), .second, .val (.double jk), .second, .val (.ref b1), .unset, .unset, .unset] [(.double jk), (.int (0 : Int32)), (.ref b1)])) rfl rfl (hb hby at_132)
  have V2 : Arv Z h2 b1 k1 .double (4 : Int32) [(.double jk), (.double 0), (.double 0), (.double 0)] (.double 0) := Arv.set Ar2 q2 S2 M2 H2 G2 rfl W2 0 rfl (Nat.le_of_ble_eq_true rfl)
  have N2 := Fr.snoc X2 N0 (Nat.le_trans Z0 (Nat.le_of_eq g1.symm))
  have Vc3 := V2
  obtain ⟨cl3, Ar3, q3, S3, M3, H3, G3⟩ := Vc3
  have hin3 : ¬ ((1 : Int32) < 0 ∨ cl3.slots.size ≤ ((1 : Int32)).toNatClampNeg) := inb_of S3 ⟨by decide, by decide⟩
  obtain ⟨T3, h3, X3, e3, W3, st3⟩ := stD X2 hx hZ e2 Ar3 (j := (1 : Int32)) hin3 (g := (mkF m 138 #[.val (.long tp), .second, .val (.int md), .val (.int lw), .val (.int fl), .val (.int kk), .val (.long m1), .second, .val (.long m0), .second, .val (.long m2), .second, .val (.long z0), .second, .val (.long z1), .second, .val (.long z2), .second, .val (.double jk), .second, .val (.ref b1), .unset, .unset, .unset] [(.double jk), (.int (1 : Int32)), (.ref b1)])) rfl rfl (hb hby at_138)
  have V3 : Arv Z h3 b1 k1 .double (4 : Int32) [(.double jk), (.double jk), (.double 0), (.double 0)] (.double 0) := Arv.set Ar3 q3 S3 M3 H3 G3 rfl W3 1 rfl (Nat.le_of_ble_eq_true rfl)
  have N3 := Fr.snoc X3 N2 (Nat.le_trans Z0 (Nat.le_of_eq g1.symm))
  have Vc4 := V3
  obtain ⟨cl4, Ar4, q4, S4, M4, H4, G4⟩ := Vc4
  have hin4 : ¬ ((2 : Int32) < 0 ∨ cl4.slots.size ≤ ((2 : Int32)).toNatClampNeg) := inb_of S4 ⟨by decide, by decide⟩
  obtain ⟨T4, h4, X4, e4, W4, st4⟩ := stD X3 hx hZ e3 Ar4 (j := (2 : Int32)) hin4 (g := (mkF m 144 #[.val (.long tp), .second, .val (.int md), .val (.int lw), .val (.int fl), .val (.int kk), .val (.long m1), .second, .val (.long m0), .second, .val (.long m2), .second, .val (.long z0), .second, .val (.long z1), .second, .val (.long z2), .second, .val (.double jk), .second, .val (.ref b1), .unset, .unset, .unset] [(.double jk), (.int (2 : Int32)), (.ref b1)])) rfl rfl (hb hby at_144)
  have V4 : Arv Z h4 b1 k1 .double (4 : Int32) [(.double jk), (.double jk), (.double jk), (.double 0)] (.double 0) := Arv.set Ar4 q4 S4 M4 H4 G4 rfl W4 2 rfl (Nat.le_of_ble_eq_true rfl)
  have N4 := Fr.snoc X4 N3 (Nat.le_trans Z0 (Nat.le_of_eq g1.symm))
  have Vc5 := V4
  obtain ⟨cl5, Ar5, q5, S5, M5, H5, G5⟩ := Vc5
  have hin5 : ¬ ((3 : Int32) < 0 ∨ cl5.slots.size ≤ ((3 : Int32)).toNatClampNeg) := inb_of S5 ⟨by decide, by decide⟩
  obtain ⟨T5, h5, X5, e5, W5, st5⟩ := stD X4 hx hZ e4 Ar5 (j := (3 : Int32)) hin5 (g := (mkF m 150 #[.val (.long tp), .second, .val (.int md), .val (.int lw), .val (.int fl), .val (.int kk), .val (.long m1), .second, .val (.long m0), .second, .val (.long m2), .second, .val (.long z0), .second, .val (.long z1), .second, .val (.long z2), .second, .val (.double jk), .second, .val (.ref b1), .unset, .unset, .unset] [(.double jk), (.int (3 : Int32)), (.ref b1)])) rfl rfl (hb hby at_150)
  have V5 : Arv Z h5 b1 k1 .double (4 : Int32) [(.double jk), (.double jk), (.double jk), (.double jk)] (.double 0) := Arv.set Ar5 q5 S5 M5 H5 G5 rfl W5 3 rfl (Nat.le_of_ble_eq_true rfl)
  have N5 := Fr.snoc X5 N4 (Nat.le_trans Z0 (Nat.le_of_eq g1.symm))
  have Vc6 := V5
  obtain ⟨cl6, Ar6, q6, S6, M6, H6, G6⟩ := Vc6
  have hin6 : ¬ ((0 : Int32) < 0 ∨ cl6.slots.size ≤ ((0 : Int32)).toNatClampNeg) := inb_of S6 ⟨by decide, by decide⟩
  obtain ⟨T6, h6, X6, e6, W6, st6⟩ := stD X5 hx hZ e5 Ar6 (j := (0 : Int32)) hin6 (g := (mkF m 171 #[.val (.long tp), .second, .val (.int md), .val (.int lw), .val (.int fl), .val (.int kk), .val (.long m1), .second, .val (.long m0), .second, .val (.long m2), .second, .val (.long z0), .second, .val (.long z1), .second, .val (.long z2), .second, .val (.double jk), .second, .val (.ref b1), .val (.int (0 : Int32)), .val (.long (0 : Int64)), .second] [(.double (FP.l2d z0)), (.int (0 : Int32)), (.ref b1)])) rfl rfl (hb hby at_171)
  have V6 : Arv Z h6 b1 k1 .double (4 : Int32) [(.double (FP.l2d z0)), (.double jk), (.double jk), (.double jk)] (.double 0) := Arv.set Ar6 q6 S6 M6 H6 G6 rfl W6 0 rfl (Nat.le_of_ble_eq_true rfl)
  have N6 := Fr.snoc X6 N5 (Nat.le_trans Z0 (Nat.le_of_eq g1.symm))
  have Vc7 := V6
  obtain ⟨cl7, Ar7, q7, S7, M7, H7, G7⟩ := Vc7
  have hin7 : ¬ ((1 : Int32) < 0 ∨ cl7.slots.size ≤ ((1 : Int32)).toNatClampNeg) := inb_of S7 ⟨by decide, by decide⟩
  obtain ⟨T7, h7, X7, e7, W7, st7⟩ := stD X6 hx hZ e6 Ar7 (j := (1 : Int32)) hin7 (g := (mkF m 221 #[.val (.long tp), .second, .val (.int md), .val (.int lw), .val (.int fl), .val (.int kk), .val (.long m1), .second, .val (.long m0), .second, .val (.long m2), .second, .val (.long z0), .second, .val (.long z1), .second, .val (.long z2), .second, .val (.double jk), .second, .val (.ref b1), .val (.int (1 : Int32)), .val (.long ((0 : Int64) + z0)), .second] [(.double (FP.l2d z2)), (.int (1 : Int32)), (.ref b1)])) rfl rfl (hb hby at_221)
  have V7 : Arv Z h7 b1 k1 .double (4 : Int32) [(.double (FP.l2d z0)), (.double (FP.l2d z2)), (.double jk), (.double jk)] (.double 0) := Arv.set Ar7 q7 S7 M7 H7 G7 rfl W7 1 rfl (Nat.le_of_ble_eq_true rfl)
  have N7 := Fr.snoc X7 N6 (Nat.le_trans Z0 (Nat.le_of_eq g1.symm))
  obtain ⟨_, _, ⟨T8, L8, k8, n8⟩, -, X8, ⟨Lc8, hQ8, l8, y8, z8⟩, st8⟩ := Jvm.LawKit.callS X7 hx (y := (⟨"com/example/crestwatch/crestwatch/core/ExactSum", "rounded", "([DI)D"⟩ : MethodName)) hown (mvT hZ (hw _ (List.mem_of_getElem? (i := 4) rfl))) (mvT hZ (hw _ (List.mem_of_getElem? (i := 5) rfl))) (mvT hZ (hw _ (List.mem_of_getElem? (i := 6) rfl))) (mvT hZ (hw _ (List.mem_of_getElem? (i := 7) rfl))) (by decide) (backOf (W := 0) (rd_2 l Z a0 hw [] b1 k1 (FP.l2d z0) (FP.l2d z2) jk jk z0.toInt z2.toInt ((((0 : Int64) + z0) + z2).toInt) h7 n0 (Nat.le_trans (Nat.le_trans (Nat.le_trans (Nat.le_trans (Nat.le_trans (Nat.le_trans (Nat.le_trans Z0 E1.1) (Keep.of_wr W2).1) (Keep.of_wr W3).1) (Keep.of_wr W4).1) (Keep.of_wr W5).1) (Keep.of_wr W6).1) (Keep.of_wr W7).1) V7 y0 y2 (by omega) (by rw [s2]; omega)) hZ (hw _ (List.mem_of_getElem? (i := 7) rfl)) (hw _ (List.mem_of_getElem? (i := 6) rfl)) (by decide) (by decide)) (g := (mkF m 236 #[.val (.long tp), .second, .val (.int md), .val (.int lw), .val (.int fl), .val (.int kk), .val (.long m1), .second, .val (.long m0), .second, .val (.long m2), .second, .val (.long z0), .second, .val (.long z1), .second, .val (.long z2), .second, .val (.double jk), .second, .val (.ref b1), .val (.int (2 : Int32)), .val (.long (((0 : Int64) + z0) + z2)), .second] [(.int (2 : Int32)), (.ref b1)])) rfl (by rw [hml]; rfl) (argsL := [(.ref b1), (.int (2 : Int32))]) (rest := []) (lenOf pd_0 rfl) rfl (by show 2 * 0 + _ ≤ _; exact Nat.le_of_eq rfl) (hb hby at_236) (fun _ _ => ⟨rfl, e7, (by decide : 1 + 0 ≤ _), (by decide : 4 + 0 ≤ _)⟩)
  dsimp only [Pt.U, Pt.locs, Pt.cells, Pt.slots] at X8 l8 y8 z8 st8 hQ8
  subst l8 y8 z8
  obtain ⟨res_8, rfl, Nq8, e8, Pq8_0⟩ := hQ8
  have N8 := Fr.app N7 Nq8
  obtain ⟨fs, hr, hrun, hended, hW, hsame⟩ := X8.leave (v := some (.int (1 : Int32))) (fun h => by rw [Bd.returns] at h; cases h)
  refine ⟨_, _, pre0 _ ?_, hrun, hended, _, _, rfl, ?_, ⟨_, rfl⟩, hW, hsame.mono (by decide) (by decide)⟩
  · show Steps p.tables e below (s₁.setTop (mkF m 0 #[.val (.long tp), .second, .val (.int md), .val (.int lw), .val (.int fl), .unset, .unset, .unset, .unset, .unset, .unset, .unset, .unset, .unset, .unset, .unset, .unset, .unset, .unset, .unset, .unset, .unset, .unset, .unset] [])) _
    refine stp _ ?_
    show Steps p.tables e below (s₁.setTop (mkF m 122 #[.val (.long tp), .second, .val (.int md), .val (.int lw), .val (.int fl), .val (.int kk), .val (.long m1), .second, .val (.long m0), .second, .val (.long m2), .second, .val (.long z0), .second, .val (.long z1), .second, .val (.long z2), .second, .val (.double jk), .second, .unset, .unset, .unset, .unset] [])) _
    refine XS.iconst X0.here hx rfl (hb hby at_122) ?_
    show Steps p.tables e below (s₁.setTop (mkF m 123 #[.val (.long tp), .second, .val (.int md), .val (.int lw), .val (.int fl), .val (.int kk), .val (.long m1), .second, .val (.long m0), .second, .val (.long m2), .second, .val (.long z0), .second, .val (.long z1), .second, .val (.long z2), .second, .val (.double jk), .second, .unset, .unset, .unset, .unset] [(.int (4 : Int32))])) _
    refine st1 _ ?_
    show Steps p.tables e below (T1.setTop (mkF m 125 #[.val (.long tp), .second, .val (.int md), .val (.int lw), .val (.int fl), .val (.int kk), .val (.long m1), .second, .val (.long m0), .second, .val (.long m2), .second, .val (.long z0), .second, .val (.long z1), .second, .val (.long z2), .second, .val (.double jk), .second, .unset, .unset, .unset, .unset] [(.ref b1)])) _
    refine XS.astore X1.here hx rfl (hb hby at_125) rfl rfl (l' := #[.val (.long tp), .second, .val (.int md), .val (.int lw), .val (.int fl), .val (.int kk), .val (.long m1), .second, .val (.long m0), .second, .val (.long m2), .second, .val (.long z0), .second, .val (.long z1), .second, .val (.long z2), .second, .val (.double jk), .second, .val (.ref b1), .unset, .unset, .unset]) rfl ?_
    show Steps p.tables e below (T1.setTop (mkF m 127 #[.val (.long tp), .second, .val (.int md), .val (.int lw), .val (.int fl), .val (.int kk), .val (.long m1), .second, .val (.long m0), .second, .val (.long m2), .second, .val (.long z0), .second, .val (.long z1), .second, .val (.long z2), .second, .val (.double jk), .second, .val (.ref b1), .unset, .unset, .unset] [])) _
    refine XS.aload X1.here hx rfl (hb hby at_127) rfl rfl ?_
    show Steps p.tables e below (T1.setTop (mkF m 129 #[.val (.long tp), .second, .val (.int md), .val (.int lw), .val (.int fl), .val (.int kk), .val (.long m1), .second, .val (.long m0), .second, .val (.long m2), .second, .val (.long z0), .second, .val (.long z1), .second, .val (.long z2), .second, .val (.double jk), .second, .val (.ref b1), .unset, .unset, .unset] [(.ref b1)])) _
    refine XS.iconst X1.here hx rfl (hb hby at_129) ?_
    show Steps p.tables e below (T1.setTop (mkF m 130 #[.val (.long tp), .second, .val (.int md), .val (.int lw), .val (.int fl), .val (.int kk), .val (.long m1), .second, .val (.long m0), .second, .val (.long m2), .second, .val (.long z0), .second, .val (.long z1), .second, .val (.long z2), .second, .val (.double jk), .second, .val (.ref b1), .unset, .unset, .unset] [(.int (0 : Int32)), (.ref b1)])) _
    refine XS.dload X1.here hx rfl (hb hby at_130) rfl ?_
    show Steps p.tables e below (T1.setTop (mkF m 132 #[.val (.long tp), .second, .val (.int md), .val (.int lw), .val (.int fl), .val (.int kk), .val (.long m1), .second, .val (.long m0), .second, .val (.long m2), .second, .val (.long z0), .second, .val (.long z1), .second, .val (.long z2), .second, .val (.double jk), .second, .val (.ref b1), .unset, .unset, .unset] [(.double jk), (.int (0 : Int32)), (.ref b1)])) _
    refine st2 _ ?_
    show Steps p.tables e below (T2.setTop (mkF m 133 #[.val (.long tp), .second, .val (.int md), .val (.int lw), .val (.int fl), .val (.int kk), .val (.long m1), .second, .val (.long m0), .second, .val (.long m2), .second, .val (.long z0), .second, .val (.long z1), .second, .val (.long z2), .second, .val (.double jk), .second, .val (.ref b1), .unset, .unset, .unset] [])) _
    refine XS.aload X2.here hx rfl (hb hby at_133) rfl rfl ?_
    show Steps p.tables e below (T2.setTop (mkF m 135 #[.val (.long tp), .second, .val (.int md), .val (.int lw), .val (.int fl), .val (.int kk), .val (.long m1), .second, .val (.long m0), .second, .val (.long m2), .second, .val (.long z0), .second, .val (.long z1), .second, .val (.long z2), .second, .val (.double jk), .second, .val (.ref b1), .unset, .unset, .unset] [(.ref b1)])) _
    refine XS.iconst X2.here hx rfl (hb hby at_135) ?_
    show Steps p.tables e below (T2.setTop (mkF m 136 #[.val (.long tp), .second, .val (.int md), .val (.int lw), .val (.int fl), .val (.int kk), .val (.long m1), .second, .val (.long m0), .second, .val (.long m2), .second, .val (.long z0), .second, .val (.long z1), .second, .val (.long z2), .second, .val (.double jk), .second, .val (.ref b1), .unset, .unset, .unset] [(.int (1 : Int32)), (.ref b1)])) _
    refine XS.dload X2.here hx rfl (hb hby at_136) rfl ?_
    show Steps p.tables e below (T2.setTop (mkF m 138 #[.val (.long tp), .second, .val (.int md), .val (.int lw), .val (.int fl), .val (.int kk), .val (.long m1), .second, .val (.long m0), .second, .val (.long m2), .second, .val (.long z0), .second, .val (.long z1), .second, .val (.long z2), .second, .val (.double jk), .second, .val (.ref b1), .unset, .unset, .unset] [(.double jk), (.int (1 : Int32)), (.ref b1)])) _
    refine st3 _ ?_
    show Steps p.tables e below (T3.setTop (mkF m 139 #[.val (.long tp), .second, .val (.int md), .val (.int lw), .val (.int fl), .val (.int kk), .val (.long m1), .second, .val (.long m0), .second, .val (.long m2), .second, .val (.long z0), .second, .val (.long z1), .second, .val (.long z2), .second, .val (.double jk), .second, .val (.ref b1), .unset, .unset, .unset] [])) _
    refine XS.aload X3.here hx rfl (hb hby at_139) rfl rfl ?_
    show Steps p.tables e below (T3.setTop (mkF m 141 #[.val (.long tp), .second, .val (.int md), .val (.int lw), .val (.int fl), .val (.int kk), .val (.long m1), .second, .val (.long m0), .second, .val (.long m2), .second, .val (.long z0), .second, .val (.long z1), .second, .val (.long z2), .second, .val (.double jk), .second, .val (.ref b1), .unset, .unset, .unset] [(.ref b1)])) _
    refine XS.iconst X3.here hx rfl (hb hby at_141) ?_
    show Steps p.tables e below (T3.setTop (mkF m 142 #[.val (.long tp), .second, .val (.int md), .val (.int lw), .val (.int fl), .val (.int kk), .val (.long m1), .second, .val (.long m0), .second, .val (.long m2), .second, .val (.long z0), .second, .val (.long z1), .second, .val (.long z2), .second, .val (.double jk), .second, .val (.ref b1), .unset, .unset, .unset] [(.int (2 : Int32)), (.ref b1)])) _
    refine XS.dload X3.here hx rfl (hb hby at_142) rfl ?_
    show Steps p.tables e below (T3.setTop (mkF m 144 #[.val (.long tp), .second, .val (.int md), .val (.int lw), .val (.int fl), .val (.int kk), .val (.long m1), .second, .val (.long m0), .second, .val (.long m2), .second, .val (.long z0), .second, .val (.long z1), .second, .val (.long z2), .second, .val (.double jk), .second, .val (.ref b1), .unset, .unset, .unset] [(.double jk), (.int (2 : Int32)), (.ref b1)])) _
    refine st4 _ ?_
    show Steps p.tables e below (T4.setTop (mkF m 145 #[.val (.long tp), .second, .val (.int md), .val (.int lw), .val (.int fl), .val (.int kk), .val (.long m1), .second, .val (.long m0), .second, .val (.long m2), .second, .val (.long z0), .second, .val (.long z1), .second, .val (.long z2), .second, .val (.double jk), .second, .val (.ref b1), .unset, .unset, .unset] [])) _
    refine XS.aload X4.here hx rfl (hb hby at_145) rfl rfl ?_
    show Steps p.tables e below (T4.setTop (mkF m 147 #[.val (.long tp), .second, .val (.int md), .val (.int lw), .val (.int fl), .val (.int kk), .val (.long m1), .second, .val (.long m0), .second, .val (.long m2), .second, .val (.long z0), .second, .val (.long z1), .second, .val (.long z2), .second, .val (.double jk), .second, .val (.ref b1), .unset, .unset, .unset] [(.ref b1)])) _
    refine XS.iconst X4.here hx rfl (hb hby at_147) ?_
    show Steps p.tables e below (T4.setTop (mkF m 148 #[.val (.long tp), .second, .val (.int md), .val (.int lw), .val (.int fl), .val (.int kk), .val (.long m1), .second, .val (.long m0), .second, .val (.long m2), .second, .val (.long z0), .second, .val (.long z1), .second, .val (.long z2), .second, .val (.double jk), .second, .val (.ref b1), .unset, .unset, .unset] [(.int (3 : Int32)), (.ref b1)])) _
    refine XS.dload X4.here hx rfl (hb hby at_148) rfl ?_
    show Steps p.tables e below (T4.setTop (mkF m 150 #[.val (.long tp), .second, .val (.int md), .val (.int lw), .val (.int fl), .val (.int kk), .val (.long m1), .second, .val (.long m0), .second, .val (.long m2), .second, .val (.long z0), .second, .val (.long z1), .second, .val (.long z2), .second, .val (.double jk), .second, .val (.ref b1), .unset, .unset, .unset] [(.double jk), (.int (3 : Int32)), (.ref b1)])) _
    refine st5 _ ?_
    show Steps p.tables e below (T5.setTop (mkF m 151 #[.val (.long tp), .second, .val (.int md), .val (.int lw), .val (.int fl), .val (.int kk), .val (.long m1), .second, .val (.long m0), .second, .val (.long m2), .second, .val (.long z0), .second, .val (.long z1), .second, .val (.long z2), .second, .val (.double jk), .second, .val (.ref b1), .unset, .unset, .unset] [])) _
    refine XS.iconst X5.here hx rfl (hb hby at_151) ?_
    show Steps p.tables e below (T5.setTop (mkF m 152 #[.val (.long tp), .second, .val (.int md), .val (.int lw), .val (.int fl), .val (.int kk), .val (.long m1), .second, .val (.long m0), .second, .val (.long m2), .second, .val (.long z0), .second, .val (.long z1), .second, .val (.long z2), .second, .val (.double jk), .second, .val (.ref b1), .unset, .unset, .unset] [(.int (0 : Int32))])) _
    refine XS.istore X5.here hx rfl (hb hby at_152) rfl (l' := #[.val (.long tp), .second, .val (.int md), .val (.int lw), .val (.int fl), .val (.int kk), .val (.long m1), .second, .val (.long m0), .second, .val (.long m2), .second, .val (.long z0), .second, .val (.long z1), .second, .val (.long z2), .second, .val (.double jk), .second, .val (.ref b1), .val (.int (0 : Int32)), .unset, .unset]) rfl ?_
    show Steps p.tables e below (T5.setTop (mkF m 154 #[.val (.long tp), .second, .val (.int md), .val (.int lw), .val (.int fl), .val (.int kk), .val (.long m1), .second, .val (.long m0), .second, .val (.long m2), .second, .val (.long z0), .second, .val (.long z1), .second, .val (.long z2), .second, .val (.double jk), .second, .val (.ref b1), .val (.int (0 : Int32)), .unset, .unset] [])) _
    refine XS.lconst X5.here hx rfl (hb hby at_154) ?_
    show Steps p.tables e below (T5.setTop (mkF m 155 #[.val (.long tp), .second, .val (.int md), .val (.int lw), .val (.int fl), .val (.int kk), .val (.long m1), .second, .val (.long m0), .second, .val (.long m2), .second, .val (.long z0), .second, .val (.long z1), .second, .val (.long z2), .second, .val (.double jk), .second, .val (.ref b1), .val (.int (0 : Int32)), .unset, .unset] [(.long (0 : Int64))])) _
    refine XS.lstore X5.here hx rfl (hb hby at_155) rfl (l' := #[.val (.long tp), .second, .val (.int md), .val (.int lw), .val (.int fl), .val (.int kk), .val (.long m1), .second, .val (.long m0), .second, .val (.long m2), .second, .val (.long z0), .second, .val (.long z1), .second, .val (.long z2), .second, .val (.double jk), .second, .val (.ref b1), .val (.int (0 : Int32)), .val (.long (0 : Int64)), .second]) rfl ?_
    show Steps p.tables e below (T5.setTop (mkF m 157 #[.val (.long tp), .second, .val (.int md), .val (.int lw), .val (.int fl), .val (.int kk), .val (.long m1), .second, .val (.long m0), .second, .val (.long m2), .second, .val (.long z0), .second, .val (.long z1), .second, .val (.long z2), .second, .val (.double jk), .second, .val (.ref b1), .val (.int (0 : Int32)), .val (.long (0 : Int64)), .second] [])) _
    refine XS.iload X5.here hx rfl (hb hby at_157) rfl ?_
    show Steps p.tables e below (T5.setTop (mkF m 159 #[.val (.long tp), .second, .val (.int md), .val (.int lw), .val (.int fl), .val (.int kk), .val (.long m1), .second, .val (.long m0), .second, .val (.long m2), .second, .val (.long z0), .second, .val (.long z1), .second, .val (.long z2), .second, .val (.double jk), .second, .val (.ref b1), .val (.int (0 : Int32)), .val (.long (0 : Int64)), .second] [(.int fl)])) _
    refine XS.iconst X5.here hx rfl (hb hby at_159) ?_
    show Steps p.tables e below (T5.setTop (mkF m 160 #[.val (.long tp), .second, .val (.int md), .val (.int lw), .val (.int fl), .val (.int kk), .val (.long m1), .second, .val (.long m0), .second, .val (.long m2), .second, .val (.long z0), .second, .val (.long z1), .second, .val (.long z2), .second, .val (.double jk), .second, .val (.ref b1), .val (.int (0 : Int32)), .val (.long (0 : Int64)), .second] [(.int (1 : Int32)), (.int fl)])) _
    refine XS.iand X5.here hx rfl (hb hby at_160) rfl ?_
    show Steps p.tables e below (T5.setTop (mkF m 161 #[.val (.long tp), .second, .val (.int md), .val (.int lw), .val (.int fl), .val (.int kk), .val (.long m1), .second, .val (.long m0), .second, .val (.long m2), .second, .val (.long z0), .second, .val (.long z1), .second, .val (.long z2), .second, .val (.double jk), .second, .val (.ref b1), .val (.int (0 : Int32)), .val (.long (0 : Int64)), .second] [(.int (fl &&& (1 : Int32)))])) _
    refine XS.ifNo X5.here hx rfl (hb hby at_161) rfl ((if0 _ _).trans (feq hc161).1) ?_
    show Steps p.tables e below (T5.setTop (mkF m 164 #[.val (.long tp), .second, .val (.int md), .val (.int lw), .val (.int fl), .val (.int kk), .val (.long m1), .second, .val (.long m0), .second, .val (.long m2), .second, .val (.long z0), .second, .val (.long z1), .second, .val (.long z2), .second, .val (.double jk), .second, .val (.ref b1), .val (.int (0 : Int32)), .val (.long (0 : Int64)), .second] [])) _
    refine XS.aload X5.here hx rfl (hb hby at_164) rfl rfl ?_
    show Steps p.tables e below (T5.setTop (mkF m 166 #[.val (.long tp), .second, .val (.int md), .val (.int lw), .val (.int fl), .val (.int kk), .val (.long m1), .second, .val (.long m0), .second, .val (.long m2), .second, .val (.long z0), .second, .val (.long z1), .second, .val (.long z2), .second, .val (.double jk), .second, .val (.ref b1), .val (.int (0 : Int32)), .val (.long (0 : Int64)), .second] [(.ref b1)])) _
    refine XS.iload X5.here hx rfl (hb hby at_166) rfl ?_
    show Steps p.tables e below (T5.setTop (mkF m 168 #[.val (.long tp), .second, .val (.int md), .val (.int lw), .val (.int fl), .val (.int kk), .val (.long m1), .second, .val (.long m0), .second, .val (.long m2), .second, .val (.long z0), .second, .val (.long z1), .second, .val (.long z2), .second, .val (.double jk), .second, .val (.ref b1), .val (.int (0 : Int32)), .val (.long (0 : Int64)), .second] [(.int (0 : Int32)), (.ref b1)])) _
    refine XS.lload X5.here hx rfl (hb hby at_168) rfl ?_
    show Steps p.tables e below (T5.setTop (mkF m 170 #[.val (.long tp), .second, .val (.int md), .val (.int lw), .val (.int fl), .val (.int kk), .val (.long m1), .second, .val (.long m0), .second, .val (.long m2), .second, .val (.long z0), .second, .val (.long z1), .second, .val (.long z2), .second, .val (.double jk), .second, .val (.ref b1), .val (.int (0 : Int32)), .val (.long (0 : Int64)), .second] [(.long z0), (.int (0 : Int32)), (.ref b1)])) _
    refine XS.l2dS X5.here hx rfl (hb hby at_170) rfl rfl ?_
    show Steps p.tables e below (T5.setTop (mkF m 171 #[.val (.long tp), .second, .val (.int md), .val (.int lw), .val (.int fl), .val (.int kk), .val (.long m1), .second, .val (.long m0), .second, .val (.long m2), .second, .val (.long z0), .second, .val (.long z1), .second, .val (.long z2), .second, .val (.double jk), .second, .val (.ref b1), .val (.int (0 : Int32)), .val (.long (0 : Int64)), .second] [(.double (FP.l2d z0)), (.int (0 : Int32)), (.ref b1)])) _
    refine st6 _ ?_
    show Steps p.tables e below (T6.setTop (mkF m 172 #[.val (.long tp), .second, .val (.int md), .val (.int lw), .val (.int fl), .val (.int kk), .val (.long m1), .second, .val (.long m0), .second, .val (.long m2), .second, .val (.long z0), .second, .val (.long z1), .second, .val (.long z2), .second, .val (.double jk), .second, .val (.ref b1), .val (.int (0 : Int32)), .val (.long (0 : Int64)), .second] [])) _
    refine XS.iinc X6.here hx rfl (hb hby at_172) rfl (l' := #[.val (.long tp), .second, .val (.int md), .val (.int lw), .val (.int fl), .val (.int kk), .val (.long m1), .second, .val (.long m0), .second, .val (.long m2), .second, .val (.long z0), .second, .val (.long z1), .second, .val (.long z2), .second, .val (.double jk), .second, .val (.ref b1), .val (.int ((0 : Int32) + (1 : Int32))), .val (.long (0 : Int64)), .second]) rfl ?_
    show Steps p.tables e below (T6.setTop (mkF m 175 #[.val (.long tp), .second, .val (.int md), .val (.int lw), .val (.int fl), .val (.int kk), .val (.long m1), .second, .val (.long m0), .second, .val (.long m2), .second, .val (.long z0), .second, .val (.long z1), .second, .val (.long z2), .second, .val (.double jk), .second, .val (.ref b1), .val (.int ((0 : Int32) + (1 : Int32))), .val (.long (0 : Int64)), .second] [])) _
    rw [show ((0 : Int32) + (1 : Int32)) = (1 : Int32) from by decide]
    show Steps p.tables e below (T6.setTop (mkF m 175 #[.val (.long tp), .second, .val (.int md), .val (.int lw), .val (.int fl), .val (.int kk), .val (.long m1), .second, .val (.long m0), .second, .val (.long m2), .second, .val (.long z0), .second, .val (.long z1), .second, .val (.long z2), .second, .val (.double jk), .second, .val (.ref b1), .val (.int (1 : Int32)), .val (.long (0 : Int64)), .second] [])) _
    refine XS.lload X6.here hx rfl (hb hby at_175) rfl ?_
    show Steps p.tables e below (T6.setTop (mkF m 177 #[.val (.long tp), .second, .val (.int md), .val (.int lw), .val (.int fl), .val (.int kk), .val (.long m1), .second, .val (.long m0), .second, .val (.long m2), .second, .val (.long z0), .second, .val (.long z1), .second, .val (.long z2), .second, .val (.double jk), .second, .val (.ref b1), .val (.int (1 : Int32)), .val (.long (0 : Int64)), .second] [(.long (0 : Int64))])) _
    refine XS.lload X6.here hx rfl (hb hby at_177) rfl ?_
    show Steps p.tables e below (T6.setTop (mkF m 179 #[.val (.long tp), .second, .val (.int md), .val (.int lw), .val (.int fl), .val (.int kk), .val (.long m1), .second, .val (.long m0), .second, .val (.long m2), .second, .val (.long z0), .second, .val (.long z1), .second, .val (.long z2), .second, .val (.double jk), .second, .val (.ref b1), .val (.int (1 : Int32)), .val (.long (0 : Int64)), .second] [(.long z0), (.long (0 : Int64))])) _
    refine XS.ladd X6.here hx rfl (hb hby at_179) rfl ?_
    show Steps p.tables e below (T6.setTop (mkF m 180 #[.val (.long tp), .second, .val (.int md), .val (.int lw), .val (.int fl), .val (.int kk), .val (.long m1), .second, .val (.long m0), .second, .val (.long m2), .second, .val (.long z0), .second, .val (.long z1), .second, .val (.long z2), .second, .val (.double jk), .second, .val (.ref b1), .val (.int (1 : Int32)), .val (.long (0 : Int64)), .second] [(.long ((0 : Int64) + z0))])) _
    refine XS.lstore X6.here hx rfl (hb hby at_180) rfl (l' := #[.val (.long tp), .second, .val (.int md), .val (.int lw), .val (.int fl), .val (.int kk), .val (.long m1), .second, .val (.long m0), .second, .val (.long m2), .second, .val (.long z0), .second, .val (.long z1), .second, .val (.long z2), .second, .val (.double jk), .second, .val (.ref b1), .val (.int (1 : Int32)), .val (.long ((0 : Int64) + z0)), .second]) rfl ?_
    show Steps p.tables e below (T6.setTop (mkF m 182 #[.val (.long tp), .second, .val (.int md), .val (.int lw), .val (.int fl), .val (.int kk), .val (.long m1), .second, .val (.long m0), .second, .val (.long m2), .second, .val (.long z0), .second, .val (.long z1), .second, .val (.long z2), .second, .val (.double jk), .second, .val (.ref b1), .val (.int (1 : Int32)), .val (.long ((0 : Int64) + z0)), .second] [])) _
    refine XS.iload X6.here hx rfl (hb hby at_182) rfl ?_
    show Steps p.tables e below (T6.setTop (mkF m 184 #[.val (.long tp), .second, .val (.int md), .val (.int lw), .val (.int fl), .val (.int kk), .val (.long m1), .second, .val (.long m0), .second, .val (.long m2), .second, .val (.long z0), .second, .val (.long z1), .second, .val (.long z2), .second, .val (.double jk), .second, .val (.ref b1), .val (.int (1 : Int32)), .val (.long ((0 : Int64) + z0)), .second] [(.int fl)])) _
    refine XS.iconst X6.here hx rfl (hb hby at_184) ?_
    show Steps p.tables e below (T6.setTop (mkF m 185 #[.val (.long tp), .second, .val (.int md), .val (.int lw), .val (.int fl), .val (.int kk), .val (.long m1), .second, .val (.long m0), .second, .val (.long m2), .second, .val (.long z0), .second, .val (.long z1), .second, .val (.long z2), .second, .val (.double jk), .second, .val (.ref b1), .val (.int (1 : Int32)), .val (.long ((0 : Int64) + z0)), .second] [(.int (2 : Int32)), (.int fl)])) _
    refine XS.iand X6.here hx rfl (hb hby at_185) rfl ?_
    show Steps p.tables e below (T6.setTop (mkF m 186 #[.val (.long tp), .second, .val (.int md), .val (.int lw), .val (.int fl), .val (.int kk), .val (.long m1), .second, .val (.long m0), .second, .val (.long m2), .second, .val (.long z0), .second, .val (.long z1), .second, .val (.long z2), .second, .val (.double jk), .second, .val (.ref b1), .val (.int (1 : Int32)), .val (.long ((0 : Int64) + z0)), .second] [(.int (fl &&& (2 : Int32)))])) _
    refine XS.ifYes X6.here hx rfl (pc0 := 186) (pc' := 207) rfl (hb hby at_186) rfl ((if0 _ _).trans (teq hc186).1) (by decide) (by decide) ?_
    show Steps p.tables e below (T6.setTop (mkF m 207 #[.val (.long tp), .second, .val (.int md), .val (.int lw), .val (.int fl), .val (.int kk), .val (.long m1), .second, .val (.long m0), .second, .val (.long m2), .second, .val (.long z0), .second, .val (.long z1), .second, .val (.long z2), .second, .val (.double jk), .second, .val (.ref b1), .val (.int (1 : Int32)), .val (.long ((0 : Int64) + z0)), .second] [])) _
    refine XS.iload X6.here hx rfl (hb hby at_207) rfl ?_
    show Steps p.tables e below (T6.setTop (mkF m 209 #[.val (.long tp), .second, .val (.int md), .val (.int lw), .val (.int fl), .val (.int kk), .val (.long m1), .second, .val (.long m0), .second, .val (.long m2), .second, .val (.long z0), .second, .val (.long z1), .second, .val (.long z2), .second, .val (.double jk), .second, .val (.ref b1), .val (.int (1 : Int32)), .val (.long ((0 : Int64) + z0)), .second] [(.int fl)])) _
    refine XS.iconst X6.here hx rfl (hb hby at_209) ?_
    show Steps p.tables e below (T6.setTop (mkF m 210 #[.val (.long tp), .second, .val (.int md), .val (.int lw), .val (.int fl), .val (.int kk), .val (.long m1), .second, .val (.long m0), .second, .val (.long m2), .second, .val (.long z0), .second, .val (.long z1), .second, .val (.long z2), .second, .val (.double jk), .second, .val (.ref b1), .val (.int (1 : Int32)), .val (.long ((0 : Int64) + z0)), .second] [(.int (4 : Int32)), (.int fl)])) _
    refine XS.iand X6.here hx rfl (hb hby at_210) rfl ?_
    show Steps p.tables e below (T6.setTop (mkF m 211 #[.val (.long tp), .second, .val (.int md), .val (.int lw), .val (.int fl), .val (.int kk), .val (.long m1), .second, .val (.long m0), .second, .val (.long m2), .second, .val (.long z0), .second, .val (.long z1), .second, .val (.long z2), .second, .val (.double jk), .second, .val (.ref b1), .val (.int (1 : Int32)), .val (.long ((0 : Int64) + z0)), .second] [(.int (fl &&& (4 : Int32)))])) _
    refine XS.ifNo X6.here hx rfl (hb hby at_211) rfl ((if0 _ _).trans (feq hc211).1) ?_
    show Steps p.tables e below (T6.setTop (mkF m 214 #[.val (.long tp), .second, .val (.int md), .val (.int lw), .val (.int fl), .val (.int kk), .val (.long m1), .second, .val (.long m0), .second, .val (.long m2), .second, .val (.long z0), .second, .val (.long z1), .second, .val (.long z2), .second, .val (.double jk), .second, .val (.ref b1), .val (.int (1 : Int32)), .val (.long ((0 : Int64) + z0)), .second] [])) _
    refine XS.aload X6.here hx rfl (hb hby at_214) rfl rfl ?_
    show Steps p.tables e below (T6.setTop (mkF m 216 #[.val (.long tp), .second, .val (.int md), .val (.int lw), .val (.int fl), .val (.int kk), .val (.long m1), .second, .val (.long m0), .second, .val (.long m2), .second, .val (.long z0), .second, .val (.long z1), .second, .val (.long z2), .second, .val (.double jk), .second, .val (.ref b1), .val (.int (1 : Int32)), .val (.long ((0 : Int64) + z0)), .second] [(.ref b1)])) _
    refine XS.iload X6.here hx rfl (hb hby at_216) rfl ?_
    show Steps p.tables e below (T6.setTop (mkF m 218 #[.val (.long tp), .second, .val (.int md), .val (.int lw), .val (.int fl), .val (.int kk), .val (.long m1), .second, .val (.long m0), .second, .val (.long m2), .second, .val (.long z0), .second, .val (.long z1), .second, .val (.long z2), .second, .val (.double jk), .second, .val (.ref b1), .val (.int (1 : Int32)), .val (.long ((0 : Int64) + z0)), .second] [(.int (1 : Int32)), (.ref b1)])) _
    refine XS.lload X6.here hx rfl (hb hby at_218) rfl ?_
    show Steps p.tables e below (T6.setTop (mkF m 220 #[.val (.long tp), .second, .val (.int md), .val (.int lw), .val (.int fl), .val (.int kk), .val (.long m1), .second, .val (.long m0), .second, .val (.long m2), .second, .val (.long z0), .second, .val (.long z1), .second, .val (.long z2), .second, .val (.double jk), .second, .val (.ref b1), .val (.int (1 : Int32)), .val (.long ((0 : Int64) + z0)), .second] [(.long z2), (.int (1 : Int32)), (.ref b1)])) _
    refine XS.l2dS X6.here hx rfl (hb hby at_220) rfl rfl ?_
    show Steps p.tables e below (T6.setTop (mkF m 221 #[.val (.long tp), .second, .val (.int md), .val (.int lw), .val (.int fl), .val (.int kk), .val (.long m1), .second, .val (.long m0), .second, .val (.long m2), .second, .val (.long z0), .second, .val (.long z1), .second, .val (.long z2), .second, .val (.double jk), .second, .val (.ref b1), .val (.int (1 : Int32)), .val (.long ((0 : Int64) + z0)), .second] [(.double (FP.l2d z2)), (.int (1 : Int32)), (.ref b1)])) _
    refine st7 _ ?_
    show Steps p.tables e below (T7.setTop (mkF m 222 #[.val (.long tp), .second, .val (.int md), .val (.int lw), .val (.int fl), .val (.int kk), .val (.long m1), .second, .val (.long m0), .second, .val (.long m2), .second, .val (.long z0), .second, .val (.long z1), .second, .val (.long z2), .second, .val (.double jk), .second, .val (.ref b1), .val (.int (1 : Int32)), .val (.long ((0 : Int64) + z0)), .second] [])) _
    refine XS.iinc X7.here hx rfl (hb hby at_222) rfl (l' := #[.val (.long tp), .second, .val (.int md), .val (.int lw), .val (.int fl), .val (.int kk), .val (.long m1), .second, .val (.long m0), .second, .val (.long m2), .second, .val (.long z0), .second, .val (.long z1), .second, .val (.long z2), .second, .val (.double jk), .second, .val (.ref b1), .val (.int ((1 : Int32) + (1 : Int32))), .val (.long ((0 : Int64) + z0)), .second]) rfl ?_
    show Steps p.tables e below (T7.setTop (mkF m 225 #[.val (.long tp), .second, .val (.int md), .val (.int lw), .val (.int fl), .val (.int kk), .val (.long m1), .second, .val (.long m0), .second, .val (.long m2), .second, .val (.long z0), .second, .val (.long z1), .second, .val (.long z2), .second, .val (.double jk), .second, .val (.ref b1), .val (.int ((1 : Int32) + (1 : Int32))), .val (.long ((0 : Int64) + z0)), .second] [])) _
    rw [show ((1 : Int32) + (1 : Int32)) = (2 : Int32) from by decide]
    show Steps p.tables e below (T7.setTop (mkF m 225 #[.val (.long tp), .second, .val (.int md), .val (.int lw), .val (.int fl), .val (.int kk), .val (.long m1), .second, .val (.long m0), .second, .val (.long m2), .second, .val (.long z0), .second, .val (.long z1), .second, .val (.long z2), .second, .val (.double jk), .second, .val (.ref b1), .val (.int (2 : Int32)), .val (.long ((0 : Int64) + z0)), .second] [])) _
    refine XS.lload X7.here hx rfl (hb hby at_225) rfl ?_
    show Steps p.tables e below (T7.setTop (mkF m 227 #[.val (.long tp), .second, .val (.int md), .val (.int lw), .val (.int fl), .val (.int kk), .val (.long m1), .second, .val (.long m0), .second, .val (.long m2), .second, .val (.long z0), .second, .val (.long z1), .second, .val (.long z2), .second, .val (.double jk), .second, .val (.ref b1), .val (.int (2 : Int32)), .val (.long ((0 : Int64) + z0)), .second] [(.long ((0 : Int64) + z0))])) _
    refine XS.lload X7.here hx rfl (hb hby at_227) rfl ?_
    show Steps p.tables e below (T7.setTop (mkF m 229 #[.val (.long tp), .second, .val (.int md), .val (.int lw), .val (.int fl), .val (.int kk), .val (.long m1), .second, .val (.long m0), .second, .val (.long m2), .second, .val (.long z0), .second, .val (.long z1), .second, .val (.long z2), .second, .val (.double jk), .second, .val (.ref b1), .val (.int (2 : Int32)), .val (.long ((0 : Int64) + z0)), .second] [(.long z2), (.long ((0 : Int64) + z0))])) _
    refine XS.ladd X7.here hx rfl (hb hby at_229) rfl ?_
    show Steps p.tables e below (T7.setTop (mkF m 230 #[.val (.long tp), .second, .val (.int md), .val (.int lw), .val (.int fl), .val (.int kk), .val (.long m1), .second, .val (.long m0), .second, .val (.long m2), .second, .val (.long z0), .second, .val (.long z1), .second, .val (.long z2), .second, .val (.double jk), .second, .val (.ref b1), .val (.int (2 : Int32)), .val (.long ((0 : Int64) + z0)), .second] [(.long (((0 : Int64) + z0) + z2))])) _
    refine XS.lstore X7.here hx rfl (hb hby at_230) rfl (l' := #[.val (.long tp), .second, .val (.int md), .val (.int lw), .val (.int fl), .val (.int kk), .val (.long m1), .second, .val (.long m0), .second, .val (.long m2), .second, .val (.long z0), .second, .val (.long z1), .second, .val (.long z2), .second, .val (.double jk), .second, .val (.ref b1), .val (.int (2 : Int32)), .val (.long (((0 : Int64) + z0) + z2)), .second]) rfl ?_
    show Steps p.tables e below (T7.setTop (mkF m 232 #[.val (.long tp), .second, .val (.int md), .val (.int lw), .val (.int fl), .val (.int kk), .val (.long m1), .second, .val (.long m0), .second, .val (.long m2), .second, .val (.long z0), .second, .val (.long z1), .second, .val (.long z2), .second, .val (.double jk), .second, .val (.ref b1), .val (.int (2 : Int32)), .val (.long (((0 : Int64) + z0) + z2)), .second] [])) _
    refine XS.aload X7.here hx rfl (hb hby at_232) rfl rfl ?_
    show Steps p.tables e below (T7.setTop (mkF m 234 #[.val (.long tp), .second, .val (.int md), .val (.int lw), .val (.int fl), .val (.int kk), .val (.long m1), .second, .val (.long m0), .second, .val (.long m2), .second, .val (.long z0), .second, .val (.long z1), .second, .val (.long z2), .second, .val (.double jk), .second, .val (.ref b1), .val (.int (2 : Int32)), .val (.long (((0 : Int64) + z0) + z2)), .second] [(.ref b1)])) _
    refine XS.iload X7.here hx rfl (hb hby at_234) rfl ?_
    show Steps p.tables e below (T7.setTop (mkF m 236 #[.val (.long tp), .second, .val (.int md), .val (.int lw), .val (.int fl), .val (.int kk), .val (.long m1), .second, .val (.long m0), .second, .val (.long m2), .second, .val (.long z0), .second, .val (.long z1), .second, .val (.long z2), .second, .val (.double jk), .second, .val (.ref b1), .val (.int (2 : Int32)), .val (.long (((0 : Int64) + z0) + z2)), .second] [(.int (2 : Int32)), (.ref b1)])) _
    refine st8 _ ?_
    show Steps p.tables e below (T8.setTop (mkF m 239 #[.val (.long tp), .second, .val (.int md), .val (.int lw), .val (.int fl), .val (.int kk), .val (.long m1), .second, .val (.long m0), .second, .val (.long m2), .second, .val (.long z0), .second, .val (.long z1), .second, .val (.long z2), .second, .val (.double jk), .second, .val (.ref b1), .val (.int (2 : Int32)), .val (.long (((0 : Int64) + z0) + z2)), .second] [(.double res_8)])) _
    refine XS.lload X8.here hx rfl (hb hby at_239) rfl ?_
    show Steps p.tables e below (T8.setTop (mkF m 241 #[.val (.long tp), .second, .val (.int md), .val (.int lw), .val (.int fl), .val (.int kk), .val (.long m1), .second, .val (.long m0), .second, .val (.long m2), .second, .val (.long z0), .second, .val (.long z1), .second, .val (.long z2), .second, .val (.double jk), .second, .val (.ref b1), .val (.int (2 : Int32)), .val (.long (((0 : Int64) + z0) + z2)), .second] [(.long (((0 : Int64) + z0) + z2)), (.double res_8)])) _
    refine XS.l2dS X8.here hx rfl (hb hby at_241) rfl rfl ?_
    show Steps p.tables e below (T8.setTop (mkF m 242 #[.val (.long tp), .second, .val (.int md), .val (.int lw), .val (.int fl), .val (.int kk), .val (.long m1), .second, .val (.long m0), .second, .val (.long m2), .second, .val (.long z0), .second, .val (.long z1), .second, .val (.long z2), .second, .val (.double jk), .second, .val (.ref b1), .val (.int (2 : Int32)), .val (.long (((0 : Int64) + z0) + z2)), .second] [(.double (FP.l2d (((0 : Int64) + z0) + z2))), (.double res_8)])) _
    refine XS.dcmpS X8.here hx rfl (hb hby at_242) rfl (v := (0 : Int32)) ((own_eq Pq8_0 (own_l2d (by omega)) .l).mpr rfl) ?_
    show Steps p.tables e below (T8.setTop (mkF m 243 #[.val (.long tp), .second, .val (.int md), .val (.int lw), .val (.int fl), .val (.int kk), .val (.long m1), .second, .val (.long m0), .second, .val (.long m2), .second, .val (.long z0), .second, .val (.long z1), .second, .val (.long z2), .second, .val (.double jk), .second, .val (.ref b1), .val (.int (2 : Int32)), .val (.long (((0 : Int64) + z0) + z2)), .second] [(.int (0 : Int32))])) _
    refine XS.ifNo X8.here hx rfl (hb hby at_243) rfl ((if0 _ _).trans (teq (rfl : (0 : Int32) = (0 : Int32))).2) ?_
    show Steps p.tables e below (T8.setTop (mkF m 246 #[.val (.long tp), .second, .val (.int md), .val (.int lw), .val (.int fl), .val (.int kk), .val (.long m1), .second, .val (.long m0), .second, .val (.long m2), .second, .val (.long z0), .second, .val (.long z1), .second, .val (.long z2), .second, .val (.double jk), .second, .val (.ref b1), .val (.int (2 : Int32)), .val (.long (((0 : Int64) + z0) + z2)), .second] [])) _
    refine XS.iconst X8.here hx rfl (hb hby at_246) ?_
    show Steps p.tables e below (T8.setTop (mkF m 247 #[.val (.long tp), .second, .val (.int md), .val (.int lw), .val (.int fl), .val (.int kk), .val (.long m1), .second, .val (.long m0), .second, .val (.long m2), .second, .val (.long z0), .second, .val (.long z1), .second, .val (.long z2), .second, .val (.double jk), .second, .val (.ref b1), .val (.int (2 : Int32)), .val (.long (((0 : Int64) + z0) + z2)), .second] [(.int (1 : Int32))])) _
    refine XS.goto X8.here hx rfl (pc0 := 247) (pc' := 251) rfl (hb hby at_247) (by decide) (by decide) ?_
    show Steps p.tables e below (T8.setTop (mkF m 251 #[.val (.long tp), .second, .val (.int md), .val (.int lw), .val (.int fl), .val (.int kk), .val (.long m1), .second, .val (.long m0), .second, .val (.long m2), .second, .val (.long z0), .second, .val (.long z1), .second, .val (.long z2), .second, .val (.double jk), .second, .val (.ref b1), .val (.int (2 : Int32)), .val (.long (((0 : Int64) + z0) + z2)), .second] [(.int (1 : Int32))])) _
    exact retN X8 hx (t := .boolean) Bd.returns (by simp) (hb hby at_251) hr
  · show Q_rm0_5 Z tp md lw fl h0 n0 _ T8.heap _
    rw [e8]
    exact ⟨rfl, N8⟩
def Q_rm0_6 (Z : State) (tp : Int64) (md : Int32) (lw : Int32) (fl : Int32) (h0 : Heap) (n0 : Nat) (v : Option Value) (h : Heap) (L : List Loc) : Prop := v = some (.int (1 : Int32)) ∧ Fr n0 L
theorem ef_rm0_6 (m : MethodId) (tp : Int64) (md : Int32) (lw : Int32) (fl : Int32) : entryFrame m #[(.long tp), (.int md), (.int lw), (.int fl)] maxLocals = mkF m 0 #[.val (.long tp), .second, .val (.int md), .val (.int lw), .val (.int fl), .unset, .unset, .unset, .unset, .unset, .unset, .unset, .unset, .unset, .unset, .unset, .unset, .unset, .unset, .unset, .unset, .unset, .unset, .unset] [] := by first | (simp [entryFrame, mkF, argsToLocals, Value.category, maxLocals]; done) | rfl
set_option maxRecDepth 65536 in
set_option maxHeartbeats 40000000 in
theorem rm0_6 (l : Launch) (Z : State) (a0 : Array Value) (hw : ∀ d ∈ tables_1, d.before a0 Z = true) (ws : List Jvm.Cond) (tp : Int64) (md : Int32) (lw : Int32) (fl : Int32) (h0 : Heap) (n0 : Nat) (Z0 : n0 ≤ h0.size) (hc161 : (fl &&& (1 : Int32)) = (0 : Int32)) (hc186 : ¬ ((fl &&& (2 : Int32)) = (0 : Int32))) (hc211 : ¬ ((fl &&& (4 : Int32)) = (0 : Int32))) :
    MetFree l x (head1 (Jvm.Cond.code x code maxLocals ret :: ws) room_1) (fun a U => a = #[(.long tp), (.int md), (.int lw), (.int fl)] ∧ Z.Warmed39 U.vm ∧ U.heap = h0) (fun _ _ _ _ _ => True) (fun _ U o U' => ∃ v L, o = .returned v ∧ Q_rm0_6 Z tp md lw fl h0 n0 v U'.heap L ∧ FrameEnd U o U' L room_1.cells room_1.slots) := by
  refine MetFree.of_bodySF (plainFor_of_name pn_1) hisR ?_
  intro p e s m args below meth c s₁ Bd hml0 hP hK
  obtain ⟨rfl, hZ, hh⟩ := hP
  have hx := Bd.exec
  have hby := Bd.bytes
  have hml : c.maxLocals = 24 := hml0
  have hown : s.vm.findClass "com/example/crestwatch/crestwatch/core/ExactSumRoundedPinLaw" = some m.cls := findClass_of_methodNamed Bd.named
  have hnm := (name_of_methodNamed Bd.named Bd.method).1
  have X0 : Stand p l e room_1 s m #[(.long tp), (.int md), (.int lw), (.int fl)] below meth c s₁ [] 0 0 := Stand.of_body Bd
  have e0 : s₁.heap = h0 := by rw [← hh, Bd.state]; rfl
  have N0 := Fr.nil n0
  have pre0 : ∀ t, Steps p.tables e below (s₁.setTop (mkF m 0 #[.val (.long tp), .second, .val (.int md), .val (.int lw), .val (.int fl), .unset, .unset, .unset, .unset, .unset, .unset, .unset, .unset, .unset, .unset, .unset, .unset, .unset, .unset, .unset, .unset, .unset, .unset, .unset] [])) t → Steps p.tables e below (s₁.setTop (entryFrame m #[(.long tp), (.int md), (.int lw), (.int fl)] maxLocals)) t := fun t k => castTop (ef_rm0_6 m tp md lw fl) k
  obtain ⟨kk, m1, m0, m2, z0, z1, z2, jk, K, hP, stp⟩ := own_pre tp md lw fl X0 hx hZ hw hby hown
  obtain ⟨c1, c2, c3, c4, c5, M, c6, c7⟩ := hP
  have b0 : z0.toInt.natAbs < 16 := by have : 2 ^ K ≤ 2 ^ 4 := Nat.pow_le_pow_right (by decide) c1; omega
  have b2 : z2.toInt.natAbs < 2 ^ 61 := by
    rw [c7]
    calc M * 2 ^ (K + 4) < 2 ^ 53 * 2 ^ (K + 4) := Nat.mul_lt_mul_of_pos_right c6 (Nat.two_pow_pos _)
      _ ≤ 2 ^ 53 * 2 ^ 8 := Nat.mul_le_mul_left _ (Nat.pow_le_pow_right (by decide) (by omega))
      _ = 2 ^ 61 := by decide
  have e53 := own_e53
  have e61 := own_e61
  have e63 := own_e63
  have x0 := own_small_exact (p := z0) (by omega)
  have x1 := own_small_exact (p := z1) (by omega)
  have x2 := own_exact (p := z2) ⟨M, _, c6, c7⟩ (by omega)
  have y0 := own_D x0 (by omega)
  have y1 := own_D x1 (by omega)
  have y2 := own_D x2 (by omega)
  have l0 : (0 : Int64).toInt = 0 := by decide
  have s1 : ((0 : Int64) + z1).toInt = z1.toInt := by have q := own_addL (a := (0 : Int64)) (b := z1) (by omega); omega
  have s2 : (((0 : Int64) + z1) + z2).toInt = z1.toInt + z2.toInt := by have q := own_addL (a := ((0 : Int64) + z1)) (b := z2) (by omega); omega
  obtain ⟨T1, h1, k1, X1, e1, E1, A1, st1⟩ := newP X0 hx hZ (hw _ (List.mem_of_getElem? (i := 3) rfl)) e0 (g := (mkF m 123 #[.val (.long tp), .second, .val (.int md), .val (.int lw), .val (.int fl), .val (.int kk), .val (.long m1), .second, .val (.long m0), .second, .val (.long m2), .second, .val (.long z0), .second, .val (.long z1), .second, .val (.long z2), .second, .val (.double jk), .second, .unset, .unset, .unset, .unset] [(.int (4 : Int32))])) rfl (hb hby at_123) rfl (by decide) (cap := 4) (by decide) (by decide) (by decide) (by decide)
  obtain ⟨b1, g1⟩ : ∃ z, z = h0.size := ⟨_, rfl⟩
  rw [← g1] at A1 st1
  have V1 : Arv Z h1 b1 k1 .double (4 : Int32) [(.double 0), (.double 0), (.double 0), (.double 0)] (.double 0) := (Arv.new A1 (by decide)).pad (pad_rep [] (.double 0) 4)
  have Vc2 := V1
  obtain ⟨cl2, Ar2, q2, S2, M2, H2, G2⟩ := Vc2
  have hin2 : ¬ ((0 : Int32) < 0 ∨ cl2.slots.size ≤ ((0 : Int32)).toNatClampNeg) := inb_of S2 ⟨by decide, by decide⟩
  obtain ⟨T2, h2, X2, e2, W2, st2⟩ := stD X1 hx hZ e1 Ar2 (j := (0 : Int32)) hin2 (g := (mkF m 132 #[.val (.long tp), .second, .val (.int md), .val (.int lw), .val (.int fl), .val (.int kk), .val (.long m1), .second, .val (.long m0), .second, .val (.long m2), .second, .val (.long z0), .second, .val (.long z1), .second, .val (.long z2), .second, .val (.double jk), .second, .val (.ref b1), .unset, .unset, .unset] [(.double jk), (.int (0 : Int32)), (.ref b1)])) rfl rfl (hb hby at_132)
  have V2 : Arv Z h2 b1 k1 .double (4 : Int32) [(.double jk), (.double 0), (.double 0), (.double 0)] (.double 0) := Arv.set Ar2 q2 S2 M2 H2 G2 rfl W2 0 rfl (Nat.le_of_ble_eq_true rfl)
  have N2 := Fr.snoc X2 N0 (Nat.le_trans Z0 (Nat.le_of_eq g1.symm))
  have Vc3 := V2
  obtain ⟨cl3, Ar3, q3, S3, M3, H3, G3⟩ := Vc3
  have hin3 : ¬ ((1 : Int32) < 0 ∨ cl3.slots.size ≤ ((1 : Int32)).toNatClampNeg) := inb_of S3 ⟨by decide, by decide⟩
  obtain ⟨T3, h3, X3, e3, W3, st3⟩ := stD X2 hx hZ e2 Ar3 (j := (1 : Int32)) hin3 (g := (mkF m 138 #[.val (.long tp), .second, .val (.int md), .val (.int lw), .val (.int fl), .val (.int kk), .val (.long m1), .second, .val (.long m0), .second, .val (.long m2), .second, .val (.long z0), .second, .val (.long z1), .second, .val (.long z2), .second, .val (.double jk), .second, .val (.ref b1), .unset, .unset, .unset] [(.double jk), (.int (1 : Int32)), (.ref b1)])) rfl rfl (hb hby at_138)
  have V3 : Arv Z h3 b1 k1 .double (4 : Int32) [(.double jk), (.double jk), (.double 0), (.double 0)] (.double 0) := Arv.set Ar3 q3 S3 M3 H3 G3 rfl W3 1 rfl (Nat.le_of_ble_eq_true rfl)
  have N3 := Fr.snoc X3 N2 (Nat.le_trans Z0 (Nat.le_of_eq g1.symm))
  have Vc4 := V3
  obtain ⟨cl4, Ar4, q4, S4, M4, H4, G4⟩ := Vc4
  have hin4 : ¬ ((2 : Int32) < 0 ∨ cl4.slots.size ≤ ((2 : Int32)).toNatClampNeg) := inb_of S4 ⟨by decide, by decide⟩
  obtain ⟨T4, h4, X4, e4, W4, st4⟩ := stD X3 hx hZ e3 Ar4 (j := (2 : Int32)) hin4 (g := (mkF m 144 #[.val (.long tp), .second, .val (.int md), .val (.int lw), .val (.int fl), .val (.int kk), .val (.long m1), .second, .val (.long m0), .second, .val (.long m2), .second, .val (.long z0), .second, .val (.long z1), .second, .val (.long z2), .second, .val (.double jk), .second, .val (.ref b1), .unset, .unset, .unset] [(.double jk), (.int (2 : Int32)), (.ref b1)])) rfl rfl (hb hby at_144)
  have V4 : Arv Z h4 b1 k1 .double (4 : Int32) [(.double jk), (.double jk), (.double jk), (.double 0)] (.double 0) := Arv.set Ar4 q4 S4 M4 H4 G4 rfl W4 2 rfl (Nat.le_of_ble_eq_true rfl)
  have N4 := Fr.snoc X4 N3 (Nat.le_trans Z0 (Nat.le_of_eq g1.symm))
  have Vc5 := V4
  obtain ⟨cl5, Ar5, q5, S5, M5, H5, G5⟩ := Vc5
  have hin5 : ¬ ((3 : Int32) < 0 ∨ cl5.slots.size ≤ ((3 : Int32)).toNatClampNeg) := inb_of S5 ⟨by decide, by decide⟩
  obtain ⟨T5, h5, X5, e5, W5, st5⟩ := stD X4 hx hZ e4 Ar5 (j := (3 : Int32)) hin5 (g := (mkF m 150 #[.val (.long tp), .second, .val (.int md), .val (.int lw), .val (.int fl), .val (.int kk), .val (.long m1), .second, .val (.long m0), .second, .val (.long m2), .second, .val (.long z0), .second, .val (.long z1), .second, .val (.long z2), .second, .val (.double jk), .second, .val (.ref b1), .unset, .unset, .unset] [(.double jk), (.int (3 : Int32)), (.ref b1)])) rfl rfl (hb hby at_150)
  have V5 : Arv Z h5 b1 k1 .double (4 : Int32) [(.double jk), (.double jk), (.double jk), (.double jk)] (.double 0) := Arv.set Ar5 q5 S5 M5 H5 G5 rfl W5 3 rfl (Nat.le_of_ble_eq_true rfl)
  have N5 := Fr.snoc X5 N4 (Nat.le_trans Z0 (Nat.le_of_eq g1.symm))
  have Vc6 := V5
  obtain ⟨cl6, Ar6, q6, S6, M6, H6, G6⟩ := Vc6
  have hin6 : ¬ ((0 : Int32) < 0 ∨ cl6.slots.size ≤ ((0 : Int32)).toNatClampNeg) := inb_of S6 ⟨by decide, by decide⟩
  obtain ⟨T6, h6, X6, e6, W6, st6⟩ := stD X5 hx hZ e5 Ar6 (j := (0 : Int32)) hin6 (g := (mkF m 196 #[.val (.long tp), .second, .val (.int md), .val (.int lw), .val (.int fl), .val (.int kk), .val (.long m1), .second, .val (.long m0), .second, .val (.long m2), .second, .val (.long z0), .second, .val (.long z1), .second, .val (.long z2), .second, .val (.double jk), .second, .val (.ref b1), .val (.int (0 : Int32)), .val (.long (0 : Int64)), .second] [(.double (FP.l2d z1)), (.int (0 : Int32)), (.ref b1)])) rfl rfl (hb hby at_196)
  have V6 : Arv Z h6 b1 k1 .double (4 : Int32) [(.double (FP.l2d z1)), (.double jk), (.double jk), (.double jk)] (.double 0) := Arv.set Ar6 q6 S6 M6 H6 G6 rfl W6 0 rfl (Nat.le_of_ble_eq_true rfl)
  have N6 := Fr.snoc X6 N5 (Nat.le_trans Z0 (Nat.le_of_eq g1.symm))
  have Vc7 := V6
  obtain ⟨cl7, Ar7, q7, S7, M7, H7, G7⟩ := Vc7
  have hin7 : ¬ ((1 : Int32) < 0 ∨ cl7.slots.size ≤ ((1 : Int32)).toNatClampNeg) := inb_of S7 ⟨by decide, by decide⟩
  obtain ⟨T7, h7, X7, e7, W7, st7⟩ := stD X6 hx hZ e6 Ar7 (j := (1 : Int32)) hin7 (g := (mkF m 221 #[.val (.long tp), .second, .val (.int md), .val (.int lw), .val (.int fl), .val (.int kk), .val (.long m1), .second, .val (.long m0), .second, .val (.long m2), .second, .val (.long z0), .second, .val (.long z1), .second, .val (.long z2), .second, .val (.double jk), .second, .val (.ref b1), .val (.int (1 : Int32)), .val (.long ((0 : Int64) + z1)), .second] [(.double (FP.l2d z2)), (.int (1 : Int32)), (.ref b1)])) rfl rfl (hb hby at_221)
  have V7 : Arv Z h7 b1 k1 .double (4 : Int32) [(.double (FP.l2d z1)), (.double (FP.l2d z2)), (.double jk), (.double jk)] (.double 0) := Arv.set Ar7 q7 S7 M7 H7 G7 rfl W7 1 rfl (Nat.le_of_ble_eq_true rfl)
  have N7 := Fr.snoc X7 N6 (Nat.le_trans Z0 (Nat.le_of_eq g1.symm))
  obtain ⟨_, _, ⟨T8, L8, k8, n8⟩, -, X8, ⟨Lc8, hQ8, l8, y8, z8⟩, st8⟩ := Jvm.LawKit.callS X7 hx (y := (⟨"com/example/crestwatch/crestwatch/core/ExactSum", "rounded", "([DI)D"⟩ : MethodName)) hown (mvT hZ (hw _ (List.mem_of_getElem? (i := 4) rfl))) (mvT hZ (hw _ (List.mem_of_getElem? (i := 5) rfl))) (mvT hZ (hw _ (List.mem_of_getElem? (i := 6) rfl))) (mvT hZ (hw _ (List.mem_of_getElem? (i := 7) rfl))) (by decide) (backOf (W := 0) (rd_2 l Z a0 hw [] b1 k1 (FP.l2d z1) (FP.l2d z2) jk jk z1.toInt z2.toInt ((((0 : Int64) + z1) + z2).toInt) h7 n0 (Nat.le_trans (Nat.le_trans (Nat.le_trans (Nat.le_trans (Nat.le_trans (Nat.le_trans (Nat.le_trans Z0 E1.1) (Keep.of_wr W2).1) (Keep.of_wr W3).1) (Keep.of_wr W4).1) (Keep.of_wr W5).1) (Keep.of_wr W6).1) (Keep.of_wr W7).1) V7 y1 y2 (by omega) (by rw [s2]; omega)) hZ (hw _ (List.mem_of_getElem? (i := 7) rfl)) (hw _ (List.mem_of_getElem? (i := 6) rfl)) (by decide) (by decide)) (g := (mkF m 236 #[.val (.long tp), .second, .val (.int md), .val (.int lw), .val (.int fl), .val (.int kk), .val (.long m1), .second, .val (.long m0), .second, .val (.long m2), .second, .val (.long z0), .second, .val (.long z1), .second, .val (.long z2), .second, .val (.double jk), .second, .val (.ref b1), .val (.int (2 : Int32)), .val (.long (((0 : Int64) + z1) + z2)), .second] [(.int (2 : Int32)), (.ref b1)])) rfl (by rw [hml]; rfl) (argsL := [(.ref b1), (.int (2 : Int32))]) (rest := []) (lenOf pd_0 rfl) rfl (by show 2 * 0 + _ ≤ _; exact Nat.le_of_eq rfl) (hb hby at_236) (fun _ _ => ⟨rfl, e7, (by decide : 1 + 0 ≤ _), (by decide : 4 + 0 ≤ _)⟩)
  dsimp only [Pt.U, Pt.locs, Pt.cells, Pt.slots] at X8 l8 y8 z8 st8 hQ8
  subst l8 y8 z8
  obtain ⟨res_8, rfl, Nq8, e8, Pq8_0⟩ := hQ8
  have N8 := Fr.app N7 Nq8
  obtain ⟨fs, hr, hrun, hended, hW, hsame⟩ := X8.leave (v := some (.int (1 : Int32))) (fun h => by rw [Bd.returns] at h; cases h)
  refine ⟨_, _, pre0 _ ?_, hrun, hended, _, _, rfl, ?_, ⟨_, rfl⟩, hW, hsame.mono (by decide) (by decide)⟩
  · show Steps p.tables e below (s₁.setTop (mkF m 0 #[.val (.long tp), .second, .val (.int md), .val (.int lw), .val (.int fl), .unset, .unset, .unset, .unset, .unset, .unset, .unset, .unset, .unset, .unset, .unset, .unset, .unset, .unset, .unset, .unset, .unset, .unset, .unset] [])) _
    refine stp _ ?_
    show Steps p.tables e below (s₁.setTop (mkF m 122 #[.val (.long tp), .second, .val (.int md), .val (.int lw), .val (.int fl), .val (.int kk), .val (.long m1), .second, .val (.long m0), .second, .val (.long m2), .second, .val (.long z0), .second, .val (.long z1), .second, .val (.long z2), .second, .val (.double jk), .second, .unset, .unset, .unset, .unset] [])) _
    refine XS.iconst X0.here hx rfl (hb hby at_122) ?_
    show Steps p.tables e below (s₁.setTop (mkF m 123 #[.val (.long tp), .second, .val (.int md), .val (.int lw), .val (.int fl), .val (.int kk), .val (.long m1), .second, .val (.long m0), .second, .val (.long m2), .second, .val (.long z0), .second, .val (.long z1), .second, .val (.long z2), .second, .val (.double jk), .second, .unset, .unset, .unset, .unset] [(.int (4 : Int32))])) _
    refine st1 _ ?_
    show Steps p.tables e below (T1.setTop (mkF m 125 #[.val (.long tp), .second, .val (.int md), .val (.int lw), .val (.int fl), .val (.int kk), .val (.long m1), .second, .val (.long m0), .second, .val (.long m2), .second, .val (.long z0), .second, .val (.long z1), .second, .val (.long z2), .second, .val (.double jk), .second, .unset, .unset, .unset, .unset] [(.ref b1)])) _
    refine XS.astore X1.here hx rfl (hb hby at_125) rfl rfl (l' := #[.val (.long tp), .second, .val (.int md), .val (.int lw), .val (.int fl), .val (.int kk), .val (.long m1), .second, .val (.long m0), .second, .val (.long m2), .second, .val (.long z0), .second, .val (.long z1), .second, .val (.long z2), .second, .val (.double jk), .second, .val (.ref b1), .unset, .unset, .unset]) rfl ?_
    show Steps p.tables e below (T1.setTop (mkF m 127 #[.val (.long tp), .second, .val (.int md), .val (.int lw), .val (.int fl), .val (.int kk), .val (.long m1), .second, .val (.long m0), .second, .val (.long m2), .second, .val (.long z0), .second, .val (.long z1), .second, .val (.long z2), .second, .val (.double jk), .second, .val (.ref b1), .unset, .unset, .unset] [])) _
    refine XS.aload X1.here hx rfl (hb hby at_127) rfl rfl ?_
    show Steps p.tables e below (T1.setTop (mkF m 129 #[.val (.long tp), .second, .val (.int md), .val (.int lw), .val (.int fl), .val (.int kk), .val (.long m1), .second, .val (.long m0), .second, .val (.long m2), .second, .val (.long z0), .second, .val (.long z1), .second, .val (.long z2), .second, .val (.double jk), .second, .val (.ref b1), .unset, .unset, .unset] [(.ref b1)])) _
    refine XS.iconst X1.here hx rfl (hb hby at_129) ?_
    show Steps p.tables e below (T1.setTop (mkF m 130 #[.val (.long tp), .second, .val (.int md), .val (.int lw), .val (.int fl), .val (.int kk), .val (.long m1), .second, .val (.long m0), .second, .val (.long m2), .second, .val (.long z0), .second, .val (.long z1), .second, .val (.long z2), .second, .val (.double jk), .second, .val (.ref b1), .unset, .unset, .unset] [(.int (0 : Int32)), (.ref b1)])) _
    refine XS.dload X1.here hx rfl (hb hby at_130) rfl ?_
    show Steps p.tables e below (T1.setTop (mkF m 132 #[.val (.long tp), .second, .val (.int md), .val (.int lw), .val (.int fl), .val (.int kk), .val (.long m1), .second, .val (.long m0), .second, .val (.long m2), .second, .val (.long z0), .second, .val (.long z1), .second, .val (.long z2), .second, .val (.double jk), .second, .val (.ref b1), .unset, .unset, .unset] [(.double jk), (.int (0 : Int32)), (.ref b1)])) _
    refine st2 _ ?_
    show Steps p.tables e below (T2.setTop (mkF m 133 #[.val (.long tp), .second, .val (.int md), .val (.int lw), .val (.int fl), .val (.int kk), .val (.long m1), .second, .val (.long m0), .second, .val (.long m2), .second, .val (.long z0), .second, .val (.long z1), .second, .val (.long z2), .second, .val (.double jk), .second, .val (.ref b1), .unset, .unset, .unset] [])) _
    refine XS.aload X2.here hx rfl (hb hby at_133) rfl rfl ?_
    show Steps p.tables e below (T2.setTop (mkF m 135 #[.val (.long tp), .second, .val (.int md), .val (.int lw), .val (.int fl), .val (.int kk), .val (.long m1), .second, .val (.long m0), .second, .val (.long m2), .second, .val (.long z0), .second, .val (.long z1), .second, .val (.long z2), .second, .val (.double jk), .second, .val (.ref b1), .unset, .unset, .unset] [(.ref b1)])) _
    refine XS.iconst X2.here hx rfl (hb hby at_135) ?_
    show Steps p.tables e below (T2.setTop (mkF m 136 #[.val (.long tp), .second, .val (.int md), .val (.int lw), .val (.int fl), .val (.int kk), .val (.long m1), .second, .val (.long m0), .second, .val (.long m2), .second, .val (.long z0), .second, .val (.long z1), .second, .val (.long z2), .second, .val (.double jk), .second, .val (.ref b1), .unset, .unset, .unset] [(.int (1 : Int32)), (.ref b1)])) _
    refine XS.dload X2.here hx rfl (hb hby at_136) rfl ?_
    show Steps p.tables e below (T2.setTop (mkF m 138 #[.val (.long tp), .second, .val (.int md), .val (.int lw), .val (.int fl), .val (.int kk), .val (.long m1), .second, .val (.long m0), .second, .val (.long m2), .second, .val (.long z0), .second, .val (.long z1), .second, .val (.long z2), .second, .val (.double jk), .second, .val (.ref b1), .unset, .unset, .unset] [(.double jk), (.int (1 : Int32)), (.ref b1)])) _
    refine st3 _ ?_
    show Steps p.tables e below (T3.setTop (mkF m 139 #[.val (.long tp), .second, .val (.int md), .val (.int lw), .val (.int fl), .val (.int kk), .val (.long m1), .second, .val (.long m0), .second, .val (.long m2), .second, .val (.long z0), .second, .val (.long z1), .second, .val (.long z2), .second, .val (.double jk), .second, .val (.ref b1), .unset, .unset, .unset] [])) _
    refine XS.aload X3.here hx rfl (hb hby at_139) rfl rfl ?_
    show Steps p.tables e below (T3.setTop (mkF m 141 #[.val (.long tp), .second, .val (.int md), .val (.int lw), .val (.int fl), .val (.int kk), .val (.long m1), .second, .val (.long m0), .second, .val (.long m2), .second, .val (.long z0), .second, .val (.long z1), .second, .val (.long z2), .second, .val (.double jk), .second, .val (.ref b1), .unset, .unset, .unset] [(.ref b1)])) _
    refine XS.iconst X3.here hx rfl (hb hby at_141) ?_
    show Steps p.tables e below (T3.setTop (mkF m 142 #[.val (.long tp), .second, .val (.int md), .val (.int lw), .val (.int fl), .val (.int kk), .val (.long m1), .second, .val (.long m0), .second, .val (.long m2), .second, .val (.long z0), .second, .val (.long z1), .second, .val (.long z2), .second, .val (.double jk), .second, .val (.ref b1), .unset, .unset, .unset] [(.int (2 : Int32)), (.ref b1)])) _
    refine XS.dload X3.here hx rfl (hb hby at_142) rfl ?_
    show Steps p.tables e below (T3.setTop (mkF m 144 #[.val (.long tp), .second, .val (.int md), .val (.int lw), .val (.int fl), .val (.int kk), .val (.long m1), .second, .val (.long m0), .second, .val (.long m2), .second, .val (.long z0), .second, .val (.long z1), .second, .val (.long z2), .second, .val (.double jk), .second, .val (.ref b1), .unset, .unset, .unset] [(.double jk), (.int (2 : Int32)), (.ref b1)])) _
    refine st4 _ ?_
    show Steps p.tables e below (T4.setTop (mkF m 145 #[.val (.long tp), .second, .val (.int md), .val (.int lw), .val (.int fl), .val (.int kk), .val (.long m1), .second, .val (.long m0), .second, .val (.long m2), .second, .val (.long z0), .second, .val (.long z1), .second, .val (.long z2), .second, .val (.double jk), .second, .val (.ref b1), .unset, .unset, .unset] [])) _
    refine XS.aload X4.here hx rfl (hb hby at_145) rfl rfl ?_
    show Steps p.tables e below (T4.setTop (mkF m 147 #[.val (.long tp), .second, .val (.int md), .val (.int lw), .val (.int fl), .val (.int kk), .val (.long m1), .second, .val (.long m0), .second, .val (.long m2), .second, .val (.long z0), .second, .val (.long z1), .second, .val (.long z2), .second, .val (.double jk), .second, .val (.ref b1), .unset, .unset, .unset] [(.ref b1)])) _
    refine XS.iconst X4.here hx rfl (hb hby at_147) ?_
    show Steps p.tables e below (T4.setTop (mkF m 148 #[.val (.long tp), .second, .val (.int md), .val (.int lw), .val (.int fl), .val (.int kk), .val (.long m1), .second, .val (.long m0), .second, .val (.long m2), .second, .val (.long z0), .second, .val (.long z1), .second, .val (.long z2), .second, .val (.double jk), .second, .val (.ref b1), .unset, .unset, .unset] [(.int (3 : Int32)), (.ref b1)])) _
    refine XS.dload X4.here hx rfl (hb hby at_148) rfl ?_
    show Steps p.tables e below (T4.setTop (mkF m 150 #[.val (.long tp), .second, .val (.int md), .val (.int lw), .val (.int fl), .val (.int kk), .val (.long m1), .second, .val (.long m0), .second, .val (.long m2), .second, .val (.long z0), .second, .val (.long z1), .second, .val (.long z2), .second, .val (.double jk), .second, .val (.ref b1), .unset, .unset, .unset] [(.double jk), (.int (3 : Int32)), (.ref b1)])) _
    refine st5 _ ?_
    show Steps p.tables e below (T5.setTop (mkF m 151 #[.val (.long tp), .second, .val (.int md), .val (.int lw), .val (.int fl), .val (.int kk), .val (.long m1), .second, .val (.long m0), .second, .val (.long m2), .second, .val (.long z0), .second, .val (.long z1), .second, .val (.long z2), .second, .val (.double jk), .second, .val (.ref b1), .unset, .unset, .unset] [])) _
    refine XS.iconst X5.here hx rfl (hb hby at_151) ?_
    show Steps p.tables e below (T5.setTop (mkF m 152 #[.val (.long tp), .second, .val (.int md), .val (.int lw), .val (.int fl), .val (.int kk), .val (.long m1), .second, .val (.long m0), .second, .val (.long m2), .second, .val (.long z0), .second, .val (.long z1), .second, .val (.long z2), .second, .val (.double jk), .second, .val (.ref b1), .unset, .unset, .unset] [(.int (0 : Int32))])) _
    refine XS.istore X5.here hx rfl (hb hby at_152) rfl (l' := #[.val (.long tp), .second, .val (.int md), .val (.int lw), .val (.int fl), .val (.int kk), .val (.long m1), .second, .val (.long m0), .second, .val (.long m2), .second, .val (.long z0), .second, .val (.long z1), .second, .val (.long z2), .second, .val (.double jk), .second, .val (.ref b1), .val (.int (0 : Int32)), .unset, .unset]) rfl ?_
    show Steps p.tables e below (T5.setTop (mkF m 154 #[.val (.long tp), .second, .val (.int md), .val (.int lw), .val (.int fl), .val (.int kk), .val (.long m1), .second, .val (.long m0), .second, .val (.long m2), .second, .val (.long z0), .second, .val (.long z1), .second, .val (.long z2), .second, .val (.double jk), .second, .val (.ref b1), .val (.int (0 : Int32)), .unset, .unset] [])) _
    refine XS.lconst X5.here hx rfl (hb hby at_154) ?_
    show Steps p.tables e below (T5.setTop (mkF m 155 #[.val (.long tp), .second, .val (.int md), .val (.int lw), .val (.int fl), .val (.int kk), .val (.long m1), .second, .val (.long m0), .second, .val (.long m2), .second, .val (.long z0), .second, .val (.long z1), .second, .val (.long z2), .second, .val (.double jk), .second, .val (.ref b1), .val (.int (0 : Int32)), .unset, .unset] [(.long (0 : Int64))])) _
    refine XS.lstore X5.here hx rfl (hb hby at_155) rfl (l' := #[.val (.long tp), .second, .val (.int md), .val (.int lw), .val (.int fl), .val (.int kk), .val (.long m1), .second, .val (.long m0), .second, .val (.long m2), .second, .val (.long z0), .second, .val (.long z1), .second, .val (.long z2), .second, .val (.double jk), .second, .val (.ref b1), .val (.int (0 : Int32)), .val (.long (0 : Int64)), .second]) rfl ?_
    show Steps p.tables e below (T5.setTop (mkF m 157 #[.val (.long tp), .second, .val (.int md), .val (.int lw), .val (.int fl), .val (.int kk), .val (.long m1), .second, .val (.long m0), .second, .val (.long m2), .second, .val (.long z0), .second, .val (.long z1), .second, .val (.long z2), .second, .val (.double jk), .second, .val (.ref b1), .val (.int (0 : Int32)), .val (.long (0 : Int64)), .second] [])) _
    refine XS.iload X5.here hx rfl (hb hby at_157) rfl ?_
    show Steps p.tables e below (T5.setTop (mkF m 159 #[.val (.long tp), .second, .val (.int md), .val (.int lw), .val (.int fl), .val (.int kk), .val (.long m1), .second, .val (.long m0), .second, .val (.long m2), .second, .val (.long z0), .second, .val (.long z1), .second, .val (.long z2), .second, .val (.double jk), .second, .val (.ref b1), .val (.int (0 : Int32)), .val (.long (0 : Int64)), .second] [(.int fl)])) _
    refine XS.iconst X5.here hx rfl (hb hby at_159) ?_
    show Steps p.tables e below (T5.setTop (mkF m 160 #[.val (.long tp), .second, .val (.int md), .val (.int lw), .val (.int fl), .val (.int kk), .val (.long m1), .second, .val (.long m0), .second, .val (.long m2), .second, .val (.long z0), .second, .val (.long z1), .second, .val (.long z2), .second, .val (.double jk), .second, .val (.ref b1), .val (.int (0 : Int32)), .val (.long (0 : Int64)), .second] [(.int (1 : Int32)), (.int fl)])) _
    refine XS.iand X5.here hx rfl (hb hby at_160) rfl ?_
    show Steps p.tables e below (T5.setTop (mkF m 161 #[.val (.long tp), .second, .val (.int md), .val (.int lw), .val (.int fl), .val (.int kk), .val (.long m1), .second, .val (.long m0), .second, .val (.long m2), .second, .val (.long z0), .second, .val (.long z1), .second, .val (.long z2), .second, .val (.double jk), .second, .val (.ref b1), .val (.int (0 : Int32)), .val (.long (0 : Int64)), .second] [(.int (fl &&& (1 : Int32)))])) _
    refine XS.ifYes X5.here hx rfl (pc0 := 161) (pc' := 182) rfl (hb hby at_161) rfl ((if0 _ _).trans (teq hc161).1) (by decide) (by decide) ?_
    show Steps p.tables e below (T5.setTop (mkF m 182 #[.val (.long tp), .second, .val (.int md), .val (.int lw), .val (.int fl), .val (.int kk), .val (.long m1), .second, .val (.long m0), .second, .val (.long m2), .second, .val (.long z0), .second, .val (.long z1), .second, .val (.long z2), .second, .val (.double jk), .second, .val (.ref b1), .val (.int (0 : Int32)), .val (.long (0 : Int64)), .second] [])) _
    refine XS.iload X5.here hx rfl (hb hby at_182) rfl ?_
    show Steps p.tables e below (T5.setTop (mkF m 184 #[.val (.long tp), .second, .val (.int md), .val (.int lw), .val (.int fl), .val (.int kk), .val (.long m1), .second, .val (.long m0), .second, .val (.long m2), .second, .val (.long z0), .second, .val (.long z1), .second, .val (.long z2), .second, .val (.double jk), .second, .val (.ref b1), .val (.int (0 : Int32)), .val (.long (0 : Int64)), .second] [(.int fl)])) _
    refine XS.iconst X5.here hx rfl (hb hby at_184) ?_
    show Steps p.tables e below (T5.setTop (mkF m 185 #[.val (.long tp), .second, .val (.int md), .val (.int lw), .val (.int fl), .val (.int kk), .val (.long m1), .second, .val (.long m0), .second, .val (.long m2), .second, .val (.long z0), .second, .val (.long z1), .second, .val (.long z2), .second, .val (.double jk), .second, .val (.ref b1), .val (.int (0 : Int32)), .val (.long (0 : Int64)), .second] [(.int (2 : Int32)), (.int fl)])) _
    refine XS.iand X5.here hx rfl (hb hby at_185) rfl ?_
    show Steps p.tables e below (T5.setTop (mkF m 186 #[.val (.long tp), .second, .val (.int md), .val (.int lw), .val (.int fl), .val (.int kk), .val (.long m1), .second, .val (.long m0), .second, .val (.long m2), .second, .val (.long z0), .second, .val (.long z1), .second, .val (.long z2), .second, .val (.double jk), .second, .val (.ref b1), .val (.int (0 : Int32)), .val (.long (0 : Int64)), .second] [(.int (fl &&& (2 : Int32)))])) _
    refine XS.ifNo X5.here hx rfl (hb hby at_186) rfl ((if0 _ _).trans (feq hc186).1) ?_
    show Steps p.tables e below (T5.setTop (mkF m 189 #[.val (.long tp), .second, .val (.int md), .val (.int lw), .val (.int fl), .val (.int kk), .val (.long m1), .second, .val (.long m0), .second, .val (.long m2), .second, .val (.long z0), .second, .val (.long z1), .second, .val (.long z2), .second, .val (.double jk), .second, .val (.ref b1), .val (.int (0 : Int32)), .val (.long (0 : Int64)), .second] [])) _
    refine XS.aload X5.here hx rfl (hb hby at_189) rfl rfl ?_
    show Steps p.tables e below (T5.setTop (mkF m 191 #[.val (.long tp), .second, .val (.int md), .val (.int lw), .val (.int fl), .val (.int kk), .val (.long m1), .second, .val (.long m0), .second, .val (.long m2), .second, .val (.long z0), .second, .val (.long z1), .second, .val (.long z2), .second, .val (.double jk), .second, .val (.ref b1), .val (.int (0 : Int32)), .val (.long (0 : Int64)), .second] [(.ref b1)])) _
    refine XS.iload X5.here hx rfl (hb hby at_191) rfl ?_
    show Steps p.tables e below (T5.setTop (mkF m 193 #[.val (.long tp), .second, .val (.int md), .val (.int lw), .val (.int fl), .val (.int kk), .val (.long m1), .second, .val (.long m0), .second, .val (.long m2), .second, .val (.long z0), .second, .val (.long z1), .second, .val (.long z2), .second, .val (.double jk), .second, .val (.ref b1), .val (.int (0 : Int32)), .val (.long (0 : Int64)), .second] [(.int (0 : Int32)), (.ref b1)])) _
    refine XS.lload X5.here hx rfl (hb hby at_193) rfl ?_
    show Steps p.tables e below (T5.setTop (mkF m 195 #[.val (.long tp), .second, .val (.int md), .val (.int lw), .val (.int fl), .val (.int kk), .val (.long m1), .second, .val (.long m0), .second, .val (.long m2), .second, .val (.long z0), .second, .val (.long z1), .second, .val (.long z2), .second, .val (.double jk), .second, .val (.ref b1), .val (.int (0 : Int32)), .val (.long (0 : Int64)), .second] [(.long z1), (.int (0 : Int32)), (.ref b1)])) _
    refine XS.l2dS X5.here hx rfl (hb hby at_195) rfl rfl ?_
    show Steps p.tables e below (T5.setTop (mkF m 196 #[.val (.long tp), .second, .val (.int md), .val (.int lw), .val (.int fl), .val (.int kk), .val (.long m1), .second, .val (.long m0), .second, .val (.long m2), .second, .val (.long z0), .second, .val (.long z1), .second, .val (.long z2), .second, .val (.double jk), .second, .val (.ref b1), .val (.int (0 : Int32)), .val (.long (0 : Int64)), .second] [(.double (FP.l2d z1)), (.int (0 : Int32)), (.ref b1)])) _
    refine st6 _ ?_
    show Steps p.tables e below (T6.setTop (mkF m 197 #[.val (.long tp), .second, .val (.int md), .val (.int lw), .val (.int fl), .val (.int kk), .val (.long m1), .second, .val (.long m0), .second, .val (.long m2), .second, .val (.long z0), .second, .val (.long z1), .second, .val (.long z2), .second, .val (.double jk), .second, .val (.ref b1), .val (.int (0 : Int32)), .val (.long (0 : Int64)), .second] [])) _
    refine XS.iinc X6.here hx rfl (hb hby at_197) rfl (l' := #[.val (.long tp), .second, .val (.int md), .val (.int lw), .val (.int fl), .val (.int kk), .val (.long m1), .second, .val (.long m0), .second, .val (.long m2), .second, .val (.long z0), .second, .val (.long z1), .second, .val (.long z2), .second, .val (.double jk), .second, .val (.ref b1), .val (.int ((0 : Int32) + (1 : Int32))), .val (.long (0 : Int64)), .second]) rfl ?_
    show Steps p.tables e below (T6.setTop (mkF m 200 #[.val (.long tp), .second, .val (.int md), .val (.int lw), .val (.int fl), .val (.int kk), .val (.long m1), .second, .val (.long m0), .second, .val (.long m2), .second, .val (.long z0), .second, .val (.long z1), .second, .val (.long z2), .second, .val (.double jk), .second, .val (.ref b1), .val (.int ((0 : Int32) + (1 : Int32))), .val (.long (0 : Int64)), .second] [])) _
    rw [show ((0 : Int32) + (1 : Int32)) = (1 : Int32) from by decide]
    show Steps p.tables e below (T6.setTop (mkF m 200 #[.val (.long tp), .second, .val (.int md), .val (.int lw), .val (.int fl), .val (.int kk), .val (.long m1), .second, .val (.long m0), .second, .val (.long m2), .second, .val (.long z0), .second, .val (.long z1), .second, .val (.long z2), .second, .val (.double jk), .second, .val (.ref b1), .val (.int (1 : Int32)), .val (.long (0 : Int64)), .second] [])) _
    refine XS.lload X6.here hx rfl (hb hby at_200) rfl ?_
    show Steps p.tables e below (T6.setTop (mkF m 202 #[.val (.long tp), .second, .val (.int md), .val (.int lw), .val (.int fl), .val (.int kk), .val (.long m1), .second, .val (.long m0), .second, .val (.long m2), .second, .val (.long z0), .second, .val (.long z1), .second, .val (.long z2), .second, .val (.double jk), .second, .val (.ref b1), .val (.int (1 : Int32)), .val (.long (0 : Int64)), .second] [(.long (0 : Int64))])) _
    refine XS.lload X6.here hx rfl (hb hby at_202) rfl ?_
    show Steps p.tables e below (T6.setTop (mkF m 204 #[.val (.long tp), .second, .val (.int md), .val (.int lw), .val (.int fl), .val (.int kk), .val (.long m1), .second, .val (.long m0), .second, .val (.long m2), .second, .val (.long z0), .second, .val (.long z1), .second, .val (.long z2), .second, .val (.double jk), .second, .val (.ref b1), .val (.int (1 : Int32)), .val (.long (0 : Int64)), .second] [(.long z1), (.long (0 : Int64))])) _
    refine XS.ladd X6.here hx rfl (hb hby at_204) rfl ?_
    show Steps p.tables e below (T6.setTop (mkF m 205 #[.val (.long tp), .second, .val (.int md), .val (.int lw), .val (.int fl), .val (.int kk), .val (.long m1), .second, .val (.long m0), .second, .val (.long m2), .second, .val (.long z0), .second, .val (.long z1), .second, .val (.long z2), .second, .val (.double jk), .second, .val (.ref b1), .val (.int (1 : Int32)), .val (.long (0 : Int64)), .second] [(.long ((0 : Int64) + z1))])) _
    refine XS.lstore X6.here hx rfl (hb hby at_205) rfl (l' := #[.val (.long tp), .second, .val (.int md), .val (.int lw), .val (.int fl), .val (.int kk), .val (.long m1), .second, .val (.long m0), .second, .val (.long m2), .second, .val (.long z0), .second, .val (.long z1), .second, .val (.long z2), .second, .val (.double jk), .second, .val (.ref b1), .val (.int (1 : Int32)), .val (.long ((0 : Int64) + z1)), .second]) rfl ?_
    show Steps p.tables e below (T6.setTop (mkF m 207 #[.val (.long tp), .second, .val (.int md), .val (.int lw), .val (.int fl), .val (.int kk), .val (.long m1), .second, .val (.long m0), .second, .val (.long m2), .second, .val (.long z0), .second, .val (.long z1), .second, .val (.long z2), .second, .val (.double jk), .second, .val (.ref b1), .val (.int (1 : Int32)), .val (.long ((0 : Int64) + z1)), .second] [])) _
    refine XS.iload X6.here hx rfl (hb hby at_207) rfl ?_
    show Steps p.tables e below (T6.setTop (mkF m 209 #[.val (.long tp), .second, .val (.int md), .val (.int lw), .val (.int fl), .val (.int kk), .val (.long m1), .second, .val (.long m0), .second, .val (.long m2), .second, .val (.long z0), .second, .val (.long z1), .second, .val (.long z2), .second, .val (.double jk), .second, .val (.ref b1), .val (.int (1 : Int32)), .val (.long ((0 : Int64) + z1)), .second] [(.int fl)])) _
    refine XS.iconst X6.here hx rfl (hb hby at_209) ?_
    show Steps p.tables e below (T6.setTop (mkF m 210 #[.val (.long tp), .second, .val (.int md), .val (.int lw), .val (.int fl), .val (.int kk), .val (.long m1), .second, .val (.long m0), .second, .val (.long m2), .second, .val (.long z0), .second, .val (.long z1), .second, .val (.long z2), .second, .val (.double jk), .second, .val (.ref b1), .val (.int (1 : Int32)), .val (.long ((0 : Int64) + z1)), .second] [(.int (4 : Int32)), (.int fl)])) _
    refine XS.iand X6.here hx rfl (hb hby at_210) rfl ?_
    show Steps p.tables e below (T6.setTop (mkF m 211 #[.val (.long tp), .second, .val (.int md), .val (.int lw), .val (.int fl), .val (.int kk), .val (.long m1), .second, .val (.long m0), .second, .val (.long m2), .second, .val (.long z0), .second, .val (.long z1), .second, .val (.long z2), .second, .val (.double jk), .second, .val (.ref b1), .val (.int (1 : Int32)), .val (.long ((0 : Int64) + z1)), .second] [(.int (fl &&& (4 : Int32)))])) _
    refine XS.ifNo X6.here hx rfl (hb hby at_211) rfl ((if0 _ _).trans (feq hc211).1) ?_
    show Steps p.tables e below (T6.setTop (mkF m 214 #[.val (.long tp), .second, .val (.int md), .val (.int lw), .val (.int fl), .val (.int kk), .val (.long m1), .second, .val (.long m0), .second, .val (.long m2), .second, .val (.long z0), .second, .val (.long z1), .second, .val (.long z2), .second, .val (.double jk), .second, .val (.ref b1), .val (.int (1 : Int32)), .val (.long ((0 : Int64) + z1)), .second] [])) _
    refine XS.aload X6.here hx rfl (hb hby at_214) rfl rfl ?_
    show Steps p.tables e below (T6.setTop (mkF m 216 #[.val (.long tp), .second, .val (.int md), .val (.int lw), .val (.int fl), .val (.int kk), .val (.long m1), .second, .val (.long m0), .second, .val (.long m2), .second, .val (.long z0), .second, .val (.long z1), .second, .val (.long z2), .second, .val (.double jk), .second, .val (.ref b1), .val (.int (1 : Int32)), .val (.long ((0 : Int64) + z1)), .second] [(.ref b1)])) _
    refine XS.iload X6.here hx rfl (hb hby at_216) rfl ?_
    show Steps p.tables e below (T6.setTop (mkF m 218 #[.val (.long tp), .second, .val (.int md), .val (.int lw), .val (.int fl), .val (.int kk), .val (.long m1), .second, .val (.long m0), .second, .val (.long m2), .second, .val (.long z0), .second, .val (.long z1), .second, .val (.long z2), .second, .val (.double jk), .second, .val (.ref b1), .val (.int (1 : Int32)), .val (.long ((0 : Int64) + z1)), .second] [(.int (1 : Int32)), (.ref b1)])) _
    refine XS.lload X6.here hx rfl (hb hby at_218) rfl ?_
    show Steps p.tables e below (T6.setTop (mkF m 220 #[.val (.long tp), .second, .val (.int md), .val (.int lw), .val (.int fl), .val (.int kk), .val (.long m1), .second, .val (.long m0), .second, .val (.long m2), .second, .val (.long z0), .second, .val (.long z1), .second, .val (.long z2), .second, .val (.double jk), .second, .val (.ref b1), .val (.int (1 : Int32)), .val (.long ((0 : Int64) + z1)), .second] [(.long z2), (.int (1 : Int32)), (.ref b1)])) _
    refine XS.l2dS X6.here hx rfl (hb hby at_220) rfl rfl ?_
    show Steps p.tables e below (T6.setTop (mkF m 221 #[.val (.long tp), .second, .val (.int md), .val (.int lw), .val (.int fl), .val (.int kk), .val (.long m1), .second, .val (.long m0), .second, .val (.long m2), .second, .val (.long z0), .second, .val (.long z1), .second, .val (.long z2), .second, .val (.double jk), .second, .val (.ref b1), .val (.int (1 : Int32)), .val (.long ((0 : Int64) + z1)), .second] [(.double (FP.l2d z2)), (.int (1 : Int32)), (.ref b1)])) _
    refine st7 _ ?_
    show Steps p.tables e below (T7.setTop (mkF m 222 #[.val (.long tp), .second, .val (.int md), .val (.int lw), .val (.int fl), .val (.int kk), .val (.long m1), .second, .val (.long m0), .second, .val (.long m2), .second, .val (.long z0), .second, .val (.long z1), .second, .val (.long z2), .second, .val (.double jk), .second, .val (.ref b1), .val (.int (1 : Int32)), .val (.long ((0 : Int64) + z1)), .second] [])) _
    refine XS.iinc X7.here hx rfl (hb hby at_222) rfl (l' := #[.val (.long tp), .second, .val (.int md), .val (.int lw), .val (.int fl), .val (.int kk), .val (.long m1), .second, .val (.long m0), .second, .val (.long m2), .second, .val (.long z0), .second, .val (.long z1), .second, .val (.long z2), .second, .val (.double jk), .second, .val (.ref b1), .val (.int ((1 : Int32) + (1 : Int32))), .val (.long ((0 : Int64) + z1)), .second]) rfl ?_
    show Steps p.tables e below (T7.setTop (mkF m 225 #[.val (.long tp), .second, .val (.int md), .val (.int lw), .val (.int fl), .val (.int kk), .val (.long m1), .second, .val (.long m0), .second, .val (.long m2), .second, .val (.long z0), .second, .val (.long z1), .second, .val (.long z2), .second, .val (.double jk), .second, .val (.ref b1), .val (.int ((1 : Int32) + (1 : Int32))), .val (.long ((0 : Int64) + z1)), .second] [])) _
    rw [show ((1 : Int32) + (1 : Int32)) = (2 : Int32) from by decide]
    show Steps p.tables e below (T7.setTop (mkF m 225 #[.val (.long tp), .second, .val (.int md), .val (.int lw), .val (.int fl), .val (.int kk), .val (.long m1), .second, .val (.long m0), .second, .val (.long m2), .second, .val (.long z0), .second, .val (.long z1), .second, .val (.long z2), .second, .val (.double jk), .second, .val (.ref b1), .val (.int (2 : Int32)), .val (.long ((0 : Int64) + z1)), .second] [])) _
    refine XS.lload X7.here hx rfl (hb hby at_225) rfl ?_
    show Steps p.tables e below (T7.setTop (mkF m 227 #[.val (.long tp), .second, .val (.int md), .val (.int lw), .val (.int fl), .val (.int kk), .val (.long m1), .second, .val (.long m0), .second, .val (.long m2), .second, .val (.long z0), .second, .val (.long z1), .second, .val (.long z2), .second, .val (.double jk), .second, .val (.ref b1), .val (.int (2 : Int32)), .val (.long ((0 : Int64) + z1)), .second] [(.long ((0 : Int64) + z1))])) _
    refine XS.lload X7.here hx rfl (hb hby at_227) rfl ?_
    show Steps p.tables e below (T7.setTop (mkF m 229 #[.val (.long tp), .second, .val (.int md), .val (.int lw), .val (.int fl), .val (.int kk), .val (.long m1), .second, .val (.long m0), .second, .val (.long m2), .second, .val (.long z0), .second, .val (.long z1), .second, .val (.long z2), .second, .val (.double jk), .second, .val (.ref b1), .val (.int (2 : Int32)), .val (.long ((0 : Int64) + z1)), .second] [(.long z2), (.long ((0 : Int64) + z1))])) _
    refine XS.ladd X7.here hx rfl (hb hby at_229) rfl ?_
    show Steps p.tables e below (T7.setTop (mkF m 230 #[.val (.long tp), .second, .val (.int md), .val (.int lw), .val (.int fl), .val (.int kk), .val (.long m1), .second, .val (.long m0), .second, .val (.long m2), .second, .val (.long z0), .second, .val (.long z1), .second, .val (.long z2), .second, .val (.double jk), .second, .val (.ref b1), .val (.int (2 : Int32)), .val (.long ((0 : Int64) + z1)), .second] [(.long (((0 : Int64) + z1) + z2))])) _
    refine XS.lstore X7.here hx rfl (hb hby at_230) rfl (l' := #[.val (.long tp), .second, .val (.int md), .val (.int lw), .val (.int fl), .val (.int kk), .val (.long m1), .second, .val (.long m0), .second, .val (.long m2), .second, .val (.long z0), .second, .val (.long z1), .second, .val (.long z2), .second, .val (.double jk), .second, .val (.ref b1), .val (.int (2 : Int32)), .val (.long (((0 : Int64) + z1) + z2)), .second]) rfl ?_
    show Steps p.tables e below (T7.setTop (mkF m 232 #[.val (.long tp), .second, .val (.int md), .val (.int lw), .val (.int fl), .val (.int kk), .val (.long m1), .second, .val (.long m0), .second, .val (.long m2), .second, .val (.long z0), .second, .val (.long z1), .second, .val (.long z2), .second, .val (.double jk), .second, .val (.ref b1), .val (.int (2 : Int32)), .val (.long (((0 : Int64) + z1) + z2)), .second] [])) _
    refine XS.aload X7.here hx rfl (hb hby at_232) rfl rfl ?_
    show Steps p.tables e below (T7.setTop (mkF m 234 #[.val (.long tp), .second, .val (.int md), .val (.int lw), .val (.int fl), .val (.int kk), .val (.long m1), .second, .val (.long m0), .second, .val (.long m2), .second, .val (.long z0), .second, .val (.long z1), .second, .val (.long z2), .second, .val (.double jk), .second, .val (.ref b1), .val (.int (2 : Int32)), .val (.long (((0 : Int64) + z1) + z2)), .second] [(.ref b1)])) _
    refine XS.iload X7.here hx rfl (hb hby at_234) rfl ?_
    show Steps p.tables e below (T7.setTop (mkF m 236 #[.val (.long tp), .second, .val (.int md), .val (.int lw), .val (.int fl), .val (.int kk), .val (.long m1), .second, .val (.long m0), .second, .val (.long m2), .second, .val (.long z0), .second, .val (.long z1), .second, .val (.long z2), .second, .val (.double jk), .second, .val (.ref b1), .val (.int (2 : Int32)), .val (.long (((0 : Int64) + z1) + z2)), .second] [(.int (2 : Int32)), (.ref b1)])) _
    refine st8 _ ?_
    show Steps p.tables e below (T8.setTop (mkF m 239 #[.val (.long tp), .second, .val (.int md), .val (.int lw), .val (.int fl), .val (.int kk), .val (.long m1), .second, .val (.long m0), .second, .val (.long m2), .second, .val (.long z0), .second, .val (.long z1), .second, .val (.long z2), .second, .val (.double jk), .second, .val (.ref b1), .val (.int (2 : Int32)), .val (.long (((0 : Int64) + z1) + z2)), .second] [(.double res_8)])) _
    refine XS.lload X8.here hx rfl (hb hby at_239) rfl ?_
    show Steps p.tables e below (T8.setTop (mkF m 241 #[.val (.long tp), .second, .val (.int md), .val (.int lw), .val (.int fl), .val (.int kk), .val (.long m1), .second, .val (.long m0), .second, .val (.long m2), .second, .val (.long z0), .second, .val (.long z1), .second, .val (.long z2), .second, .val (.double jk), .second, .val (.ref b1), .val (.int (2 : Int32)), .val (.long (((0 : Int64) + z1) + z2)), .second] [(.long (((0 : Int64) + z1) + z2)), (.double res_8)])) _
    refine XS.l2dS X8.here hx rfl (hb hby at_241) rfl rfl ?_
    show Steps p.tables e below (T8.setTop (mkF m 242 #[.val (.long tp), .second, .val (.int md), .val (.int lw), .val (.int fl), .val (.int kk), .val (.long m1), .second, .val (.long m0), .second, .val (.long m2), .second, .val (.long z0), .second, .val (.long z1), .second, .val (.long z2), .second, .val (.double jk), .second, .val (.ref b1), .val (.int (2 : Int32)), .val (.long (((0 : Int64) + z1) + z2)), .second] [(.double (FP.l2d (((0 : Int64) + z1) + z2))), (.double res_8)])) _
    refine XS.dcmpS X8.here hx rfl (hb hby at_242) rfl (v := (0 : Int32)) ((own_eq Pq8_0 (own_l2d (by omega)) .l).mpr rfl) ?_
    show Steps p.tables e below (T8.setTop (mkF m 243 #[.val (.long tp), .second, .val (.int md), .val (.int lw), .val (.int fl), .val (.int kk), .val (.long m1), .second, .val (.long m0), .second, .val (.long m2), .second, .val (.long z0), .second, .val (.long z1), .second, .val (.long z2), .second, .val (.double jk), .second, .val (.ref b1), .val (.int (2 : Int32)), .val (.long (((0 : Int64) + z1) + z2)), .second] [(.int (0 : Int32))])) _
    refine XS.ifNo X8.here hx rfl (hb hby at_243) rfl ((if0 _ _).trans (teq (rfl : (0 : Int32) = (0 : Int32))).2) ?_
    show Steps p.tables e below (T8.setTop (mkF m 246 #[.val (.long tp), .second, .val (.int md), .val (.int lw), .val (.int fl), .val (.int kk), .val (.long m1), .second, .val (.long m0), .second, .val (.long m2), .second, .val (.long z0), .second, .val (.long z1), .second, .val (.long z2), .second, .val (.double jk), .second, .val (.ref b1), .val (.int (2 : Int32)), .val (.long (((0 : Int64) + z1) + z2)), .second] [])) _
    refine XS.iconst X8.here hx rfl (hb hby at_246) ?_
    show Steps p.tables e below (T8.setTop (mkF m 247 #[.val (.long tp), .second, .val (.int md), .val (.int lw), .val (.int fl), .val (.int kk), .val (.long m1), .second, .val (.long m0), .second, .val (.long m2), .second, .val (.long z0), .second, .val (.long z1), .second, .val (.long z2), .second, .val (.double jk), .second, .val (.ref b1), .val (.int (2 : Int32)), .val (.long (((0 : Int64) + z1) + z2)), .second] [(.int (1 : Int32))])) _
    refine XS.goto X8.here hx rfl (pc0 := 247) (pc' := 251) rfl (hb hby at_247) (by decide) (by decide) ?_
    show Steps p.tables e below (T8.setTop (mkF m 251 #[.val (.long tp), .second, .val (.int md), .val (.int lw), .val (.int fl), .val (.int kk), .val (.long m1), .second, .val (.long m0), .second, .val (.long m2), .second, .val (.long z0), .second, .val (.long z1), .second, .val (.long z2), .second, .val (.double jk), .second, .val (.ref b1), .val (.int (2 : Int32)), .val (.long (((0 : Int64) + z1) + z2)), .second] [(.int (1 : Int32))])) _
    exact retN X8 hx (t := .boolean) Bd.returns (by simp) (hb hby at_251) hr
  · show Q_rm0_6 Z tp md lw fl h0 n0 _ T8.heap _
    rw [e8]
    exact ⟨rfl, N8⟩
def Q_rm0_7 (Z : State) (tp : Int64) (md : Int32) (lw : Int32) (fl : Int32) (h0 : Heap) (n0 : Nat) (v : Option Value) (h : Heap) (L : List Loc) : Prop := v = some (.int (1 : Int32)) ∧ Fr n0 L
theorem ef_rm0_7 (m : MethodId) (tp : Int64) (md : Int32) (lw : Int32) (fl : Int32) : entryFrame m #[(.long tp), (.int md), (.int lw), (.int fl)] maxLocals = mkF m 0 #[.val (.long tp), .second, .val (.int md), .val (.int lw), .val (.int fl), .unset, .unset, .unset, .unset, .unset, .unset, .unset, .unset, .unset, .unset, .unset, .unset, .unset, .unset, .unset, .unset, .unset, .unset, .unset] [] := by first | (simp [entryFrame, mkF, argsToLocals, Value.category, maxLocals]; done) | rfl
set_option maxRecDepth 65536 in
set_option maxHeartbeats 40000000 in
theorem rm0_7 (l : Launch) (Z : State) (a0 : Array Value) (hw : ∀ d ∈ tables_1, d.before a0 Z = true) (ws : List Jvm.Cond) (tp : Int64) (md : Int32) (lw : Int32) (fl : Int32) (h0 : Heap) (n0 : Nat) (Z0 : n0 ≤ h0.size) (hc161 : ¬ ((fl &&& (1 : Int32)) = (0 : Int32))) (hc186 : ¬ ((fl &&& (2 : Int32)) = (0 : Int32))) (hc211 : ¬ ((fl &&& (4 : Int32)) = (0 : Int32))) :
    MetFree l x (head1 (Jvm.Cond.code x code maxLocals ret :: ws) room_1) (fun a U => a = #[(.long tp), (.int md), (.int lw), (.int fl)] ∧ Z.Warmed39 U.vm ∧ U.heap = h0) (fun _ _ _ _ _ => True) (fun _ U o U' => ∃ v L, o = .returned v ∧ Q_rm0_7 Z tp md lw fl h0 n0 v U'.heap L ∧ FrameEnd U o U' L room_1.cells room_1.slots) := by
  refine MetFree.of_bodySF (plainFor_of_name pn_1) hisR ?_
  intro p e s m args below meth c s₁ Bd hml0 hP hK
  obtain ⟨rfl, hZ, hh⟩ := hP
  have hx := Bd.exec
  have hby := Bd.bytes
  have hml : c.maxLocals = 24 := hml0
  have hown : s.vm.findClass "com/example/crestwatch/crestwatch/core/ExactSumRoundedPinLaw" = some m.cls := findClass_of_methodNamed Bd.named
  have hnm := (name_of_methodNamed Bd.named Bd.method).1
  have X0 : Stand p l e room_1 s m #[(.long tp), (.int md), (.int lw), (.int fl)] below meth c s₁ [] 0 0 := Stand.of_body Bd
  have e0 : s₁.heap = h0 := by rw [← hh, Bd.state]; rfl
  have N0 := Fr.nil n0
  have pre0 : ∀ t, Steps p.tables e below (s₁.setTop (mkF m 0 #[.val (.long tp), .second, .val (.int md), .val (.int lw), .val (.int fl), .unset, .unset, .unset, .unset, .unset, .unset, .unset, .unset, .unset, .unset, .unset, .unset, .unset, .unset, .unset, .unset, .unset, .unset, .unset] [])) t → Steps p.tables e below (s₁.setTop (entryFrame m #[(.long tp), (.int md), (.int lw), (.int fl)] maxLocals)) t := fun t k => castTop (ef_rm0_7 m tp md lw fl) k
  obtain ⟨kk, m1, m0, m2, z0, z1, z2, jk, K, hP, stp⟩ := own_pre tp md lw fl X0 hx hZ hw hby hown
  obtain ⟨c1, c2, c3, c4, c5, M, c6, c7⟩ := hP
  have b0 : z0.toInt.natAbs < 16 := by have : 2 ^ K ≤ 2 ^ 4 := Nat.pow_le_pow_right (by decide) c1; omega
  have b2 : z2.toInt.natAbs < 2 ^ 61 := by
    rw [c7]
    calc M * 2 ^ (K + 4) < 2 ^ 53 * 2 ^ (K + 4) := Nat.mul_lt_mul_of_pos_right c6 (Nat.two_pow_pos _)
      _ ≤ 2 ^ 53 * 2 ^ 8 := Nat.mul_le_mul_left _ (Nat.pow_le_pow_right (by decide) (by omega))
      _ = 2 ^ 61 := by decide
  have e53 := own_e53
  have e61 := own_e61
  have e63 := own_e63
  have x0 := own_small_exact (p := z0) (by omega)
  have x1 := own_small_exact (p := z1) (by omega)
  have x2 := own_exact (p := z2) ⟨M, _, c6, c7⟩ (by omega)
  have y0 := own_D x0 (by omega)
  have y1 := own_D x1 (by omega)
  have y2 := own_D x2 (by omega)
  have l0 : (0 : Int64).toInt = 0 := by decide
  have s0 : ((0 : Int64) + z0).toInt = z0.toInt := by have q := own_addL (a := (0 : Int64)) (b := z0) (by omega); omega
  have s1 : (((0 : Int64) + z0) + z1).toInt = z0.toInt + z1.toInt := by have q := own_addL (a := ((0 : Int64) + z0)) (b := z1) (by omega); omega
  have s2 : ((((0 : Int64) + z0) + z1) + z2).toInt = z0.toInt + z1.toInt + z2.toInt := by have q := own_addL (a := (((0 : Int64) + z0) + z1)) (b := z2) (by omega); omega
  have hC : OwnC z0.toInt z1.toInt z2.toInt K := ⟨c1, c2, c3, c4, b2, by
    have d1 : (2 ^ K : Nat) ∣ z1.toInt.natAbs := Nat.dvd_of_mod_eq_zero c5
    have d2 : (2 ^ K : Nat) ∣ z2.toInt.natAbs := by rw [c7]; exact Nat.dvd_trans (Nat.pow_dvd_pow 2 (by omega)) (Nat.dvd_mul_left _ _)
    have d3 : ((2 ^ K : Nat) : Int) ∣ z2.toInt + z1.toInt := Int.dvd_add (Int.ofNat_dvd_left.mpr d2) (Int.ofNat_dvd_left.mpr d1)
    exact Nat.mod_eq_zero_of_dvd (Int.ofNat_dvd_left.mp d3)⟩
  obtain ⟨T1, h1, k1, X1, e1, E1, A1, st1⟩ := newP X0 hx hZ (hw _ (List.mem_of_getElem? (i := 3) rfl)) e0 (g := (mkF m 123 #[.val (.long tp), .second, .val (.int md), .val (.int lw), .val (.int fl), .val (.int kk), .val (.long m1), .second, .val (.long m0), .second, .val (.long m2), .second, .val (.long z0), .second, .val (.long z1), .second, .val (.long z2), .second, .val (.double jk), .second, .unset, .unset, .unset, .unset] [(.int (4 : Int32))])) rfl (hb hby at_123) rfl (by decide) (cap := 4) (by decide) (by decide) (by decide) (by decide)
  obtain ⟨b1, g1⟩ : ∃ z, z = h0.size := ⟨_, rfl⟩
  rw [← g1] at A1 st1
  have V1 : Arv Z h1 b1 k1 .double (4 : Int32) [(.double 0), (.double 0), (.double 0), (.double 0)] (.double 0) := (Arv.new A1 (by decide)).pad (pad_rep [] (.double 0) 4)
  have Vc2 := V1
  obtain ⟨cl2, Ar2, q2, S2, M2, H2, G2⟩ := Vc2
  have hin2 : ¬ ((0 : Int32) < 0 ∨ cl2.slots.size ≤ ((0 : Int32)).toNatClampNeg) := inb_of S2 ⟨by decide, by decide⟩
  obtain ⟨T2, h2, X2, e2, W2, st2⟩ := stD X1 hx hZ e1 Ar2 (j := (0 : Int32)) hin2 (g := (mkF m 132 #[.val (.long tp), .second, .val (.int md), .val (.int lw), .val (.int fl), .val (.int kk), .val (.long m1), .second, .val (.long m0), .second, .val (.long m2), .second, .val (.long z0), .second, .val (.long z1), .second, .val (.long z2), .second, .val (.double jk), .second, .val (.ref b1), .unset, .unset, .unset] [(.double jk), (.int (0 : Int32)), (.ref b1)])) rfl rfl (hb hby at_132)
  have V2 : Arv Z h2 b1 k1 .double (4 : Int32) [(.double jk), (.double 0), (.double 0), (.double 0)] (.double 0) := Arv.set Ar2 q2 S2 M2 H2 G2 rfl W2 0 rfl (Nat.le_of_ble_eq_true rfl)
  have N2 := Fr.snoc X2 N0 (Nat.le_trans Z0 (Nat.le_of_eq g1.symm))
  have Vc3 := V2
  obtain ⟨cl3, Ar3, q3, S3, M3, H3, G3⟩ := Vc3
  have hin3 : ¬ ((1 : Int32) < 0 ∨ cl3.slots.size ≤ ((1 : Int32)).toNatClampNeg) := inb_of S3 ⟨by decide, by decide⟩
  obtain ⟨T3, h3, X3, e3, W3, st3⟩ := stD X2 hx hZ e2 Ar3 (j := (1 : Int32)) hin3 (g := (mkF m 138 #[.val (.long tp), .second, .val (.int md), .val (.int lw), .val (.int fl), .val (.int kk), .val (.long m1), .second, .val (.long m0), .second, .val (.long m2), .second, .val (.long z0), .second, .val (.long z1), .second, .val (.long z2), .second, .val (.double jk), .second, .val (.ref b1), .unset, .unset, .unset] [(.double jk), (.int (1 : Int32)), (.ref b1)])) rfl rfl (hb hby at_138)
  have V3 : Arv Z h3 b1 k1 .double (4 : Int32) [(.double jk), (.double jk), (.double 0), (.double 0)] (.double 0) := Arv.set Ar3 q3 S3 M3 H3 G3 rfl W3 1 rfl (Nat.le_of_ble_eq_true rfl)
  have N3 := Fr.snoc X3 N2 (Nat.le_trans Z0 (Nat.le_of_eq g1.symm))
  have Vc4 := V3
  obtain ⟨cl4, Ar4, q4, S4, M4, H4, G4⟩ := Vc4
  have hin4 : ¬ ((2 : Int32) < 0 ∨ cl4.slots.size ≤ ((2 : Int32)).toNatClampNeg) := inb_of S4 ⟨by decide, by decide⟩
  obtain ⟨T4, h4, X4, e4, W4, st4⟩ := stD X3 hx hZ e3 Ar4 (j := (2 : Int32)) hin4 (g := (mkF m 144 #[.val (.long tp), .second, .val (.int md), .val (.int lw), .val (.int fl), .val (.int kk), .val (.long m1), .second, .val (.long m0), .second, .val (.long m2), .second, .val (.long z0), .second, .val (.long z1), .second, .val (.long z2), .second, .val (.double jk), .second, .val (.ref b1), .unset, .unset, .unset] [(.double jk), (.int (2 : Int32)), (.ref b1)])) rfl rfl (hb hby at_144)
  have V4 : Arv Z h4 b1 k1 .double (4 : Int32) [(.double jk), (.double jk), (.double jk), (.double 0)] (.double 0) := Arv.set Ar4 q4 S4 M4 H4 G4 rfl W4 2 rfl (Nat.le_of_ble_eq_true rfl)
  have N4 := Fr.snoc X4 N3 (Nat.le_trans Z0 (Nat.le_of_eq g1.symm))
  have Vc5 := V4
  obtain ⟨cl5, Ar5, q5, S5, M5, H5, G5⟩ := Vc5
  have hin5 : ¬ ((3 : Int32) < 0 ∨ cl5.slots.size ≤ ((3 : Int32)).toNatClampNeg) := inb_of S5 ⟨by decide, by decide⟩
  obtain ⟨T5, h5, X5, e5, W5, st5⟩ := stD X4 hx hZ e4 Ar5 (j := (3 : Int32)) hin5 (g := (mkF m 150 #[.val (.long tp), .second, .val (.int md), .val (.int lw), .val (.int fl), .val (.int kk), .val (.long m1), .second, .val (.long m0), .second, .val (.long m2), .second, .val (.long z0), .second, .val (.long z1), .second, .val (.long z2), .second, .val (.double jk), .second, .val (.ref b1), .unset, .unset, .unset] [(.double jk), (.int (3 : Int32)), (.ref b1)])) rfl rfl (hb hby at_150)
  have V5 : Arv Z h5 b1 k1 .double (4 : Int32) [(.double jk), (.double jk), (.double jk), (.double jk)] (.double 0) := Arv.set Ar5 q5 S5 M5 H5 G5 rfl W5 3 rfl (Nat.le_of_ble_eq_true rfl)
  have N5 := Fr.snoc X5 N4 (Nat.le_trans Z0 (Nat.le_of_eq g1.symm))
  have Vc6 := V5
  obtain ⟨cl6, Ar6, q6, S6, M6, H6, G6⟩ := Vc6
  have hin6 : ¬ ((0 : Int32) < 0 ∨ cl6.slots.size ≤ ((0 : Int32)).toNatClampNeg) := inb_of S6 ⟨by decide, by decide⟩
  obtain ⟨T6, h6, X6, e6, W6, st6⟩ := stD X5 hx hZ e5 Ar6 (j := (0 : Int32)) hin6 (g := (mkF m 171 #[.val (.long tp), .second, .val (.int md), .val (.int lw), .val (.int fl), .val (.int kk), .val (.long m1), .second, .val (.long m0), .second, .val (.long m2), .second, .val (.long z0), .second, .val (.long z1), .second, .val (.long z2), .second, .val (.double jk), .second, .val (.ref b1), .val (.int (0 : Int32)), .val (.long (0 : Int64)), .second] [(.double (FP.l2d z0)), (.int (0 : Int32)), (.ref b1)])) rfl rfl (hb hby at_171)
  have V6 : Arv Z h6 b1 k1 .double (4 : Int32) [(.double (FP.l2d z0)), (.double jk), (.double jk), (.double jk)] (.double 0) := Arv.set Ar6 q6 S6 M6 H6 G6 rfl W6 0 rfl (Nat.le_of_ble_eq_true rfl)
  have N6 := Fr.snoc X6 N5 (Nat.le_trans Z0 (Nat.le_of_eq g1.symm))
  have Vc7 := V6
  obtain ⟨cl7, Ar7, q7, S7, M7, H7, G7⟩ := Vc7
  have hin7 : ¬ ((1 : Int32) < 0 ∨ cl7.slots.size ≤ ((1 : Int32)).toNatClampNeg) := inb_of S7 ⟨by decide, by decide⟩
  obtain ⟨T7, h7, X7, e7, W7, st7⟩ := stD X6 hx hZ e6 Ar7 (j := (1 : Int32)) hin7 (g := (mkF m 196 #[.val (.long tp), .second, .val (.int md), .val (.int lw), .val (.int fl), .val (.int kk), .val (.long m1), .second, .val (.long m0), .second, .val (.long m2), .second, .val (.long z0), .second, .val (.long z1), .second, .val (.long z2), .second, .val (.double jk), .second, .val (.ref b1), .val (.int (1 : Int32)), .val (.long ((0 : Int64) + z0)), .second] [(.double (FP.l2d z1)), (.int (1 : Int32)), (.ref b1)])) rfl rfl (hb hby at_196)
  have V7 : Arv Z h7 b1 k1 .double (4 : Int32) [(.double (FP.l2d z0)), (.double (FP.l2d z1)), (.double jk), (.double jk)] (.double 0) := Arv.set Ar7 q7 S7 M7 H7 G7 rfl W7 1 rfl (Nat.le_of_ble_eq_true rfl)
  have N7 := Fr.snoc X7 N6 (Nat.le_trans Z0 (Nat.le_of_eq g1.symm))
  have Vc8 := V7
  obtain ⟨cl8, Ar8, q8, S8, M8, H8, G8⟩ := Vc8
  have hin8 : ¬ ((2 : Int32) < 0 ∨ cl8.slots.size ≤ ((2 : Int32)).toNatClampNeg) := inb_of S8 ⟨by decide, by decide⟩
  obtain ⟨T8, h8, X8, e8, W8, st8⟩ := stD X7 hx hZ e7 Ar8 (j := (2 : Int32)) hin8 (g := (mkF m 221 #[.val (.long tp), .second, .val (.int md), .val (.int lw), .val (.int fl), .val (.int kk), .val (.long m1), .second, .val (.long m0), .second, .val (.long m2), .second, .val (.long z0), .second, .val (.long z1), .second, .val (.long z2), .second, .val (.double jk), .second, .val (.ref b1), .val (.int (2 : Int32)), .val (.long (((0 : Int64) + z0) + z1)), .second] [(.double (FP.l2d z2)), (.int (2 : Int32)), (.ref b1)])) rfl rfl (hb hby at_221)
  have V8 : Arv Z h8 b1 k1 .double (4 : Int32) [(.double (FP.l2d z0)), (.double (FP.l2d z1)), (.double (FP.l2d z2)), (.double jk)] (.double 0) := Arv.set Ar8 q8 S8 M8 H8 G8 rfl W8 2 rfl (Nat.le_of_ble_eq_true rfl)
  have N8 := Fr.snoc X8 N7 (Nat.le_trans Z0 (Nat.le_of_eq g1.symm))
  obtain ⟨_, _, ⟨T9, L9, k9, n9⟩, -, X9, ⟨Lc9, hQ9, l9, y9, z9⟩, st9⟩ := Jvm.LawKit.callS X8 hx (y := (⟨"com/example/crestwatch/crestwatch/core/ExactSum", "rounded", "([DI)D"⟩ : MethodName)) hown (mvT hZ (hw _ (List.mem_of_getElem? (i := 4) rfl))) (mvT hZ (hw _ (List.mem_of_getElem? (i := 5) rfl))) (mvT hZ (hw _ (List.mem_of_getElem? (i := 6) rfl))) (mvT hZ (hw _ (List.mem_of_getElem? (i := 7) rfl))) (by decide) (backOf (W := 0) (rd_3 l Z a0 hw [] b1 k1 (FP.l2d z0) (FP.l2d z1) (FP.l2d z2) jk z0.toInt z1.toInt z2.toInt K (((((0 : Int64) + z0) + z1) + z2).toInt) h8 n0 (Nat.le_trans (Nat.le_trans (Nat.le_trans (Nat.le_trans (Nat.le_trans (Nat.le_trans (Nat.le_trans (Nat.le_trans Z0 E1.1) (Keep.of_wr W2).1) (Keep.of_wr W3).1) (Keep.of_wr W4).1) (Keep.of_wr W5).1) (Keep.of_wr W6).1) (Keep.of_wr W7).1) (Keep.of_wr W8).1) V8 y0 y1 y2 hC (by rw [s2]; omega)) hZ (hw _ (List.mem_of_getElem? (i := 7) rfl)) (hw _ (List.mem_of_getElem? (i := 6) rfl)) (by decide) (by decide)) (g := (mkF m 236 #[.val (.long tp), .second, .val (.int md), .val (.int lw), .val (.int fl), .val (.int kk), .val (.long m1), .second, .val (.long m0), .second, .val (.long m2), .second, .val (.long z0), .second, .val (.long z1), .second, .val (.long z2), .second, .val (.double jk), .second, .val (.ref b1), .val (.int (3 : Int32)), .val (.long ((((0 : Int64) + z0) + z1) + z2)), .second] [(.int (3 : Int32)), (.ref b1)])) rfl (by rw [hml]; rfl) (argsL := [(.ref b1), (.int (3 : Int32))]) (rest := []) (lenOf pd_0 rfl) rfl (by show 2 * 0 + _ ≤ _; exact Nat.le_of_eq rfl) (hb hby at_236) (fun _ _ => ⟨rfl, e8, (by decide : 1 + 0 ≤ _), (by decide : 4 + 0 ≤ _)⟩)
  dsimp only [Pt.U, Pt.locs, Pt.cells, Pt.slots] at X9 l9 y9 z9 st9 hQ9
  subst l9 y9 z9
  obtain ⟨res_9, rfl, Nq9, e9, Pq9_0⟩ := hQ9
  have N9 := Fr.app N8 Nq9
  obtain ⟨fs, hr, hrun, hended, hW, hsame⟩ := X9.leave (v := some (.int (1 : Int32))) (fun h => by rw [Bd.returns] at h; cases h)
  refine ⟨_, _, pre0 _ ?_, hrun, hended, _, _, rfl, ?_, ⟨_, rfl⟩, hW, hsame.mono (by decide) (by decide)⟩
  · show Steps p.tables e below (s₁.setTop (mkF m 0 #[.val (.long tp), .second, .val (.int md), .val (.int lw), .val (.int fl), .unset, .unset, .unset, .unset, .unset, .unset, .unset, .unset, .unset, .unset, .unset, .unset, .unset, .unset, .unset, .unset, .unset, .unset, .unset] [])) _
    refine stp _ ?_
    show Steps p.tables e below (s₁.setTop (mkF m 122 #[.val (.long tp), .second, .val (.int md), .val (.int lw), .val (.int fl), .val (.int kk), .val (.long m1), .second, .val (.long m0), .second, .val (.long m2), .second, .val (.long z0), .second, .val (.long z1), .second, .val (.long z2), .second, .val (.double jk), .second, .unset, .unset, .unset, .unset] [])) _
    refine XS.iconst X0.here hx rfl (hb hby at_122) ?_
    show Steps p.tables e below (s₁.setTop (mkF m 123 #[.val (.long tp), .second, .val (.int md), .val (.int lw), .val (.int fl), .val (.int kk), .val (.long m1), .second, .val (.long m0), .second, .val (.long m2), .second, .val (.long z0), .second, .val (.long z1), .second, .val (.long z2), .second, .val (.double jk), .second, .unset, .unset, .unset, .unset] [(.int (4 : Int32))])) _
    refine st1 _ ?_
    show Steps p.tables e below (T1.setTop (mkF m 125 #[.val (.long tp), .second, .val (.int md), .val (.int lw), .val (.int fl), .val (.int kk), .val (.long m1), .second, .val (.long m0), .second, .val (.long m2), .second, .val (.long z0), .second, .val (.long z1), .second, .val (.long z2), .second, .val (.double jk), .second, .unset, .unset, .unset, .unset] [(.ref b1)])) _
    refine XS.astore X1.here hx rfl (hb hby at_125) rfl rfl (l' := #[.val (.long tp), .second, .val (.int md), .val (.int lw), .val (.int fl), .val (.int kk), .val (.long m1), .second, .val (.long m0), .second, .val (.long m2), .second, .val (.long z0), .second, .val (.long z1), .second, .val (.long z2), .second, .val (.double jk), .second, .val (.ref b1), .unset, .unset, .unset]) rfl ?_
    show Steps p.tables e below (T1.setTop (mkF m 127 #[.val (.long tp), .second, .val (.int md), .val (.int lw), .val (.int fl), .val (.int kk), .val (.long m1), .second, .val (.long m0), .second, .val (.long m2), .second, .val (.long z0), .second, .val (.long z1), .second, .val (.long z2), .second, .val (.double jk), .second, .val (.ref b1), .unset, .unset, .unset] [])) _
    refine XS.aload X1.here hx rfl (hb hby at_127) rfl rfl ?_
    show Steps p.tables e below (T1.setTop (mkF m 129 #[.val (.long tp), .second, .val (.int md), .val (.int lw), .val (.int fl), .val (.int kk), .val (.long m1), .second, .val (.long m0), .second, .val (.long m2), .second, .val (.long z0), .second, .val (.long z1), .second, .val (.long z2), .second, .val (.double jk), .second, .val (.ref b1), .unset, .unset, .unset] [(.ref b1)])) _
    refine XS.iconst X1.here hx rfl (hb hby at_129) ?_
    show Steps p.tables e below (T1.setTop (mkF m 130 #[.val (.long tp), .second, .val (.int md), .val (.int lw), .val (.int fl), .val (.int kk), .val (.long m1), .second, .val (.long m0), .second, .val (.long m2), .second, .val (.long z0), .second, .val (.long z1), .second, .val (.long z2), .second, .val (.double jk), .second, .val (.ref b1), .unset, .unset, .unset] [(.int (0 : Int32)), (.ref b1)])) _
    refine XS.dload X1.here hx rfl (hb hby at_130) rfl ?_
    show Steps p.tables e below (T1.setTop (mkF m 132 #[.val (.long tp), .second, .val (.int md), .val (.int lw), .val (.int fl), .val (.int kk), .val (.long m1), .second, .val (.long m0), .second, .val (.long m2), .second, .val (.long z0), .second, .val (.long z1), .second, .val (.long z2), .second, .val (.double jk), .second, .val (.ref b1), .unset, .unset, .unset] [(.double jk), (.int (0 : Int32)), (.ref b1)])) _
    refine st2 _ ?_
    show Steps p.tables e below (T2.setTop (mkF m 133 #[.val (.long tp), .second, .val (.int md), .val (.int lw), .val (.int fl), .val (.int kk), .val (.long m1), .second, .val (.long m0), .second, .val (.long m2), .second, .val (.long z0), .second, .val (.long z1), .second, .val (.long z2), .second, .val (.double jk), .second, .val (.ref b1), .unset, .unset, .unset] [])) _
    refine XS.aload X2.here hx rfl (hb hby at_133) rfl rfl ?_
    show Steps p.tables e below (T2.setTop (mkF m 135 #[.val (.long tp), .second, .val (.int md), .val (.int lw), .val (.int fl), .val (.int kk), .val (.long m1), .second, .val (.long m0), .second, .val (.long m2), .second, .val (.long z0), .second, .val (.long z1), .second, .val (.long z2), .second, .val (.double jk), .second, .val (.ref b1), .unset, .unset, .unset] [(.ref b1)])) _
    refine XS.iconst X2.here hx rfl (hb hby at_135) ?_
    show Steps p.tables e below (T2.setTop (mkF m 136 #[.val (.long tp), .second, .val (.int md), .val (.int lw), .val (.int fl), .val (.int kk), .val (.long m1), .second, .val (.long m0), .second, .val (.long m2), .second, .val (.long z0), .second, .val (.long z1), .second, .val (.long z2), .second, .val (.double jk), .second, .val (.ref b1), .unset, .unset, .unset] [(.int (1 : Int32)), (.ref b1)])) _
    refine XS.dload X2.here hx rfl (hb hby at_136) rfl ?_
    show Steps p.tables e below (T2.setTop (mkF m 138 #[.val (.long tp), .second, .val (.int md), .val (.int lw), .val (.int fl), .val (.int kk), .val (.long m1), .second, .val (.long m0), .second, .val (.long m2), .second, .val (.long z0), .second, .val (.long z1), .second, .val (.long z2), .second, .val (.double jk), .second, .val (.ref b1), .unset, .unset, .unset] [(.double jk), (.int (1 : Int32)), (.ref b1)])) _
    refine st3 _ ?_
    show Steps p.tables e below (T3.setTop (mkF m 139 #[.val (.long tp), .second, .val (.int md), .val (.int lw), .val (.int fl), .val (.int kk), .val (.long m1), .second, .val (.long m0), .second, .val (.long m2), .second, .val (.long z0), .second, .val (.long z1), .second, .val (.long z2), .second, .val (.double jk), .second, .val (.ref b1), .unset, .unset, .unset] [])) _
    refine XS.aload X3.here hx rfl (hb hby at_139) rfl rfl ?_
    show Steps p.tables e below (T3.setTop (mkF m 141 #[.val (.long tp), .second, .val (.int md), .val (.int lw), .val (.int fl), .val (.int kk), .val (.long m1), .second, .val (.long m0), .second, .val (.long m2), .second, .val (.long z0), .second, .val (.long z1), .second, .val (.long z2), .second, .val (.double jk), .second, .val (.ref b1), .unset, .unset, .unset] [(.ref b1)])) _
    refine XS.iconst X3.here hx rfl (hb hby at_141) ?_
    show Steps p.tables e below (T3.setTop (mkF m 142 #[.val (.long tp), .second, .val (.int md), .val (.int lw), .val (.int fl), .val (.int kk), .val (.long m1), .second, .val (.long m0), .second, .val (.long m2), .second, .val (.long z0), .second, .val (.long z1), .second, .val (.long z2), .second, .val (.double jk), .second, .val (.ref b1), .unset, .unset, .unset] [(.int (2 : Int32)), (.ref b1)])) _
    refine XS.dload X3.here hx rfl (hb hby at_142) rfl ?_
    show Steps p.tables e below (T3.setTop (mkF m 144 #[.val (.long tp), .second, .val (.int md), .val (.int lw), .val (.int fl), .val (.int kk), .val (.long m1), .second, .val (.long m0), .second, .val (.long m2), .second, .val (.long z0), .second, .val (.long z1), .second, .val (.long z2), .second, .val (.double jk), .second, .val (.ref b1), .unset, .unset, .unset] [(.double jk), (.int (2 : Int32)), (.ref b1)])) _
    refine st4 _ ?_
    show Steps p.tables e below (T4.setTop (mkF m 145 #[.val (.long tp), .second, .val (.int md), .val (.int lw), .val (.int fl), .val (.int kk), .val (.long m1), .second, .val (.long m0), .second, .val (.long m2), .second, .val (.long z0), .second, .val (.long z1), .second, .val (.long z2), .second, .val (.double jk), .second, .val (.ref b1), .unset, .unset, .unset] [])) _
    refine XS.aload X4.here hx rfl (hb hby at_145) rfl rfl ?_
    show Steps p.tables e below (T4.setTop (mkF m 147 #[.val (.long tp), .second, .val (.int md), .val (.int lw), .val (.int fl), .val (.int kk), .val (.long m1), .second, .val (.long m0), .second, .val (.long m2), .second, .val (.long z0), .second, .val (.long z1), .second, .val (.long z2), .second, .val (.double jk), .second, .val (.ref b1), .unset, .unset, .unset] [(.ref b1)])) _
    refine XS.iconst X4.here hx rfl (hb hby at_147) ?_
    show Steps p.tables e below (T4.setTop (mkF m 148 #[.val (.long tp), .second, .val (.int md), .val (.int lw), .val (.int fl), .val (.int kk), .val (.long m1), .second, .val (.long m0), .second, .val (.long m2), .second, .val (.long z0), .second, .val (.long z1), .second, .val (.long z2), .second, .val (.double jk), .second, .val (.ref b1), .unset, .unset, .unset] [(.int (3 : Int32)), (.ref b1)])) _
    refine XS.dload X4.here hx rfl (hb hby at_148) rfl ?_
    show Steps p.tables e below (T4.setTop (mkF m 150 #[.val (.long tp), .second, .val (.int md), .val (.int lw), .val (.int fl), .val (.int kk), .val (.long m1), .second, .val (.long m0), .second, .val (.long m2), .second, .val (.long z0), .second, .val (.long z1), .second, .val (.long z2), .second, .val (.double jk), .second, .val (.ref b1), .unset, .unset, .unset] [(.double jk), (.int (3 : Int32)), (.ref b1)])) _
    refine st5 _ ?_
    show Steps p.tables e below (T5.setTop (mkF m 151 #[.val (.long tp), .second, .val (.int md), .val (.int lw), .val (.int fl), .val (.int kk), .val (.long m1), .second, .val (.long m0), .second, .val (.long m2), .second, .val (.long z0), .second, .val (.long z1), .second, .val (.long z2), .second, .val (.double jk), .second, .val (.ref b1), .unset, .unset, .unset] [])) _
    refine XS.iconst X5.here hx rfl (hb hby at_151) ?_
    show Steps p.tables e below (T5.setTop (mkF m 152 #[.val (.long tp), .second, .val (.int md), .val (.int lw), .val (.int fl), .val (.int kk), .val (.long m1), .second, .val (.long m0), .second, .val (.long m2), .second, .val (.long z0), .second, .val (.long z1), .second, .val (.long z2), .second, .val (.double jk), .second, .val (.ref b1), .unset, .unset, .unset] [(.int (0 : Int32))])) _
    refine XS.istore X5.here hx rfl (hb hby at_152) rfl (l' := #[.val (.long tp), .second, .val (.int md), .val (.int lw), .val (.int fl), .val (.int kk), .val (.long m1), .second, .val (.long m0), .second, .val (.long m2), .second, .val (.long z0), .second, .val (.long z1), .second, .val (.long z2), .second, .val (.double jk), .second, .val (.ref b1), .val (.int (0 : Int32)), .unset, .unset]) rfl ?_
    show Steps p.tables e below (T5.setTop (mkF m 154 #[.val (.long tp), .second, .val (.int md), .val (.int lw), .val (.int fl), .val (.int kk), .val (.long m1), .second, .val (.long m0), .second, .val (.long m2), .second, .val (.long z0), .second, .val (.long z1), .second, .val (.long z2), .second, .val (.double jk), .second, .val (.ref b1), .val (.int (0 : Int32)), .unset, .unset] [])) _
    refine XS.lconst X5.here hx rfl (hb hby at_154) ?_
    show Steps p.tables e below (T5.setTop (mkF m 155 #[.val (.long tp), .second, .val (.int md), .val (.int lw), .val (.int fl), .val (.int kk), .val (.long m1), .second, .val (.long m0), .second, .val (.long m2), .second, .val (.long z0), .second, .val (.long z1), .second, .val (.long z2), .second, .val (.double jk), .second, .val (.ref b1), .val (.int (0 : Int32)), .unset, .unset] [(.long (0 : Int64))])) _
    refine XS.lstore X5.here hx rfl (hb hby at_155) rfl (l' := #[.val (.long tp), .second, .val (.int md), .val (.int lw), .val (.int fl), .val (.int kk), .val (.long m1), .second, .val (.long m0), .second, .val (.long m2), .second, .val (.long z0), .second, .val (.long z1), .second, .val (.long z2), .second, .val (.double jk), .second, .val (.ref b1), .val (.int (0 : Int32)), .val (.long (0 : Int64)), .second]) rfl ?_
    show Steps p.tables e below (T5.setTop (mkF m 157 #[.val (.long tp), .second, .val (.int md), .val (.int lw), .val (.int fl), .val (.int kk), .val (.long m1), .second, .val (.long m0), .second, .val (.long m2), .second, .val (.long z0), .second, .val (.long z1), .second, .val (.long z2), .second, .val (.double jk), .second, .val (.ref b1), .val (.int (0 : Int32)), .val (.long (0 : Int64)), .second] [])) _
    refine XS.iload X5.here hx rfl (hb hby at_157) rfl ?_
    show Steps p.tables e below (T5.setTop (mkF m 159 #[.val (.long tp), .second, .val (.int md), .val (.int lw), .val (.int fl), .val (.int kk), .val (.long m1), .second, .val (.long m0), .second, .val (.long m2), .second, .val (.long z0), .second, .val (.long z1), .second, .val (.long z2), .second, .val (.double jk), .second, .val (.ref b1), .val (.int (0 : Int32)), .val (.long (0 : Int64)), .second] [(.int fl)])) _
    refine XS.iconst X5.here hx rfl (hb hby at_159) ?_
    show Steps p.tables e below (T5.setTop (mkF m 160 #[.val (.long tp), .second, .val (.int md), .val (.int lw), .val (.int fl), .val (.int kk), .val (.long m1), .second, .val (.long m0), .second, .val (.long m2), .second, .val (.long z0), .second, .val (.long z1), .second, .val (.long z2), .second, .val (.double jk), .second, .val (.ref b1), .val (.int (0 : Int32)), .val (.long (0 : Int64)), .second] [(.int (1 : Int32)), (.int fl)])) _
    refine XS.iand X5.here hx rfl (hb hby at_160) rfl ?_
    show Steps p.tables e below (T5.setTop (mkF m 161 #[.val (.long tp), .second, .val (.int md), .val (.int lw), .val (.int fl), .val (.int kk), .val (.long m1), .second, .val (.long m0), .second, .val (.long m2), .second, .val (.long z0), .second, .val (.long z1), .second, .val (.long z2), .second, .val (.double jk), .second, .val (.ref b1), .val (.int (0 : Int32)), .val (.long (0 : Int64)), .second] [(.int (fl &&& (1 : Int32)))])) _
    refine XS.ifNo X5.here hx rfl (hb hby at_161) rfl ((if0 _ _).trans (feq hc161).1) ?_
    show Steps p.tables e below (T5.setTop (mkF m 164 #[.val (.long tp), .second, .val (.int md), .val (.int lw), .val (.int fl), .val (.int kk), .val (.long m1), .second, .val (.long m0), .second, .val (.long m2), .second, .val (.long z0), .second, .val (.long z1), .second, .val (.long z2), .second, .val (.double jk), .second, .val (.ref b1), .val (.int (0 : Int32)), .val (.long (0 : Int64)), .second] [])) _
    refine XS.aload X5.here hx rfl (hb hby at_164) rfl rfl ?_
    show Steps p.tables e below (T5.setTop (mkF m 166 #[.val (.long tp), .second, .val (.int md), .val (.int lw), .val (.int fl), .val (.int kk), .val (.long m1), .second, .val (.long m0), .second, .val (.long m2), .second, .val (.long z0), .second, .val (.long z1), .second, .val (.long z2), .second, .val (.double jk), .second, .val (.ref b1), .val (.int (0 : Int32)), .val (.long (0 : Int64)), .second] [(.ref b1)])) _
    refine XS.iload X5.here hx rfl (hb hby at_166) rfl ?_
    show Steps p.tables e below (T5.setTop (mkF m 168 #[.val (.long tp), .second, .val (.int md), .val (.int lw), .val (.int fl), .val (.int kk), .val (.long m1), .second, .val (.long m0), .second, .val (.long m2), .second, .val (.long z0), .second, .val (.long z1), .second, .val (.long z2), .second, .val (.double jk), .second, .val (.ref b1), .val (.int (0 : Int32)), .val (.long (0 : Int64)), .second] [(.int (0 : Int32)), (.ref b1)])) _
    refine XS.lload X5.here hx rfl (hb hby at_168) rfl ?_
    show Steps p.tables e below (T5.setTop (mkF m 170 #[.val (.long tp), .second, .val (.int md), .val (.int lw), .val (.int fl), .val (.int kk), .val (.long m1), .second, .val (.long m0), .second, .val (.long m2), .second, .val (.long z0), .second, .val (.long z1), .second, .val (.long z2), .second, .val (.double jk), .second, .val (.ref b1), .val (.int (0 : Int32)), .val (.long (0 : Int64)), .second] [(.long z0), (.int (0 : Int32)), (.ref b1)])) _
    refine XS.l2dS X5.here hx rfl (hb hby at_170) rfl rfl ?_
    show Steps p.tables e below (T5.setTop (mkF m 171 #[.val (.long tp), .second, .val (.int md), .val (.int lw), .val (.int fl), .val (.int kk), .val (.long m1), .second, .val (.long m0), .second, .val (.long m2), .second, .val (.long z0), .second, .val (.long z1), .second, .val (.long z2), .second, .val (.double jk), .second, .val (.ref b1), .val (.int (0 : Int32)), .val (.long (0 : Int64)), .second] [(.double (FP.l2d z0)), (.int (0 : Int32)), (.ref b1)])) _
    refine st6 _ ?_
    show Steps p.tables e below (T6.setTop (mkF m 172 #[.val (.long tp), .second, .val (.int md), .val (.int lw), .val (.int fl), .val (.int kk), .val (.long m1), .second, .val (.long m0), .second, .val (.long m2), .second, .val (.long z0), .second, .val (.long z1), .second, .val (.long z2), .second, .val (.double jk), .second, .val (.ref b1), .val (.int (0 : Int32)), .val (.long (0 : Int64)), .second] [])) _
    refine XS.iinc X6.here hx rfl (hb hby at_172) rfl (l' := #[.val (.long tp), .second, .val (.int md), .val (.int lw), .val (.int fl), .val (.int kk), .val (.long m1), .second, .val (.long m0), .second, .val (.long m2), .second, .val (.long z0), .second, .val (.long z1), .second, .val (.long z2), .second, .val (.double jk), .second, .val (.ref b1), .val (.int ((0 : Int32) + (1 : Int32))), .val (.long (0 : Int64)), .second]) rfl ?_
    show Steps p.tables e below (T6.setTop (mkF m 175 #[.val (.long tp), .second, .val (.int md), .val (.int lw), .val (.int fl), .val (.int kk), .val (.long m1), .second, .val (.long m0), .second, .val (.long m2), .second, .val (.long z0), .second, .val (.long z1), .second, .val (.long z2), .second, .val (.double jk), .second, .val (.ref b1), .val (.int ((0 : Int32) + (1 : Int32))), .val (.long (0 : Int64)), .second] [])) _
    rw [show ((0 : Int32) + (1 : Int32)) = (1 : Int32) from by decide]
    show Steps p.tables e below (T6.setTop (mkF m 175 #[.val (.long tp), .second, .val (.int md), .val (.int lw), .val (.int fl), .val (.int kk), .val (.long m1), .second, .val (.long m0), .second, .val (.long m2), .second, .val (.long z0), .second, .val (.long z1), .second, .val (.long z2), .second, .val (.double jk), .second, .val (.ref b1), .val (.int (1 : Int32)), .val (.long (0 : Int64)), .second] [])) _
    refine XS.lload X6.here hx rfl (hb hby at_175) rfl ?_
    show Steps p.tables e below (T6.setTop (mkF m 177 #[.val (.long tp), .second, .val (.int md), .val (.int lw), .val (.int fl), .val (.int kk), .val (.long m1), .second, .val (.long m0), .second, .val (.long m2), .second, .val (.long z0), .second, .val (.long z1), .second, .val (.long z2), .second, .val (.double jk), .second, .val (.ref b1), .val (.int (1 : Int32)), .val (.long (0 : Int64)), .second] [(.long (0 : Int64))])) _
    refine XS.lload X6.here hx rfl (hb hby at_177) rfl ?_
    show Steps p.tables e below (T6.setTop (mkF m 179 #[.val (.long tp), .second, .val (.int md), .val (.int lw), .val (.int fl), .val (.int kk), .val (.long m1), .second, .val (.long m0), .second, .val (.long m2), .second, .val (.long z0), .second, .val (.long z1), .second, .val (.long z2), .second, .val (.double jk), .second, .val (.ref b1), .val (.int (1 : Int32)), .val (.long (0 : Int64)), .second] [(.long z0), (.long (0 : Int64))])) _
    refine XS.ladd X6.here hx rfl (hb hby at_179) rfl ?_
    show Steps p.tables e below (T6.setTop (mkF m 180 #[.val (.long tp), .second, .val (.int md), .val (.int lw), .val (.int fl), .val (.int kk), .val (.long m1), .second, .val (.long m0), .second, .val (.long m2), .second, .val (.long z0), .second, .val (.long z1), .second, .val (.long z2), .second, .val (.double jk), .second, .val (.ref b1), .val (.int (1 : Int32)), .val (.long (0 : Int64)), .second] [(.long ((0 : Int64) + z0))])) _
    refine XS.lstore X6.here hx rfl (hb hby at_180) rfl (l' := #[.val (.long tp), .second, .val (.int md), .val (.int lw), .val (.int fl), .val (.int kk), .val (.long m1), .second, .val (.long m0), .second, .val (.long m2), .second, .val (.long z0), .second, .val (.long z1), .second, .val (.long z2), .second, .val (.double jk), .second, .val (.ref b1), .val (.int (1 : Int32)), .val (.long ((0 : Int64) + z0)), .second]) rfl ?_
    show Steps p.tables e below (T6.setTop (mkF m 182 #[.val (.long tp), .second, .val (.int md), .val (.int lw), .val (.int fl), .val (.int kk), .val (.long m1), .second, .val (.long m0), .second, .val (.long m2), .second, .val (.long z0), .second, .val (.long z1), .second, .val (.long z2), .second, .val (.double jk), .second, .val (.ref b1), .val (.int (1 : Int32)), .val (.long ((0 : Int64) + z0)), .second] [])) _
    refine XS.iload X6.here hx rfl (hb hby at_182) rfl ?_
    show Steps p.tables e below (T6.setTop (mkF m 184 #[.val (.long tp), .second, .val (.int md), .val (.int lw), .val (.int fl), .val (.int kk), .val (.long m1), .second, .val (.long m0), .second, .val (.long m2), .second, .val (.long z0), .second, .val (.long z1), .second, .val (.long z2), .second, .val (.double jk), .second, .val (.ref b1), .val (.int (1 : Int32)), .val (.long ((0 : Int64) + z0)), .second] [(.int fl)])) _
    refine XS.iconst X6.here hx rfl (hb hby at_184) ?_
    show Steps p.tables e below (T6.setTop (mkF m 185 #[.val (.long tp), .second, .val (.int md), .val (.int lw), .val (.int fl), .val (.int kk), .val (.long m1), .second, .val (.long m0), .second, .val (.long m2), .second, .val (.long z0), .second, .val (.long z1), .second, .val (.long z2), .second, .val (.double jk), .second, .val (.ref b1), .val (.int (1 : Int32)), .val (.long ((0 : Int64) + z0)), .second] [(.int (2 : Int32)), (.int fl)])) _
    refine XS.iand X6.here hx rfl (hb hby at_185) rfl ?_
    show Steps p.tables e below (T6.setTop (mkF m 186 #[.val (.long tp), .second, .val (.int md), .val (.int lw), .val (.int fl), .val (.int kk), .val (.long m1), .second, .val (.long m0), .second, .val (.long m2), .second, .val (.long z0), .second, .val (.long z1), .second, .val (.long z2), .second, .val (.double jk), .second, .val (.ref b1), .val (.int (1 : Int32)), .val (.long ((0 : Int64) + z0)), .second] [(.int (fl &&& (2 : Int32)))])) _
    refine XS.ifNo X6.here hx rfl (hb hby at_186) rfl ((if0 _ _).trans (feq hc186).1) ?_
    show Steps p.tables e below (T6.setTop (mkF m 189 #[.val (.long tp), .second, .val (.int md), .val (.int lw), .val (.int fl), .val (.int kk), .val (.long m1), .second, .val (.long m0), .second, .val (.long m2), .second, .val (.long z0), .second, .val (.long z1), .second, .val (.long z2), .second, .val (.double jk), .second, .val (.ref b1), .val (.int (1 : Int32)), .val (.long ((0 : Int64) + z0)), .second] [])) _
    refine XS.aload X6.here hx rfl (hb hby at_189) rfl rfl ?_
    show Steps p.tables e below (T6.setTop (mkF m 191 #[.val (.long tp), .second, .val (.int md), .val (.int lw), .val (.int fl), .val (.int kk), .val (.long m1), .second, .val (.long m0), .second, .val (.long m2), .second, .val (.long z0), .second, .val (.long z1), .second, .val (.long z2), .second, .val (.double jk), .second, .val (.ref b1), .val (.int (1 : Int32)), .val (.long ((0 : Int64) + z0)), .second] [(.ref b1)])) _
    refine XS.iload X6.here hx rfl (hb hby at_191) rfl ?_
    show Steps p.tables e below (T6.setTop (mkF m 193 #[.val (.long tp), .second, .val (.int md), .val (.int lw), .val (.int fl), .val (.int kk), .val (.long m1), .second, .val (.long m0), .second, .val (.long m2), .second, .val (.long z0), .second, .val (.long z1), .second, .val (.long z2), .second, .val (.double jk), .second, .val (.ref b1), .val (.int (1 : Int32)), .val (.long ((0 : Int64) + z0)), .second] [(.int (1 : Int32)), (.ref b1)])) _
    refine XS.lload X6.here hx rfl (hb hby at_193) rfl ?_
    show Steps p.tables e below (T6.setTop (mkF m 195 #[.val (.long tp), .second, .val (.int md), .val (.int lw), .val (.int fl), .val (.int kk), .val (.long m1), .second, .val (.long m0), .second, .val (.long m2), .second, .val (.long z0), .second, .val (.long z1), .second, .val (.long z2), .second, .val (.double jk), .second, .val (.ref b1), .val (.int (1 : Int32)), .val (.long ((0 : Int64) + z0)), .second] [(.long z1), (.int (1 : Int32)), (.ref b1)])) _
    refine XS.l2dS X6.here hx rfl (hb hby at_195) rfl rfl ?_
    show Steps p.tables e below (T6.setTop (mkF m 196 #[.val (.long tp), .second, .val (.int md), .val (.int lw), .val (.int fl), .val (.int kk), .val (.long m1), .second, .val (.long m0), .second, .val (.long m2), .second, .val (.long z0), .second, .val (.long z1), .second, .val (.long z2), .second, .val (.double jk), .second, .val (.ref b1), .val (.int (1 : Int32)), .val (.long ((0 : Int64) + z0)), .second] [(.double (FP.l2d z1)), (.int (1 : Int32)), (.ref b1)])) _
    refine st7 _ ?_
    show Steps p.tables e below (T7.setTop (mkF m 197 #[.val (.long tp), .second, .val (.int md), .val (.int lw), .val (.int fl), .val (.int kk), .val (.long m1), .second, .val (.long m0), .second, .val (.long m2), .second, .val (.long z0), .second, .val (.long z1), .second, .val (.long z2), .second, .val (.double jk), .second, .val (.ref b1), .val (.int (1 : Int32)), .val (.long ((0 : Int64) + z0)), .second] [])) _
    refine XS.iinc X7.here hx rfl (hb hby at_197) rfl (l' := #[.val (.long tp), .second, .val (.int md), .val (.int lw), .val (.int fl), .val (.int kk), .val (.long m1), .second, .val (.long m0), .second, .val (.long m2), .second, .val (.long z0), .second, .val (.long z1), .second, .val (.long z2), .second, .val (.double jk), .second, .val (.ref b1), .val (.int ((1 : Int32) + (1 : Int32))), .val (.long ((0 : Int64) + z0)), .second]) rfl ?_
    show Steps p.tables e below (T7.setTop (mkF m 200 #[.val (.long tp), .second, .val (.int md), .val (.int lw), .val (.int fl), .val (.int kk), .val (.long m1), .second, .val (.long m0), .second, .val (.long m2), .second, .val (.long z0), .second, .val (.long z1), .second, .val (.long z2), .second, .val (.double jk), .second, .val (.ref b1), .val (.int ((1 : Int32) + (1 : Int32))), .val (.long ((0 : Int64) + z0)), .second] [])) _
    rw [show ((1 : Int32) + (1 : Int32)) = (2 : Int32) from by decide]
    show Steps p.tables e below (T7.setTop (mkF m 200 #[.val (.long tp), .second, .val (.int md), .val (.int lw), .val (.int fl), .val (.int kk), .val (.long m1), .second, .val (.long m0), .second, .val (.long m2), .second, .val (.long z0), .second, .val (.long z1), .second, .val (.long z2), .second, .val (.double jk), .second, .val (.ref b1), .val (.int (2 : Int32)), .val (.long ((0 : Int64) + z0)), .second] [])) _
    refine XS.lload X7.here hx rfl (hb hby at_200) rfl ?_
    show Steps p.tables e below (T7.setTop (mkF m 202 #[.val (.long tp), .second, .val (.int md), .val (.int lw), .val (.int fl), .val (.int kk), .val (.long m1), .second, .val (.long m0), .second, .val (.long m2), .second, .val (.long z0), .second, .val (.long z1), .second, .val (.long z2), .second, .val (.double jk), .second, .val (.ref b1), .val (.int (2 : Int32)), .val (.long ((0 : Int64) + z0)), .second] [(.long ((0 : Int64) + z0))])) _
    refine XS.lload X7.here hx rfl (hb hby at_202) rfl ?_
    show Steps p.tables e below (T7.setTop (mkF m 204 #[.val (.long tp), .second, .val (.int md), .val (.int lw), .val (.int fl), .val (.int kk), .val (.long m1), .second, .val (.long m0), .second, .val (.long m2), .second, .val (.long z0), .second, .val (.long z1), .second, .val (.long z2), .second, .val (.double jk), .second, .val (.ref b1), .val (.int (2 : Int32)), .val (.long ((0 : Int64) + z0)), .second] [(.long z1), (.long ((0 : Int64) + z0))])) _
    refine XS.ladd X7.here hx rfl (hb hby at_204) rfl ?_
    show Steps p.tables e below (T7.setTop (mkF m 205 #[.val (.long tp), .second, .val (.int md), .val (.int lw), .val (.int fl), .val (.int kk), .val (.long m1), .second, .val (.long m0), .second, .val (.long m2), .second, .val (.long z0), .second, .val (.long z1), .second, .val (.long z2), .second, .val (.double jk), .second, .val (.ref b1), .val (.int (2 : Int32)), .val (.long ((0 : Int64) + z0)), .second] [(.long (((0 : Int64) + z0) + z1))])) _
    refine XS.lstore X7.here hx rfl (hb hby at_205) rfl (l' := #[.val (.long tp), .second, .val (.int md), .val (.int lw), .val (.int fl), .val (.int kk), .val (.long m1), .second, .val (.long m0), .second, .val (.long m2), .second, .val (.long z0), .second, .val (.long z1), .second, .val (.long z2), .second, .val (.double jk), .second, .val (.ref b1), .val (.int (2 : Int32)), .val (.long (((0 : Int64) + z0) + z1)), .second]) rfl ?_
    show Steps p.tables e below (T7.setTop (mkF m 207 #[.val (.long tp), .second, .val (.int md), .val (.int lw), .val (.int fl), .val (.int kk), .val (.long m1), .second, .val (.long m0), .second, .val (.long m2), .second, .val (.long z0), .second, .val (.long z1), .second, .val (.long z2), .second, .val (.double jk), .second, .val (.ref b1), .val (.int (2 : Int32)), .val (.long (((0 : Int64) + z0) + z1)), .second] [])) _
    refine XS.iload X7.here hx rfl (hb hby at_207) rfl ?_
    show Steps p.tables e below (T7.setTop (mkF m 209 #[.val (.long tp), .second, .val (.int md), .val (.int lw), .val (.int fl), .val (.int kk), .val (.long m1), .second, .val (.long m0), .second, .val (.long m2), .second, .val (.long z0), .second, .val (.long z1), .second, .val (.long z2), .second, .val (.double jk), .second, .val (.ref b1), .val (.int (2 : Int32)), .val (.long (((0 : Int64) + z0) + z1)), .second] [(.int fl)])) _
    refine XS.iconst X7.here hx rfl (hb hby at_209) ?_
    show Steps p.tables e below (T7.setTop (mkF m 210 #[.val (.long tp), .second, .val (.int md), .val (.int lw), .val (.int fl), .val (.int kk), .val (.long m1), .second, .val (.long m0), .second, .val (.long m2), .second, .val (.long z0), .second, .val (.long z1), .second, .val (.long z2), .second, .val (.double jk), .second, .val (.ref b1), .val (.int (2 : Int32)), .val (.long (((0 : Int64) + z0) + z1)), .second] [(.int (4 : Int32)), (.int fl)])) _
    refine XS.iand X7.here hx rfl (hb hby at_210) rfl ?_
    show Steps p.tables e below (T7.setTop (mkF m 211 #[.val (.long tp), .second, .val (.int md), .val (.int lw), .val (.int fl), .val (.int kk), .val (.long m1), .second, .val (.long m0), .second, .val (.long m2), .second, .val (.long z0), .second, .val (.long z1), .second, .val (.long z2), .second, .val (.double jk), .second, .val (.ref b1), .val (.int (2 : Int32)), .val (.long (((0 : Int64) + z0) + z1)), .second] [(.int (fl &&& (4 : Int32)))])) _
    refine XS.ifNo X7.here hx rfl (hb hby at_211) rfl ((if0 _ _).trans (feq hc211).1) ?_
    show Steps p.tables e below (T7.setTop (mkF m 214 #[.val (.long tp), .second, .val (.int md), .val (.int lw), .val (.int fl), .val (.int kk), .val (.long m1), .second, .val (.long m0), .second, .val (.long m2), .second, .val (.long z0), .second, .val (.long z1), .second, .val (.long z2), .second, .val (.double jk), .second, .val (.ref b1), .val (.int (2 : Int32)), .val (.long (((0 : Int64) + z0) + z1)), .second] [])) _
    refine XS.aload X7.here hx rfl (hb hby at_214) rfl rfl ?_
    show Steps p.tables e below (T7.setTop (mkF m 216 #[.val (.long tp), .second, .val (.int md), .val (.int lw), .val (.int fl), .val (.int kk), .val (.long m1), .second, .val (.long m0), .second, .val (.long m2), .second, .val (.long z0), .second, .val (.long z1), .second, .val (.long z2), .second, .val (.double jk), .second, .val (.ref b1), .val (.int (2 : Int32)), .val (.long (((0 : Int64) + z0) + z1)), .second] [(.ref b1)])) _
    refine XS.iload X7.here hx rfl (hb hby at_216) rfl ?_
    show Steps p.tables e below (T7.setTop (mkF m 218 #[.val (.long tp), .second, .val (.int md), .val (.int lw), .val (.int fl), .val (.int kk), .val (.long m1), .second, .val (.long m0), .second, .val (.long m2), .second, .val (.long z0), .second, .val (.long z1), .second, .val (.long z2), .second, .val (.double jk), .second, .val (.ref b1), .val (.int (2 : Int32)), .val (.long (((0 : Int64) + z0) + z1)), .second] [(.int (2 : Int32)), (.ref b1)])) _
    refine XS.lload X7.here hx rfl (hb hby at_218) rfl ?_
    show Steps p.tables e below (T7.setTop (mkF m 220 #[.val (.long tp), .second, .val (.int md), .val (.int lw), .val (.int fl), .val (.int kk), .val (.long m1), .second, .val (.long m0), .second, .val (.long m2), .second, .val (.long z0), .second, .val (.long z1), .second, .val (.long z2), .second, .val (.double jk), .second, .val (.ref b1), .val (.int (2 : Int32)), .val (.long (((0 : Int64) + z0) + z1)), .second] [(.long z2), (.int (2 : Int32)), (.ref b1)])) _
    refine XS.l2dS X7.here hx rfl (hb hby at_220) rfl rfl ?_
    show Steps p.tables e below (T7.setTop (mkF m 221 #[.val (.long tp), .second, .val (.int md), .val (.int lw), .val (.int fl), .val (.int kk), .val (.long m1), .second, .val (.long m0), .second, .val (.long m2), .second, .val (.long z0), .second, .val (.long z1), .second, .val (.long z2), .second, .val (.double jk), .second, .val (.ref b1), .val (.int (2 : Int32)), .val (.long (((0 : Int64) + z0) + z1)), .second] [(.double (FP.l2d z2)), (.int (2 : Int32)), (.ref b1)])) _
    refine st8 _ ?_
    show Steps p.tables e below (T8.setTop (mkF m 222 #[.val (.long tp), .second, .val (.int md), .val (.int lw), .val (.int fl), .val (.int kk), .val (.long m1), .second, .val (.long m0), .second, .val (.long m2), .second, .val (.long z0), .second, .val (.long z1), .second, .val (.long z2), .second, .val (.double jk), .second, .val (.ref b1), .val (.int (2 : Int32)), .val (.long (((0 : Int64) + z0) + z1)), .second] [])) _
    refine XS.iinc X8.here hx rfl (hb hby at_222) rfl (l' := #[.val (.long tp), .second, .val (.int md), .val (.int lw), .val (.int fl), .val (.int kk), .val (.long m1), .second, .val (.long m0), .second, .val (.long m2), .second, .val (.long z0), .second, .val (.long z1), .second, .val (.long z2), .second, .val (.double jk), .second, .val (.ref b1), .val (.int ((2 : Int32) + (1 : Int32))), .val (.long (((0 : Int64) + z0) + z1)), .second]) rfl ?_
    show Steps p.tables e below (T8.setTop (mkF m 225 #[.val (.long tp), .second, .val (.int md), .val (.int lw), .val (.int fl), .val (.int kk), .val (.long m1), .second, .val (.long m0), .second, .val (.long m2), .second, .val (.long z0), .second, .val (.long z1), .second, .val (.long z2), .second, .val (.double jk), .second, .val (.ref b1), .val (.int ((2 : Int32) + (1 : Int32))), .val (.long (((0 : Int64) + z0) + z1)), .second] [])) _
    rw [show ((2 : Int32) + (1 : Int32)) = (3 : Int32) from by decide]
    show Steps p.tables e below (T8.setTop (mkF m 225 #[.val (.long tp), .second, .val (.int md), .val (.int lw), .val (.int fl), .val (.int kk), .val (.long m1), .second, .val (.long m0), .second, .val (.long m2), .second, .val (.long z0), .second, .val (.long z1), .second, .val (.long z2), .second, .val (.double jk), .second, .val (.ref b1), .val (.int (3 : Int32)), .val (.long (((0 : Int64) + z0) + z1)), .second] [])) _
    refine XS.lload X8.here hx rfl (hb hby at_225) rfl ?_
    show Steps p.tables e below (T8.setTop (mkF m 227 #[.val (.long tp), .second, .val (.int md), .val (.int lw), .val (.int fl), .val (.int kk), .val (.long m1), .second, .val (.long m0), .second, .val (.long m2), .second, .val (.long z0), .second, .val (.long z1), .second, .val (.long z2), .second, .val (.double jk), .second, .val (.ref b1), .val (.int (3 : Int32)), .val (.long (((0 : Int64) + z0) + z1)), .second] [(.long (((0 : Int64) + z0) + z1))])) _
    refine XS.lload X8.here hx rfl (hb hby at_227) rfl ?_
    show Steps p.tables e below (T8.setTop (mkF m 229 #[.val (.long tp), .second, .val (.int md), .val (.int lw), .val (.int fl), .val (.int kk), .val (.long m1), .second, .val (.long m0), .second, .val (.long m2), .second, .val (.long z0), .second, .val (.long z1), .second, .val (.long z2), .second, .val (.double jk), .second, .val (.ref b1), .val (.int (3 : Int32)), .val (.long (((0 : Int64) + z0) + z1)), .second] [(.long z2), (.long (((0 : Int64) + z0) + z1))])) _
    refine XS.ladd X8.here hx rfl (hb hby at_229) rfl ?_
    show Steps p.tables e below (T8.setTop (mkF m 230 #[.val (.long tp), .second, .val (.int md), .val (.int lw), .val (.int fl), .val (.int kk), .val (.long m1), .second, .val (.long m0), .second, .val (.long m2), .second, .val (.long z0), .second, .val (.long z1), .second, .val (.long z2), .second, .val (.double jk), .second, .val (.ref b1), .val (.int (3 : Int32)), .val (.long (((0 : Int64) + z0) + z1)), .second] [(.long ((((0 : Int64) + z0) + z1) + z2))])) _
    refine XS.lstore X8.here hx rfl (hb hby at_230) rfl (l' := #[.val (.long tp), .second, .val (.int md), .val (.int lw), .val (.int fl), .val (.int kk), .val (.long m1), .second, .val (.long m0), .second, .val (.long m2), .second, .val (.long z0), .second, .val (.long z1), .second, .val (.long z2), .second, .val (.double jk), .second, .val (.ref b1), .val (.int (3 : Int32)), .val (.long ((((0 : Int64) + z0) + z1) + z2)), .second]) rfl ?_
    show Steps p.tables e below (T8.setTop (mkF m 232 #[.val (.long tp), .second, .val (.int md), .val (.int lw), .val (.int fl), .val (.int kk), .val (.long m1), .second, .val (.long m0), .second, .val (.long m2), .second, .val (.long z0), .second, .val (.long z1), .second, .val (.long z2), .second, .val (.double jk), .second, .val (.ref b1), .val (.int (3 : Int32)), .val (.long ((((0 : Int64) + z0) + z1) + z2)), .second] [])) _
    refine XS.aload X8.here hx rfl (hb hby at_232) rfl rfl ?_
    show Steps p.tables e below (T8.setTop (mkF m 234 #[.val (.long tp), .second, .val (.int md), .val (.int lw), .val (.int fl), .val (.int kk), .val (.long m1), .second, .val (.long m0), .second, .val (.long m2), .second, .val (.long z0), .second, .val (.long z1), .second, .val (.long z2), .second, .val (.double jk), .second, .val (.ref b1), .val (.int (3 : Int32)), .val (.long ((((0 : Int64) + z0) + z1) + z2)), .second] [(.ref b1)])) _
    refine XS.iload X8.here hx rfl (hb hby at_234) rfl ?_
    show Steps p.tables e below (T8.setTop (mkF m 236 #[.val (.long tp), .second, .val (.int md), .val (.int lw), .val (.int fl), .val (.int kk), .val (.long m1), .second, .val (.long m0), .second, .val (.long m2), .second, .val (.long z0), .second, .val (.long z1), .second, .val (.long z2), .second, .val (.double jk), .second, .val (.ref b1), .val (.int (3 : Int32)), .val (.long ((((0 : Int64) + z0) + z1) + z2)), .second] [(.int (3 : Int32)), (.ref b1)])) _
    refine st9 _ ?_
    show Steps p.tables e below (T9.setTop (mkF m 239 #[.val (.long tp), .second, .val (.int md), .val (.int lw), .val (.int fl), .val (.int kk), .val (.long m1), .second, .val (.long m0), .second, .val (.long m2), .second, .val (.long z0), .second, .val (.long z1), .second, .val (.long z2), .second, .val (.double jk), .second, .val (.ref b1), .val (.int (3 : Int32)), .val (.long ((((0 : Int64) + z0) + z1) + z2)), .second] [(.double res_9)])) _
    refine XS.lload X9.here hx rfl (hb hby at_239) rfl ?_
    show Steps p.tables e below (T9.setTop (mkF m 241 #[.val (.long tp), .second, .val (.int md), .val (.int lw), .val (.int fl), .val (.int kk), .val (.long m1), .second, .val (.long m0), .second, .val (.long m2), .second, .val (.long z0), .second, .val (.long z1), .second, .val (.long z2), .second, .val (.double jk), .second, .val (.ref b1), .val (.int (3 : Int32)), .val (.long ((((0 : Int64) + z0) + z1) + z2)), .second] [(.long ((((0 : Int64) + z0) + z1) + z2)), (.double res_9)])) _
    refine XS.l2dS X9.here hx rfl (hb hby at_241) rfl rfl ?_
    show Steps p.tables e below (T9.setTop (mkF m 242 #[.val (.long tp), .second, .val (.int md), .val (.int lw), .val (.int fl), .val (.int kk), .val (.long m1), .second, .val (.long m0), .second, .val (.long m2), .second, .val (.long z0), .second, .val (.long z1), .second, .val (.long z2), .second, .val (.double jk), .second, .val (.ref b1), .val (.int (3 : Int32)), .val (.long ((((0 : Int64) + z0) + z1) + z2)), .second] [(.double (FP.l2d ((((0 : Int64) + z0) + z1) + z2))), (.double res_9)])) _
    refine XS.dcmpS X9.here hx rfl (hb hby at_242) rfl (v := (0 : Int32)) ((own_eq Pq9_0 (own_l2d (by omega)) .l).mpr rfl) ?_
    show Steps p.tables e below (T9.setTop (mkF m 243 #[.val (.long tp), .second, .val (.int md), .val (.int lw), .val (.int fl), .val (.int kk), .val (.long m1), .second, .val (.long m0), .second, .val (.long m2), .second, .val (.long z0), .second, .val (.long z1), .second, .val (.long z2), .second, .val (.double jk), .second, .val (.ref b1), .val (.int (3 : Int32)), .val (.long ((((0 : Int64) + z0) + z1) + z2)), .second] [(.int (0 : Int32))])) _
    refine XS.ifNo X9.here hx rfl (hb hby at_243) rfl ((if0 _ _).trans (teq (rfl : (0 : Int32) = (0 : Int32))).2) ?_
    show Steps p.tables e below (T9.setTop (mkF m 246 #[.val (.long tp), .second, .val (.int md), .val (.int lw), .val (.int fl), .val (.int kk), .val (.long m1), .second, .val (.long m0), .second, .val (.long m2), .second, .val (.long z0), .second, .val (.long z1), .second, .val (.long z2), .second, .val (.double jk), .second, .val (.ref b1), .val (.int (3 : Int32)), .val (.long ((((0 : Int64) + z0) + z1) + z2)), .second] [])) _
    refine XS.iconst X9.here hx rfl (hb hby at_246) ?_
    show Steps p.tables e below (T9.setTop (mkF m 247 #[.val (.long tp), .second, .val (.int md), .val (.int lw), .val (.int fl), .val (.int kk), .val (.long m1), .second, .val (.long m0), .second, .val (.long m2), .second, .val (.long z0), .second, .val (.long z1), .second, .val (.long z2), .second, .val (.double jk), .second, .val (.ref b1), .val (.int (3 : Int32)), .val (.long ((((0 : Int64) + z0) + z1) + z2)), .second] [(.int (1 : Int32))])) _
    refine XS.goto X9.here hx rfl (pc0 := 247) (pc' := 251) rfl (hb hby at_247) (by decide) (by decide) ?_
    show Steps p.tables e below (T9.setTop (mkF m 251 #[.val (.long tp), .second, .val (.int md), .val (.int lw), .val (.int fl), .val (.int kk), .val (.long m1), .second, .val (.long m0), .second, .val (.long m2), .second, .val (.long z0), .second, .val (.long z1), .second, .val (.long z2), .second, .val (.double jk), .second, .val (.ref b1), .val (.int (3 : Int32)), .val (.long ((((0 : Int64) + z0) + z1) + z2)), .second] [(.int (1 : Int32))])) _
    exact retN X9 hx (t := .boolean) Bd.returns (by simp) (hb hby at_251) hr
  · show Q_rm0_7 Z tp md lw fl h0 n0 _ T9.heap _
    rw [e9]
    exact ⟨rfl, N9⟩
set_option maxRecDepth 65536 in
set_option maxHeartbeats 40000000 in
theorem rm0 (l : Launch) (Z : State) (a0 : Array Value) (hw : ∀ d ∈ tables_1, d.before a0 Z = true) (ws : List Jvm.Cond) (tp : Int64) (md lw fl : Int32) (h0 : Heap) (n0 : Nat) (Z0 : n0 ≤ h0.size) :
    MetFree l x (head1 (Jvm.Cond.code x code maxLocals ret :: ws) room_1) (fun a U => a = #[(.long tp), (.int md), (.int lw), (.int fl)] ∧ Z.Warmed39 U.vm ∧ U.heap = h0) (fun _ _ _ _ _ => True) (fun _ U o U' => ∃ v L, o = .returned v ∧ (v = some (.int (1 : Int32)) ∧ Fr n0 L) ∧ FrameEnd U o U' L room_1.cells room_1.slots) := by
  by_cases b0 : (fl &&& (1 : Int32)) = (0 : Int32) <;> by_cases b1 : (fl &&& (2 : Int32)) = (0 : Int32) <;> by_cases b2 : (fl &&& (4 : Int32)) = (0 : Int32)
  · exact rm0_0 l Z a0 hw ws tp md lw fl h0 n0 Z0 b0 b1 b2
  · exact rm0_4 l Z a0 hw ws tp md lw fl h0 n0 Z0 b0 b1 b2
  · exact rm0_2 l Z a0 hw ws tp md lw fl h0 n0 Z0 b0 b1 b2
  · exact rm0_6 l Z a0 hw ws tp md lw fl h0 n0 Z0 b0 b1 b2
  · exact rm0_1 l Z a0 hw ws tp md lw fl h0 n0 Z0 b0 b1 b2
  · exact rm0_5 l Z a0 hw ws tp md lw fl h0 n0 Z0 b0 b1 b2
  · exact rm0_3 l Z a0 hw ws tp md lw fl h0 n0 Z0 b0 b1 b2
  · exact rm0_7 l Z a0 hw ws tp md lw fl h0 n0 Z0 b0 b1 b2
set_option maxRecDepth 65536 in
set_option maxHeartbeats 40000000 in
theorem comes_1 {Post : Tables → Env → Array Value → State → Outcome → State → Prop} (hpost : ∀ tb e args s v u, (limb_1_1.after args s (.returned v) u = true ∧ limb_1_2.after args s (.returned v) u = true ∧ True) → FrameEnd s (.returned v) u (Jvm.fieldLocs frame_1_writes args s ++ Jvm.arrayLocs frame_1_arrays args s ++ Jvm.staticLocs frame_1_statics s) 16 128 → Post tb e args s (.returned v) u) :
    ArmFor flags0 classFile x code maxLocals ret World_1 tables_1 room_1 Calls_1 rest_1 Pre_1 Post := by
  intro l hfl _ _ p e ha hc hk s m args below hf hA hF happ hP
  obtain ⟨hcalls, hrest, hpre⟩ := hP
  obtain ⟨-, -, -, hnamed, -, -, -, hat⟩ := (Spec.applies_iff hf).mp happ
  obtain ⟨hg, hn⟩ := and_e (Cond.before_iff.mp (show (Jvm.Cond.and given_1 narrow_1).before args s = true from hpre))
  obtain ⟨hc0, hr0⟩ := and_e hg
  obtain ⟨hv0, hr1⟩ := and_e hr0
  obtain ⟨hv1, hr2⟩ := and_e hr1
  obtain ⟨hv2, hr3⟩ := and_e hr2
  have hv3 := hr3
  obtain ⟨w0, w1, w2, w3, rfl⟩ : ∃ w0 w1 w2 w3 : Value, args = #[w0, w1, w2, w3] := by
    have hs : args.size = 4 := by simpa [Cond.value, given_1] using hc0
    obtain ⟨L⟩ := args
    match L, hs with
    | [w0, w1, w2, w3], _ => exact ⟨w0, w1, w2, w3, rfl⟩
  have hw := fun d (hd : d ∈ tables_1) => atoms_spec (ws := Jvm.Cond.code x code maxLocals ret :: tables_1) hat d (List.mem_cons_of_mem _ hd)
  obtain ⟨i0, ei0⟩ := isL_v hv0
  obtain rfl : w0 = (.long i0) := Option.some.inj ei0
  obtain ⟨i1, ei1⟩ := is_v hv1
  obtain rfl : w1 = (.int i1) := Option.some.inj ei1
  obtain ⟨i2, ei2⟩ := is_v hv2
  obtain rfl : w2 = (.int i2) := Option.some.inj ei2
  obtain ⟨i3, ei3⟩ := is_v hv3
  obtain rfl : w3 = (.int i3) := Option.some.inj ei3
  obtain ⟨n, o, h1, h2, h3, _, L, rfl, ⟨rfl, N⟩, hq⟩ := rm0 l s _ hw tables_1 i0 i1 i2 i3 s.heap s.heap.size (Nat.le_refl _) p e ha hc hk s m _ below hf ((Spec.applies_iff_loose hf).mp happ).1 ⟨rfl, State.Warmed39.refl s, rfl⟩ trivial
  refine ⟨n, _, h1, h2, h3, hpost _ _ _ _ _ _ ⟨Cond.after_iff.mpr rfl, Cond.after_iff.mpr (eq_i res_at (Term.int_eval (1)) rfl), trivial⟩ ⟨hq.1, hq.2.1, (hq.2.2.sift fun y hy => Or.inr (N y hy)).mono (by decide) (by decide)⟩⟩
theorem main_1_1 : Claimed_1_1 := comes_1 fun _ _ _ _ _ _ h hF => ⟨h.1, hF⟩
theorem main_1_2 : Claimed_1_2 := comes_1 fun _ _ _ _ _ _ h hF => ⟨h.2.1, hF⟩
end Jvm.Pilot.@@N@@
namespace Jvm.Pilot.@@N@@
open Jvm Jvm.ClassFile Sem Op Lib Jvm.Free Jvm.Stand Jvm.Pilot.@@N@@.Jvm.D
/-! MADE BY PROGRAM (witnessworld.py) out of the Statement's table words and the real class files: 11 classes; the members and pool entries that the words name. The judged class is class 1, her method 1. -/
namespace start1
open Jvm.ClassFile
def u (s : String) : CpInfo := .utf8 (stringToUtf16 s)
/-- a pool by its gaps: so many unusable entries, then the entry; so many at the end -/
def gap : Nat → List CpInfo → List CpInfo
  | 0, r => r
  | n + 1, r => .unusable :: gap n r
def poolList (es : List (Nat × CpInfo)) (last : Nat) : List CpInfo := es.foldr (fun e r => gap e.1 (e.2 :: r)) (gap last [])
def pool (es : List (Nat × CpInfo)) (last : Nat) : Array CpInfo := ⟨poolList es last⟩
def fileOf (pool : Array CpInfo) (this : Nat) (attrs : Array Attribute := #[]) (ms : Array MethodInfo := #[]) (fl : Nat := 33) (sup : Nat := 0) (ifs : Array Nat := #[]) (fds : Array FieldInfo := #[]) : ClassFile where
  minorVersion := 0
  majorVersion := 65
  constantPool := pool
  accessFlags := fl
  thisClass := this
  superClass := sup
  interfaces := ifs
  fields := fds
  methods := ms
  attributes := attrs
def plain (name : String) (sup : Option ClassId) : Class where
  name := name
  kind := .ordinary
  loader := none
  accessFlags := 33
  super := sup
  interfaces := #[]
  cf := none
  fields := #[]
  methods := #[]
  instanceTypes := #[]
  staticTypes := #[]
  resolved := #[]
  callSites := []
  init := .initialized
  statics := none
  mirror := none

def pool0 : Array CpInfo := pool [(5, u "<init>"), (0, u "()V"), (1, .class_ 10), (1, u "java/lang/Object")] 113

def k0m0 : Method := { name := "<init>", desc := "()V", sig := { parameters := [], returnType := none }, accessFlags := 1, code := none }
/-- java/lang/Object -/
def k0 : Class := { plain "java/lang/Object" none with
  accessFlags := 33
  interfaces := #[]
  cf := some (fileOf pool0 8 #[] #[{ accessFlags := 1, nameIndex := 5, descriptorIndex := 6, attributes := #[] }] 33 0 #[] #[])
  fields := #[]
  methods := #[k0m0]
  instanceTypes := #[]
  staticTypes := #[]
  resolved := Array.replicate 124 none
  statics := none }

def pool1 : Array CpInfo := pool [(2, .class_ 4), (1, u "java/lang/Object"), (0, u "<init>"), (0, u "()V"), (0, .integer 2147483647), (0, .long 9007199254740991), (1, .long 1099511627776), (1, .methodref 13 14), (0, .class_ 15), (0, .nameAndType 16 17), (0, u "com/example/crestwatch/crestwatch/core/ExactSum"), (0, u "rounded"), (0, u "([DI)D"), (0, .class_ 19), (0, u "com/example/crestwatch/crestwatch/core/ExactSumRoundedPinLaw"), (2, u "law"), (0, u "(JIII)Z")] 5

def k1m0 : Method := { name := "<init>", desc := "()V", sig := { parameters := [], returnType := none }, accessFlags := 2, code := none }
def k1c1 : Code := { maxStack := 5, maxLocals := 24, code := code, exceptionTable := #[], attributes := #[] }
def k1m1 : Method := { name := "law", desc := "(JIII)Z", sig := { parameters := [.long, .int, .int, .int], returnType := some .boolean }, accessFlags := 9, code := some k1c1 }
/-- com/example/crestwatch/crestwatch/core/ExactSumRoundedPinLaw -/
def k1 : Class := { plain "com/example/crestwatch/crestwatch/core/ExactSumRoundedPinLaw" (some 0) with
  accessFlags := 49
  interfaces := #[]
  cf := some (fileOf pool1 18 #[] #[{ accessFlags := 2, nameIndex := 5, descriptorIndex := 6, attributes := #[] }, { accessFlags := 9, nameIndex := 22, descriptorIndex := 23, attributes := #[] }] 49 2 #[] #[])
  fields := #[]
  methods := #[k1m0, k1m1]
  instanceTypes := #[]
  staticTypes := #[]
  resolved := Array.replicate 29 none
  statics := none }

def pool2 : Array CpInfo := pool [(2, .class_ 4), (1, u "java/lang/Object"), (0, u "<init>"), (0, u "()V"), (1, .class_ 10), (1, u "com/example/crestwatch/crestwatch/core/ExactSum"), (12, .double 4611686018427387904), (8, u "rounded"), (0, u "([DI)D")] 2

def k2m0 : Method := { name := "<init>", desc := "()V", sig := { parameters := [], returnType := none }, accessFlags := 2, code := none }
def k2c1 : Code := { maxStack := 6, maxLocals := 11, code := prog_28_method_5_code, exceptionTable := #[], attributes := #[] }
def k2m1 : Method := { name := "rounded", desc := "([DI)D", sig := { parameters := [(.array .double), .int], returnType := some .double }, accessFlags := 8, code := some k2c1 }
/-- com/example/crestwatch/crestwatch/core/ExactSum -/
def k2 : Class := { plain "com/example/crestwatch/crestwatch/core/ExactSum" (some 0) with
  accessFlags := 48
  interfaces := #[]
  cf := some (fileOf pool2 8 #[] #[{ accessFlags := 2, nameIndex := 5, descriptorIndex := 6, attributes := #[] }, { accessFlags := 8, nameIndex := 32, descriptorIndex := 33, attributes := #[] }] 48 2 #[] #[])
  fields := #[]
  methods := #[k2m0, k2m1]
  instanceTypes := #[]
  staticTypes := #[]
  resolved := Array.replicate 36 none
  statics := none }

def pool3 : Array CpInfo := pool [(1, u "java/lang/Cloneable"), (0, .class_ 1), (0, u "java/lang/Object"), (0, .class_ 3)] 3

/-- java/lang/Cloneable -/
def k3 : Class := { plain "java/lang/Cloneable" (some 0) with
  accessFlags := 1537
  interfaces := #[]
  cf := some (fileOf pool3 2 #[] #[] 1537 4 #[] #[])
  fields := #[]
  methods := #[]
  instanceTypes := #[]
  staticTypes := #[]
  resolved := Array.replicate 8 none
  statics := none }

def pool4 : Array CpInfo := pool [(1, u "java/io/Serializable"), (0, .class_ 1), (0, u "java/lang/Object"), (0, .class_ 3)] 3

/-- java/io/Serializable -/
def k4 : Class := { plain "java/io/Serializable" (some 0) with
  accessFlags := 1537
  interfaces := #[]
  cf := some (fileOf pool4 2 #[] #[] 1537 4 #[] #[])
  fields := #[]
  methods := #[]
  instanceTypes := #[]
  staticTypes := #[]
  resolved := Array.replicate 8 none
  statics := none }

/-- the primitive byte -/
def k5 : Class := { plain "byte" none with kind := .primitive 'B', accessFlags := 0x411 }
/-- [B -/
def k6 : Class := { plain "[B" (some 0) with kind := .array 5 .byte, interfaces := #[3, 4], accessFlags := 1041 }

/-- the primitive double -/
def k7 : Class := { plain "double" none with kind := .primitive 'D', accessFlags := 0x411 }
/-- [D -/
def k8 : Class := { plain "[D" (some 0) with kind := .array 7 .double, interfaces := #[3, 4], accessFlags := 1041 }

/-- the primitive int -/
def k9 : Class := { plain "int" none with kind := .primitive 'I', accessFlags := 0x411 }
/-- [I -/
def k10 : Class := { plain "[I" (some 0) with kind := .array 9 .int, interfaces := #[3, 4], accessFlags := 1041 }

def heap : Heap := #[]
def classes : Array Class := #[k0, k1, k2, k3, k4, k5, k6, k7, k8, k9, k10]
def interned : List (Array UInt16 × Addr) := []
def slotsUsed : Nat := 0
def theMethod : MethodId := ⟨1, 1⟩
def args0 : Array Value := #[.long 5, .int 7, .int 3, .int 7]
def aboutOver (below : List Frame) : State where
  vm := { classes := classes, interned := interned.toArray }
  heap := heap
  slotsUsed := slotsUsed
  threads := #[{ frames := .invoking theMethod args0 :: below }]
def below0 : List Frame := [.native { method := ⟨0, 0⟩, args := #[] }]
def about1 : State := aboutOver below0
def p0 : Program := .bare "" "" ""
def e0 : Env := launch0.env 0 0 0
theorem w_frames : about1.frames = Frame.invoking theMethod args0 :: below0 := rfl
set_option maxRecDepth 65536 in
theorem w_args : argsFit about1.vm theMethod args0 = true := by decide +kernel
set_option maxRecDepth 65536 in
theorem w_heap : heapFits about1 = true := by decide +kernel
set_option maxRecDepth 65536 in
theorem w_runnable : about1.curStatus? = some .runnable := by decide +kernel
set_option maxRecDepth 65536 in
theorem w_alone : about1.alone = true := by decide +kernel
set_option maxRecDepth 65536 in
theorem w_named : about1.methodNamed? x = some theMethod := by decide +kernel
set_option maxRecDepth 65536 in
theorem w_hears : about1.hears theMethod below0 = true := by decide +kernel
set_option maxRecDepth 65536 in
theorem w_ripe : about1.ripe theMethod args0 below0 = true := by decide +kernel
theorem w_running : about1.status = .running := rfl
set_option maxRecDepth 65536 in
theorem w_room : about1.hasRoom e0.platform room_1 = true :=
  launch0.hasRoom_least _ room_1 (by decide +kernel) (by decide +kernel) (by decide +kernel) (by decide +kernel) (by decide +kernel) (by decide +kernel)
theorem allAtoms_all (ts : List Jvm.Cond) (a : Array Jvm.Value) (st : Jvm.State) : (allAtoms ts).before a st = ts.all (fun c => c.before a st) := by
  induction ts with
  | nil => rfl
  | cons c t ih =>
    show (Jvm.Cond.and c (allAtoms t)).before a st = _
    rw [Jvm.Cond.before_and, ih, List.all_cons]
def words1 : List Jvm.Cond := Jvm.Cond.code x code maxLocals ret :: tables_1
/-- a 'code' word, met by the world's own term for the bytes: nothing is compared byte by byte -/
theorem code_word {y : MethodName} {bytes : ByteArray} {mx : Nat} {rt : Option FieldType} {a : Array Value} {s : State} {m : MethodId} {meth : Method} {c : Code} (h1 : s.methodNamed? y = some m) (h2 : s.vm.method? m = some meth) (h3 : meth.code = some c) (h4 : c.code = bytes)
    (h5 : (c.maxLocals == mx && c.exceptionTable.isEmpty && decide (c.maxStack ≤ mostOperands) && decide (meth.sig.returnType = rt) && !meth.locks && decide (parseMethodDescriptor y.desc = some meth.sig)) = true) : (Jvm.Cond.code y bytes mx rt).before a s = true := by
  simp only [Bool.and_eq_true, beq_iff_eq, Bool.not_eq_true', decide_eq_true_eq] at h5
  obtain ⟨⟨⟨⟨⟨g1, g2⟩, g3⟩, g4⟩, g5⟩, g6⟩ := h5
  simp [Cond.before, Cond.holds, Cond.value, h1, h2, h3, h4, g1, g2, g3, g4, g5, g6]
def isCode : Jvm.Cond → Bool
  | .code _ _ _ _ => true
  | _ => false
theorem all_split {L : List Jvm.Cond} {P : Jvm.Cond → Bool} (h1 : L.all (fun c => isCode c || P c) = true) (h2 : ∀ c ∈ L.filter isCode, P c = true) : L.all P = true := by
  refine List.all_eq_true.mpr fun c hc => ?_
  have h := List.all_eq_true.mp h1 c hc
  rcases Bool.eq_false_or_eq_true (isCode c) with hi | hi
  · exact h2 c (List.mem_filter.mpr ⟨hc, hi⟩)
  · simpa [hi] using h
set_option maxRecDepth 65536 in
theorem w_c0 : (Jvm.Cond.code x code maxLocals ret).before args0 about1 = true := code_word (m := ⟨1, 1⟩) (meth := k1m1) (c := k1c1) (by decide +kernel) rfl rfl rfl (by decide +kernel)
set_option maxRecDepth 65536 in
theorem w_c1 : (Jvm.Cond.code ({ cls := "com/example/crestwatch/crestwatch/core/ExactSum", name := "rounded", desc := "([DI)D" } : Jvm.MethodName) prog_28_method_5_code (11 : Nat) (Option.some Jvm.ClassFile.FieldType.double)).before args0 about1 = true := code_word (m := ⟨2, 1⟩) (meth := k2m1) (c := k2c1) (by decide +kernel) rfl rfl rfl (by decide +kernel)
def codes1 : List Jvm.Cond := [Jvm.Cond.code x code maxLocals ret, Jvm.Cond.code ({ cls := "com/example/crestwatch/crestwatch/core/ExactSum", name := "rounded", desc := "([DI)D" } : Jvm.MethodName) prog_28_method_5_code (11 : Nat) (Option.some Jvm.ClassFile.FieldType.double)]
set_option maxRecDepth 65536 in
theorem codes_eq : words1.filter isCode = codes1 := rfl
theorem w_codes : ∀ c ∈ words1.filter isCode, c.before args0 about1 = true := by
  rw [codes_eq]
  intro c hc
  simp only [codes1, List.mem_cons, List.not_mem_nil, or_false] at hc
  rcases hc with rfl | rfl
  · exact w_c0
  · exact w_c1
set_option maxRecDepth 65536 in
theorem w_t1 : words1.all (fun c => isCode c || c.before args0 about1) = true := by decide +kernel
theorem w_tables : (allAtoms (Jvm.Cond.code x code maxLocals ret :: tables_1)).before args0 about1 = true := by
  rw [allAtoms_all]
  show words1.all (fun c => c.before args0 about1) = true
  refine all_split ?_ w_codes
  rw [w_t1]
set_option maxRecDepth 65536 in
theorem w_case : (Jvm.Cond.and given_1 narrow_1).before args0 about1 = true := by decide +kernel
theorem w_applies : (headSpec (Jvm.Cond.code x code maxLocals ret :: tables_1) room_1).applies x e0.platform about1 = true :=
  (Spec.applies_iff w_frames).mpr ⟨w_running, w_runnable, w_alone, w_named, w_hears, w_ripe, w_room, w_tables⟩
theorem atStart : AtStart classFile x code maxLocals ret World_1 tables_1 room_1 Calls_1 rest_1 Pre_1 launch0 p0 e0 about1 theMethod args0 below0 :=
  ⟨lists_1, trivial, launch0.admits_env _ _ _, launch0.least_env, fairChoices_fair.cas, fairChoices_fair.clock, w_frames, w_args, w_heap, w_applies, trivial, trivial, w_case⟩
end start1
theorem witness_1 : WitnessClaimed_1 := ⟨start1.p0, start1.e0, start1.about1, start1.theMethod, start1.args0, start1.below0, start1.atStart⟩
end Jvm.Pilot.@@N@@
