import JvmDerived
import JvmDerived.Pilot.@@N@@Statement
import JvmDerived.Pilot.@@N@@Code
set_option linter.unusedVariables false
set_option linter.unusedSimpArgs false
namespace Jvm.RoadKit
open Sem ClassFile Op Lib Jvm.Stand Jvm.Free Jvm.LawKit
section New
variable {p : Program} {l : Launch} {e : Env} {R : Room} {s : State} {m : MethodId} {args : Array Value} {below : List Frame} {meth : Method} {c : Code} {T : State} {locs : List Loc} {cells slots : Nat}
theorem retI (X : Stand p l e R s m args below meth c T locs cells slots) (hx : p.tables.exec = Jvm.exec) {pc : Nat} {Ls : Array Slot} {z : Int32} {rest : List Value} (hret : meth.sig.returnType = some .int) (hd : decode c.code pc = .ok (.ireturn, 1)) {fs : List Frame}
    (hl : ∀ (f : JFrame) (acts : List Action), f.method = m → f.locked = none → f.entered = [] → (doReturn e (T.setTop f) acts (some (.int z))).1 = T.setFrames fs) : Steps p.tables e below (T.setTop (mkF m pc Ls (.int z :: rest))) (T.setFrames fs) := by
  have hm' : T.vm.method? m = some meth := X.method'
  have hn : narrow .int (.int z) = .int z := rfl
  show Steps p.tables e below (T.setTop { method := m, pc := pc, locals := Ls, stack := _ :: rest, locked := none }) _
  jvm_step X.here [X.here.top, hx, hd, hm', hret, hn]
  first | (intro acts; rw [hl _ acts rfl rfl rfl]) | rw [hl _ _ rfl rfl rfl]
  exact Steps.refl _
end New
end Jvm.RoadKit
namespace Jvm.Pilot.@@N@@
open Jvm Jvm.ClassFile Sem Op Lib Jvm.Free Jvm.Stand Jvm.LawKit Jvm.RoadKit Bundle Jvm.Free.Fl Jvm.Pilot.@@N@@.Jvm.D
/-! doubles that are whole numbers, and their halves: plain laws -/
theorem own_shape {i : Int} {x : UInt64} (h : FP.Core.DInt i x) (hi : i ≠ 0) :
    ∃ c q, FP.Core.val64 x = .fin (decide (i < 0)) c q ∧ 4503599627370496 ≤ c ∧ c < 9007199254740992 ∧ -52 ≤ q ∧ q ≤ 971 := by
  have hf := FP.Core.val64_fits x
  unfold FP.Core.DInt at h
  cases hv : FP.Core.val64 x with
  | nan => rw [hv] at h; exact h.elim
  | inf s => rw [hv] at h; exact h.elim
  | fin s c q =>
    rw [hv] at h hf
    obtain ⟨f1, f2, f3, f4⟩ := hf
    have e1 : (2 : Nat) ^ FP.Core.b64.p = 9007199254740992 := by decide +kernel
    have e2 : FP.Core.b64.tails = 4503599627370496 := by decide +kernel
    have e3 : FP.Core.b64.qmin = -1074 := by decide +kernel
    have e4 : FP.Core.b64.qmax = 971 := by decide +kernel
    rw [e1] at f1; rw [e3] at f2 f4; rw [e4] at f3; rw [e2] at f4
    have hs := FP.Core.whole_sign h hi
    have hq : -52 ≤ q := by
      refine Int.not_lt.mp fun hlt => ?_
      have hw := FP.Core.whole_natAbs h
      rw [show q.toNat = 0 by omega, Nat.pow_zero, Nat.mul_one] at hw
      have hp : 2 ^ 53 ≤ 2 ^ (-q).toNat := Nat.pow_le_pow_right (by decide) (by omega)
      have hn : 1 ≤ i.natAbs := by omega
      have := Nat.mul_le_mul hn hp
      rw [← hw] at this
      have e5 : (2 : Nat) ^ 53 = 9007199254740992 := by decide
      omega
    exact ⟨c, q, by rw [hs], by omega, f1, hq, f3⟩
theorem own_div2k {x K : UInt64} {s : Bool} {c : Nat} {q : Int} (k : Nat) (hx : FP.Core.val64 x = .fin s c q) (hK : FP.Core.val64 K = .fin false 4503599627370496 ((k : Int) - 52))
    (h1 : 4503599627370496 ≤ c) (h2 : c < 9007199254740992) (h3 : -1074 ≤ q - (k : Int)) (h4 : q ≤ 971) (hk : k ≤ 52) : FP.Core.val64 (FP.ddiv x K) = .fin s c (q - (k : Int)) := by
  show FP.Core.val64 (FP.Core.ddiv x K) = _
  rw [FP.Core.val64_ddiv, hx, hK]
  show (if (4503599627370496 : Nat) = 0 then (if c = 0 then FP.Core.Datum.nan else .inf (s != false)) else FP.Core.roundRatio FP.Core.b64 (s != false) c 4503599627370496 (q - ((k : Int) - 52))) = _
  rw [if_neg (by decide), show (s != false) = s by cases s <;> rfl]
  have e1 : (2 : Nat) ^ FP.Core.b64.p = 9007199254740992 := by decide +kernel
  have e2 : FP.Core.b64.tails = 4503599627370496 := by decide +kernel
  have e3 : FP.Core.b64.qmin = -1074 := by decide +kernel
  have e4 : FP.Core.b64.qmax = 971 := by decide +kernel
  refine FP.Core.roundRatio_exact FP.Core.good_b64 (by decide) ⟨by rw [e1]; exact h2, by rw [e3]; exact h3, by rw [e4]; omega, Or.inr (by rw [e2]; exact h1)⟩ ?_
  rw [show (q - ((k : Int) - 52) - (q - (k : Int))).toNat = 52 by omega, show (q - (k : Int) - (q - ((k : Int) - 52))).toNat = 0 by omega, show (2 : Nat) ^ 52 = 4503599627370496 by decide, Nat.pow_zero, Nat.mul_one]
theorem own_gt0 {x : UInt64} {c : Nat} {q : Int} (hx : FP.Core.val64 x = .fin false c q) (h1 : 0 < c) : FP.dcmp x 0 = some .gt := by
  show FP.Core.order (FP.Core.val64 x) (FP.Core.val64 0) = _
  rw [hx, show FP.Core.val64 0 = .fin false 0 FP.Core.b64.qmin by decide +kernel]
  show some (compare (FP.Core.signed false (FP.Core.inUnits c q (min q FP.Core.b64.qmin))) (FP.Core.signed false (FP.Core.inUnits 0 FP.Core.b64.qmin (min q FP.Core.b64.qmin)))) = _
  have hp : 0 < FP.Core.inUnits c q (min q FP.Core.b64.qmin) := Nat.mul_pos h1 (Nat.two_pow_pos _)
  have hz : FP.Core.inUnits 0 FP.Core.b64.qmin (min q FP.Core.b64.qmin) = 0 := Nat.zero_mul _
  rw [hz]
  generalize FP.Core.inUnits c q (min q FP.Core.b64.qmin) = u at hp
  show some (compare ((u : Nat) : Int) ((0 : Nat) : Int)) = _
  rw [FP.Core.compare_ite, if_neg (by omega), if_neg (by omega)]
theorem own_two : FP.Core.val64 4611686018427387904 = .fin false 4503599627370496 (-51) := by decide +kernel
theorem own_twoI : FP.Core.DInt 2 4611686018427387904 := by
  unfold FP.Core.DInt; rw [own_two]; show FP.Core.signed false (4503599627370496 * 2 ^ (-51 : Int).toNat) = 2 * ((2 ^ (-(-51 : Int)).toNat : Nat) : Int); decide +kernel
theorem own_half {i : Int} {x : UInt64} (h : FP.Core.DInt i x) : FP.Core.DInt i (FP.dmul (FP.ddiv x 4611686018427387904) 4611686018427387904) := by
  have e1 : (2 : Nat) ^ FP.Core.b64.p = 9007199254740992 := by decide +kernel
  have e2 : FP.Core.b64.tails = 4503599627370496 := by decide +kernel
  have e3 : FP.Core.b64.qmin = -1074 := by decide +kernel
  have e4 : FP.Core.b64.qmax = 971 := by decide +kernel
  by_cases hi : i = 0
  · subst hi
    unfold FP.Core.DInt at h ⊢
    cases hv : FP.Core.val64 x with
    | nan => rw [hv] at h; exact h.elim
    | inf s => rw [hv] at h; exact h.elim
    | fin s c q =>
      rw [hv] at h
      have hc := (FP.Core.whole_zero h).mpr rfl
      subst hc
      have h1 : FP.Core.val64 (FP.ddiv x 4611686018427387904) = .fin s 0 FP.Core.b64.qmin := by
        show FP.Core.val64 (FP.Core.ddiv x 4611686018427387904) = _
        rw [FP.Core.val64_ddiv, hv, own_two]
        show (if (4503599627370496 : Nat) = 0 then (if 0 = 0 then FP.Core.Datum.nan else .inf (s != false)) else FP.Core.roundRatio FP.Core.b64 (s != false) 0 4503599627370496 (q - (-51))) = _
        rw [if_neg (by decide), show (s != false) = s by cases s <;> rfl]
        unfold FP.Core.roundRatio
        rw [if_pos rfl]
      have h2 : FP.Core.val64 (FP.dmul (FP.ddiv x 4611686018427387904) 4611686018427387904) = .fin s 0 FP.Core.b64.qmin := by
        show FP.Core.val64 (FP.Core.dmul (FP.ddiv x 4611686018427387904) 4611686018427387904) = _
        rw [FP.Core.val64_dmul, h1, own_two]
        show FP.Core.roundRatio FP.Core.b64 (s != false) (0 * 4503599627370496) 1 (FP.Core.b64.qmin + -51) = _
        rw [show (s != false) = s by cases s <;> rfl, Nat.zero_mul]
        unfold FP.Core.roundRatio
        rw [if_pos rfl]
      rw [h2]
      show FP.Core.signed s (0 * 2 ^ FP.Core.b64.qmin.toNat) = 0 * _
      rw [Nat.zero_mul, Int.zero_mul, FP.Core.signed_zero]
  · obtain ⟨c, q, h1, h2, h3, h4, h5⟩ := own_shape h hi
    have h6 := own_div2k (K := 4611686018427387904) 1 h1 (by rw [own_two]; rfl) h2 h3 (by omega) h5 (by decide)
    have h7 : FP.Core.val64 (FP.dmul (FP.ddiv x 4611686018427387904) 4611686018427387904) = FP.Core.val64 x := by
      show FP.Core.val64 (FP.Core.dmul (FP.ddiv x 4611686018427387904) 4611686018427387904) = _
      rw [FP.Core.val64_dmul, h6, own_two, h1]
      show FP.Core.roundRatio FP.Core.b64 (decide (i < 0) != false) (c * 4503599627370496) 1 (q - ((1 : Nat) : Int) + -51) = _
      rw [show (decide (i < 0) != false) = decide (i < 0) by cases decide (i < 0) <;> rfl]
      refine FP.Core.roundRatio_exact FP.Core.good_b64 (by decide) ⟨by rw [e1]; exact h3, by rw [e3]; omega, by rw [e4]; omega, Or.inr (by rw [e2]; exact h2)⟩ ?_
      rw [show (q - ((1 : Nat) : Int) + -51 - q).toNat = 0 by omega, show (q - (q - ((1 : Nat) : Int) + -51)).toNat = 52 by omega, Nat.pow_zero, Nat.mul_one, Nat.mul_one, show (2 : Nat) ^ 52 = 4503599627370496 by decide]
    unfold FP.Core.DInt at h ⊢
    rw [h7]; exact h
theorem own_noNaN {i : Int} {x : UInt64} (h : FP.Core.DInt i x) : NoNaN64 x := val64_no.mpr (FP.Core.Whole.ne_nan h)
theorem own_cmp {i j : Int} {x y : UInt64} (hx : FP.Core.DInt i x) (hy : FP.Core.DInt j y) (h : i = j) (o : CmpOp) : cmpValue (FP.dcmp x y) o = (0 : Int32) := by
  rw [show FP.dcmp x y = some (compare i j) from FP.Core.dcmp_int hx hy, h, FP.Core.compare_self_int]; rfl
def OwnB (v : Int32) : Prop := -524288 ≤ v.toInt ∧ v.toInt ≤ 851962
theorem own_add {u v : Int32} (hu : OwnB u) (hv : OwnB v) : (u + v).toInt = u.toInt + v.toInt := by
  have h1 := c_iadd u v; have h2 := rng32 (u + v); have := hu.1; have := hu.2; have := hv.1; have := hv.2; omega
theorem own_sum {u v : Int32} (hu : OwnB u) (hv : OwnB v) : FP.Core.DInt (u.toInt + v.toInt) (FP.dadd (FP.i2d u) (FP.i2d v)) :=
  FP.Core.dadd_int (FP.Core.i2d_int u) (FP.Core.i2d_int v) (by have := hu.1; have := hu.2; have := hv.1; have := hv.2; have e : (2 : Nat) ^ 53 = 9007199254740992 := by decide
                                                               omega)
theorem own_n27 {u v : Int32} (hu : OwnB u) (hv : OwnB v) : NoNaN64 (FP.dadd (FP.i2d u) (FP.i2d v)) := own_noNaN (own_sum hu hv)
theorem own_n31 {u v : Int32} (hu : OwnB u) (hv : OwnB v) : NoNaN64 (FP.ddiv (FP.dadd (FP.i2d u) (FP.i2d v)) 4611686018427387904) := ddiv_out (own_n27 hu hv) (by unfold Fin64; decide) (by unfold Nz64; decide)
theorem own_even {u v : Int32} (hu : OwnB u) (hv : OwnB v) : cmpValue (FP.dcmp (FP.dmul (FP.ddiv (FP.dadd (FP.i2d u) (FP.i2d v)) 4611686018427387904) 4611686018427387904) (FP.i2d (u + v))) .l = (0 : Int32) :=
  own_cmp (own_half (own_sum hu hv)) (FP.Core.i2d_int (u + v)) (own_add hu hv).symm .l
theorem own_n209e {u v : Int32} (hu : OwnB u) (hv : OwnB v) : NoNaN64 (FP.dmul (FP.ddiv (FP.dadd (FP.i2d u) (FP.i2d v)) 4611686018427387904) 4611686018427387904) := own_noNaN (own_half (own_sum hu hv))
theorem own_dbl {u : Int32} (hu : OwnB u) : FP.Core.DInt (u.toInt * 2) (FP.dmul (FP.i2d u) 4611686018427387904) :=
  FP.Core.dmul_int (FP.Core.i2d_int u) own_twoI (by have := hu.1; have := hu.2; have e : (2 : Nat) ^ 53 = 9007199254740992 := by decide
                                                    omega)
theorem own_odd {u : Int32} (hu : OwnB u) : cmpValue (FP.dcmp (FP.dmul (FP.i2d u) 4611686018427387904) (FP.i2d (u + u))) .l = (0 : Int32) :=
  own_cmp (own_dbl hu) (FP.Core.i2d_int (u + u)) (by rw [own_add hu hu]; omega) .l
theorem own_n209o {u : Int32} (hu : OwnB u) : NoNaN64 (FP.dmul (FP.i2d u) 4611686018427387904) := own_noNaN (own_dbl hu)
theorem own_n (p : Int32) : (((p &&& (7 : Int32)) % (6 : Int32)) + (1 : Int32)) = 1 ∨ (((p &&& (7 : Int32)) % (6 : Int32)) + (1 : Int32)) = 2 ∨ (((p &&& (7 : Int32)) % (6 : Int32)) + (1 : Int32)) = 3 ∨ (((p &&& (7 : Int32)) % (6 : Int32)) + (1 : Int32)) = 4 ∨ (((p &&& (7 : Int32)) % (6 : Int32)) + (1 : Int32)) = 5 ∨ (((p &&& (7 : Int32)) % (6 : Int32)) + (1 : Int32)) = 6 := by
  have h1 := c_mask p (7 : Int32) 3 (by decide) (by decide)
  have h2 := c_irem (p &&& (7 : Int32)) (6 : Int32) 6 (by decide)
  have h3 := c_iadd ((p &&& (7 : Int32)) % (6 : Int32)) (1 : Int32)
  have h4 : (1 : Int32).toInt = 1 := by decide
  have h5 := rng32 (((p &&& (7 : Int32)) % (6 : Int32)) + (1 : Int32))
  have h6 := h2.1 (by omega)
  simp only [← Int32.toInt_inj]
  rw [show (1 : Int32).toInt = 1 by decide, show (2 : Int32).toInt = 2 by decide, show (3 : Int32).toInt = 3 by decide, show (4 : Int32).toInt = 4 by decide, show (5 : Int32).toInt = 5 by decide, show (6 : Int32).toInt = 6 by decide]
  omega
theorem own_b (p q1 q2 q3 q4 q5 v0 v1 v2 v3 v4 v5 : Int32) (hv0 : (((p >>> ((3 : Int32) &&& 31)) &&& (1048575 : Int32)) - (524288 : Int32)) = v0) (hv1 : (v0 + (q1 &&& (65535 : Int32))) = v1) (hv2 : (v1 + (q2 &&& (65535 : Int32))) = v2) (hv3 : (v2 + (q3 &&& (65535 : Int32))) = v3) (hv4 : (v3 + (q4 &&& (65535 : Int32))) = v4) (hv5 : (v4 + (q5 &&& (65535 : Int32))) = v5) :
    OwnB v0 ∧ OwnB v1 ∧ OwnB v2 ∧ OwnB v3 ∧ OwnB v4 ∧ OwnB v5 := by
  have k : ∀ q : Int32, 0 ≤ (q &&& (65535 : Int32)).toInt ∧ (q &&& (65535 : Int32)).toInt ≤ 65535 := fun q => by
    have := c_mask q (65535 : Int32) 16 (by decide) (by decide); omega
  have a0 : -524288 ≤ v0.toInt ∧ v0.toInt ≤ 524287 := by
    have h1 := c_mask (p >>> ((3 : Int32) &&& 31)) (1048575 : Int32) 20 (by decide) (by decide)
    have h2 := c_isub ((p >>> ((3 : Int32) &&& 31)) &&& (1048575 : Int32)) (524288 : Int32)
    have h3 : (524288 : Int32).toInt = 524288 := by decide
    have h4 := rng32 v0
    rw [hv0] at h2
    omega
  have step : ∀ {u w q : Int32} {A B : Int}, (u + (q &&& (65535 : Int32))) = w → -524288 ≤ u.toInt → u.toInt ≤ A → A + 65535 = B → B ≤ 851962 → -524288 ≤ w.toInt ∧ w.toInt ≤ B := fun {u w q A B} e h1 h2 h3 h4 => by
    have h5 := c_iadd u (q &&& (65535 : Int32)); have h6 := rng32 w; have h7 := k q
    rw [e] at h5
    omega
  have a1 := step hv1 a0.1 a0.2 rfl (by decide)
  have a2 := step hv2 a1.1 a1.2 rfl (by decide)
  have a3 := step hv3 a2.1 a2.2 rfl (by decide)
  have a4 := step hv4 a3.1 a3.2 rfl (by decide)
  have a5 := step hv5 a4.1 a4.2 rfl (by decide)
  unfold OwnB
  omega
theorem d0_0 : decode prog_17_method_6_code 0 = .ok (.aload_n 0, 1) := by decide +kernel
theorem d0_1 : decode prog_17_method_6_code 1 = .ok (.arraylength, 1) := by decide +kernel
theorem d0_2 : decode prog_17_method_6_code 2 = .ok (.iconst 2, 1) := by decide +kernel
theorem d0_3 : decode prog_17_method_6_code 3 = .ok (.idiv, 1) := by decide +kernel
theorem d0_4 : decode prog_17_method_6_code 4 = .ok (.istore_n 1, 1) := by decide +kernel
theorem d0_5 : decode prog_17_method_6_code 5 = .ok (.aload_n 0, 1) := by decide +kernel
theorem d0_6 : decode prog_17_method_6_code 6 = .ok (.arraylength, 1) := by decide +kernel
theorem d0_7 : decode prog_17_method_6_code 7 = .ok (.iconst 2, 1) := by decide +kernel
theorem d0_8 : decode prog_17_method_6_code 8 = .ok (.irem, 1) := by decide +kernel
theorem d0_9 : decode prog_17_method_6_code 9 = .ok (.iconst 1, 1) := by decide +kernel
theorem d0_10 : decode prog_17_method_6_code 10 = .ok (.if_icmp .ne 9, 3) := by decide +kernel
theorem d0_13 : decode prog_17_method_6_code 13 = .ok (.aload_n 0, 1) := by decide +kernel
theorem d0_14 : decode prog_17_method_6_code 14 = .ok (.iload_n 1, 1) := by decide +kernel
theorem d0_15 : decode prog_17_method_6_code 15 = .ok (.daload, 1) := by decide +kernel
theorem d0_16 : decode prog_17_method_6_code 16 = .ok (.goto 16, 3) := by decide +kernel
theorem d0_32 : decode prog_17_method_6_code 32 = .ok (.dreturn, 1) := by decide +kernel
theorem pn_0 : plainName "parkline/scenario/Bench" = true := by first | (simp [plainName, overriddenIn]; done) | decide +kernel
def Q_rmMed1 (Z : State) (ar : Addr) (ka : ClassId) (d0 : UInt64) (h0 : Heap) (n0 : Nat) (v : Option Value) (h : Heap) (L : List Loc) : Prop := v = some (.double d0) ∧ Fr n0 L ∧ h = h0
theorem ef_rmMed1 (m : MethodId) (ar : Addr) : entryFrame m #[(.ref ar)] 2 = mkF m 0 #[.val (.ref ar), .unset] [] := by first | (simp [entryFrame, mkF, argsToLocals, Value.category]; done) | rfl
set_option maxRecDepth 65536 in
set_option maxHeartbeats 40000000 in
theorem rmMed1 (l : Launch) (Z : State) (a0 : Array Value) (hw : ∀ d ∈ tables_1, d.before a0 Z = true) (ws : List Jvm.Cond) (ar : Addr) (ka : ClassId) (d0 : UInt64) (h0 : Heap) (n0 : Nat) (Z0 : n0 ≤ h0.size) (V_ar : Arv Z h0 ar ka .double (1 : Int32) [(.double d0)] (.double 0)) :
    MetFree l (⟨"parkline/scenario/Bench", "median", "([D)D"⟩ : MethodName) (head1 (Jvm.Cond.code (⟨"parkline/scenario/Bench", "median", "([D)D"⟩ : MethodName) prog_17_method_6_code 2 (some .double) :: ws) ({ frames := 0, cells := 0, slots := 0, locals := 0 } : Room)) (fun a U => a = #[(.ref ar)] ∧ Z.Warmed39 U.vm ∧ U.heap = h0) (fun _ _ _ _ _ => True) (fun _ U o U' => ∃ v L, o = .returned v ∧ Q_rmMed1 Z ar ka d0 h0 n0 v U'.heap L ∧ FrameEnd U o U' L ({ frames := 0, cells := 0, slots := 0, locals := 0 } : Room).cells ({ frames := 0, cells := 0, slots := 0, locals := 0 } : Room).slots) := by
  refine MetFree.of_bodySF (plainFor_of_name pn_0) hisR ?_
  intro p e s m args below meth c s₁ Bd hml0 hP hK
  obtain ⟨rfl, hZ, hh⟩ := hP
  have hx := Bd.exec
  have hby := Bd.bytes
  have hml : c.maxLocals = 2 := hml0
  have hown : s.vm.findClass "parkline/scenario/Bench" = some m.cls := findClass_of_methodNamed Bd.named
  have hnm := (name_of_methodNamed Bd.named Bd.method).1
  have X0 : Stand p l e ({ frames := 0, cells := 0, slots := 0, locals := 0 } : Room) s m #[(.ref ar)] below meth c s₁ [] 0 0 := Stand.of_body Bd
  have e0 : s₁.heap = h0 := by rw [← hh, Bd.state]; rfl
  have N0 := Fr.nil n0
  have pre0 : ∀ t, Steps p.tables e below (s₁.setTop (mkF m 0 #[.val (.ref ar), .unset] [])) t → Steps p.tables e below (s₁.setTop (entryFrame m #[(.ref ar)] 2)) t := fun t k => castTop (ef_rmMed1 m ar) k
  have Vc1 := V_ar
  obtain ⟨cl1, Ar1, -, S1, M1, -, -⟩ := Vc1
  have Vc2 := V_ar
  obtain ⟨cl2, Ar2, -, S2, M2, -, -⟩ := Vc2
  have Vc3 := V_ar
  obtain ⟨cl3, Ar3, q3, S3, M3, H3, G3⟩ := Vc3
  have hin3 : ¬ ((0 : Int32) < 0 ∨ cl3.slots.size ≤ ((0 : Int32)).toNatClampNeg) := inb_of S3 ⟨by decide, by decide⟩
  have hat3 : cl3.slots[((0 : Int32)).toNatClampNeg]? = some (.double d0) := Has.at H3 hin3 rfl
  obtain ⟨fs, hr, hrun, hended, hW, hsame⟩ := X0.leave (v := some (.double d0)) (fun h => by rw [Bd.returns] at h; cases h)
  refine ⟨_, _, pre0 _ ?_, hrun, hended, _, _, rfl, ?_, ⟨_, rfl⟩, hW, hsame.mono (by decide) (by decide)⟩
  · show Steps p.tables e below (s₁.setTop (mkF m 0 #[.val (.ref ar), .unset] [])) _
    refine XS.aloadN X0.here hx rfl (hb hby d0_0) rfl rfl ?_
    show Steps p.tables e below (s₁.setTop (mkF m 1 #[.val (.ref ar), .unset] [(.ref ar)])) _
    refine X0.arraylength hx (cell := cl1) (by rw [e0]; exact Ar1.1) (State.isArrayOf_alike hZ.alike Ar1.2.1) (g := (mkF m 1 #[.val (.ref ar), .unset] [(.ref ar)])) rfl (rest := []) rfl (hb hby d0_1) _ ?_
    rw [len_of S1 M1]
    show Steps p.tables e below (s₁.setTop (mkF m 2 #[.val (.ref ar), .unset] [(.int (1 : Int32))])) _
    refine XS.iconst X0.here hx rfl (hb hby d0_2) ?_
    show Steps p.tables e below (s₁.setTop (mkF m 3 #[.val (.ref ar), .unset] [(.int (2 : Int32)), (.int (1 : Int32))])) _
    refine XS.idiv X0.here hx rfl (hb hby d0_3) rfl (by decide) ?_
    show Steps p.tables e below (s₁.setTop (mkF m 4 #[.val (.ref ar), .unset] [(.int ((1 : Int32) / (2 : Int32)))])) _
    rw [show ((1 : Int32) / (2 : Int32)) = (0 : Int32) from by decide]
    show Steps p.tables e below (s₁.setTop (mkF m 4 #[.val (.ref ar), .unset] [(.int (0 : Int32))])) _
    refine XS.istoreN X0.here hx rfl (hb hby d0_4) rfl (l' := #[.val (.ref ar), .val (.int (0 : Int32))]) rfl ?_
    show Steps p.tables e below (s₁.setTop (mkF m 5 #[.val (.ref ar), .val (.int (0 : Int32))] [])) _
    refine XS.aloadN X0.here hx rfl (hb hby d0_5) rfl rfl ?_
    show Steps p.tables e below (s₁.setTop (mkF m 6 #[.val (.ref ar), .val (.int (0 : Int32))] [(.ref ar)])) _
    refine X0.arraylength hx (cell := cl2) (by rw [e0]; exact Ar2.1) (State.isArrayOf_alike hZ.alike Ar2.2.1) (g := (mkF m 6 #[.val (.ref ar), .val (.int (0 : Int32))] [(.ref ar)])) rfl (rest := []) rfl (hb hby d0_6) _ ?_
    rw [len_of S2 M2]
    show Steps p.tables e below (s₁.setTop (mkF m 7 #[.val (.ref ar), .val (.int (0 : Int32))] [(.int (1 : Int32))])) _
    refine XS.iconst X0.here hx rfl (hb hby d0_7) ?_
    show Steps p.tables e below (s₁.setTop (mkF m 8 #[.val (.ref ar), .val (.int (0 : Int32))] [(.int (2 : Int32)), (.int (1 : Int32))])) _
    refine iremM X0 hx (g := (mkF m 8 #[.val (.ref ar), .val (.int (0 : Int32))] [(.int (2 : Int32)), (.int (1 : Int32))])) rfl (hb hby d0_8) rfl (by decide) ?_
    show Steps p.tables e below (s₁.setTop (mkF m 9 #[.val (.ref ar), .val (.int (0 : Int32))] [(.int ((1 : Int32) % (2 : Int32)))])) _
    rw [show ((1 : Int32) % (2 : Int32)) = (1 : Int32) from by decide]
    show Steps p.tables e below (s₁.setTop (mkF m 9 #[.val (.ref ar), .val (.int (0 : Int32))] [(.int (1 : Int32))])) _
    refine XS.iconst X0.here hx rfl (hb hby d0_9) ?_
    show Steps p.tables e below (s₁.setTop (mkF m 10 #[.val (.ref ar), .val (.int (0 : Int32))] [(.int (1 : Int32)), (.int (1 : Int32))])) _
    refine XS.icmpNo X0.here hx rfl (hb hby d0_10) rfl (teq (rfl : (1 : Int32) = (1 : Int32))).2 ?_
    show Steps p.tables e below (s₁.setTop (mkF m 13 #[.val (.ref ar), .val (.int (0 : Int32))] [])) _
    refine XS.aloadN X0.here hx rfl (hb hby d0_13) rfl rfl ?_
    show Steps p.tables e below (s₁.setTop (mkF m 14 #[.val (.ref ar), .val (.int (0 : Int32))] [(.ref ar)])) _
    refine XS.iloadN X0.here hx rfl (hb hby d0_14) rfl ?_
    show Steps p.tables e below (s₁.setTop (mkF m 15 #[.val (.ref ar), .val (.int (0 : Int32))] [(.int (0 : Int32)), (.ref ar)])) _
    refine X0.daload hx (j := (0 : Int32)) (v := (.double d0)) (by rw [e0]; exact Ar3.1) (State.isArrayOf_alike hZ.alike Ar3.2.1) Ar3.2.2 hin3 hat3 (g := (mkF m 15 #[.val (.ref ar), .val (.int (0 : Int32))] [(.int (0 : Int32)), (.ref ar)])) rfl rfl (hb hby d0_15) _ ?_
    show Steps p.tables e below (s₁.setTop (mkF m 16 #[.val (.ref ar), .val (.int (0 : Int32))] [(.double d0)])) _
    refine XS.goto X0.here hx rfl (pc0 := 16) (pc' := 32) rfl (hb hby d0_16) (by decide) (by decide) ?_
    show Steps p.tables e below (s₁.setTop (mkF m 32 #[.val (.ref ar), .val (.int (0 : Int32))] [(.double d0)])) _
    exact retOut X0 hx Bd.returns rfl (Or.inr (Or.inr (Or.inl ⟨rfl, rfl, _, rfl⟩))) (hb hby d0_32) hr
  · show Q_rmMed1 Z ar ka d0 h0 n0 _ s₁.heap _
    rw [e0]
    exact ⟨rfl, N0, rfl⟩
theorem d0_19 : decode prog_17_method_6_code 19 = .ok (.aload_n 0, 1) := by decide +kernel
theorem d0_20 : decode prog_17_method_6_code 20 = .ok (.iload_n 1, 1) := by decide +kernel
theorem d0_21 : decode prog_17_method_6_code 21 = .ok (.iconst 1, 1) := by decide +kernel
theorem d0_22 : decode prog_17_method_6_code 22 = .ok (.isub, 1) := by decide +kernel
theorem d0_23 : decode prog_17_method_6_code 23 = .ok (.daload, 1) := by decide +kernel
theorem d0_24 : decode prog_17_method_6_code 24 = .ok (.aload_n 0, 1) := by decide +kernel
theorem d0_25 : decode prog_17_method_6_code 25 = .ok (.iload_n 1, 1) := by decide +kernel
theorem d0_26 : decode prog_17_method_6_code 26 = .ok (.daload, 1) := by decide +kernel
theorem d0_27 : decode prog_17_method_6_code 27 = .ok (.dadd, 1) := by decide +kernel
theorem d0_28 : decode prog_17_method_6_code 28 = .ok (.ldc2_w 79, 3) := by decide +kernel
theorem d0_31 : decode prog_17_method_6_code 31 = .ok (.ddiv, 1) := by decide +kernel
def Q_rmMed2 (Z : State) (ar : Addr) (ka : ClassId) (d0 : UInt64) (d1 : UInt64) (h0 : Heap) (n0 : Nat) (v : Option Value) (h : Heap) (L : List Loc) : Prop := v = some (.double (FP.ddiv (FP.dadd d0 d1) 4611686018427387904)) ∧ Fr n0 L ∧ h = h0
theorem ef_rmMed2 (m : MethodId) (ar : Addr) : entryFrame m #[(.ref ar)] 2 = mkF m 0 #[.val (.ref ar), .unset] [] := by first | (simp [entryFrame, mkF, argsToLocals, Value.category]; done) | rfl
set_option maxRecDepth 65536 in
set_option maxHeartbeats 40000000 in
theorem rmMed2 (l : Launch) (Z : State) (a0 : Array Value) (hw : ∀ d ∈ tables_1, d.before a0 Z = true) (ws : List Jvm.Cond) (ar : Addr) (ka : ClassId) (d0 : UInt64) (d1 : UInt64) (h0 : Heap) (n0 : Nat) (Z0 : n0 ≤ h0.size) (V_ar : Arv Z h0 ar ka .double (2 : Int32) [(.double d0), (.double d1)] (.double 0)) (nn27 : NoNaN64 (FP.dadd d0 d1)) (nn31 : NoNaN64 (FP.ddiv (FP.dadd d0 d1) 4611686018427387904)) :
    MetFree l (⟨"parkline/scenario/Bench", "median", "([D)D"⟩ : MethodName) (head1 (Jvm.Cond.code (⟨"parkline/scenario/Bench", "median", "([D)D"⟩ : MethodName) prog_17_method_6_code 2 (some .double) :: ws) ({ frames := 0, cells := 0, slots := 0, locals := 0 } : Room)) (fun a U => a = #[(.ref ar)] ∧ Z.Warmed39 U.vm ∧ U.heap = h0) (fun _ _ _ _ _ => True) (fun _ U o U' => ∃ v L, o = .returned v ∧ Q_rmMed2 Z ar ka d0 d1 h0 n0 v U'.heap L ∧ FrameEnd U o U' L ({ frames := 0, cells := 0, slots := 0, locals := 0 } : Room).cells ({ frames := 0, cells := 0, slots := 0, locals := 0 } : Room).slots) := by
  refine MetFree.of_bodySF (plainFor_of_name pn_0) hisR ?_
  intro p e s m args below meth c s₁ Bd hml0 hP hK
  obtain ⟨rfl, hZ, hh⟩ := hP
  have hx := Bd.exec
  have hby := Bd.bytes
  have hml : c.maxLocals = 2 := hml0
  have hown : s.vm.findClass "parkline/scenario/Bench" = some m.cls := findClass_of_methodNamed Bd.named
  have hnm := (name_of_methodNamed Bd.named Bd.method).1
  have X0 : Stand p l e ({ frames := 0, cells := 0, slots := 0, locals := 0 } : Room) s m #[(.ref ar)] below meth c s₁ [] 0 0 := Stand.of_body Bd
  have e0 : s₁.heap = h0 := by rw [← hh, Bd.state]; rfl
  have N0 := Fr.nil n0
  have pre0 : ∀ t, Steps p.tables e below (s₁.setTop (mkF m 0 #[.val (.ref ar), .unset] [])) t → Steps p.tables e below (s₁.setTop (entryFrame m #[(.ref ar)] 2)) t := fun t k => castTop (ef_rmMed2 m ar) k
  have Vc1 := V_ar
  obtain ⟨cl1, Ar1, -, S1, M1, -, -⟩ := Vc1
  have Vc2 := V_ar
  obtain ⟨cl2, Ar2, -, S2, M2, -, -⟩ := Vc2
  have Vc3 := V_ar
  obtain ⟨cl3, Ar3, q3, S3, M3, H3, G3⟩ := Vc3
  have hin3 : ¬ ((0 : Int32) < 0 ∨ cl3.slots.size ≤ ((0 : Int32)).toNatClampNeg) := inb_of S3 ⟨by decide, by decide⟩
  have hat3 : cl3.slots[((0 : Int32)).toNatClampNeg]? = some (.double d0) := Has.at H3 hin3 rfl
  have Vc4 := V_ar
  obtain ⟨cl4, Ar4, q4, S4, M4, H4, G4⟩ := Vc4
  have hin4 : ¬ ((1 : Int32) < 0 ∨ cl4.slots.size ≤ ((1 : Int32)).toNatClampNeg) := inb_of S4 ⟨by decide, by decide⟩
  have hat4 : cl4.slots[((1 : Int32)).toNatClampNeg]? = some (.double d1) := Has.at H4 hin4 rfl
  obtain ⟨fs, hr, hrun, hended, hW, hsame⟩ := X0.leave (v := some (.double (FP.ddiv (FP.dadd d0 d1) 4611686018427387904))) (fun h => by rw [Bd.returns] at h; cases h)
  refine ⟨_, _, pre0 _ ?_, hrun, hended, _, _, rfl, ?_, ⟨_, rfl⟩, hW, hsame.mono (by decide) (by decide)⟩
  · show Steps p.tables e below (s₁.setTop (mkF m 0 #[.val (.ref ar), .unset] [])) _
    refine XS.aloadN X0.here hx rfl (hb hby d0_0) rfl rfl ?_
    show Steps p.tables e below (s₁.setTop (mkF m 1 #[.val (.ref ar), .unset] [(.ref ar)])) _
    refine X0.arraylength hx (cell := cl1) (by rw [e0]; exact Ar1.1) (State.isArrayOf_alike hZ.alike Ar1.2.1) (g := (mkF m 1 #[.val (.ref ar), .unset] [(.ref ar)])) rfl (rest := []) rfl (hb hby d0_1) _ ?_
    rw [len_of S1 M1]
    show Steps p.tables e below (s₁.setTop (mkF m 2 #[.val (.ref ar), .unset] [(.int (2 : Int32))])) _
    refine XS.iconst X0.here hx rfl (hb hby d0_2) ?_
    show Steps p.tables e below (s₁.setTop (mkF m 3 #[.val (.ref ar), .unset] [(.int (2 : Int32)), (.int (2 : Int32))])) _
    refine XS.idiv X0.here hx rfl (hb hby d0_3) rfl (by decide) ?_
    show Steps p.tables e below (s₁.setTop (mkF m 4 #[.val (.ref ar), .unset] [(.int ((2 : Int32) / (2 : Int32)))])) _
    rw [show ((2 : Int32) / (2 : Int32)) = (1 : Int32) from by decide]
    show Steps p.tables e below (s₁.setTop (mkF m 4 #[.val (.ref ar), .unset] [(.int (1 : Int32))])) _
    refine XS.istoreN X0.here hx rfl (hb hby d0_4) rfl (l' := #[.val (.ref ar), .val (.int (1 : Int32))]) rfl ?_
    show Steps p.tables e below (s₁.setTop (mkF m 5 #[.val (.ref ar), .val (.int (1 : Int32))] [])) _
    refine XS.aloadN X0.here hx rfl (hb hby d0_5) rfl rfl ?_
    show Steps p.tables e below (s₁.setTop (mkF m 6 #[.val (.ref ar), .val (.int (1 : Int32))] [(.ref ar)])) _
    refine X0.arraylength hx (cell := cl2) (by rw [e0]; exact Ar2.1) (State.isArrayOf_alike hZ.alike Ar2.2.1) (g := (mkF m 6 #[.val (.ref ar), .val (.int (1 : Int32))] [(.ref ar)])) rfl (rest := []) rfl (hb hby d0_6) _ ?_
    rw [len_of S2 M2]
    show Steps p.tables e below (s₁.setTop (mkF m 7 #[.val (.ref ar), .val (.int (1 : Int32))] [(.int (2 : Int32))])) _
    refine XS.iconst X0.here hx rfl (hb hby d0_7) ?_
    show Steps p.tables e below (s₁.setTop (mkF m 8 #[.val (.ref ar), .val (.int (1 : Int32))] [(.int (2 : Int32)), (.int (2 : Int32))])) _
    refine iremM X0 hx (g := (mkF m 8 #[.val (.ref ar), .val (.int (1 : Int32))] [(.int (2 : Int32)), (.int (2 : Int32))])) rfl (hb hby d0_8) rfl (by decide) ?_
    show Steps p.tables e below (s₁.setTop (mkF m 9 #[.val (.ref ar), .val (.int (1 : Int32))] [(.int ((2 : Int32) % (2 : Int32)))])) _
    rw [show ((2 : Int32) % (2 : Int32)) = (0 : Int32) from by decide]
    show Steps p.tables e below (s₁.setTop (mkF m 9 #[.val (.ref ar), .val (.int (1 : Int32))] [(.int (0 : Int32))])) _
    refine XS.iconst X0.here hx rfl (hb hby d0_9) ?_
    show Steps p.tables e below (s₁.setTop (mkF m 10 #[.val (.ref ar), .val (.int (1 : Int32))] [(.int (1 : Int32)), (.int (0 : Int32))])) _
    refine XS.icmpYes X0.here hx rfl (pc0 := 10) (pc' := 19) rfl (hb hby d0_10) rfl (feq (by decide : ¬ ((0 : Int32) = (1 : Int32)))).2 (by decide) (by decide) ?_
    show Steps p.tables e below (s₁.setTop (mkF m 19 #[.val (.ref ar), .val (.int (1 : Int32))] [])) _
    refine XS.aloadN X0.here hx rfl (hb hby d0_19) rfl rfl ?_
    show Steps p.tables e below (s₁.setTop (mkF m 20 #[.val (.ref ar), .val (.int (1 : Int32))] [(.ref ar)])) _
    refine XS.iloadN X0.here hx rfl (hb hby d0_20) rfl ?_
    show Steps p.tables e below (s₁.setTop (mkF m 21 #[.val (.ref ar), .val (.int (1 : Int32))] [(.int (1 : Int32)), (.ref ar)])) _
    refine XS.iconst X0.here hx rfl (hb hby d0_21) ?_
    show Steps p.tables e below (s₁.setTop (mkF m 22 #[.val (.ref ar), .val (.int (1 : Int32))] [(.int (1 : Int32)), (.int (1 : Int32)), (.ref ar)])) _
    refine XS.isub X0.here hx rfl (hb hby d0_22) rfl ?_
    show Steps p.tables e below (s₁.setTop (mkF m 23 #[.val (.ref ar), .val (.int (1 : Int32))] [(.int ((1 : Int32) - (1 : Int32))), (.ref ar)])) _
    rw [show ((1 : Int32) - (1 : Int32)) = (0 : Int32) from by decide]
    show Steps p.tables e below (s₁.setTop (mkF m 23 #[.val (.ref ar), .val (.int (1 : Int32))] [(.int (0 : Int32)), (.ref ar)])) _
    refine X0.daload hx (j := (0 : Int32)) (v := (.double d0)) (by rw [e0]; exact Ar3.1) (State.isArrayOf_alike hZ.alike Ar3.2.1) Ar3.2.2 hin3 hat3 (g := (mkF m 23 #[.val (.ref ar), .val (.int (1 : Int32))] [(.int (0 : Int32)), (.ref ar)])) rfl rfl (hb hby d0_23) _ ?_
    show Steps p.tables e below (s₁.setTop (mkF m 24 #[.val (.ref ar), .val (.int (1 : Int32))] [(.double d0)])) _
    refine XS.aloadN X0.here hx rfl (hb hby d0_24) rfl rfl ?_
    show Steps p.tables e below (s₁.setTop (mkF m 25 #[.val (.ref ar), .val (.int (1 : Int32))] [(.ref ar), (.double d0)])) _
    refine XS.iloadN X0.here hx rfl (hb hby d0_25) rfl ?_
    show Steps p.tables e below (s₁.setTop (mkF m 26 #[.val (.ref ar), .val (.int (1 : Int32))] [(.int (1 : Int32)), (.ref ar), (.double d0)])) _
    refine X0.daload hx (j := (1 : Int32)) (v := (.double d1)) (by rw [e0]; exact Ar4.1) (State.isArrayOf_alike hZ.alike Ar4.2.1) Ar4.2.2 hin4 hat4 (g := (mkF m 26 #[.val (.ref ar), .val (.int (1 : Int32))] [(.int (1 : Int32)), (.ref ar), (.double d0)])) rfl rfl (hb hby d0_26) _ ?_
    show Steps p.tables e below (s₁.setTop (mkF m 27 #[.val (.ref ar), .val (.int (1 : Int32))] [(.double d1), (.double d0)])) _
    refine XS.daddS X0.here hx rfl (hb hby d0_27) rfl nn27 rfl ?_
    show Steps p.tables e below (s₁.setTop (mkF m 28 #[.val (.ref ar), .val (.int (1 : Int32))] [(.double (FP.dadd d0 d1))])) _
    refine X0.ldc2DoubleC hx hown (mvT hZ (hw _ (List.mem_of_getElem? (i := 10) rfl))) (g := (mkF m 28 #[.val (.ref ar), .val (.int (1 : Int32))] [(.double (FP.dadd d0 d1))])) rfl (hb hby d0_28) _ ?_
    show Steps p.tables e below (s₁.setTop (mkF m 31 #[.val (.ref ar), .val (.int (1 : Int32))] [(.double 4611686018427387904), (.double (FP.dadd d0 d1))])) _
    refine XS.ddivS X0.here hx rfl (hb hby d0_31) rfl nn31 rfl ?_
    show Steps p.tables e below (s₁.setTop (mkF m 32 #[.val (.ref ar), .val (.int (1 : Int32))] [(.double (FP.ddiv (FP.dadd d0 d1) 4611686018427387904))])) _
    exact retOut X0 hx Bd.returns rfl (Or.inr (Or.inr (Or.inl ⟨rfl, rfl, _, rfl⟩))) (hb hby d0_32) hr
  · show Q_rmMed2 Z ar ka d0 d1 h0 n0 _ s₁.heap _
    rw [e0]
    exact ⟨rfl, N0, rfl⟩
def Q_rmMed3 (Z : State) (ar : Addr) (ka : ClassId) (d0 : UInt64) (d1 : UInt64) (d2 : UInt64) (h0 : Heap) (n0 : Nat) (v : Option Value) (h : Heap) (L : List Loc) : Prop := v = some (.double d1) ∧ Fr n0 L ∧ h = h0
theorem ef_rmMed3 (m : MethodId) (ar : Addr) : entryFrame m #[(.ref ar)] 2 = mkF m 0 #[.val (.ref ar), .unset] [] := by first | (simp [entryFrame, mkF, argsToLocals, Value.category]; done) | rfl
set_option maxRecDepth 65536 in
set_option maxHeartbeats 40000000 in
theorem rmMed3 (l : Launch) (Z : State) (a0 : Array Value) (hw : ∀ d ∈ tables_1, d.before a0 Z = true) (ws : List Jvm.Cond) (ar : Addr) (ka : ClassId) (d0 : UInt64) (d1 : UInt64) (d2 : UInt64) (h0 : Heap) (n0 : Nat) (Z0 : n0 ≤ h0.size) (V_ar : Arv Z h0 ar ka .double (3 : Int32) [(.double d0), (.double d1), (.double d2)] (.double 0)) :
    MetFree l (⟨"parkline/scenario/Bench", "median", "([D)D"⟩ : MethodName) (head1 (Jvm.Cond.code (⟨"parkline/scenario/Bench", "median", "([D)D"⟩ : MethodName) prog_17_method_6_code 2 (some .double) :: ws) ({ frames := 0, cells := 0, slots := 0, locals := 0 } : Room)) (fun a U => a = #[(.ref ar)] ∧ Z.Warmed39 U.vm ∧ U.heap = h0) (fun _ _ _ _ _ => True) (fun _ U o U' => ∃ v L, o = .returned v ∧ Q_rmMed3 Z ar ka d0 d1 d2 h0 n0 v U'.heap L ∧ FrameEnd U o U' L ({ frames := 0, cells := 0, slots := 0, locals := 0 } : Room).cells ({ frames := 0, cells := 0, slots := 0, locals := 0 } : Room).slots) := by
  refine MetFree.of_bodySF (plainFor_of_name pn_0) hisR ?_
  intro p e s m args below meth c s₁ Bd hml0 hP hK
  obtain ⟨rfl, hZ, hh⟩ := hP
  have hx := Bd.exec
  have hby := Bd.bytes
  have hml : c.maxLocals = 2 := hml0
  have hown : s.vm.findClass "parkline/scenario/Bench" = some m.cls := findClass_of_methodNamed Bd.named
  have hnm := (name_of_methodNamed Bd.named Bd.method).1
  have X0 : Stand p l e ({ frames := 0, cells := 0, slots := 0, locals := 0 } : Room) s m #[(.ref ar)] below meth c s₁ [] 0 0 := Stand.of_body Bd
  have e0 : s₁.heap = h0 := by rw [← hh, Bd.state]; rfl
  have N0 := Fr.nil n0
  have pre0 : ∀ t, Steps p.tables e below (s₁.setTop (mkF m 0 #[.val (.ref ar), .unset] [])) t → Steps p.tables e below (s₁.setTop (entryFrame m #[(.ref ar)] 2)) t := fun t k => castTop (ef_rmMed3 m ar) k
  have Vc1 := V_ar
  obtain ⟨cl1, Ar1, -, S1, M1, -, -⟩ := Vc1
  have Vc2 := V_ar
  obtain ⟨cl2, Ar2, -, S2, M2, -, -⟩ := Vc2
  have Vc3 := V_ar
  obtain ⟨cl3, Ar3, q3, S3, M3, H3, G3⟩ := Vc3
  have hin3 : ¬ ((1 : Int32) < 0 ∨ cl3.slots.size ≤ ((1 : Int32)).toNatClampNeg) := inb_of S3 ⟨by decide, by decide⟩
  have hat3 : cl3.slots[((1 : Int32)).toNatClampNeg]? = some (.double d1) := Has.at H3 hin3 rfl
  obtain ⟨fs, hr, hrun, hended, hW, hsame⟩ := X0.leave (v := some (.double d1)) (fun h => by rw [Bd.returns] at h; cases h)
  refine ⟨_, _, pre0 _ ?_, hrun, hended, _, _, rfl, ?_, ⟨_, rfl⟩, hW, hsame.mono (by decide) (by decide)⟩
  · show Steps p.tables e below (s₁.setTop (mkF m 0 #[.val (.ref ar), .unset] [])) _
    refine XS.aloadN X0.here hx rfl (hb hby d0_0) rfl rfl ?_
    show Steps p.tables e below (s₁.setTop (mkF m 1 #[.val (.ref ar), .unset] [(.ref ar)])) _
    refine X0.arraylength hx (cell := cl1) (by rw [e0]; exact Ar1.1) (State.isArrayOf_alike hZ.alike Ar1.2.1) (g := (mkF m 1 #[.val (.ref ar), .unset] [(.ref ar)])) rfl (rest := []) rfl (hb hby d0_1) _ ?_
    rw [len_of S1 M1]
    show Steps p.tables e below (s₁.setTop (mkF m 2 #[.val (.ref ar), .unset] [(.int (3 : Int32))])) _
    refine XS.iconst X0.here hx rfl (hb hby d0_2) ?_
    show Steps p.tables e below (s₁.setTop (mkF m 3 #[.val (.ref ar), .unset] [(.int (2 : Int32)), (.int (3 : Int32))])) _
    refine XS.idiv X0.here hx rfl (hb hby d0_3) rfl (by decide) ?_
    show Steps p.tables e below (s₁.setTop (mkF m 4 #[.val (.ref ar), .unset] [(.int ((3 : Int32) / (2 : Int32)))])) _
    rw [show ((3 : Int32) / (2 : Int32)) = (1 : Int32) from by decide]
    show Steps p.tables e below (s₁.setTop (mkF m 4 #[.val (.ref ar), .unset] [(.int (1 : Int32))])) _
    refine XS.istoreN X0.here hx rfl (hb hby d0_4) rfl (l' := #[.val (.ref ar), .val (.int (1 : Int32))]) rfl ?_
    show Steps p.tables e below (s₁.setTop (mkF m 5 #[.val (.ref ar), .val (.int (1 : Int32))] [])) _
    refine XS.aloadN X0.here hx rfl (hb hby d0_5) rfl rfl ?_
    show Steps p.tables e below (s₁.setTop (mkF m 6 #[.val (.ref ar), .val (.int (1 : Int32))] [(.ref ar)])) _
    refine X0.arraylength hx (cell := cl2) (by rw [e0]; exact Ar2.1) (State.isArrayOf_alike hZ.alike Ar2.2.1) (g := (mkF m 6 #[.val (.ref ar), .val (.int (1 : Int32))] [(.ref ar)])) rfl (rest := []) rfl (hb hby d0_6) _ ?_
    rw [len_of S2 M2]
    show Steps p.tables e below (s₁.setTop (mkF m 7 #[.val (.ref ar), .val (.int (1 : Int32))] [(.int (3 : Int32))])) _
    refine XS.iconst X0.here hx rfl (hb hby d0_7) ?_
    show Steps p.tables e below (s₁.setTop (mkF m 8 #[.val (.ref ar), .val (.int (1 : Int32))] [(.int (2 : Int32)), (.int (3 : Int32))])) _
    refine iremM X0 hx (g := (mkF m 8 #[.val (.ref ar), .val (.int (1 : Int32))] [(.int (2 : Int32)), (.int (3 : Int32))])) rfl (hb hby d0_8) rfl (by decide) ?_
    show Steps p.tables e below (s₁.setTop (mkF m 9 #[.val (.ref ar), .val (.int (1 : Int32))] [(.int ((3 : Int32) % (2 : Int32)))])) _
    rw [show ((3 : Int32) % (2 : Int32)) = (1 : Int32) from by decide]
    show Steps p.tables e below (s₁.setTop (mkF m 9 #[.val (.ref ar), .val (.int (1 : Int32))] [(.int (1 : Int32))])) _
    refine XS.iconst X0.here hx rfl (hb hby d0_9) ?_
    show Steps p.tables e below (s₁.setTop (mkF m 10 #[.val (.ref ar), .val (.int (1 : Int32))] [(.int (1 : Int32)), (.int (1 : Int32))])) _
    refine XS.icmpNo X0.here hx rfl (hb hby d0_10) rfl (teq (rfl : (1 : Int32) = (1 : Int32))).2 ?_
    show Steps p.tables e below (s₁.setTop (mkF m 13 #[.val (.ref ar), .val (.int (1 : Int32))] [])) _
    refine XS.aloadN X0.here hx rfl (hb hby d0_13) rfl rfl ?_
    show Steps p.tables e below (s₁.setTop (mkF m 14 #[.val (.ref ar), .val (.int (1 : Int32))] [(.ref ar)])) _
    refine XS.iloadN X0.here hx rfl (hb hby d0_14) rfl ?_
    show Steps p.tables e below (s₁.setTop (mkF m 15 #[.val (.ref ar), .val (.int (1 : Int32))] [(.int (1 : Int32)), (.ref ar)])) _
    refine X0.daload hx (j := (1 : Int32)) (v := (.double d1)) (by rw [e0]; exact Ar3.1) (State.isArrayOf_alike hZ.alike Ar3.2.1) Ar3.2.2 hin3 hat3 (g := (mkF m 15 #[.val (.ref ar), .val (.int (1 : Int32))] [(.int (1 : Int32)), (.ref ar)])) rfl rfl (hb hby d0_15) _ ?_
    show Steps p.tables e below (s₁.setTop (mkF m 16 #[.val (.ref ar), .val (.int (1 : Int32))] [(.double d1)])) _
    refine XS.goto X0.here hx rfl (pc0 := 16) (pc' := 32) rfl (hb hby d0_16) (by decide) (by decide) ?_
    show Steps p.tables e below (s₁.setTop (mkF m 32 #[.val (.ref ar), .val (.int (1 : Int32))] [(.double d1)])) _
    exact retOut X0 hx Bd.returns rfl (Or.inr (Or.inr (Or.inl ⟨rfl, rfl, _, rfl⟩))) (hb hby d0_32) hr
  · show Q_rmMed3 Z ar ka d0 d1 d2 h0 n0 _ s₁.heap _
    rw [e0]
    exact ⟨rfl, N0, rfl⟩
def Q_rmMed4 (Z : State) (ar : Addr) (ka : ClassId) (d0 : UInt64) (d1 : UInt64) (d2 : UInt64) (d3 : UInt64) (h0 : Heap) (n0 : Nat) (v : Option Value) (h : Heap) (L : List Loc) : Prop := v = some (.double (FP.ddiv (FP.dadd d1 d2) 4611686018427387904)) ∧ Fr n0 L ∧ h = h0
theorem ef_rmMed4 (m : MethodId) (ar : Addr) : entryFrame m #[(.ref ar)] 2 = mkF m 0 #[.val (.ref ar), .unset] [] := by first | (simp [entryFrame, mkF, argsToLocals, Value.category]; done) | rfl
set_option maxRecDepth 65536 in
set_option maxHeartbeats 40000000 in
theorem rmMed4 (l : Launch) (Z : State) (a0 : Array Value) (hw : ∀ d ∈ tables_1, d.before a0 Z = true) (ws : List Jvm.Cond) (ar : Addr) (ka : ClassId) (d0 : UInt64) (d1 : UInt64) (d2 : UInt64) (d3 : UInt64) (h0 : Heap) (n0 : Nat) (Z0 : n0 ≤ h0.size) (V_ar : Arv Z h0 ar ka .double (4 : Int32) [(.double d0), (.double d1), (.double d2), (.double d3)] (.double 0)) (nn27 : NoNaN64 (FP.dadd d1 d2)) (nn31 : NoNaN64 (FP.ddiv (FP.dadd d1 d2) 4611686018427387904)) :
    MetFree l (⟨"parkline/scenario/Bench", "median", "([D)D"⟩ : MethodName) (head1 (Jvm.Cond.code (⟨"parkline/scenario/Bench", "median", "([D)D"⟩ : MethodName) prog_17_method_6_code 2 (some .double) :: ws) ({ frames := 0, cells := 0, slots := 0, locals := 0 } : Room)) (fun a U => a = #[(.ref ar)] ∧ Z.Warmed39 U.vm ∧ U.heap = h0) (fun _ _ _ _ _ => True) (fun _ U o U' => ∃ v L, o = .returned v ∧ Q_rmMed4 Z ar ka d0 d1 d2 d3 h0 n0 v U'.heap L ∧ FrameEnd U o U' L ({ frames := 0, cells := 0, slots := 0, locals := 0 } : Room).cells ({ frames := 0, cells := 0, slots := 0, locals := 0 } : Room).slots) := by
  refine MetFree.of_bodySF (plainFor_of_name pn_0) hisR ?_
  intro p e s m args below meth c s₁ Bd hml0 hP hK
  obtain ⟨rfl, hZ, hh⟩ := hP
  have hx := Bd.exec
  have hby := Bd.bytes
  have hml : c.maxLocals = 2 := hml0
  have hown : s.vm.findClass "parkline/scenario/Bench" = some m.cls := findClass_of_methodNamed Bd.named
  have hnm := (name_of_methodNamed Bd.named Bd.method).1
  have X0 : Stand p l e ({ frames := 0, cells := 0, slots := 0, locals := 0 } : Room) s m #[(.ref ar)] below meth c s₁ [] 0 0 := Stand.of_body Bd
  have e0 : s₁.heap = h0 := by rw [← hh, Bd.state]; rfl
  have N0 := Fr.nil n0
  have pre0 : ∀ t, Steps p.tables e below (s₁.setTop (mkF m 0 #[.val (.ref ar), .unset] [])) t → Steps p.tables e below (s₁.setTop (entryFrame m #[(.ref ar)] 2)) t := fun t k => castTop (ef_rmMed4 m ar) k
  have Vc1 := V_ar
  obtain ⟨cl1, Ar1, -, S1, M1, -, -⟩ := Vc1
  have Vc2 := V_ar
  obtain ⟨cl2, Ar2, -, S2, M2, -, -⟩ := Vc2
  have Vc3 := V_ar
  obtain ⟨cl3, Ar3, q3, S3, M3, H3, G3⟩ := Vc3
  have hin3 : ¬ ((1 : Int32) < 0 ∨ cl3.slots.size ≤ ((1 : Int32)).toNatClampNeg) := inb_of S3 ⟨by decide, by decide⟩
  have hat3 : cl3.slots[((1 : Int32)).toNatClampNeg]? = some (.double d1) := Has.at H3 hin3 rfl
  have Vc4 := V_ar
  obtain ⟨cl4, Ar4, q4, S4, M4, H4, G4⟩ := Vc4
  have hin4 : ¬ ((2 : Int32) < 0 ∨ cl4.slots.size ≤ ((2 : Int32)).toNatClampNeg) := inb_of S4 ⟨by decide, by decide⟩
  have hat4 : cl4.slots[((2 : Int32)).toNatClampNeg]? = some (.double d2) := Has.at H4 hin4 rfl
  obtain ⟨fs, hr, hrun, hended, hW, hsame⟩ := X0.leave (v := some (.double (FP.ddiv (FP.dadd d1 d2) 4611686018427387904))) (fun h => by rw [Bd.returns] at h; cases h)
  refine ⟨_, _, pre0 _ ?_, hrun, hended, _, _, rfl, ?_, ⟨_, rfl⟩, hW, hsame.mono (by decide) (by decide)⟩
  · show Steps p.tables e below (s₁.setTop (mkF m 0 #[.val (.ref ar), .unset] [])) _
    refine XS.aloadN X0.here hx rfl (hb hby d0_0) rfl rfl ?_
    show Steps p.tables e below (s₁.setTop (mkF m 1 #[.val (.ref ar), .unset] [(.ref ar)])) _
    refine X0.arraylength hx (cell := cl1) (by rw [e0]; exact Ar1.1) (State.isArrayOf_alike hZ.alike Ar1.2.1) (g := (mkF m 1 #[.val (.ref ar), .unset] [(.ref ar)])) rfl (rest := []) rfl (hb hby d0_1) _ ?_
    rw [len_of S1 M1]
    show Steps p.tables e below (s₁.setTop (mkF m 2 #[.val (.ref ar), .unset] [(.int (4 : Int32))])) _
    refine XS.iconst X0.here hx rfl (hb hby d0_2) ?_
    show Steps p.tables e below (s₁.setTop (mkF m 3 #[.val (.ref ar), .unset] [(.int (2 : Int32)), (.int (4 : Int32))])) _
    refine XS.idiv X0.here hx rfl (hb hby d0_3) rfl (by decide) ?_
    show Steps p.tables e below (s₁.setTop (mkF m 4 #[.val (.ref ar), .unset] [(.int ((4 : Int32) / (2 : Int32)))])) _
    rw [show ((4 : Int32) / (2 : Int32)) = (2 : Int32) from by decide]
    show Steps p.tables e below (s₁.setTop (mkF m 4 #[.val (.ref ar), .unset] [(.int (2 : Int32))])) _
    refine XS.istoreN X0.here hx rfl (hb hby d0_4) rfl (l' := #[.val (.ref ar), .val (.int (2 : Int32))]) rfl ?_
    show Steps p.tables e below (s₁.setTop (mkF m 5 #[.val (.ref ar), .val (.int (2 : Int32))] [])) _
    refine XS.aloadN X0.here hx rfl (hb hby d0_5) rfl rfl ?_
    show Steps p.tables e below (s₁.setTop (mkF m 6 #[.val (.ref ar), .val (.int (2 : Int32))] [(.ref ar)])) _
    refine X0.arraylength hx (cell := cl2) (by rw [e0]; exact Ar2.1) (State.isArrayOf_alike hZ.alike Ar2.2.1) (g := (mkF m 6 #[.val (.ref ar), .val (.int (2 : Int32))] [(.ref ar)])) rfl (rest := []) rfl (hb hby d0_6) _ ?_
    rw [len_of S2 M2]
    show Steps p.tables e below (s₁.setTop (mkF m 7 #[.val (.ref ar), .val (.int (2 : Int32))] [(.int (4 : Int32))])) _
    refine XS.iconst X0.here hx rfl (hb hby d0_7) ?_
    show Steps p.tables e below (s₁.setTop (mkF m 8 #[.val (.ref ar), .val (.int (2 : Int32))] [(.int (2 : Int32)), (.int (4 : Int32))])) _
    refine iremM X0 hx (g := (mkF m 8 #[.val (.ref ar), .val (.int (2 : Int32))] [(.int (2 : Int32)), (.int (4 : Int32))])) rfl (hb hby d0_8) rfl (by decide) ?_
    show Steps p.tables e below (s₁.setTop (mkF m 9 #[.val (.ref ar), .val (.int (2 : Int32))] [(.int ((4 : Int32) % (2 : Int32)))])) _
    rw [show ((4 : Int32) % (2 : Int32)) = (0 : Int32) from by decide]
    show Steps p.tables e below (s₁.setTop (mkF m 9 #[.val (.ref ar), .val (.int (2 : Int32))] [(.int (0 : Int32))])) _
    refine XS.iconst X0.here hx rfl (hb hby d0_9) ?_
    show Steps p.tables e below (s₁.setTop (mkF m 10 #[.val (.ref ar), .val (.int (2 : Int32))] [(.int (1 : Int32)), (.int (0 : Int32))])) _
    refine XS.icmpYes X0.here hx rfl (pc0 := 10) (pc' := 19) rfl (hb hby d0_10) rfl (feq (by decide : ¬ ((0 : Int32) = (1 : Int32)))).2 (by decide) (by decide) ?_
    show Steps p.tables e below (s₁.setTop (mkF m 19 #[.val (.ref ar), .val (.int (2 : Int32))] [])) _
    refine XS.aloadN X0.here hx rfl (hb hby d0_19) rfl rfl ?_
    show Steps p.tables e below (s₁.setTop (mkF m 20 #[.val (.ref ar), .val (.int (2 : Int32))] [(.ref ar)])) _
    refine XS.iloadN X0.here hx rfl (hb hby d0_20) rfl ?_
    show Steps p.tables e below (s₁.setTop (mkF m 21 #[.val (.ref ar), .val (.int (2 : Int32))] [(.int (2 : Int32)), (.ref ar)])) _
    refine XS.iconst X0.here hx rfl (hb hby d0_21) ?_
    show Steps p.tables e below (s₁.setTop (mkF m 22 #[.val (.ref ar), .val (.int (2 : Int32))] [(.int (1 : Int32)), (.int (2 : Int32)), (.ref ar)])) _
    refine XS.isub X0.here hx rfl (hb hby d0_22) rfl ?_
    show Steps p.tables e below (s₁.setTop (mkF m 23 #[.val (.ref ar), .val (.int (2 : Int32))] [(.int ((2 : Int32) - (1 : Int32))), (.ref ar)])) _
    rw [show ((2 : Int32) - (1 : Int32)) = (1 : Int32) from by decide]
    show Steps p.tables e below (s₁.setTop (mkF m 23 #[.val (.ref ar), .val (.int (2 : Int32))] [(.int (1 : Int32)), (.ref ar)])) _
    refine X0.daload hx (j := (1 : Int32)) (v := (.double d1)) (by rw [e0]; exact Ar3.1) (State.isArrayOf_alike hZ.alike Ar3.2.1) Ar3.2.2 hin3 hat3 (g := (mkF m 23 #[.val (.ref ar), .val (.int (2 : Int32))] [(.int (1 : Int32)), (.ref ar)])) rfl rfl (hb hby d0_23) _ ?_
    show Steps p.tables e below (s₁.setTop (mkF m 24 #[.val (.ref ar), .val (.int (2 : Int32))] [(.double d1)])) _
    refine XS.aloadN X0.here hx rfl (hb hby d0_24) rfl rfl ?_
    show Steps p.tables e below (s₁.setTop (mkF m 25 #[.val (.ref ar), .val (.int (2 : Int32))] [(.ref ar), (.double d1)])) _
    refine XS.iloadN X0.here hx rfl (hb hby d0_25) rfl ?_
    show Steps p.tables e below (s₁.setTop (mkF m 26 #[.val (.ref ar), .val (.int (2 : Int32))] [(.int (2 : Int32)), (.ref ar), (.double d1)])) _
    refine X0.daload hx (j := (2 : Int32)) (v := (.double d2)) (by rw [e0]; exact Ar4.1) (State.isArrayOf_alike hZ.alike Ar4.2.1) Ar4.2.2 hin4 hat4 (g := (mkF m 26 #[.val (.ref ar), .val (.int (2 : Int32))] [(.int (2 : Int32)), (.ref ar), (.double d1)])) rfl rfl (hb hby d0_26) _ ?_
    show Steps p.tables e below (s₁.setTop (mkF m 27 #[.val (.ref ar), .val (.int (2 : Int32))] [(.double d2), (.double d1)])) _
    refine XS.daddS X0.here hx rfl (hb hby d0_27) rfl nn27 rfl ?_
    show Steps p.tables e below (s₁.setTop (mkF m 28 #[.val (.ref ar), .val (.int (2 : Int32))] [(.double (FP.dadd d1 d2))])) _
    refine X0.ldc2DoubleC hx hown (mvT hZ (hw _ (List.mem_of_getElem? (i := 10) rfl))) (g := (mkF m 28 #[.val (.ref ar), .val (.int (2 : Int32))] [(.double (FP.dadd d1 d2))])) rfl (hb hby d0_28) _ ?_
    show Steps p.tables e below (s₁.setTop (mkF m 31 #[.val (.ref ar), .val (.int (2 : Int32))] [(.double 4611686018427387904), (.double (FP.dadd d1 d2))])) _
    refine XS.ddivS X0.here hx rfl (hb hby d0_31) rfl nn31 rfl ?_
    show Steps p.tables e below (s₁.setTop (mkF m 32 #[.val (.ref ar), .val (.int (2 : Int32))] [(.double (FP.ddiv (FP.dadd d1 d2) 4611686018427387904))])) _
    exact retOut X0 hx Bd.returns rfl (Or.inr (Or.inr (Or.inl ⟨rfl, rfl, _, rfl⟩))) (hb hby d0_32) hr
  · show Q_rmMed4 Z ar ka d0 d1 d2 d3 h0 n0 _ s₁.heap _
    rw [e0]
    exact ⟨rfl, N0, rfl⟩
def Q_rmMed5 (Z : State) (ar : Addr) (ka : ClassId) (d0 : UInt64) (d1 : UInt64) (d2 : UInt64) (d3 : UInt64) (d4 : UInt64) (h0 : Heap) (n0 : Nat) (v : Option Value) (h : Heap) (L : List Loc) : Prop := v = some (.double d2) ∧ Fr n0 L ∧ h = h0
theorem ef_rmMed5 (m : MethodId) (ar : Addr) : entryFrame m #[(.ref ar)] 2 = mkF m 0 #[.val (.ref ar), .unset] [] := by first | (simp [entryFrame, mkF, argsToLocals, Value.category]; done) | rfl
set_option maxRecDepth 65536 in
set_option maxHeartbeats 40000000 in
theorem rmMed5 (l : Launch) (Z : State) (a0 : Array Value) (hw : ∀ d ∈ tables_1, d.before a0 Z = true) (ws : List Jvm.Cond) (ar : Addr) (ka : ClassId) (d0 : UInt64) (d1 : UInt64) (d2 : UInt64) (d3 : UInt64) (d4 : UInt64) (h0 : Heap) (n0 : Nat) (Z0 : n0 ≤ h0.size) (V_ar : Arv Z h0 ar ka .double (5 : Int32) [(.double d0), (.double d1), (.double d2), (.double d3), (.double d4)] (.double 0)) :
    MetFree l (⟨"parkline/scenario/Bench", "median", "([D)D"⟩ : MethodName) (head1 (Jvm.Cond.code (⟨"parkline/scenario/Bench", "median", "([D)D"⟩ : MethodName) prog_17_method_6_code 2 (some .double) :: ws) ({ frames := 0, cells := 0, slots := 0, locals := 0 } : Room)) (fun a U => a = #[(.ref ar)] ∧ Z.Warmed39 U.vm ∧ U.heap = h0) (fun _ _ _ _ _ => True) (fun _ U o U' => ∃ v L, o = .returned v ∧ Q_rmMed5 Z ar ka d0 d1 d2 d3 d4 h0 n0 v U'.heap L ∧ FrameEnd U o U' L ({ frames := 0, cells := 0, slots := 0, locals := 0 } : Room).cells ({ frames := 0, cells := 0, slots := 0, locals := 0 } : Room).slots) := by
  refine MetFree.of_bodySF (plainFor_of_name pn_0) hisR ?_
  intro p e s m args below meth c s₁ Bd hml0 hP hK
  obtain ⟨rfl, hZ, hh⟩ := hP
  have hx := Bd.exec
  have hby := Bd.bytes
  have hml : c.maxLocals = 2 := hml0
  have hown : s.vm.findClass "parkline/scenario/Bench" = some m.cls := findClass_of_methodNamed Bd.named
  have hnm := (name_of_methodNamed Bd.named Bd.method).1
  have X0 : Stand p l e ({ frames := 0, cells := 0, slots := 0, locals := 0 } : Room) s m #[(.ref ar)] below meth c s₁ [] 0 0 := Stand.of_body Bd
  have e0 : s₁.heap = h0 := by rw [← hh, Bd.state]; rfl
  have N0 := Fr.nil n0
  have pre0 : ∀ t, Steps p.tables e below (s₁.setTop (mkF m 0 #[.val (.ref ar), .unset] [])) t → Steps p.tables e below (s₁.setTop (entryFrame m #[(.ref ar)] 2)) t := fun t k => castTop (ef_rmMed5 m ar) k
  have Vc1 := V_ar
  obtain ⟨cl1, Ar1, -, S1, M1, -, -⟩ := Vc1
  have Vc2 := V_ar
  obtain ⟨cl2, Ar2, -, S2, M2, -, -⟩ := Vc2
  have Vc3 := V_ar
  obtain ⟨cl3, Ar3, q3, S3, M3, H3, G3⟩ := Vc3
  have hin3 : ¬ ((2 : Int32) < 0 ∨ cl3.slots.size ≤ ((2 : Int32)).toNatClampNeg) := inb_of S3 ⟨by decide, by decide⟩
  have hat3 : cl3.slots[((2 : Int32)).toNatClampNeg]? = some (.double d2) := Has.at H3 hin3 rfl
  obtain ⟨fs, hr, hrun, hended, hW, hsame⟩ := X0.leave (v := some (.double d2)) (fun h => by rw [Bd.returns] at h; cases h)
  refine ⟨_, _, pre0 _ ?_, hrun, hended, _, _, rfl, ?_, ⟨_, rfl⟩, hW, hsame.mono (by decide) (by decide)⟩
  · show Steps p.tables e below (s₁.setTop (mkF m 0 #[.val (.ref ar), .unset] [])) _
    refine XS.aloadN X0.here hx rfl (hb hby d0_0) rfl rfl ?_
    show Steps p.tables e below (s₁.setTop (mkF m 1 #[.val (.ref ar), .unset] [(.ref ar)])) _
    refine X0.arraylength hx (cell := cl1) (by rw [e0]; exact Ar1.1) (State.isArrayOf_alike hZ.alike Ar1.2.1) (g := (mkF m 1 #[.val (.ref ar), .unset] [(.ref ar)])) rfl (rest := []) rfl (hb hby d0_1) _ ?_
    rw [len_of S1 M1]
    show Steps p.tables e below (s₁.setTop (mkF m 2 #[.val (.ref ar), .unset] [(.int (5 : Int32))])) _
    refine XS.iconst X0.here hx rfl (hb hby d0_2) ?_
    show Steps p.tables e below (s₁.setTop (mkF m 3 #[.val (.ref ar), .unset] [(.int (2 : Int32)), (.int (5 : Int32))])) _
    refine XS.idiv X0.here hx rfl (hb hby d0_3) rfl (by decide) ?_
    show Steps p.tables e below (s₁.setTop (mkF m 4 #[.val (.ref ar), .unset] [(.int ((5 : Int32) / (2 : Int32)))])) _
    rw [show ((5 : Int32) / (2 : Int32)) = (2 : Int32) from by decide]
    show Steps p.tables e below (s₁.setTop (mkF m 4 #[.val (.ref ar), .unset] [(.int (2 : Int32))])) _
    refine XS.istoreN X0.here hx rfl (hb hby d0_4) rfl (l' := #[.val (.ref ar), .val (.int (2 : Int32))]) rfl ?_
    show Steps p.tables e below (s₁.setTop (mkF m 5 #[.val (.ref ar), .val (.int (2 : Int32))] [])) _
    refine XS.aloadN X0.here hx rfl (hb hby d0_5) rfl rfl ?_
    show Steps p.tables e below (s₁.setTop (mkF m 6 #[.val (.ref ar), .val (.int (2 : Int32))] [(.ref ar)])) _
    refine X0.arraylength hx (cell := cl2) (by rw [e0]; exact Ar2.1) (State.isArrayOf_alike hZ.alike Ar2.2.1) (g := (mkF m 6 #[.val (.ref ar), .val (.int (2 : Int32))] [(.ref ar)])) rfl (rest := []) rfl (hb hby d0_6) _ ?_
    rw [len_of S2 M2]
    show Steps p.tables e below (s₁.setTop (mkF m 7 #[.val (.ref ar), .val (.int (2 : Int32))] [(.int (5 : Int32))])) _
    refine XS.iconst X0.here hx rfl (hb hby d0_7) ?_
    show Steps p.tables e below (s₁.setTop (mkF m 8 #[.val (.ref ar), .val (.int (2 : Int32))] [(.int (2 : Int32)), (.int (5 : Int32))])) _
    refine iremM X0 hx (g := (mkF m 8 #[.val (.ref ar), .val (.int (2 : Int32))] [(.int (2 : Int32)), (.int (5 : Int32))])) rfl (hb hby d0_8) rfl (by decide) ?_
    show Steps p.tables e below (s₁.setTop (mkF m 9 #[.val (.ref ar), .val (.int (2 : Int32))] [(.int ((5 : Int32) % (2 : Int32)))])) _
    rw [show ((5 : Int32) % (2 : Int32)) = (1 : Int32) from by decide]
    show Steps p.tables e below (s₁.setTop (mkF m 9 #[.val (.ref ar), .val (.int (2 : Int32))] [(.int (1 : Int32))])) _
    refine XS.iconst X0.here hx rfl (hb hby d0_9) ?_
    show Steps p.tables e below (s₁.setTop (mkF m 10 #[.val (.ref ar), .val (.int (2 : Int32))] [(.int (1 : Int32)), (.int (1 : Int32))])) _
    refine XS.icmpNo X0.here hx rfl (hb hby d0_10) rfl (teq (rfl : (1 : Int32) = (1 : Int32))).2 ?_
    show Steps p.tables e below (s₁.setTop (mkF m 13 #[.val (.ref ar), .val (.int (2 : Int32))] [])) _
    refine XS.aloadN X0.here hx rfl (hb hby d0_13) rfl rfl ?_
    show Steps p.tables e below (s₁.setTop (mkF m 14 #[.val (.ref ar), .val (.int (2 : Int32))] [(.ref ar)])) _
    refine XS.iloadN X0.here hx rfl (hb hby d0_14) rfl ?_
    show Steps p.tables e below (s₁.setTop (mkF m 15 #[.val (.ref ar), .val (.int (2 : Int32))] [(.int (2 : Int32)), (.ref ar)])) _
    refine X0.daload hx (j := (2 : Int32)) (v := (.double d2)) (by rw [e0]; exact Ar3.1) (State.isArrayOf_alike hZ.alike Ar3.2.1) Ar3.2.2 hin3 hat3 (g := (mkF m 15 #[.val (.ref ar), .val (.int (2 : Int32))] [(.int (2 : Int32)), (.ref ar)])) rfl rfl (hb hby d0_15) _ ?_
    show Steps p.tables e below (s₁.setTop (mkF m 16 #[.val (.ref ar), .val (.int (2 : Int32))] [(.double d2)])) _
    refine XS.goto X0.here hx rfl (pc0 := 16) (pc' := 32) rfl (hb hby d0_16) (by decide) (by decide) ?_
    show Steps p.tables e below (s₁.setTop (mkF m 32 #[.val (.ref ar), .val (.int (2 : Int32))] [(.double d2)])) _
    exact retOut X0 hx Bd.returns rfl (Or.inr (Or.inr (Or.inl ⟨rfl, rfl, _, rfl⟩))) (hb hby d0_32) hr
  · show Q_rmMed5 Z ar ka d0 d1 d2 d3 d4 h0 n0 _ s₁.heap _
    rw [e0]
    exact ⟨rfl, N0, rfl⟩
def Q_rmMed6 (Z : State) (ar : Addr) (ka : ClassId) (d0 : UInt64) (d1 : UInt64) (d2 : UInt64) (d3 : UInt64) (d4 : UInt64) (d5 : UInt64) (h0 : Heap) (n0 : Nat) (v : Option Value) (h : Heap) (L : List Loc) : Prop := v = some (.double (FP.ddiv (FP.dadd d2 d3) 4611686018427387904)) ∧ Fr n0 L ∧ h = h0
theorem ef_rmMed6 (m : MethodId) (ar : Addr) : entryFrame m #[(.ref ar)] 2 = mkF m 0 #[.val (.ref ar), .unset] [] := by first | (simp [entryFrame, mkF, argsToLocals, Value.category]; done) | rfl
set_option maxRecDepth 65536 in
set_option maxHeartbeats 40000000 in
theorem rmMed6 (l : Launch) (Z : State) (a0 : Array Value) (hw : ∀ d ∈ tables_1, d.before a0 Z = true) (ws : List Jvm.Cond) (ar : Addr) (ka : ClassId) (d0 : UInt64) (d1 : UInt64) (d2 : UInt64) (d3 : UInt64) (d4 : UInt64) (d5 : UInt64) (h0 : Heap) (n0 : Nat) (Z0 : n0 ≤ h0.size) (V_ar : Arv Z h0 ar ka .double (6 : Int32) [(.double d0), (.double d1), (.double d2), (.double d3), (.double d4), (.double d5)] (.double 0)) (nn27 : NoNaN64 (FP.dadd d2 d3)) (nn31 : NoNaN64 (FP.ddiv (FP.dadd d2 d3) 4611686018427387904)) :
    MetFree l (⟨"parkline/scenario/Bench", "median", "([D)D"⟩ : MethodName) (head1 (Jvm.Cond.code (⟨"parkline/scenario/Bench", "median", "([D)D"⟩ : MethodName) prog_17_method_6_code 2 (some .double) :: ws) ({ frames := 0, cells := 0, slots := 0, locals := 0 } : Room)) (fun a U => a = #[(.ref ar)] ∧ Z.Warmed39 U.vm ∧ U.heap = h0) (fun _ _ _ _ _ => True) (fun _ U o U' => ∃ v L, o = .returned v ∧ Q_rmMed6 Z ar ka d0 d1 d2 d3 d4 d5 h0 n0 v U'.heap L ∧ FrameEnd U o U' L ({ frames := 0, cells := 0, slots := 0, locals := 0 } : Room).cells ({ frames := 0, cells := 0, slots := 0, locals := 0 } : Room).slots) := by
  refine MetFree.of_bodySF (plainFor_of_name pn_0) hisR ?_
  intro p e s m args below meth c s₁ Bd hml0 hP hK
  obtain ⟨rfl, hZ, hh⟩ := hP
  have hx := Bd.exec
  have hby := Bd.bytes
  have hml : c.maxLocals = 2 := hml0
  have hown : s.vm.findClass "parkline/scenario/Bench" = some m.cls := findClass_of_methodNamed Bd.named
  have hnm := (name_of_methodNamed Bd.named Bd.method).1
  have X0 : Stand p l e ({ frames := 0, cells := 0, slots := 0, locals := 0 } : Room) s m #[(.ref ar)] below meth c s₁ [] 0 0 := Stand.of_body Bd
  have e0 : s₁.heap = h0 := by rw [← hh, Bd.state]; rfl
  have N0 := Fr.nil n0
  have pre0 : ∀ t, Steps p.tables e below (s₁.setTop (mkF m 0 #[.val (.ref ar), .unset] [])) t → Steps p.tables e below (s₁.setTop (entryFrame m #[(.ref ar)] 2)) t := fun t k => castTop (ef_rmMed6 m ar) k
  have Vc1 := V_ar
  obtain ⟨cl1, Ar1, -, S1, M1, -, -⟩ := Vc1
  have Vc2 := V_ar
  obtain ⟨cl2, Ar2, -, S2, M2, -, -⟩ := Vc2
  have Vc3 := V_ar
  obtain ⟨cl3, Ar3, q3, S3, M3, H3, G3⟩ := Vc3
  have hin3 : ¬ ((2 : Int32) < 0 ∨ cl3.slots.size ≤ ((2 : Int32)).toNatClampNeg) := inb_of S3 ⟨by decide, by decide⟩
  have hat3 : cl3.slots[((2 : Int32)).toNatClampNeg]? = some (.double d2) := Has.at H3 hin3 rfl
  have Vc4 := V_ar
  obtain ⟨cl4, Ar4, q4, S4, M4, H4, G4⟩ := Vc4
  have hin4 : ¬ ((3 : Int32) < 0 ∨ cl4.slots.size ≤ ((3 : Int32)).toNatClampNeg) := inb_of S4 ⟨by decide, by decide⟩
  have hat4 : cl4.slots[((3 : Int32)).toNatClampNeg]? = some (.double d3) := Has.at H4 hin4 rfl
  obtain ⟨fs, hr, hrun, hended, hW, hsame⟩ := X0.leave (v := some (.double (FP.ddiv (FP.dadd d2 d3) 4611686018427387904))) (fun h => by rw [Bd.returns] at h; cases h)
  refine ⟨_, _, pre0 _ ?_, hrun, hended, _, _, rfl, ?_, ⟨_, rfl⟩, hW, hsame.mono (by decide) (by decide)⟩
  · show Steps p.tables e below (s₁.setTop (mkF m 0 #[.val (.ref ar), .unset] [])) _
    refine XS.aloadN X0.here hx rfl (hb hby d0_0) rfl rfl ?_
    show Steps p.tables e below (s₁.setTop (mkF m 1 #[.val (.ref ar), .unset] [(.ref ar)])) _
    refine X0.arraylength hx (cell := cl1) (by rw [e0]; exact Ar1.1) (State.isArrayOf_alike hZ.alike Ar1.2.1) (g := (mkF m 1 #[.val (.ref ar), .unset] [(.ref ar)])) rfl (rest := []) rfl (hb hby d0_1) _ ?_
    rw [len_of S1 M1]
    show Steps p.tables e below (s₁.setTop (mkF m 2 #[.val (.ref ar), .unset] [(.int (6 : Int32))])) _
    refine XS.iconst X0.here hx rfl (hb hby d0_2) ?_
    show Steps p.tables e below (s₁.setTop (mkF m 3 #[.val (.ref ar), .unset] [(.int (2 : Int32)), (.int (6 : Int32))])) _
    refine XS.idiv X0.here hx rfl (hb hby d0_3) rfl (by decide) ?_
    show Steps p.tables e below (s₁.setTop (mkF m 4 #[.val (.ref ar), .unset] [(.int ((6 : Int32) / (2 : Int32)))])) _
    rw [show ((6 : Int32) / (2 : Int32)) = (3 : Int32) from by decide]
    show Steps p.tables e below (s₁.setTop (mkF m 4 #[.val (.ref ar), .unset] [(.int (3 : Int32))])) _
    refine XS.istoreN X0.here hx rfl (hb hby d0_4) rfl (l' := #[.val (.ref ar), .val (.int (3 : Int32))]) rfl ?_
    show Steps p.tables e below (s₁.setTop (mkF m 5 #[.val (.ref ar), .val (.int (3 : Int32))] [])) _
    refine XS.aloadN X0.here hx rfl (hb hby d0_5) rfl rfl ?_
    show Steps p.tables e below (s₁.setTop (mkF m 6 #[.val (.ref ar), .val (.int (3 : Int32))] [(.ref ar)])) _
    refine X0.arraylength hx (cell := cl2) (by rw [e0]; exact Ar2.1) (State.isArrayOf_alike hZ.alike Ar2.2.1) (g := (mkF m 6 #[.val (.ref ar), .val (.int (3 : Int32))] [(.ref ar)])) rfl (rest := []) rfl (hb hby d0_6) _ ?_
    rw [len_of S2 M2]
    show Steps p.tables e below (s₁.setTop (mkF m 7 #[.val (.ref ar), .val (.int (3 : Int32))] [(.int (6 : Int32))])) _
    refine XS.iconst X0.here hx rfl (hb hby d0_7) ?_
    show Steps p.tables e below (s₁.setTop (mkF m 8 #[.val (.ref ar), .val (.int (3 : Int32))] [(.int (2 : Int32)), (.int (6 : Int32))])) _
    refine iremM X0 hx (g := (mkF m 8 #[.val (.ref ar), .val (.int (3 : Int32))] [(.int (2 : Int32)), (.int (6 : Int32))])) rfl (hb hby d0_8) rfl (by decide) ?_
    show Steps p.tables e below (s₁.setTop (mkF m 9 #[.val (.ref ar), .val (.int (3 : Int32))] [(.int ((6 : Int32) % (2 : Int32)))])) _
    rw [show ((6 : Int32) % (2 : Int32)) = (0 : Int32) from by decide]
    show Steps p.tables e below (s₁.setTop (mkF m 9 #[.val (.ref ar), .val (.int (3 : Int32))] [(.int (0 : Int32))])) _
    refine XS.iconst X0.here hx rfl (hb hby d0_9) ?_
    show Steps p.tables e below (s₁.setTop (mkF m 10 #[.val (.ref ar), .val (.int (3 : Int32))] [(.int (1 : Int32)), (.int (0 : Int32))])) _
    refine XS.icmpYes X0.here hx rfl (pc0 := 10) (pc' := 19) rfl (hb hby d0_10) rfl (feq (by decide : ¬ ((0 : Int32) = (1 : Int32)))).2 (by decide) (by decide) ?_
    show Steps p.tables e below (s₁.setTop (mkF m 19 #[.val (.ref ar), .val (.int (3 : Int32))] [])) _
    refine XS.aloadN X0.here hx rfl (hb hby d0_19) rfl rfl ?_
    show Steps p.tables e below (s₁.setTop (mkF m 20 #[.val (.ref ar), .val (.int (3 : Int32))] [(.ref ar)])) _
    refine XS.iloadN X0.here hx rfl (hb hby d0_20) rfl ?_
    show Steps p.tables e below (s₁.setTop (mkF m 21 #[.val (.ref ar), .val (.int (3 : Int32))] [(.int (3 : Int32)), (.ref ar)])) _
    refine XS.iconst X0.here hx rfl (hb hby d0_21) ?_
    show Steps p.tables e below (s₁.setTop (mkF m 22 #[.val (.ref ar), .val (.int (3 : Int32))] [(.int (1 : Int32)), (.int (3 : Int32)), (.ref ar)])) _
    refine XS.isub X0.here hx rfl (hb hby d0_22) rfl ?_
    show Steps p.tables e below (s₁.setTop (mkF m 23 #[.val (.ref ar), .val (.int (3 : Int32))] [(.int ((3 : Int32) - (1 : Int32))), (.ref ar)])) _
    rw [show ((3 : Int32) - (1 : Int32)) = (2 : Int32) from by decide]
    show Steps p.tables e below (s₁.setTop (mkF m 23 #[.val (.ref ar), .val (.int (3 : Int32))] [(.int (2 : Int32)), (.ref ar)])) _
    refine X0.daload hx (j := (2 : Int32)) (v := (.double d2)) (by rw [e0]; exact Ar3.1) (State.isArrayOf_alike hZ.alike Ar3.2.1) Ar3.2.2 hin3 hat3 (g := (mkF m 23 #[.val (.ref ar), .val (.int (3 : Int32))] [(.int (2 : Int32)), (.ref ar)])) rfl rfl (hb hby d0_23) _ ?_
    show Steps p.tables e below (s₁.setTop (mkF m 24 #[.val (.ref ar), .val (.int (3 : Int32))] [(.double d2)])) _
    refine XS.aloadN X0.here hx rfl (hb hby d0_24) rfl rfl ?_
    show Steps p.tables e below (s₁.setTop (mkF m 25 #[.val (.ref ar), .val (.int (3 : Int32))] [(.ref ar), (.double d2)])) _
    refine XS.iloadN X0.here hx rfl (hb hby d0_25) rfl ?_
    show Steps p.tables e below (s₁.setTop (mkF m 26 #[.val (.ref ar), .val (.int (3 : Int32))] [(.int (3 : Int32)), (.ref ar), (.double d2)])) _
    refine X0.daload hx (j := (3 : Int32)) (v := (.double d3)) (by rw [e0]; exact Ar4.1) (State.isArrayOf_alike hZ.alike Ar4.2.1) Ar4.2.2 hin4 hat4 (g := (mkF m 26 #[.val (.ref ar), .val (.int (3 : Int32))] [(.int (3 : Int32)), (.ref ar), (.double d2)])) rfl rfl (hb hby d0_26) _ ?_
    show Steps p.tables e below (s₁.setTop (mkF m 27 #[.val (.ref ar), .val (.int (3 : Int32))] [(.double d3), (.double d2)])) _
    refine XS.daddS X0.here hx rfl (hb hby d0_27) rfl nn27 rfl ?_
    show Steps p.tables e below (s₁.setTop (mkF m 28 #[.val (.ref ar), .val (.int (3 : Int32))] [(.double (FP.dadd d2 d3))])) _
    refine X0.ldc2DoubleC hx hown (mvT hZ (hw _ (List.mem_of_getElem? (i := 10) rfl))) (g := (mkF m 28 #[.val (.ref ar), .val (.int (3 : Int32))] [(.double (FP.dadd d2 d3))])) rfl (hb hby d0_28) _ ?_
    show Steps p.tables e below (s₁.setTop (mkF m 31 #[.val (.ref ar), .val (.int (3 : Int32))] [(.double 4611686018427387904), (.double (FP.dadd d2 d3))])) _
    refine XS.ddivS X0.here hx rfl (hb hby d0_31) rfl nn31 rfl ?_
    show Steps p.tables e below (s₁.setTop (mkF m 32 #[.val (.ref ar), .val (.int (3 : Int32))] [(.double (FP.ddiv (FP.dadd d2 d3) 4611686018427387904))])) _
    exact retOut X0 hx Bd.returns rfl (Or.inr (Or.inr (Or.inl ⟨rfl, rfl, _, rfl⟩))) (hb hby d0_32) hr
  · show Q_rmMed6 Z ar ka d0 d1 d2 d3 d4 d5 h0 n0 _ s₁.heap _
    rw [e0]
    exact ⟨rfl, N0, rfl⟩
theorem pd_0 : parseMethodDescriptor "([D)D" = some ⟨[(.array .double)], some .double⟩ := by decide +kernel
theorem pn_1 : plainName "parkline/scenario/BenchMedianPinLaw" = true := by first | (simp [plainName, overriddenIn]; done) | decide +kernel
def Q_rm0_1 (Z : State) (p0 : Int32) (p1 : Int32) (p2 : Int32) (p3 : Int32) (p4 : Int32) (p5 : Int32) (v0 : Int32) (v1 : Int32) (v2 : Int32) (v3 : Int32) (v4 : Int32) (v5 : Int32) (h0 : Heap) (n0 : Nat) (v : Option Value) (h : Heap) (L : List Loc) : Prop := v = some (.int (1 : Int32)) ∧ Fr n0 L
theorem ef_rm0_1 (m : MethodId) (p0 : Int32) (p1 : Int32) (p2 : Int32) (p3 : Int32) (p4 : Int32) (p5 : Int32) : entryFrame m #[(.int p0), (.int p1), (.int p2), (.int p3), (.int p4), (.int p5)] maxLocals = mkF m 0 #[.val (.int p0), .val (.int p1), .val (.int p2), .val (.int p3), .val (.int p4), .val (.int p5), .unset, .unset, .unset, .unset, .unset, .unset, .unset, .unset, .unset, .unset, .unset, .unset, .unset] [] := by first | (simp [entryFrame, mkF, argsToLocals, Value.category, maxLocals]; done) | rfl
set_option maxRecDepth 65536 in
set_option maxHeartbeats 40000000 in
theorem rm0_1 (l : Launch) (Z : State) (a0 : Array Value) (hw : ∀ d ∈ tables_1, d.before a0 Z = true) (ws : List Jvm.Cond) (p0 : Int32) (p1 : Int32) (p2 : Int32) (p3 : Int32) (p4 : Int32) (p5 : Int32) (v0 : Int32) (v1 : Int32) (v2 : Int32) (v3 : Int32) (v4 : Int32) (v5 : Int32) (h0 : Heap) (n0 : Nat) (Z0 : n0 ≤ h0.size) (hn : (((p0 &&& (7 : Int32)) % (6 : Int32)) + (1 : Int32)) = (1 : Int32)) (hv0 : (((p0 >>> ((3 : Int32) &&& 31)) &&& (1048575 : Int32)) - (524288 : Int32)) = v0) (hv1 : (v0 + (p1 &&& (65535 : Int32))) = v1) (hv2 : (v1 + (p2 &&& (65535 : Int32))) = v2) (hv3 : (v2 + (p3 &&& (65535 : Int32))) = v3) (hv4 : (v3 + (p4 &&& (65535 : Int32))) = v4) (hv5 : (v4 + (p5 &&& (65535 : Int32))) = v5) :
    MetFree l x (head1 (Jvm.Cond.code x code maxLocals ret :: ws) room_1) (fun a U => a = #[(.int p0), (.int p1), (.int p2), (.int p3), (.int p4), (.int p5)] ∧ Z.Warmed39 U.vm ∧ U.heap = h0) (fun _ _ _ _ _ => True) (fun _ U o U' => ∃ v L, o = .returned v ∧ Q_rm0_1 Z p0 p1 p2 p3 p4 p5 v0 v1 v2 v3 v4 v5 h0 n0 v U'.heap L ∧ FrameEnd U o U' L room_1.cells room_1.slots) := by
  refine MetFree.of_bodySF (plainFor_of_name pn_1) hisR ?_
  intro p e s m args below meth c s₁ Bd hml0 hP hK
  obtain ⟨rfl, hZ, hh⟩ := hP
  have hx := Bd.exec
  have hby := Bd.bytes
  have hml : c.maxLocals = 19 := hml0
  have hown : s.vm.findClass "parkline/scenario/BenchMedianPinLaw" = some m.cls := findClass_of_methodNamed Bd.named
  have hnm := (name_of_methodNamed Bd.named Bd.method).1
  have X0 : Stand p l e room_1 s m #[(.int p0), (.int p1), (.int p2), (.int p3), (.int p4), (.int p5)] below meth c s₁ [] 0 0 := Stand.of_body Bd
  have e0 : s₁.heap = h0 := by rw [← hh, Bd.state]; rfl
  have N0 := Fr.nil n0
  have pre0 : ∀ t, Steps p.tables e below (s₁.setTop (mkF m 0 #[.val (.int p0), .val (.int p1), .val (.int p2), .val (.int p3), .val (.int p4), .val (.int p5), .unset, .unset, .unset, .unset, .unset, .unset, .unset, .unset, .unset, .unset, .unset, .unset, .unset] [])) t → Steps p.tables e below (s₁.setTop (entryFrame m #[(.int p0), (.int p1), (.int p2), (.int p3), (.int p4), (.int p5)] maxLocals)) t := fun t k => castTop (ef_rm0_1 m p0 p1 p2 p3 p4 p5) k
  obtain ⟨B0, B1, B2, B3, B4, B5⟩ := own_b p0 p1 p2 p3 p4 p5 v0 v1 v2 v3 v4 v5 hv0 hv1 hv2 hv3 hv4 hv5
  obtain ⟨T1, h1, k1, X1, e1, E1, A1, st1⟩ := newP X0 hx hZ (hw _ (List.mem_of_getElem? (i := 3) rfl)) e0 (g := (mkF m 71 #[.val (.int p0), .val (.int p1), .val (.int p2), .val (.int p3), .val (.int p4), .val (.int p5), .val (.int (1 : Int32)), .val (.int v0), .val (.int v1), .val (.int v2), .val (.int v3), .val (.int v4), .val (.int v5), .unset, .unset, .unset, .unset, .unset, .unset] [(.int (6 : Int32))])) rfl (hb hby at_71) rfl (by decide) (cap := 6) (by decide) (by decide) (by decide) (by decide)
  obtain ⟨b1, g1⟩ : ∃ z, z = h0.size := ⟨_, rfl⟩
  rw [← g1] at A1 st1
  have V1 : Arv Z h1 b1 k1 .int (6 : Int32) [(.int (0 : Int32)), (.int (0 : Int32)), (.int (0 : Int32)), (.int (0 : Int32)), (.int (0 : Int32)), (.int (0 : Int32))] (.int (0 : Int32)) := (Arv.new A1 (by decide)).pad (pad_rep [] (.int (0 : Int32)) 6)
  have Vc2 := V1
  obtain ⟨cl2, Ar2, q2, S2, M2, H2, G2⟩ := Vc2
  have hin2 : ¬ ((0 : Int32) < 0 ∨ cl2.slots.size ≤ ((0 : Int32)).toNatClampNeg) := inb_of S2 ⟨by decide, by decide⟩
  obtain ⟨T2, h2, X2, e2, W2, st2⟩ := stI X1 hx hZ e1 Ar2 (j := (0 : Int32)) hin2 (g := (mkF m 77 #[.val (.int p0), .val (.int p1), .val (.int p2), .val (.int p3), .val (.int p4), .val (.int p5), .val (.int (1 : Int32)), .val (.int v0), .val (.int v1), .val (.int v2), .val (.int v3), .val (.int v4), .val (.int v5), .unset, .unset, .unset, .unset, .unset, .unset] [(.int v0), (.int (0 : Int32)), (.ref b1), (.ref b1)])) rfl rfl (hb hby at_77)
  have V2 : Arv Z h2 b1 k1 .int (6 : Int32) [(.int v0), (.int (0 : Int32)), (.int (0 : Int32)), (.int (0 : Int32)), (.int (0 : Int32)), (.int (0 : Int32))] (.int (0 : Int32)) := Arv.set Ar2 q2 S2 M2 H2 G2 rfl W2 0 rfl (Nat.le_of_ble_eq_true rfl)
  have N2 := Fr.snoc X2 N0 (Nat.le_trans Z0 (Nat.le_of_eq g1.symm))
  have Vc3 := V2
  obtain ⟨cl3, Ar3, q3, S3, M3, H3, G3⟩ := Vc3
  have hin3 : ¬ ((1 : Int32) < 0 ∨ cl3.slots.size ≤ ((1 : Int32)).toNatClampNeg) := inb_of S3 ⟨by decide, by decide⟩
  obtain ⟨T3, h3, X3, e3, W3, st3⟩ := stI X2 hx hZ e2 Ar3 (j := (1 : Int32)) hin3 (g := (mkF m 82 #[.val (.int p0), .val (.int p1), .val (.int p2), .val (.int p3), .val (.int p4), .val (.int p5), .val (.int (1 : Int32)), .val (.int v0), .val (.int v1), .val (.int v2), .val (.int v3), .val (.int v4), .val (.int v5), .unset, .unset, .unset, .unset, .unset, .unset] [(.int v1), (.int (1 : Int32)), (.ref b1), (.ref b1)])) rfl rfl (hb hby at_82)
  have V3 : Arv Z h3 b1 k1 .int (6 : Int32) [(.int v0), (.int v1), (.int (0 : Int32)), (.int (0 : Int32)), (.int (0 : Int32)), (.int (0 : Int32))] (.int (0 : Int32)) := Arv.set Ar3 q3 S3 M3 H3 G3 rfl W3 1 rfl (Nat.le_of_ble_eq_true rfl)
  have N3 := Fr.snoc X3 N2 (Nat.le_trans Z0 (Nat.le_of_eq g1.symm))
  have Vc4 := V3
  obtain ⟨cl4, Ar4, q4, S4, M4, H4, G4⟩ := Vc4
  have hin4 : ¬ ((2 : Int32) < 0 ∨ cl4.slots.size ≤ ((2 : Int32)).toNatClampNeg) := inb_of S4 ⟨by decide, by decide⟩
  obtain ⟨T4, h4, X4, e4, W4, st4⟩ := stI X3 hx hZ e3 Ar4 (j := (2 : Int32)) hin4 (g := (mkF m 87 #[.val (.int p0), .val (.int p1), .val (.int p2), .val (.int p3), .val (.int p4), .val (.int p5), .val (.int (1 : Int32)), .val (.int v0), .val (.int v1), .val (.int v2), .val (.int v3), .val (.int v4), .val (.int v5), .unset, .unset, .unset, .unset, .unset, .unset] [(.int v2), (.int (2 : Int32)), (.ref b1), (.ref b1)])) rfl rfl (hb hby at_87)
  have V4 : Arv Z h4 b1 k1 .int (6 : Int32) [(.int v0), (.int v1), (.int v2), (.int (0 : Int32)), (.int (0 : Int32)), (.int (0 : Int32))] (.int (0 : Int32)) := Arv.set Ar4 q4 S4 M4 H4 G4 rfl W4 2 rfl (Nat.le_of_ble_eq_true rfl)
  have N4 := Fr.snoc X4 N3 (Nat.le_trans Z0 (Nat.le_of_eq g1.symm))
  have Vc5 := V4
  obtain ⟨cl5, Ar5, q5, S5, M5, H5, G5⟩ := Vc5
  have hin5 : ¬ ((3 : Int32) < 0 ∨ cl5.slots.size ≤ ((3 : Int32)).toNatClampNeg) := inb_of S5 ⟨by decide, by decide⟩
  obtain ⟨T5, h5, X5, e5, W5, st5⟩ := stI X4 hx hZ e4 Ar5 (j := (3 : Int32)) hin5 (g := (mkF m 92 #[.val (.int p0), .val (.int p1), .val (.int p2), .val (.int p3), .val (.int p4), .val (.int p5), .val (.int (1 : Int32)), .val (.int v0), .val (.int v1), .val (.int v2), .val (.int v3), .val (.int v4), .val (.int v5), .unset, .unset, .unset, .unset, .unset, .unset] [(.int v3), (.int (3 : Int32)), (.ref b1), (.ref b1)])) rfl rfl (hb hby at_92)
  have V5 : Arv Z h5 b1 k1 .int (6 : Int32) [(.int v0), (.int v1), (.int v2), (.int v3), (.int (0 : Int32)), (.int (0 : Int32))] (.int (0 : Int32)) := Arv.set Ar5 q5 S5 M5 H5 G5 rfl W5 3 rfl (Nat.le_of_ble_eq_true rfl)
  have N5 := Fr.snoc X5 N4 (Nat.le_trans Z0 (Nat.le_of_eq g1.symm))
  have Vc6 := V5
  obtain ⟨cl6, Ar6, q6, S6, M6, H6, G6⟩ := Vc6
  have hin6 : ¬ ((4 : Int32) < 0 ∨ cl6.slots.size ≤ ((4 : Int32)).toNatClampNeg) := inb_of S6 ⟨by decide, by decide⟩
  obtain ⟨T6, h6, X6, e6, W6, st6⟩ := stI X5 hx hZ e5 Ar6 (j := (4 : Int32)) hin6 (g := (mkF m 97 #[.val (.int p0), .val (.int p1), .val (.int p2), .val (.int p3), .val (.int p4), .val (.int p5), .val (.int (1 : Int32)), .val (.int v0), .val (.int v1), .val (.int v2), .val (.int v3), .val (.int v4), .val (.int v5), .unset, .unset, .unset, .unset, .unset, .unset] [(.int v4), (.int (4 : Int32)), (.ref b1), (.ref b1)])) rfl rfl (hb hby at_97)
  have V6 : Arv Z h6 b1 k1 .int (6 : Int32) [(.int v0), (.int v1), (.int v2), (.int v3), (.int v4), (.int (0 : Int32))] (.int (0 : Int32)) := Arv.set Ar6 q6 S6 M6 H6 G6 rfl W6 4 rfl (Nat.le_of_ble_eq_true rfl)
  have N6 := Fr.snoc X6 N5 (Nat.le_trans Z0 (Nat.le_of_eq g1.symm))
  have Vc7 := V6
  obtain ⟨cl7, Ar7, q7, S7, M7, H7, G7⟩ := Vc7
  have hin7 : ¬ ((5 : Int32) < 0 ∨ cl7.slots.size ≤ ((5 : Int32)).toNatClampNeg) := inb_of S7 ⟨by decide, by decide⟩
  obtain ⟨T7, h7, X7, e7, W7, st7⟩ := stI X6 hx hZ e6 Ar7 (j := (5 : Int32)) hin7 (g := (mkF m 102 #[.val (.int p0), .val (.int p1), .val (.int p2), .val (.int p3), .val (.int p4), .val (.int p5), .val (.int (1 : Int32)), .val (.int v0), .val (.int v1), .val (.int v2), .val (.int v3), .val (.int v4), .val (.int v5), .unset, .unset, .unset, .unset, .unset, .unset] [(.int v5), (.int (5 : Int32)), (.ref b1), (.ref b1)])) rfl rfl (hb hby at_102)
  have V7 : Arv Z h7 b1 k1 .int (6 : Int32) [(.int v0), (.int v1), (.int v2), (.int v3), (.int v4), (.int v5)] (.int (0 : Int32)) := Arv.set Ar7 q7 S7 M7 H7 G7 rfl W7 5 rfl (Nat.le_of_ble_eq_true rfl)
  have N7 := Fr.snoc X7 N6 (Nat.le_trans Z0 (Nat.le_of_eq g1.symm))
  obtain ⟨T8, h8, k8, X8, e8, E8, A8, st8⟩ := newP X7 hx hZ (hw _ (List.mem_of_getElem? (i := 4) rfl)) e7 (g := (mkF m 107 #[.val (.int p0), .val (.int p1), .val (.int p2), .val (.int p3), .val (.int p4), .val (.int p5), .val (.int (1 : Int32)), .val (.int v0), .val (.int v1), .val (.int v2), .val (.int v3), .val (.int v4), .val (.int v5), .val (.ref b1), .unset, .unset, .unset, .unset, .unset] [(.int (1 : Int32))])) rfl (hb hby at_107) rfl (by decide) (cap := 1) (by decide) (by decide) (by decide) (by decide)
  obtain ⟨b8, g8⟩ : ∃ z, z = h7.size := ⟨_, rfl⟩
  rw [← g8] at A8 st8
  have V8 : Arv Z h8 b8 k8 .double (1 : Int32) [(.double 0)] (.double 0) := (Arv.new A8 (by decide)).pad (pad_rep [] (.double 0) 1)
  have Vc9 := V8
  obtain ⟨cl9, Ar9, q9, S9, M9, H9, G9⟩ := Vc9
  have hin9 : ¬ ((0 : Int32) < 0 ∨ cl9.slots.size ≤ ((0 : Int32)).toNatClampNeg) := inb_of S9 ⟨by decide, by decide⟩
  obtain ⟨T9, h9, X9, e9, W9, st9⟩ := stD X8 hx hZ e8 Ar9 (j := (0 : Int32)) hin9 (g := (mkF m 117 #[.val (.int p0), .val (.int p1), .val (.int p2), .val (.int p3), .val (.int p4), .val (.int p5), .val (.int (1 : Int32)), .val (.int v0), .val (.int v1), .val (.int v2), .val (.int v3), .val (.int v4), .val (.int v5), .val (.ref b1), .val (.ref b8), .unset, .unset, .unset, .unset] [(.double (FP.i2d v0)), (.int (0 : Int32)), (.ref b8)])) rfl rfl (hb hby at_117)
  have V9 : Arv Z h9 b8 k8 .double (1 : Int32) [(.double (FP.i2d v0))] (.double 0) := Arv.set Ar9 q9 S9 M9 H9 G9 rfl W9 0 rfl (Nat.le_of_ble_eq_true rfl)
  have N9 := Fr.snoc X9 N7 (Nat.le_trans (Nat.le_trans (Nat.le_trans (Nat.le_trans (Nat.le_trans (Nat.le_trans (Nat.le_trans (Nat.le_trans Z0 E1.1) (Keep.of_wr W2).1) (Keep.of_wr W3).1) (Keep.of_wr W4).1) (Keep.of_wr W5).1) (Keep.of_wr W6).1) (Keep.of_wr W7).1) (Nat.le_of_eq g8.symm))
  obtain ⟨_, _, ⟨T10, L10, k10, n10⟩, -, X10, ⟨Lc10, hQ10, l10, y10, z10⟩, st10⟩ := Jvm.LawKit.callS X9 hx (y := (⟨"parkline/scenario/Bench", "median", "([D)D"⟩ : MethodName)) hown (mvT hZ (hw _ (List.mem_of_getElem? (i := 5) rfl))) (mvT hZ (hw _ (List.mem_of_getElem? (i := 6) rfl))) (mvT hZ (hw _ (List.mem_of_getElem? (i := 7) rfl))) (mvT hZ (hw _ (List.mem_of_getElem? (i := 8) rfl))) (by decide) (backOf (W := 0) (rmMed1 l Z a0 hw [] b8 k8 (FP.i2d v0) h9 n0 (Nat.le_trans (Nat.le_trans (Nat.le_trans (Nat.le_trans (Nat.le_trans (Nat.le_trans (Nat.le_trans (Nat.le_trans (Nat.le_trans Z0 E1.1) (Keep.of_wr W2).1) (Keep.of_wr W3).1) (Keep.of_wr W4).1) (Keep.of_wr W5).1) (Keep.of_wr W6).1) (Keep.of_wr W7).1) E8.1) (Keep.of_wr W9).1) V9) hZ (hw _ (List.mem_of_getElem? (i := 8) rfl)) (hw _ (List.mem_of_getElem? (i := 7) rfl)) (by decide) (by decide)) (g := (mkF m 185 #[.val (.int p0), .val (.int p1), .val (.int p2), .val (.int p3), .val (.int p4), .val (.int p5), .val (.int (1 : Int32)), .val (.int v0), .val (.int v1), .val (.int v2), .val (.int v3), .val (.int v4), .val (.int v5), .val (.ref b1), .val (.ref b8), .unset, .unset, .unset, .unset] [(.ref b8)])) rfl (by rw [hml]; rfl) (argsL := [(.ref b8)]) (rest := []) (lenOf pd_0 rfl) rfl (by show 2 * 0 + _ ≤ _; exact Nat.le_of_eq rfl) (hb hby at_185) (fun _ _ => ⟨rfl, e9, (by decide : 2 + 0 ≤ _), (by decide : 7 + 0 ≤ _)⟩)
  dsimp only [Pt.U, Pt.locs, Pt.cells, Pt.slots] at X10 l10 y10 z10 st10 hQ10
  subst l10 y10 z10
  obtain ⟨rfl, Nq10, e10⟩ := hQ10
  have N10 := Fr.app N9 Nq10
  have f11 : Arv Z h9 b1 k1 .int (6 : Int32) [(.int v0), (.int v1), (.int v2), (.int v3), (.int v4), (.int v5)] (.int (0 : Int32)) := ((V7.ext E8).other W9 (Nat.ne_of_lt (Nat.lt_of_lt_of_le V7.lt (Nat.le_of_eq g8.symm))))
  have Vc12 := f11
  obtain ⟨cl12, Ar12, q12, S12, M12, H12, G12⟩ := Vc12
  have hin12 : ¬ ((0 : Int32) < 0 ∨ cl12.slots.size ≤ ((0 : Int32)).toNatClampNeg) := inb_of S12 ⟨by decide, by decide⟩
  have hat12 : cl12.slots[((0 : Int32)).toNatClampNeg]? = some (.int v0) := Has.at H12 hin12 rfl
  have Vc13 := f11
  obtain ⟨cl13, Ar13, q13, S13, M13, H13, G13⟩ := Vc13
  have hin13 : ¬ ((0 : Int32) < 0 ∨ cl13.slots.size ≤ ((0 : Int32)).toNatClampNeg) := inb_of S13 ⟨by decide, by decide⟩
  have hat13 : cl13.slots[((0 : Int32)).toNatClampNeg]? = some (.int v0) := Has.at H13 hin13 rfl
  obtain ⟨fs, hr, hrun, hended, hW, hsame⟩ := X10.leave (v := some (.int (1 : Int32))) (fun h => by rw [Bd.returns] at h; cases h)
  refine ⟨_, _, pre0 _ ?_, hrun, hended, _, _, rfl, ?_, ⟨_, rfl⟩, hW, hsame.mono (by decide) (by decide)⟩
  · show Steps p.tables e below (s₁.setTop (mkF m 0 #[.val (.int p0), .val (.int p1), .val (.int p2), .val (.int p3), .val (.int p4), .val (.int p5), .unset, .unset, .unset, .unset, .unset, .unset, .unset, .unset, .unset, .unset, .unset, .unset, .unset] [])) _
    refine XS.iloadN X0.here hx rfl (hb hby at_0) rfl ?_
    show Steps p.tables e below (s₁.setTop (mkF m 1 #[.val (.int p0), .val (.int p1), .val (.int p2), .val (.int p3), .val (.int p4), .val (.int p5), .unset, .unset, .unset, .unset, .unset, .unset, .unset, .unset, .unset, .unset, .unset, .unset, .unset] [(.int p0)])) _
    refine XS.bipush X0.here hx rfl (hb hby at_1) ?_
    show Steps p.tables e below (s₁.setTop (mkF m 3 #[.val (.int p0), .val (.int p1), .val (.int p2), .val (.int p3), .val (.int p4), .val (.int p5), .unset, .unset, .unset, .unset, .unset, .unset, .unset, .unset, .unset, .unset, .unset, .unset, .unset] [(.int (7 : Int32)), (.int p0)])) _
    refine XS.iand X0.here hx rfl (hb hby at_3) rfl ?_
    show Steps p.tables e below (s₁.setTop (mkF m 4 #[.val (.int p0), .val (.int p1), .val (.int p2), .val (.int p3), .val (.int p4), .val (.int p5), .unset, .unset, .unset, .unset, .unset, .unset, .unset, .unset, .unset, .unset, .unset, .unset, .unset] [(.int (p0 &&& (7 : Int32)))])) _
    refine XS.bipush X0.here hx rfl (hb hby at_4) ?_
    show Steps p.tables e below (s₁.setTop (mkF m 6 #[.val (.int p0), .val (.int p1), .val (.int p2), .val (.int p3), .val (.int p4), .val (.int p5), .unset, .unset, .unset, .unset, .unset, .unset, .unset, .unset, .unset, .unset, .unset, .unset, .unset] [(.int (6 : Int32)), (.int (p0 &&& (7 : Int32)))])) _
    refine iremM X0 hx (g := (mkF m 6 #[.val (.int p0), .val (.int p1), .val (.int p2), .val (.int p3), .val (.int p4), .val (.int p5), .unset, .unset, .unset, .unset, .unset, .unset, .unset, .unset, .unset, .unset, .unset, .unset, .unset] [(.int (6 : Int32)), (.int (p0 &&& (7 : Int32)))])) rfl (hb hby at_6) rfl (by decide) ?_
    show Steps p.tables e below (s₁.setTop (mkF m 7 #[.val (.int p0), .val (.int p1), .val (.int p2), .val (.int p3), .val (.int p4), .val (.int p5), .unset, .unset, .unset, .unset, .unset, .unset, .unset, .unset, .unset, .unset, .unset, .unset, .unset] [(.int ((p0 &&& (7 : Int32)) % (6 : Int32)))])) _
    refine XS.iconst X0.here hx rfl (hb hby at_7) ?_
    show Steps p.tables e below (s₁.setTop (mkF m 8 #[.val (.int p0), .val (.int p1), .val (.int p2), .val (.int p3), .val (.int p4), .val (.int p5), .unset, .unset, .unset, .unset, .unset, .unset, .unset, .unset, .unset, .unset, .unset, .unset, .unset] [(.int (1 : Int32)), (.int ((p0 &&& (7 : Int32)) % (6 : Int32)))])) _
    refine XS.iadd X0.here hx rfl (hb hby at_8) rfl ?_
    show Steps p.tables e below (s₁.setTop (mkF m 9 #[.val (.int p0), .val (.int p1), .val (.int p2), .val (.int p3), .val (.int p4), .val (.int p5), .unset, .unset, .unset, .unset, .unset, .unset, .unset, .unset, .unset, .unset, .unset, .unset, .unset] [(.int (((p0 &&& (7 : Int32)) % (6 : Int32)) + (1 : Int32)))])) _
    rw [hn]
    show Steps p.tables e below (s₁.setTop (mkF m 9 #[.val (.int p0), .val (.int p1), .val (.int p2), .val (.int p3), .val (.int p4), .val (.int p5), .unset, .unset, .unset, .unset, .unset, .unset, .unset, .unset, .unset, .unset, .unset, .unset, .unset] [(.int (1 : Int32))])) _
    refine XS.istore X0.here hx rfl (hb hby at_9) rfl (l' := #[.val (.int p0), .val (.int p1), .val (.int p2), .val (.int p3), .val (.int p4), .val (.int p5), .val (.int (1 : Int32)), .unset, .unset, .unset, .unset, .unset, .unset, .unset, .unset, .unset, .unset, .unset, .unset]) rfl ?_
    show Steps p.tables e below (s₁.setTop (mkF m 11 #[.val (.int p0), .val (.int p1), .val (.int p2), .val (.int p3), .val (.int p4), .val (.int p5), .val (.int (1 : Int32)), .unset, .unset, .unset, .unset, .unset, .unset, .unset, .unset, .unset, .unset, .unset, .unset] [])) _
    refine XS.iloadN X0.here hx rfl (hb hby at_11) rfl ?_
    show Steps p.tables e below (s₁.setTop (mkF m 12 #[.val (.int p0), .val (.int p1), .val (.int p2), .val (.int p3), .val (.int p4), .val (.int p5), .val (.int (1 : Int32)), .unset, .unset, .unset, .unset, .unset, .unset, .unset, .unset, .unset, .unset, .unset, .unset] [(.int p0)])) _
    refine XS.iconst X0.here hx rfl (hb hby at_12) ?_
    show Steps p.tables e below (s₁.setTop (mkF m 13 #[.val (.int p0), .val (.int p1), .val (.int p2), .val (.int p3), .val (.int p4), .val (.int p5), .val (.int (1 : Int32)), .unset, .unset, .unset, .unset, .unset, .unset, .unset, .unset, .unset, .unset, .unset, .unset] [(.int (3 : Int32)), (.int p0)])) _
    refine XS.ishr X0.here hx rfl (hb hby at_13) rfl ?_
    show Steps p.tables e below (s₁.setTop (mkF m 14 #[.val (.int p0), .val (.int p1), .val (.int p2), .val (.int p3), .val (.int p4), .val (.int p5), .val (.int (1 : Int32)), .unset, .unset, .unset, .unset, .unset, .unset, .unset, .unset, .unset, .unset, .unset, .unset] [(.int (p0 >>> ((3 : Int32) &&& 31)))])) _
    refine X0.ldcInt hx hown (mvT hZ (hw _ (List.mem_of_getElem? (i := 0) rfl))) (g := (mkF m 14 #[.val (.int p0), .val (.int p1), .val (.int p2), .val (.int p3), .val (.int p4), .val (.int p5), .val (.int (1 : Int32)), .unset, .unset, .unset, .unset, .unset, .unset, .unset, .unset, .unset, .unset, .unset, .unset] [(.int (p0 >>> ((3 : Int32) &&& 31)))])) rfl (hb hby at_14) _ ?_
    show Steps p.tables e below (s₁.setTop (mkF m 16 #[.val (.int p0), .val (.int p1), .val (.int p2), .val (.int p3), .val (.int p4), .val (.int p5), .val (.int (1 : Int32)), .unset, .unset, .unset, .unset, .unset, .unset, .unset, .unset, .unset, .unset, .unset, .unset] [(.int (1048575 : Int32)), (.int (p0 >>> ((3 : Int32) &&& 31)))])) _
    refine XS.iand X0.here hx rfl (hb hby at_16) rfl ?_
    show Steps p.tables e below (s₁.setTop (mkF m 17 #[.val (.int p0), .val (.int p1), .val (.int p2), .val (.int p3), .val (.int p4), .val (.int p5), .val (.int (1 : Int32)), .unset, .unset, .unset, .unset, .unset, .unset, .unset, .unset, .unset, .unset, .unset, .unset] [(.int ((p0 >>> ((3 : Int32) &&& 31)) &&& (1048575 : Int32)))])) _
    refine X0.ldcInt hx hown (mvT hZ (hw _ (List.mem_of_getElem? (i := 1) rfl))) (g := (mkF m 17 #[.val (.int p0), .val (.int p1), .val (.int p2), .val (.int p3), .val (.int p4), .val (.int p5), .val (.int (1 : Int32)), .unset, .unset, .unset, .unset, .unset, .unset, .unset, .unset, .unset, .unset, .unset, .unset] [(.int ((p0 >>> ((3 : Int32) &&& 31)) &&& (1048575 : Int32)))])) rfl (hb hby at_17) _ ?_
    show Steps p.tables e below (s₁.setTop (mkF m 19 #[.val (.int p0), .val (.int p1), .val (.int p2), .val (.int p3), .val (.int p4), .val (.int p5), .val (.int (1 : Int32)), .unset, .unset, .unset, .unset, .unset, .unset, .unset, .unset, .unset, .unset, .unset, .unset] [(.int (524288 : Int32)), (.int ((p0 >>> ((3 : Int32) &&& 31)) &&& (1048575 : Int32)))])) _
    refine XS.isub X0.here hx rfl (hb hby at_19) rfl ?_
    show Steps p.tables e below (s₁.setTop (mkF m 20 #[.val (.int p0), .val (.int p1), .val (.int p2), .val (.int p3), .val (.int p4), .val (.int p5), .val (.int (1 : Int32)), .unset, .unset, .unset, .unset, .unset, .unset, .unset, .unset, .unset, .unset, .unset, .unset] [(.int (((p0 >>> ((3 : Int32) &&& 31)) &&& (1048575 : Int32)) - (524288 : Int32)))])) _
    rw [hv0]
    show Steps p.tables e below (s₁.setTop (mkF m 20 #[.val (.int p0), .val (.int p1), .val (.int p2), .val (.int p3), .val (.int p4), .val (.int p5), .val (.int (1 : Int32)), .unset, .unset, .unset, .unset, .unset, .unset, .unset, .unset, .unset, .unset, .unset, .unset] [(.int v0)])) _
    refine XS.istore X0.here hx rfl (hb hby at_20) rfl (l' := #[.val (.int p0), .val (.int p1), .val (.int p2), .val (.int p3), .val (.int p4), .val (.int p5), .val (.int (1 : Int32)), .val (.int v0), .unset, .unset, .unset, .unset, .unset, .unset, .unset, .unset, .unset, .unset, .unset]) rfl ?_
    show Steps p.tables e below (s₁.setTop (mkF m 22 #[.val (.int p0), .val (.int p1), .val (.int p2), .val (.int p3), .val (.int p4), .val (.int p5), .val (.int (1 : Int32)), .val (.int v0), .unset, .unset, .unset, .unset, .unset, .unset, .unset, .unset, .unset, .unset, .unset] [])) _
    refine XS.iload X0.here hx rfl (hb hby at_22) rfl ?_
    show Steps p.tables e below (s₁.setTop (mkF m 24 #[.val (.int p0), .val (.int p1), .val (.int p2), .val (.int p3), .val (.int p4), .val (.int p5), .val (.int (1 : Int32)), .val (.int v0), .unset, .unset, .unset, .unset, .unset, .unset, .unset, .unset, .unset, .unset, .unset] [(.int v0)])) _
    refine XS.iloadN X0.here hx rfl (hb hby at_24) rfl ?_
    show Steps p.tables e below (s₁.setTop (mkF m 25 #[.val (.int p0), .val (.int p1), .val (.int p2), .val (.int p3), .val (.int p4), .val (.int p5), .val (.int (1 : Int32)), .val (.int v0), .unset, .unset, .unset, .unset, .unset, .unset, .unset, .unset, .unset, .unset, .unset] [(.int p1), (.int v0)])) _
    refine X0.ldcInt hx hown (mvT hZ (hw _ (List.mem_of_getElem? (i := 2) rfl))) (g := (mkF m 25 #[.val (.int p0), .val (.int p1), .val (.int p2), .val (.int p3), .val (.int p4), .val (.int p5), .val (.int (1 : Int32)), .val (.int v0), .unset, .unset, .unset, .unset, .unset, .unset, .unset, .unset, .unset, .unset, .unset] [(.int p1), (.int v0)])) rfl (hb hby at_25) _ ?_
    show Steps p.tables e below (s₁.setTop (mkF m 27 #[.val (.int p0), .val (.int p1), .val (.int p2), .val (.int p3), .val (.int p4), .val (.int p5), .val (.int (1 : Int32)), .val (.int v0), .unset, .unset, .unset, .unset, .unset, .unset, .unset, .unset, .unset, .unset, .unset] [(.int (65535 : Int32)), (.int p1), (.int v0)])) _
    refine XS.iand X0.here hx rfl (hb hby at_27) rfl ?_
    show Steps p.tables e below (s₁.setTop (mkF m 28 #[.val (.int p0), .val (.int p1), .val (.int p2), .val (.int p3), .val (.int p4), .val (.int p5), .val (.int (1 : Int32)), .val (.int v0), .unset, .unset, .unset, .unset, .unset, .unset, .unset, .unset, .unset, .unset, .unset] [(.int (p1 &&& (65535 : Int32))), (.int v0)])) _
    refine XS.iadd X0.here hx rfl (hb hby at_28) rfl ?_
    show Steps p.tables e below (s₁.setTop (mkF m 29 #[.val (.int p0), .val (.int p1), .val (.int p2), .val (.int p3), .val (.int p4), .val (.int p5), .val (.int (1 : Int32)), .val (.int v0), .unset, .unset, .unset, .unset, .unset, .unset, .unset, .unset, .unset, .unset, .unset] [(.int (v0 + (p1 &&& (65535 : Int32))))])) _
    rw [hv1]
    show Steps p.tables e below (s₁.setTop (mkF m 29 #[.val (.int p0), .val (.int p1), .val (.int p2), .val (.int p3), .val (.int p4), .val (.int p5), .val (.int (1 : Int32)), .val (.int v0), .unset, .unset, .unset, .unset, .unset, .unset, .unset, .unset, .unset, .unset, .unset] [(.int v1)])) _
    refine XS.istore X0.here hx rfl (hb hby at_29) rfl (l' := #[.val (.int p0), .val (.int p1), .val (.int p2), .val (.int p3), .val (.int p4), .val (.int p5), .val (.int (1 : Int32)), .val (.int v0), .val (.int v1), .unset, .unset, .unset, .unset, .unset, .unset, .unset, .unset, .unset, .unset]) rfl ?_
    show Steps p.tables e below (s₁.setTop (mkF m 31 #[.val (.int p0), .val (.int p1), .val (.int p2), .val (.int p3), .val (.int p4), .val (.int p5), .val (.int (1 : Int32)), .val (.int v0), .val (.int v1), .unset, .unset, .unset, .unset, .unset, .unset, .unset, .unset, .unset, .unset] [])) _
    refine XS.iload X0.here hx rfl (hb hby at_31) rfl ?_
    show Steps p.tables e below (s₁.setTop (mkF m 33 #[.val (.int p0), .val (.int p1), .val (.int p2), .val (.int p3), .val (.int p4), .val (.int p5), .val (.int (1 : Int32)), .val (.int v0), .val (.int v1), .unset, .unset, .unset, .unset, .unset, .unset, .unset, .unset, .unset, .unset] [(.int v1)])) _
    refine XS.iloadN X0.here hx rfl (hb hby at_33) rfl ?_
    show Steps p.tables e below (s₁.setTop (mkF m 34 #[.val (.int p0), .val (.int p1), .val (.int p2), .val (.int p3), .val (.int p4), .val (.int p5), .val (.int (1 : Int32)), .val (.int v0), .val (.int v1), .unset, .unset, .unset, .unset, .unset, .unset, .unset, .unset, .unset, .unset] [(.int p2), (.int v1)])) _
    refine X0.ldcInt hx hown (mvT hZ (hw _ (List.mem_of_getElem? (i := 2) rfl))) (g := (mkF m 34 #[.val (.int p0), .val (.int p1), .val (.int p2), .val (.int p3), .val (.int p4), .val (.int p5), .val (.int (1 : Int32)), .val (.int v0), .val (.int v1), .unset, .unset, .unset, .unset, .unset, .unset, .unset, .unset, .unset, .unset] [(.int p2), (.int v1)])) rfl (hb hby at_34) _ ?_
    show Steps p.tables e below (s₁.setTop (mkF m 36 #[.val (.int p0), .val (.int p1), .val (.int p2), .val (.int p3), .val (.int p4), .val (.int p5), .val (.int (1 : Int32)), .val (.int v0), .val (.int v1), .unset, .unset, .unset, .unset, .unset, .unset, .unset, .unset, .unset, .unset] [(.int (65535 : Int32)), (.int p2), (.int v1)])) _
    refine XS.iand X0.here hx rfl (hb hby at_36) rfl ?_
    show Steps p.tables e below (s₁.setTop (mkF m 37 #[.val (.int p0), .val (.int p1), .val (.int p2), .val (.int p3), .val (.int p4), .val (.int p5), .val (.int (1 : Int32)), .val (.int v0), .val (.int v1), .unset, .unset, .unset, .unset, .unset, .unset, .unset, .unset, .unset, .unset] [(.int (p2 &&& (65535 : Int32))), (.int v1)])) _
    refine XS.iadd X0.here hx rfl (hb hby at_37) rfl ?_
    show Steps p.tables e below (s₁.setTop (mkF m 38 #[.val (.int p0), .val (.int p1), .val (.int p2), .val (.int p3), .val (.int p4), .val (.int p5), .val (.int (1 : Int32)), .val (.int v0), .val (.int v1), .unset, .unset, .unset, .unset, .unset, .unset, .unset, .unset, .unset, .unset] [(.int (v1 + (p2 &&& (65535 : Int32))))])) _
    rw [hv2]
    show Steps p.tables e below (s₁.setTop (mkF m 38 #[.val (.int p0), .val (.int p1), .val (.int p2), .val (.int p3), .val (.int p4), .val (.int p5), .val (.int (1 : Int32)), .val (.int v0), .val (.int v1), .unset, .unset, .unset, .unset, .unset, .unset, .unset, .unset, .unset, .unset] [(.int v2)])) _
    refine XS.istore X0.here hx rfl (hb hby at_38) rfl (l' := #[.val (.int p0), .val (.int p1), .val (.int p2), .val (.int p3), .val (.int p4), .val (.int p5), .val (.int (1 : Int32)), .val (.int v0), .val (.int v1), .val (.int v2), .unset, .unset, .unset, .unset, .unset, .unset, .unset, .unset, .unset]) rfl ?_
    show Steps p.tables e below (s₁.setTop (mkF m 40 #[.val (.int p0), .val (.int p1), .val (.int p2), .val (.int p3), .val (.int p4), .val (.int p5), .val (.int (1 : Int32)), .val (.int v0), .val (.int v1), .val (.int v2), .unset, .unset, .unset, .unset, .unset, .unset, .unset, .unset, .unset] [])) _
    refine XS.iload X0.here hx rfl (hb hby at_40) rfl ?_
    show Steps p.tables e below (s₁.setTop (mkF m 42 #[.val (.int p0), .val (.int p1), .val (.int p2), .val (.int p3), .val (.int p4), .val (.int p5), .val (.int (1 : Int32)), .val (.int v0), .val (.int v1), .val (.int v2), .unset, .unset, .unset, .unset, .unset, .unset, .unset, .unset, .unset] [(.int v2)])) _
    refine XS.iloadN X0.here hx rfl (hb hby at_42) rfl ?_
    show Steps p.tables e below (s₁.setTop (mkF m 43 #[.val (.int p0), .val (.int p1), .val (.int p2), .val (.int p3), .val (.int p4), .val (.int p5), .val (.int (1 : Int32)), .val (.int v0), .val (.int v1), .val (.int v2), .unset, .unset, .unset, .unset, .unset, .unset, .unset, .unset, .unset] [(.int p3), (.int v2)])) _
    refine X0.ldcInt hx hown (mvT hZ (hw _ (List.mem_of_getElem? (i := 2) rfl))) (g := (mkF m 43 #[.val (.int p0), .val (.int p1), .val (.int p2), .val (.int p3), .val (.int p4), .val (.int p5), .val (.int (1 : Int32)), .val (.int v0), .val (.int v1), .val (.int v2), .unset, .unset, .unset, .unset, .unset, .unset, .unset, .unset, .unset] [(.int p3), (.int v2)])) rfl (hb hby at_43) _ ?_
    show Steps p.tables e below (s₁.setTop (mkF m 45 #[.val (.int p0), .val (.int p1), .val (.int p2), .val (.int p3), .val (.int p4), .val (.int p5), .val (.int (1 : Int32)), .val (.int v0), .val (.int v1), .val (.int v2), .unset, .unset, .unset, .unset, .unset, .unset, .unset, .unset, .unset] [(.int (65535 : Int32)), (.int p3), (.int v2)])) _
    refine XS.iand X0.here hx rfl (hb hby at_45) rfl ?_
    show Steps p.tables e below (s₁.setTop (mkF m 46 #[.val (.int p0), .val (.int p1), .val (.int p2), .val (.int p3), .val (.int p4), .val (.int p5), .val (.int (1 : Int32)), .val (.int v0), .val (.int v1), .val (.int v2), .unset, .unset, .unset, .unset, .unset, .unset, .unset, .unset, .unset] [(.int (p3 &&& (65535 : Int32))), (.int v2)])) _
    refine XS.iadd X0.here hx rfl (hb hby at_46) rfl ?_
    show Steps p.tables e below (s₁.setTop (mkF m 47 #[.val (.int p0), .val (.int p1), .val (.int p2), .val (.int p3), .val (.int p4), .val (.int p5), .val (.int (1 : Int32)), .val (.int v0), .val (.int v1), .val (.int v2), .unset, .unset, .unset, .unset, .unset, .unset, .unset, .unset, .unset] [(.int (v2 + (p3 &&& (65535 : Int32))))])) _
    rw [hv3]
    show Steps p.tables e below (s₁.setTop (mkF m 47 #[.val (.int p0), .val (.int p1), .val (.int p2), .val (.int p3), .val (.int p4), .val (.int p5), .val (.int (1 : Int32)), .val (.int v0), .val (.int v1), .val (.int v2), .unset, .unset, .unset, .unset, .unset, .unset, .unset, .unset, .unset] [(.int v3)])) _
    refine XS.istore X0.here hx rfl (hb hby at_47) rfl (l' := #[.val (.int p0), .val (.int p1), .val (.int p2), .val (.int p3), .val (.int p4), .val (.int p5), .val (.int (1 : Int32)), .val (.int v0), .val (.int v1), .val (.int v2), .val (.int v3), .unset, .unset, .unset, .unset, .unset, .unset, .unset, .unset]) rfl ?_
    show Steps p.tables e below (s₁.setTop (mkF m 49 #[.val (.int p0), .val (.int p1), .val (.int p2), .val (.int p3), .val (.int p4), .val (.int p5), .val (.int (1 : Int32)), .val (.int v0), .val (.int v1), .val (.int v2), .val (.int v3), .unset, .unset, .unset, .unset, .unset, .unset, .unset, .unset] [])) _
    refine XS.iload X0.here hx rfl (hb hby at_49) rfl ?_
    show Steps p.tables e below (s₁.setTop (mkF m 51 #[.val (.int p0), .val (.int p1), .val (.int p2), .val (.int p3), .val (.int p4), .val (.int p5), .val (.int (1 : Int32)), .val (.int v0), .val (.int v1), .val (.int v2), .val (.int v3), .unset, .unset, .unset, .unset, .unset, .unset, .unset, .unset] [(.int v3)])) _
    refine XS.iload X0.here hx rfl (hb hby at_51) rfl ?_
    show Steps p.tables e below (s₁.setTop (mkF m 53 #[.val (.int p0), .val (.int p1), .val (.int p2), .val (.int p3), .val (.int p4), .val (.int p5), .val (.int (1 : Int32)), .val (.int v0), .val (.int v1), .val (.int v2), .val (.int v3), .unset, .unset, .unset, .unset, .unset, .unset, .unset, .unset] [(.int p4), (.int v3)])) _
    refine X0.ldcInt hx hown (mvT hZ (hw _ (List.mem_of_getElem? (i := 2) rfl))) (g := (mkF m 53 #[.val (.int p0), .val (.int p1), .val (.int p2), .val (.int p3), .val (.int p4), .val (.int p5), .val (.int (1 : Int32)), .val (.int v0), .val (.int v1), .val (.int v2), .val (.int v3), .unset, .unset, .unset, .unset, .unset, .unset, .unset, .unset] [(.int p4), (.int v3)])) rfl (hb hby at_53) _ ?_
    show Steps p.tables e below (s₁.setTop (mkF m 55 #[.val (.int p0), .val (.int p1), .val (.int p2), .val (.int p3), .val (.int p4), .val (.int p5), .val (.int (1 : Int32)), .val (.int v0), .val (.int v1), .val (.int v2), .val (.int v3), .unset, .unset, .unset, .unset, .unset, .unset, .unset, .unset] [(.int (65535 : Int32)), (.int p4), (.int v3)])) _
    refine XS.iand X0.here hx rfl (hb hby at_55) rfl ?_
    show Steps p.tables e below (s₁.setTop (mkF m 56 #[.val (.int p0), .val (.int p1), .val (.int p2), .val (.int p3), .val (.int p4), .val (.int p5), .val (.int (1 : Int32)), .val (.int v0), .val (.int v1), .val (.int v2), .val (.int v3), .unset, .unset, .unset, .unset, .unset, .unset, .unset, .unset] [(.int (p4 &&& (65535 : Int32))), (.int v3)])) _
    refine XS.iadd X0.here hx rfl (hb hby at_56) rfl ?_
    show Steps p.tables e below (s₁.setTop (mkF m 57 #[.val (.int p0), .val (.int p1), .val (.int p2), .val (.int p3), .val (.int p4), .val (.int p5), .val (.int (1 : Int32)), .val (.int v0), .val (.int v1), .val (.int v2), .val (.int v3), .unset, .unset, .unset, .unset, .unset, .unset, .unset, .unset] [(.int (v3 + (p4 &&& (65535 : Int32))))])) _
    rw [hv4]
    show Steps p.tables e below (s₁.setTop (mkF m 57 #[.val (.int p0), .val (.int p1), .val (.int p2), .val (.int p3), .val (.int p4), .val (.int p5), .val (.int (1 : Int32)), .val (.int v0), .val (.int v1), .val (.int v2), .val (.int v3), .unset, .unset, .unset, .unset, .unset, .unset, .unset, .unset] [(.int v4)])) _
    refine XS.istore X0.here hx rfl (hb hby at_57) rfl (l' := #[.val (.int p0), .val (.int p1), .val (.int p2), .val (.int p3), .val (.int p4), .val (.int p5), .val (.int (1 : Int32)), .val (.int v0), .val (.int v1), .val (.int v2), .val (.int v3), .val (.int v4), .unset, .unset, .unset, .unset, .unset, .unset, .unset]) rfl ?_
    show Steps p.tables e below (s₁.setTop (mkF m 59 #[.val (.int p0), .val (.int p1), .val (.int p2), .val (.int p3), .val (.int p4), .val (.int p5), .val (.int (1 : Int32)), .val (.int v0), .val (.int v1), .val (.int v2), .val (.int v3), .val (.int v4), .unset, .unset, .unset, .unset, .unset, .unset, .unset] [])) _
    refine XS.iload X0.here hx rfl (hb hby at_59) rfl ?_
    show Steps p.tables e below (s₁.setTop (mkF m 61 #[.val (.int p0), .val (.int p1), .val (.int p2), .val (.int p3), .val (.int p4), .val (.int p5), .val (.int (1 : Int32)), .val (.int v0), .val (.int v1), .val (.int v2), .val (.int v3), .val (.int v4), .unset, .unset, .unset, .unset, .unset, .unset, .unset] [(.int v4)])) _
    refine XS.iload X0.here hx rfl (hb hby at_61) rfl ?_
    show Steps p.tables e below (s₁.setTop (mkF m 63 #[.val (.int p0), .val (.int p1), .val (.int p2), .val (.int p3), .val (.int p4), .val (.int p5), .val (.int (1 : Int32)), .val (.int v0), .val (.int v1), .val (.int v2), .val (.int v3), .val (.int v4), .unset, .unset, .unset, .unset, .unset, .unset, .unset] [(.int p5), (.int v4)])) _
    refine X0.ldcInt hx hown (mvT hZ (hw _ (List.mem_of_getElem? (i := 2) rfl))) (g := (mkF m 63 #[.val (.int p0), .val (.int p1), .val (.int p2), .val (.int p3), .val (.int p4), .val (.int p5), .val (.int (1 : Int32)), .val (.int v0), .val (.int v1), .val (.int v2), .val (.int v3), .val (.int v4), .unset, .unset, .unset, .unset, .unset, .unset, .unset] [(.int p5), (.int v4)])) rfl (hb hby at_63) _ ?_
    show Steps p.tables e below (s₁.setTop (mkF m 65 #[.val (.int p0), .val (.int p1), .val (.int p2), .val (.int p3), .val (.int p4), .val (.int p5), .val (.int (1 : Int32)), .val (.int v0), .val (.int v1), .val (.int v2), .val (.int v3), .val (.int v4), .unset, .unset, .unset, .unset, .unset, .unset, .unset] [(.int (65535 : Int32)), (.int p5), (.int v4)])) _
    refine XS.iand X0.here hx rfl (hb hby at_65) rfl ?_
    show Steps p.tables e below (s₁.setTop (mkF m 66 #[.val (.int p0), .val (.int p1), .val (.int p2), .val (.int p3), .val (.int p4), .val (.int p5), .val (.int (1 : Int32)), .val (.int v0), .val (.int v1), .val (.int v2), .val (.int v3), .val (.int v4), .unset, .unset, .unset, .unset, .unset, .unset, .unset] [(.int (p5 &&& (65535 : Int32))), (.int v4)])) _
    refine XS.iadd X0.here hx rfl (hb hby at_66) rfl ?_
    show Steps p.tables e below (s₁.setTop (mkF m 67 #[.val (.int p0), .val (.int p1), .val (.int p2), .val (.int p3), .val (.int p4), .val (.int p5), .val (.int (1 : Int32)), .val (.int v0), .val (.int v1), .val (.int v2), .val (.int v3), .val (.int v4), .unset, .unset, .unset, .unset, .unset, .unset, .unset] [(.int (v4 + (p5 &&& (65535 : Int32))))])) _
    rw [hv5]
    show Steps p.tables e below (s₁.setTop (mkF m 67 #[.val (.int p0), .val (.int p1), .val (.int p2), .val (.int p3), .val (.int p4), .val (.int p5), .val (.int (1 : Int32)), .val (.int v0), .val (.int v1), .val (.int v2), .val (.int v3), .val (.int v4), .unset, .unset, .unset, .unset, .unset, .unset, .unset] [(.int v5)])) _
    refine XS.istore X0.here hx rfl (hb hby at_67) rfl (l' := #[.val (.int p0), .val (.int p1), .val (.int p2), .val (.int p3), .val (.int p4), .val (.int p5), .val (.int (1 : Int32)), .val (.int v0), .val (.int v1), .val (.int v2), .val (.int v3), .val (.int v4), .val (.int v5), .unset, .unset, .unset, .unset, .unset, .unset]) rfl ?_
    show Steps p.tables e below (s₁.setTop (mkF m 69 #[.val (.int p0), .val (.int p1), .val (.int p2), .val (.int p3), .val (.int p4), .val (.int p5), .val (.int (1 : Int32)), .val (.int v0), .val (.int v1), .val (.int v2), .val (.int v3), .val (.int v4), .val (.int v5), .unset, .unset, .unset, .unset, .unset, .unset] [])) _
    refine XS.bipush X0.here hx rfl (hb hby at_69) ?_
    show Steps p.tables e below (s₁.setTop (mkF m 71 #[.val (.int p0), .val (.int p1), .val (.int p2), .val (.int p3), .val (.int p4), .val (.int p5), .val (.int (1 : Int32)), .val (.int v0), .val (.int v1), .val (.int v2), .val (.int v3), .val (.int v4), .val (.int v5), .unset, .unset, .unset, .unset, .unset, .unset] [(.int (6 : Int32))])) _
    refine st1 _ ?_
    show Steps p.tables e below (T1.setTop (mkF m 73 #[.val (.int p0), .val (.int p1), .val (.int p2), .val (.int p3), .val (.int p4), .val (.int p5), .val (.int (1 : Int32)), .val (.int v0), .val (.int v1), .val (.int v2), .val (.int v3), .val (.int v4), .val (.int v5), .unset, .unset, .unset, .unset, .unset, .unset] [(.ref b1)])) _
    refine XS.dup X1.here hx rfl (hb hby at_73) rfl rfl ?_
    show Steps p.tables e below (T1.setTop (mkF m 74 #[.val (.int p0), .val (.int p1), .val (.int p2), .val (.int p3), .val (.int p4), .val (.int p5), .val (.int (1 : Int32)), .val (.int v0), .val (.int v1), .val (.int v2), .val (.int v3), .val (.int v4), .val (.int v5), .unset, .unset, .unset, .unset, .unset, .unset] [(.ref b1), (.ref b1)])) _
    refine XS.iconst X1.here hx rfl (hb hby at_74) ?_
    show Steps p.tables e below (T1.setTop (mkF m 75 #[.val (.int p0), .val (.int p1), .val (.int p2), .val (.int p3), .val (.int p4), .val (.int p5), .val (.int (1 : Int32)), .val (.int v0), .val (.int v1), .val (.int v2), .val (.int v3), .val (.int v4), .val (.int v5), .unset, .unset, .unset, .unset, .unset, .unset] [(.int (0 : Int32)), (.ref b1), (.ref b1)])) _
    refine XS.iload X1.here hx rfl (hb hby at_75) rfl ?_
    show Steps p.tables e below (T1.setTop (mkF m 77 #[.val (.int p0), .val (.int p1), .val (.int p2), .val (.int p3), .val (.int p4), .val (.int p5), .val (.int (1 : Int32)), .val (.int v0), .val (.int v1), .val (.int v2), .val (.int v3), .val (.int v4), .val (.int v5), .unset, .unset, .unset, .unset, .unset, .unset] [(.int v0), (.int (0 : Int32)), (.ref b1), (.ref b1)])) _
    refine st2 _ ?_
    show Steps p.tables e below (T2.setTop (mkF m 78 #[.val (.int p0), .val (.int p1), .val (.int p2), .val (.int p3), .val (.int p4), .val (.int p5), .val (.int (1 : Int32)), .val (.int v0), .val (.int v1), .val (.int v2), .val (.int v3), .val (.int v4), .val (.int v5), .unset, .unset, .unset, .unset, .unset, .unset] [(.ref b1)])) _
    refine XS.dup X2.here hx rfl (hb hby at_78) rfl rfl ?_
    show Steps p.tables e below (T2.setTop (mkF m 79 #[.val (.int p0), .val (.int p1), .val (.int p2), .val (.int p3), .val (.int p4), .val (.int p5), .val (.int (1 : Int32)), .val (.int v0), .val (.int v1), .val (.int v2), .val (.int v3), .val (.int v4), .val (.int v5), .unset, .unset, .unset, .unset, .unset, .unset] [(.ref b1), (.ref b1)])) _
    refine XS.iconst X2.here hx rfl (hb hby at_79) ?_
    show Steps p.tables e below (T2.setTop (mkF m 80 #[.val (.int p0), .val (.int p1), .val (.int p2), .val (.int p3), .val (.int p4), .val (.int p5), .val (.int (1 : Int32)), .val (.int v0), .val (.int v1), .val (.int v2), .val (.int v3), .val (.int v4), .val (.int v5), .unset, .unset, .unset, .unset, .unset, .unset] [(.int (1 : Int32)), (.ref b1), (.ref b1)])) _
    refine XS.iload X2.here hx rfl (hb hby at_80) rfl ?_
    show Steps p.tables e below (T2.setTop (mkF m 82 #[.val (.int p0), .val (.int p1), .val (.int p2), .val (.int p3), .val (.int p4), .val (.int p5), .val (.int (1 : Int32)), .val (.int v0), .val (.int v1), .val (.int v2), .val (.int v3), .val (.int v4), .val (.int v5), .unset, .unset, .unset, .unset, .unset, .unset] [(.int v1), (.int (1 : Int32)), (.ref b1), (.ref b1)])) _
    refine st3 _ ?_
    show Steps p.tables e below (T3.setTop (mkF m 83 #[.val (.int p0), .val (.int p1), .val (.int p2), .val (.int p3), .val (.int p4), .val (.int p5), .val (.int (1 : Int32)), .val (.int v0), .val (.int v1), .val (.int v2), .val (.int v3), .val (.int v4), .val (.int v5), .unset, .unset, .unset, .unset, .unset, .unset] [(.ref b1)])) _
    refine XS.dup X3.here hx rfl (hb hby at_83) rfl rfl ?_
    show Steps p.tables e below (T3.setTop (mkF m 84 #[.val (.int p0), .val (.int p1), .val (.int p2), .val (.int p3), .val (.int p4), .val (.int p5), .val (.int (1 : Int32)), .val (.int v0), .val (.int v1), .val (.int v2), .val (.int v3), .val (.int v4), .val (.int v5), .unset, .unset, .unset, .unset, .unset, .unset] [(.ref b1), (.ref b1)])) _
    refine XS.iconst X3.here hx rfl (hb hby at_84) ?_
    show Steps p.tables e below (T3.setTop (mkF m 85 #[.val (.int p0), .val (.int p1), .val (.int p2), .val (.int p3), .val (.int p4), .val (.int p5), .val (.int (1 : Int32)), .val (.int v0), .val (.int v1), .val (.int v2), .val (.int v3), .val (.int v4), .val (.int v5), .unset, .unset, .unset, .unset, .unset, .unset] [(.int (2 : Int32)), (.ref b1), (.ref b1)])) _
    refine XS.iload X3.here hx rfl (hb hby at_85) rfl ?_
    show Steps p.tables e below (T3.setTop (mkF m 87 #[.val (.int p0), .val (.int p1), .val (.int p2), .val (.int p3), .val (.int p4), .val (.int p5), .val (.int (1 : Int32)), .val (.int v0), .val (.int v1), .val (.int v2), .val (.int v3), .val (.int v4), .val (.int v5), .unset, .unset, .unset, .unset, .unset, .unset] [(.int v2), (.int (2 : Int32)), (.ref b1), (.ref b1)])) _
    refine st4 _ ?_
    show Steps p.tables e below (T4.setTop (mkF m 88 #[.val (.int p0), .val (.int p1), .val (.int p2), .val (.int p3), .val (.int p4), .val (.int p5), .val (.int (1 : Int32)), .val (.int v0), .val (.int v1), .val (.int v2), .val (.int v3), .val (.int v4), .val (.int v5), .unset, .unset, .unset, .unset, .unset, .unset] [(.ref b1)])) _
    refine XS.dup X4.here hx rfl (hb hby at_88) rfl rfl ?_
    show Steps p.tables e below (T4.setTop (mkF m 89 #[.val (.int p0), .val (.int p1), .val (.int p2), .val (.int p3), .val (.int p4), .val (.int p5), .val (.int (1 : Int32)), .val (.int v0), .val (.int v1), .val (.int v2), .val (.int v3), .val (.int v4), .val (.int v5), .unset, .unset, .unset, .unset, .unset, .unset] [(.ref b1), (.ref b1)])) _
    refine XS.iconst X4.here hx rfl (hb hby at_89) ?_
    show Steps p.tables e below (T4.setTop (mkF m 90 #[.val (.int p0), .val (.int p1), .val (.int p2), .val (.int p3), .val (.int p4), .val (.int p5), .val (.int (1 : Int32)), .val (.int v0), .val (.int v1), .val (.int v2), .val (.int v3), .val (.int v4), .val (.int v5), .unset, .unset, .unset, .unset, .unset, .unset] [(.int (3 : Int32)), (.ref b1), (.ref b1)])) _
    refine XS.iload X4.here hx rfl (hb hby at_90) rfl ?_
    show Steps p.tables e below (T4.setTop (mkF m 92 #[.val (.int p0), .val (.int p1), .val (.int p2), .val (.int p3), .val (.int p4), .val (.int p5), .val (.int (1 : Int32)), .val (.int v0), .val (.int v1), .val (.int v2), .val (.int v3), .val (.int v4), .val (.int v5), .unset, .unset, .unset, .unset, .unset, .unset] [(.int v3), (.int (3 : Int32)), (.ref b1), (.ref b1)])) _
    refine st5 _ ?_
    show Steps p.tables e below (T5.setTop (mkF m 93 #[.val (.int p0), .val (.int p1), .val (.int p2), .val (.int p3), .val (.int p4), .val (.int p5), .val (.int (1 : Int32)), .val (.int v0), .val (.int v1), .val (.int v2), .val (.int v3), .val (.int v4), .val (.int v5), .unset, .unset, .unset, .unset, .unset, .unset] [(.ref b1)])) _
    refine XS.dup X5.here hx rfl (hb hby at_93) rfl rfl ?_
    show Steps p.tables e below (T5.setTop (mkF m 94 #[.val (.int p0), .val (.int p1), .val (.int p2), .val (.int p3), .val (.int p4), .val (.int p5), .val (.int (1 : Int32)), .val (.int v0), .val (.int v1), .val (.int v2), .val (.int v3), .val (.int v4), .val (.int v5), .unset, .unset, .unset, .unset, .unset, .unset] [(.ref b1), (.ref b1)])) _
    refine XS.iconst X5.here hx rfl (hb hby at_94) ?_
    show Steps p.tables e below (T5.setTop (mkF m 95 #[.val (.int p0), .val (.int p1), .val (.int p2), .val (.int p3), .val (.int p4), .val (.int p5), .val (.int (1 : Int32)), .val (.int v0), .val (.int v1), .val (.int v2), .val (.int v3), .val (.int v4), .val (.int v5), .unset, .unset, .unset, .unset, .unset, .unset] [(.int (4 : Int32)), (.ref b1), (.ref b1)])) _
    refine XS.iload X5.here hx rfl (hb hby at_95) rfl ?_
    show Steps p.tables e below (T5.setTop (mkF m 97 #[.val (.int p0), .val (.int p1), .val (.int p2), .val (.int p3), .val (.int p4), .val (.int p5), .val (.int (1 : Int32)), .val (.int v0), .val (.int v1), .val (.int v2), .val (.int v3), .val (.int v4), .val (.int v5), .unset, .unset, .unset, .unset, .unset, .unset] [(.int v4), (.int (4 : Int32)), (.ref b1), (.ref b1)])) _
    refine st6 _ ?_
    show Steps p.tables e below (T6.setTop (mkF m 98 #[.val (.int p0), .val (.int p1), .val (.int p2), .val (.int p3), .val (.int p4), .val (.int p5), .val (.int (1 : Int32)), .val (.int v0), .val (.int v1), .val (.int v2), .val (.int v3), .val (.int v4), .val (.int v5), .unset, .unset, .unset, .unset, .unset, .unset] [(.ref b1)])) _
    refine XS.dup X6.here hx rfl (hb hby at_98) rfl rfl ?_
    show Steps p.tables e below (T6.setTop (mkF m 99 #[.val (.int p0), .val (.int p1), .val (.int p2), .val (.int p3), .val (.int p4), .val (.int p5), .val (.int (1 : Int32)), .val (.int v0), .val (.int v1), .val (.int v2), .val (.int v3), .val (.int v4), .val (.int v5), .unset, .unset, .unset, .unset, .unset, .unset] [(.ref b1), (.ref b1)])) _
    refine XS.iconst X6.here hx rfl (hb hby at_99) ?_
    show Steps p.tables e below (T6.setTop (mkF m 100 #[.val (.int p0), .val (.int p1), .val (.int p2), .val (.int p3), .val (.int p4), .val (.int p5), .val (.int (1 : Int32)), .val (.int v0), .val (.int v1), .val (.int v2), .val (.int v3), .val (.int v4), .val (.int v5), .unset, .unset, .unset, .unset, .unset, .unset] [(.int (5 : Int32)), (.ref b1), (.ref b1)])) _
    refine XS.iload X6.here hx rfl (hb hby at_100) rfl ?_
    show Steps p.tables e below (T6.setTop (mkF m 102 #[.val (.int p0), .val (.int p1), .val (.int p2), .val (.int p3), .val (.int p4), .val (.int p5), .val (.int (1 : Int32)), .val (.int v0), .val (.int v1), .val (.int v2), .val (.int v3), .val (.int v4), .val (.int v5), .unset, .unset, .unset, .unset, .unset, .unset] [(.int v5), (.int (5 : Int32)), (.ref b1), (.ref b1)])) _
    refine st7 _ ?_
    show Steps p.tables e below (T7.setTop (mkF m 103 #[.val (.int p0), .val (.int p1), .val (.int p2), .val (.int p3), .val (.int p4), .val (.int p5), .val (.int (1 : Int32)), .val (.int v0), .val (.int v1), .val (.int v2), .val (.int v3), .val (.int v4), .val (.int v5), .unset, .unset, .unset, .unset, .unset, .unset] [(.ref b1)])) _
    refine XS.astore X7.here hx rfl (hb hby at_103) rfl rfl (l' := #[.val (.int p0), .val (.int p1), .val (.int p2), .val (.int p3), .val (.int p4), .val (.int p5), .val (.int (1 : Int32)), .val (.int v0), .val (.int v1), .val (.int v2), .val (.int v3), .val (.int v4), .val (.int v5), .val (.ref b1), .unset, .unset, .unset, .unset, .unset]) rfl ?_
    show Steps p.tables e below (T7.setTop (mkF m 105 #[.val (.int p0), .val (.int p1), .val (.int p2), .val (.int p3), .val (.int p4), .val (.int p5), .val (.int (1 : Int32)), .val (.int v0), .val (.int v1), .val (.int v2), .val (.int v3), .val (.int v4), .val (.int v5), .val (.ref b1), .unset, .unset, .unset, .unset, .unset] [])) _
    refine XS.iload X7.here hx rfl (hb hby at_105) rfl ?_
    show Steps p.tables e below (T7.setTop (mkF m 107 #[.val (.int p0), .val (.int p1), .val (.int p2), .val (.int p3), .val (.int p4), .val (.int p5), .val (.int (1 : Int32)), .val (.int v0), .val (.int v1), .val (.int v2), .val (.int v3), .val (.int v4), .val (.int v5), .val (.ref b1), .unset, .unset, .unset, .unset, .unset] [(.int (1 : Int32))])) _
    refine st8 _ ?_
    show Steps p.tables e below (T8.setTop (mkF m 109 #[.val (.int p0), .val (.int p1), .val (.int p2), .val (.int p3), .val (.int p4), .val (.int p5), .val (.int (1 : Int32)), .val (.int v0), .val (.int v1), .val (.int v2), .val (.int v3), .val (.int v4), .val (.int v5), .val (.ref b1), .unset, .unset, .unset, .unset, .unset] [(.ref b8)])) _
    refine XS.astore X8.here hx rfl (hb hby at_109) rfl rfl (l' := #[.val (.int p0), .val (.int p1), .val (.int p2), .val (.int p3), .val (.int p4), .val (.int p5), .val (.int (1 : Int32)), .val (.int v0), .val (.int v1), .val (.int v2), .val (.int v3), .val (.int v4), .val (.int v5), .val (.ref b1), .val (.ref b8), .unset, .unset, .unset, .unset]) rfl ?_
    show Steps p.tables e below (T8.setTop (mkF m 111 #[.val (.int p0), .val (.int p1), .val (.int p2), .val (.int p3), .val (.int p4), .val (.int p5), .val (.int (1 : Int32)), .val (.int v0), .val (.int v1), .val (.int v2), .val (.int v3), .val (.int v4), .val (.int v5), .val (.ref b1), .val (.ref b8), .unset, .unset, .unset, .unset] [])) _
    refine XS.aload X8.here hx rfl (hb hby at_111) rfl rfl ?_
    show Steps p.tables e below (T8.setTop (mkF m 113 #[.val (.int p0), .val (.int p1), .val (.int p2), .val (.int p3), .val (.int p4), .val (.int p5), .val (.int (1 : Int32)), .val (.int v0), .val (.int v1), .val (.int v2), .val (.int v3), .val (.int v4), .val (.int v5), .val (.ref b1), .val (.ref b8), .unset, .unset, .unset, .unset] [(.ref b8)])) _
    refine XS.iconst X8.here hx rfl (hb hby at_113) ?_
    show Steps p.tables e below (T8.setTop (mkF m 114 #[.val (.int p0), .val (.int p1), .val (.int p2), .val (.int p3), .val (.int p4), .val (.int p5), .val (.int (1 : Int32)), .val (.int v0), .val (.int v1), .val (.int v2), .val (.int v3), .val (.int v4), .val (.int v5), .val (.ref b1), .val (.ref b8), .unset, .unset, .unset, .unset] [(.int (0 : Int32)), (.ref b8)])) _
    refine XS.iload X8.here hx rfl (hb hby at_114) rfl ?_
    show Steps p.tables e below (T8.setTop (mkF m 116 #[.val (.int p0), .val (.int p1), .val (.int p2), .val (.int p3), .val (.int p4), .val (.int p5), .val (.int (1 : Int32)), .val (.int v0), .val (.int v1), .val (.int v2), .val (.int v3), .val (.int v4), .val (.int v5), .val (.ref b1), .val (.ref b8), .unset, .unset, .unset, .unset] [(.int v0), (.int (0 : Int32)), (.ref b8)])) _
    refine XS.i2dS X8.here hx rfl (hb hby at_116) rfl rfl ?_
    show Steps p.tables e below (T8.setTop (mkF m 117 #[.val (.int p0), .val (.int p1), .val (.int p2), .val (.int p3), .val (.int p4), .val (.int p5), .val (.int (1 : Int32)), .val (.int v0), .val (.int v1), .val (.int v2), .val (.int v3), .val (.int v4), .val (.int v5), .val (.ref b1), .val (.ref b8), .unset, .unset, .unset, .unset] [(.double (FP.i2d v0)), (.int (0 : Int32)), (.ref b8)])) _
    refine st9 _ ?_
    show Steps p.tables e below (T9.setTop (mkF m 118 #[.val (.int p0), .val (.int p1), .val (.int p2), .val (.int p3), .val (.int p4), .val (.int p5), .val (.int (1 : Int32)), .val (.int v0), .val (.int v1), .val (.int v2), .val (.int v3), .val (.int v4), .val (.int v5), .val (.ref b1), .val (.ref b8), .unset, .unset, .unset, .unset] [])) _
    refine XS.iload X9.here hx rfl (hb hby at_118) rfl ?_
    show Steps p.tables e below (T9.setTop (mkF m 120 #[.val (.int p0), .val (.int p1), .val (.int p2), .val (.int p3), .val (.int p4), .val (.int p5), .val (.int (1 : Int32)), .val (.int v0), .val (.int v1), .val (.int v2), .val (.int v3), .val (.int v4), .val (.int v5), .val (.ref b1), .val (.ref b8), .unset, .unset, .unset, .unset] [(.int (1 : Int32))])) _
    refine XS.iconst X9.here hx rfl (hb hby at_120) ?_
    show Steps p.tables e below (T9.setTop (mkF m 121 #[.val (.int p0), .val (.int p1), .val (.int p2), .val (.int p3), .val (.int p4), .val (.int p5), .val (.int (1 : Int32)), .val (.int v0), .val (.int v1), .val (.int v2), .val (.int v3), .val (.int v4), .val (.int v5), .val (.ref b1), .val (.ref b8), .unset, .unset, .unset, .unset] [(.int (1 : Int32)), (.int (1 : Int32))])) _
    refine XS.icmpYes X9.here hx rfl (pc0 := 121) (pc' := 131) rfl (hb hby at_121) rfl (flt (by decide : ¬ ((1 : Int32) < (1 : Int32)))).2.2.2 (by decide) (by decide) ?_
    show Steps p.tables e below (T9.setTop (mkF m 131 #[.val (.int p0), .val (.int p1), .val (.int p2), .val (.int p3), .val (.int p4), .val (.int p5), .val (.int (1 : Int32)), .val (.int v0), .val (.int v1), .val (.int v2), .val (.int v3), .val (.int v4), .val (.int v5), .val (.ref b1), .val (.ref b8), .unset, .unset, .unset, .unset] [])) _
    refine XS.iload X9.here hx rfl (hb hby at_131) rfl ?_
    show Steps p.tables e below (T9.setTop (mkF m 133 #[.val (.int p0), .val (.int p1), .val (.int p2), .val (.int p3), .val (.int p4), .val (.int p5), .val (.int (1 : Int32)), .val (.int v0), .val (.int v1), .val (.int v2), .val (.int v3), .val (.int v4), .val (.int v5), .val (.ref b1), .val (.ref b8), .unset, .unset, .unset, .unset] [(.int (1 : Int32))])) _
    refine XS.iconst X9.here hx rfl (hb hby at_133) ?_
    show Steps p.tables e below (T9.setTop (mkF m 134 #[.val (.int p0), .val (.int p1), .val (.int p2), .val (.int p3), .val (.int p4), .val (.int p5), .val (.int (1 : Int32)), .val (.int v0), .val (.int v1), .val (.int v2), .val (.int v3), .val (.int v4), .val (.int v5), .val (.ref b1), .val (.ref b8), .unset, .unset, .unset, .unset] [(.int (2 : Int32)), (.int (1 : Int32))])) _
    refine XS.icmpYes X9.here hx rfl (pc0 := 134) (pc' := 144) rfl (hb hby at_134) rfl (flt (by decide : ¬ ((2 : Int32) < (1 : Int32)))).2.2.2 (by decide) (by decide) ?_
    show Steps p.tables e below (T9.setTop (mkF m 144 #[.val (.int p0), .val (.int p1), .val (.int p2), .val (.int p3), .val (.int p4), .val (.int p5), .val (.int (1 : Int32)), .val (.int v0), .val (.int v1), .val (.int v2), .val (.int v3), .val (.int v4), .val (.int v5), .val (.ref b1), .val (.ref b8), .unset, .unset, .unset, .unset] [])) _
    refine XS.iload X9.here hx rfl (hb hby at_144) rfl ?_
    show Steps p.tables e below (T9.setTop (mkF m 146 #[.val (.int p0), .val (.int p1), .val (.int p2), .val (.int p3), .val (.int p4), .val (.int p5), .val (.int (1 : Int32)), .val (.int v0), .val (.int v1), .val (.int v2), .val (.int v3), .val (.int v4), .val (.int v5), .val (.ref b1), .val (.ref b8), .unset, .unset, .unset, .unset] [(.int (1 : Int32))])) _
    refine XS.iconst X9.here hx rfl (hb hby at_146) ?_
    show Steps p.tables e below (T9.setTop (mkF m 147 #[.val (.int p0), .val (.int p1), .val (.int p2), .val (.int p3), .val (.int p4), .val (.int p5), .val (.int (1 : Int32)), .val (.int v0), .val (.int v1), .val (.int v2), .val (.int v3), .val (.int v4), .val (.int v5), .val (.ref b1), .val (.ref b8), .unset, .unset, .unset, .unset] [(.int (3 : Int32)), (.int (1 : Int32))])) _
    refine XS.icmpYes X9.here hx rfl (pc0 := 147) (pc' := 157) rfl (hb hby at_147) rfl (flt (by decide : ¬ ((3 : Int32) < (1 : Int32)))).2.2.2 (by decide) (by decide) ?_
    show Steps p.tables e below (T9.setTop (mkF m 157 #[.val (.int p0), .val (.int p1), .val (.int p2), .val (.int p3), .val (.int p4), .val (.int p5), .val (.int (1 : Int32)), .val (.int v0), .val (.int v1), .val (.int v2), .val (.int v3), .val (.int v4), .val (.int v5), .val (.ref b1), .val (.ref b8), .unset, .unset, .unset, .unset] [])) _
    refine XS.iload X9.here hx rfl (hb hby at_157) rfl ?_
    show Steps p.tables e below (T9.setTop (mkF m 159 #[.val (.int p0), .val (.int p1), .val (.int p2), .val (.int p3), .val (.int p4), .val (.int p5), .val (.int (1 : Int32)), .val (.int v0), .val (.int v1), .val (.int v2), .val (.int v3), .val (.int v4), .val (.int v5), .val (.ref b1), .val (.ref b8), .unset, .unset, .unset, .unset] [(.int (1 : Int32))])) _
    refine XS.iconst X9.here hx rfl (hb hby at_159) ?_
    show Steps p.tables e below (T9.setTop (mkF m 160 #[.val (.int p0), .val (.int p1), .val (.int p2), .val (.int p3), .val (.int p4), .val (.int p5), .val (.int (1 : Int32)), .val (.int v0), .val (.int v1), .val (.int v2), .val (.int v3), .val (.int v4), .val (.int v5), .val (.ref b1), .val (.ref b8), .unset, .unset, .unset, .unset] [(.int (4 : Int32)), (.int (1 : Int32))])) _
    refine XS.icmpYes X9.here hx rfl (pc0 := 160) (pc' := 170) rfl (hb hby at_160) rfl (flt (by decide : ¬ ((4 : Int32) < (1 : Int32)))).2.2.2 (by decide) (by decide) ?_
    show Steps p.tables e below (T9.setTop (mkF m 170 #[.val (.int p0), .val (.int p1), .val (.int p2), .val (.int p3), .val (.int p4), .val (.int p5), .val (.int (1 : Int32)), .val (.int v0), .val (.int v1), .val (.int v2), .val (.int v3), .val (.int v4), .val (.int v5), .val (.ref b1), .val (.ref b8), .unset, .unset, .unset, .unset] [])) _
    refine XS.iload X9.here hx rfl (hb hby at_170) rfl ?_
    show Steps p.tables e below (T9.setTop (mkF m 172 #[.val (.int p0), .val (.int p1), .val (.int p2), .val (.int p3), .val (.int p4), .val (.int p5), .val (.int (1 : Int32)), .val (.int v0), .val (.int v1), .val (.int v2), .val (.int v3), .val (.int v4), .val (.int v5), .val (.ref b1), .val (.ref b8), .unset, .unset, .unset, .unset] [(.int (1 : Int32))])) _
    refine XS.iconst X9.here hx rfl (hb hby at_172) ?_
    show Steps p.tables e below (T9.setTop (mkF m 173 #[.val (.int p0), .val (.int p1), .val (.int p2), .val (.int p3), .val (.int p4), .val (.int p5), .val (.int (1 : Int32)), .val (.int v0), .val (.int v1), .val (.int v2), .val (.int v3), .val (.int v4), .val (.int v5), .val (.ref b1), .val (.ref b8), .unset, .unset, .unset, .unset] [(.int (5 : Int32)), (.int (1 : Int32))])) _
    refine XS.icmpYes X9.here hx rfl (pc0 := 173) (pc' := 183) rfl (hb hby at_173) rfl (flt (by decide : ¬ ((5 : Int32) < (1 : Int32)))).2.2.2 (by decide) (by decide) ?_
    show Steps p.tables e below (T9.setTop (mkF m 183 #[.val (.int p0), .val (.int p1), .val (.int p2), .val (.int p3), .val (.int p4), .val (.int p5), .val (.int (1 : Int32)), .val (.int v0), .val (.int v1), .val (.int v2), .val (.int v3), .val (.int v4), .val (.int v5), .val (.ref b1), .val (.ref b8), .unset, .unset, .unset, .unset] [])) _
    refine XS.aload X9.here hx rfl (hb hby at_183) rfl rfl ?_
    show Steps p.tables e below (T9.setTop (mkF m 185 #[.val (.int p0), .val (.int p1), .val (.int p2), .val (.int p3), .val (.int p4), .val (.int p5), .val (.int (1 : Int32)), .val (.int v0), .val (.int v1), .val (.int v2), .val (.int v3), .val (.int v4), .val (.int v5), .val (.ref b1), .val (.ref b8), .unset, .unset, .unset, .unset] [(.ref b8)])) _
    refine st10 _ ?_
    show Steps p.tables e below (T10.setTop (mkF m 188 #[.val (.int p0), .val (.int p1), .val (.int p2), .val (.int p3), .val (.int p4), .val (.int p5), .val (.int (1 : Int32)), .val (.int v0), .val (.int v1), .val (.int v2), .val (.int v3), .val (.int v4), .val (.int v5), .val (.ref b1), .val (.ref b8), .unset, .unset, .unset, .unset] [(.double (FP.i2d v0))])) _
    refine XS.dstore X10.here hx rfl (hb hby at_188) rfl (l' := #[.val (.int p0), .val (.int p1), .val (.int p2), .val (.int p3), .val (.int p4), .val (.int p5), .val (.int (1 : Int32)), .val (.int v0), .val (.int v1), .val (.int v2), .val (.int v3), .val (.int v4), .val (.int v5), .val (.ref b1), .val (.ref b8), .val (.double (FP.i2d v0)), .second, .unset, .unset]) rfl ?_
    show Steps p.tables e below (T10.setTop (mkF m 190 #[.val (.int p0), .val (.int p1), .val (.int p2), .val (.int p3), .val (.int p4), .val (.int p5), .val (.int (1 : Int32)), .val (.int v0), .val (.int v1), .val (.int v2), .val (.int v3), .val (.int v4), .val (.int v5), .val (.ref b1), .val (.ref b8), .val (.double (FP.i2d v0)), .second, .unset, .unset] [])) _
    refine XS.iload X10.here hx rfl (hb hby at_190) rfl ?_
    show Steps p.tables e below (T10.setTop (mkF m 192 #[.val (.int p0), .val (.int p1), .val (.int p2), .val (.int p3), .val (.int p4), .val (.int p5), .val (.int (1 : Int32)), .val (.int v0), .val (.int v1), .val (.int v2), .val (.int v3), .val (.int v4), .val (.int v5), .val (.ref b1), .val (.ref b8), .val (.double (FP.i2d v0)), .second, .unset, .unset] [(.int (1 : Int32))])) _
    refine XS.iconst X10.here hx rfl (hb hby at_192) ?_
    show Steps p.tables e below (T10.setTop (mkF m 193 #[.val (.int p0), .val (.int p1), .val (.int p2), .val (.int p3), .val (.int p4), .val (.int p5), .val (.int (1 : Int32)), .val (.int v0), .val (.int v1), .val (.int v2), .val (.int v3), .val (.int v4), .val (.int v5), .val (.ref b1), .val (.ref b8), .val (.double (FP.i2d v0)), .second, .unset, .unset] [(.int (1 : Int32)), (.int (1 : Int32))])) _
    refine XS.isub X10.here hx rfl (hb hby at_193) rfl ?_
    show Steps p.tables e below (T10.setTop (mkF m 194 #[.val (.int p0), .val (.int p1), .val (.int p2), .val (.int p3), .val (.int p4), .val (.int p5), .val (.int (1 : Int32)), .val (.int v0), .val (.int v1), .val (.int v2), .val (.int v3), .val (.int v4), .val (.int v5), .val (.ref b1), .val (.ref b8), .val (.double (FP.i2d v0)), .second, .unset, .unset] [(.int ((1 : Int32) - (1 : Int32)))])) _
    rw [show ((1 : Int32) - (1 : Int32)) = (0 : Int32) from by decide]
    show Steps p.tables e below (T10.setTop (mkF m 194 #[.val (.int p0), .val (.int p1), .val (.int p2), .val (.int p3), .val (.int p4), .val (.int p5), .val (.int (1 : Int32)), .val (.int v0), .val (.int v1), .val (.int v2), .val (.int v3), .val (.int v4), .val (.int v5), .val (.ref b1), .val (.ref b8), .val (.double (FP.i2d v0)), .second, .unset, .unset] [(.int (0 : Int32))])) _
    refine XS.iconst X10.here hx rfl (hb hby at_194) ?_
    show Steps p.tables e below (T10.setTop (mkF m 195 #[.val (.int p0), .val (.int p1), .val (.int p2), .val (.int p3), .val (.int p4), .val (.int p5), .val (.int (1 : Int32)), .val (.int v0), .val (.int v1), .val (.int v2), .val (.int v3), .val (.int v4), .val (.int v5), .val (.ref b1), .val (.ref b8), .val (.double (FP.i2d v0)), .second, .unset, .unset] [(.int (2 : Int32)), (.int (0 : Int32))])) _
    refine XS.idiv X10.here hx rfl (hb hby at_195) rfl (by decide) ?_
    show Steps p.tables e below (T10.setTop (mkF m 196 #[.val (.int p0), .val (.int p1), .val (.int p2), .val (.int p3), .val (.int p4), .val (.int p5), .val (.int (1 : Int32)), .val (.int v0), .val (.int v1), .val (.int v2), .val (.int v3), .val (.int v4), .val (.int v5), .val (.ref b1), .val (.ref b8), .val (.double (FP.i2d v0)), .second, .unset, .unset] [(.int ((0 : Int32) / (2 : Int32)))])) _
    rw [show ((0 : Int32) / (2 : Int32)) = (0 : Int32) from by decide]
    show Steps p.tables e below (T10.setTop (mkF m 196 #[.val (.int p0), .val (.int p1), .val (.int p2), .val (.int p3), .val (.int p4), .val (.int p5), .val (.int (1 : Int32)), .val (.int v0), .val (.int v1), .val (.int v2), .val (.int v3), .val (.int v4), .val (.int v5), .val (.ref b1), .val (.ref b8), .val (.double (FP.i2d v0)), .second, .unset, .unset] [(.int (0 : Int32))])) _
    refine XS.istore X10.here hx rfl (hb hby at_196) rfl (l' := #[.val (.int p0), .val (.int p1), .val (.int p2), .val (.int p3), .val (.int p4), .val (.int p5), .val (.int (1 : Int32)), .val (.int v0), .val (.int v1), .val (.int v2), .val (.int v3), .val (.int v4), .val (.int v5), .val (.ref b1), .val (.ref b8), .val (.double (FP.i2d v0)), .second, .val (.int (0 : Int32)), .unset]) rfl ?_
    show Steps p.tables e below (T10.setTop (mkF m 198 #[.val (.int p0), .val (.int p1), .val (.int p2), .val (.int p3), .val (.int p4), .val (.int p5), .val (.int (1 : Int32)), .val (.int v0), .val (.int v1), .val (.int v2), .val (.int v3), .val (.int v4), .val (.int v5), .val (.ref b1), .val (.ref b8), .val (.double (FP.i2d v0)), .second, .val (.int (0 : Int32)), .unset] [])) _
    refine XS.iload X10.here hx rfl (hb hby at_198) rfl ?_
    show Steps p.tables e below (T10.setTop (mkF m 200 #[.val (.int p0), .val (.int p1), .val (.int p2), .val (.int p3), .val (.int p4), .val (.int p5), .val (.int (1 : Int32)), .val (.int v0), .val (.int v1), .val (.int v2), .val (.int v3), .val (.int v4), .val (.int v5), .val (.ref b1), .val (.ref b8), .val (.double (FP.i2d v0)), .second, .val (.int (0 : Int32)), .unset] [(.int (1 : Int32))])) _
    refine XS.iconst X10.here hx rfl (hb hby at_200) ?_
    show Steps p.tables e below (T10.setTop (mkF m 201 #[.val (.int p0), .val (.int p1), .val (.int p2), .val (.int p3), .val (.int p4), .val (.int p5), .val (.int (1 : Int32)), .val (.int v0), .val (.int v1), .val (.int v2), .val (.int v3), .val (.int v4), .val (.int v5), .val (.ref b1), .val (.ref b8), .val (.double (FP.i2d v0)), .second, .val (.int (0 : Int32)), .unset] [(.int (2 : Int32)), (.int (1 : Int32))])) _
    refine XS.idiv X10.here hx rfl (hb hby at_201) rfl (by decide) ?_
    show Steps p.tables e below (T10.setTop (mkF m 202 #[.val (.int p0), .val (.int p1), .val (.int p2), .val (.int p3), .val (.int p4), .val (.int p5), .val (.int (1 : Int32)), .val (.int v0), .val (.int v1), .val (.int v2), .val (.int v3), .val (.int v4), .val (.int v5), .val (.ref b1), .val (.ref b8), .val (.double (FP.i2d v0)), .second, .val (.int (0 : Int32)), .unset] [(.int ((1 : Int32) / (2 : Int32)))])) _
    rw [show ((1 : Int32) / (2 : Int32)) = (0 : Int32) from by decide]
    show Steps p.tables e below (T10.setTop (mkF m 202 #[.val (.int p0), .val (.int p1), .val (.int p2), .val (.int p3), .val (.int p4), .val (.int p5), .val (.int (1 : Int32)), .val (.int v0), .val (.int v1), .val (.int v2), .val (.int v3), .val (.int v4), .val (.int v5), .val (.ref b1), .val (.ref b8), .val (.double (FP.i2d v0)), .second, .val (.int (0 : Int32)), .unset] [(.int (0 : Int32))])) _
    refine XS.istore X10.here hx rfl (hb hby at_202) rfl (l' := #[.val (.int p0), .val (.int p1), .val (.int p2), .val (.int p3), .val (.int p4), .val (.int p5), .val (.int (1 : Int32)), .val (.int v0), .val (.int v1), .val (.int v2), .val (.int v3), .val (.int v4), .val (.int v5), .val (.ref b1), .val (.ref b8), .val (.double (FP.i2d v0)), .second, .val (.int (0 : Int32)), .val (.int (0 : Int32))]) rfl ?_
    show Steps p.tables e below (T10.setTop (mkF m 204 #[.val (.int p0), .val (.int p1), .val (.int p2), .val (.int p3), .val (.int p4), .val (.int p5), .val (.int (1 : Int32)), .val (.int v0), .val (.int v1), .val (.int v2), .val (.int v3), .val (.int v4), .val (.int v5), .val (.ref b1), .val (.ref b8), .val (.double (FP.i2d v0)), .second, .val (.int (0 : Int32)), .val (.int (0 : Int32))] [])) _
    refine XS.dload X10.here hx rfl (hb hby at_204) rfl ?_
    show Steps p.tables e below (T10.setTop (mkF m 206 #[.val (.int p0), .val (.int p1), .val (.int p2), .val (.int p3), .val (.int p4), .val (.int p5), .val (.int (1 : Int32)), .val (.int v0), .val (.int v1), .val (.int v2), .val (.int v3), .val (.int v4), .val (.int v5), .val (.ref b1), .val (.ref b8), .val (.double (FP.i2d v0)), .second, .val (.int (0 : Int32)), .val (.int (0 : Int32))] [(.double (FP.i2d v0))])) _
    refine X10.ldc2DoubleC hx hown (mvT hZ (hw _ (List.mem_of_getElem? (i := 9) rfl))) (g := (mkF m 206 #[.val (.int p0), .val (.int p1), .val (.int p2), .val (.int p3), .val (.int p4), .val (.int p5), .val (.int (1 : Int32)), .val (.int v0), .val (.int v1), .val (.int v2), .val (.int v3), .val (.int v4), .val (.int v5), .val (.ref b1), .val (.ref b8), .val (.double (FP.i2d v0)), .second, .val (.int (0 : Int32)), .val (.int (0 : Int32))] [(.double (FP.i2d v0))])) rfl (hb hby at_206) _ ?_
    show Steps p.tables e below (T10.setTop (mkF m 209 #[.val (.int p0), .val (.int p1), .val (.int p2), .val (.int p3), .val (.int p4), .val (.int p5), .val (.int (1 : Int32)), .val (.int v0), .val (.int v1), .val (.int v2), .val (.int v3), .val (.int v4), .val (.int v5), .val (.ref b1), .val (.ref b8), .val (.double (FP.i2d v0)), .second, .val (.int (0 : Int32)), .val (.int (0 : Int32))] [(.double 4611686018427387904), (.double (FP.i2d v0))])) _
    refine XS.dmulS X10.here hx rfl (hb hby at_209) rfl (own_n209o B0) rfl ?_
    show Steps p.tables e below (T10.setTop (mkF m 210 #[.val (.int p0), .val (.int p1), .val (.int p2), .val (.int p3), .val (.int p4), .val (.int p5), .val (.int (1 : Int32)), .val (.int v0), .val (.int v1), .val (.int v2), .val (.int v3), .val (.int v4), .val (.int v5), .val (.ref b1), .val (.ref b8), .val (.double (FP.i2d v0)), .second, .val (.int (0 : Int32)), .val (.int (0 : Int32))] [(.double (FP.dmul (FP.i2d v0) 4611686018427387904))])) _
    refine XS.aload X10.here hx rfl (hb hby at_210) rfl rfl ?_
    show Steps p.tables e below (T10.setTop (mkF m 212 #[.val (.int p0), .val (.int p1), .val (.int p2), .val (.int p3), .val (.int p4), .val (.int p5), .val (.int (1 : Int32)), .val (.int v0), .val (.int v1), .val (.int v2), .val (.int v3), .val (.int v4), .val (.int v5), .val (.ref b1), .val (.ref b8), .val (.double (FP.i2d v0)), .second, .val (.int (0 : Int32)), .val (.int (0 : Int32))] [(.ref b1), (.double (FP.dmul (FP.i2d v0) 4611686018427387904))])) _
    refine XS.iload X10.here hx rfl (hb hby at_212) rfl ?_
    show Steps p.tables e below (T10.setTop (mkF m 214 #[.val (.int p0), .val (.int p1), .val (.int p2), .val (.int p3), .val (.int p4), .val (.int p5), .val (.int (1 : Int32)), .val (.int v0), .val (.int v1), .val (.int v2), .val (.int v3), .val (.int v4), .val (.int v5), .val (.ref b1), .val (.ref b8), .val (.double (FP.i2d v0)), .second, .val (.int (0 : Int32)), .val (.int (0 : Int32))] [(.int (0 : Int32)), (.ref b1), (.double (FP.dmul (FP.i2d v0) 4611686018427387904))])) _
    refine X10.iaload hx (j := (0 : Int32)) (v := (.int v0)) (by rw [e10]; exact Ar12.1) (State.isArrayOf_alike hZ.alike Ar12.2.1) Ar12.2.2 hin12 hat12 (g := (mkF m 214 #[.val (.int p0), .val (.int p1), .val (.int p2), .val (.int p3), .val (.int p4), .val (.int p5), .val (.int (1 : Int32)), .val (.int v0), .val (.int v1), .val (.int v2), .val (.int v3), .val (.int v4), .val (.int v5), .val (.ref b1), .val (.ref b8), .val (.double (FP.i2d v0)), .second, .val (.int (0 : Int32)), .val (.int (0 : Int32))] [(.int (0 : Int32)), (.ref b1), (.double (FP.dmul (FP.i2d v0) 4611686018427387904))])) rfl rfl (hb hby at_214) _ ?_
    show Steps p.tables e below (T10.setTop (mkF m 215 #[.val (.int p0), .val (.int p1), .val (.int p2), .val (.int p3), .val (.int p4), .val (.int p5), .val (.int (1 : Int32)), .val (.int v0), .val (.int v1), .val (.int v2), .val (.int v3), .val (.int v4), .val (.int v5), .val (.ref b1), .val (.ref b8), .val (.double (FP.i2d v0)), .second, .val (.int (0 : Int32)), .val (.int (0 : Int32))] [(.int v0), (.double (FP.dmul (FP.i2d v0) 4611686018427387904))])) _
    refine XS.aload X10.here hx rfl (hb hby at_215) rfl rfl ?_
    show Steps p.tables e below (T10.setTop (mkF m 217 #[.val (.int p0), .val (.int p1), .val (.int p2), .val (.int p3), .val (.int p4), .val (.int p5), .val (.int (1 : Int32)), .val (.int v0), .val (.int v1), .val (.int v2), .val (.int v3), .val (.int v4), .val (.int v5), .val (.ref b1), .val (.ref b8), .val (.double (FP.i2d v0)), .second, .val (.int (0 : Int32)), .val (.int (0 : Int32))] [(.ref b1), (.int v0), (.double (FP.dmul (FP.i2d v0) 4611686018427387904))])) _
    refine XS.iload X10.here hx rfl (hb hby at_217) rfl ?_
    show Steps p.tables e below (T10.setTop (mkF m 219 #[.val (.int p0), .val (.int p1), .val (.int p2), .val (.int p3), .val (.int p4), .val (.int p5), .val (.int (1 : Int32)), .val (.int v0), .val (.int v1), .val (.int v2), .val (.int v3), .val (.int v4), .val (.int v5), .val (.ref b1), .val (.ref b8), .val (.double (FP.i2d v0)), .second, .val (.int (0 : Int32)), .val (.int (0 : Int32))] [(.int (0 : Int32)), (.ref b1), (.int v0), (.double (FP.dmul (FP.i2d v0) 4611686018427387904))])) _
    refine X10.iaload hx (j := (0 : Int32)) (v := (.int v0)) (by rw [e10]; exact Ar13.1) (State.isArrayOf_alike hZ.alike Ar13.2.1) Ar13.2.2 hin13 hat13 (g := (mkF m 219 #[.val (.int p0), .val (.int p1), .val (.int p2), .val (.int p3), .val (.int p4), .val (.int p5), .val (.int (1 : Int32)), .val (.int v0), .val (.int v1), .val (.int v2), .val (.int v3), .val (.int v4), .val (.int v5), .val (.ref b1), .val (.ref b8), .val (.double (FP.i2d v0)), .second, .val (.int (0 : Int32)), .val (.int (0 : Int32))] [(.int (0 : Int32)), (.ref b1), (.int v0), (.double (FP.dmul (FP.i2d v0) 4611686018427387904))])) rfl rfl (hb hby at_219) _ ?_
    show Steps p.tables e below (T10.setTop (mkF m 220 #[.val (.int p0), .val (.int p1), .val (.int p2), .val (.int p3), .val (.int p4), .val (.int p5), .val (.int (1 : Int32)), .val (.int v0), .val (.int v1), .val (.int v2), .val (.int v3), .val (.int v4), .val (.int v5), .val (.ref b1), .val (.ref b8), .val (.double (FP.i2d v0)), .second, .val (.int (0 : Int32)), .val (.int (0 : Int32))] [(.int v0), (.int v0), (.double (FP.dmul (FP.i2d v0) 4611686018427387904))])) _
    refine XS.iadd X10.here hx rfl (hb hby at_220) rfl ?_
    show Steps p.tables e below (T10.setTop (mkF m 221 #[.val (.int p0), .val (.int p1), .val (.int p2), .val (.int p3), .val (.int p4), .val (.int p5), .val (.int (1 : Int32)), .val (.int v0), .val (.int v1), .val (.int v2), .val (.int v3), .val (.int v4), .val (.int v5), .val (.ref b1), .val (.ref b8), .val (.double (FP.i2d v0)), .second, .val (.int (0 : Int32)), .val (.int (0 : Int32))] [(.int (v0 + v0)), (.double (FP.dmul (FP.i2d v0) 4611686018427387904))])) _
    refine XS.i2dS X10.here hx rfl (hb hby at_221) rfl rfl ?_
    show Steps p.tables e below (T10.setTop (mkF m 222 #[.val (.int p0), .val (.int p1), .val (.int p2), .val (.int p3), .val (.int p4), .val (.int p5), .val (.int (1 : Int32)), .val (.int v0), .val (.int v1), .val (.int v2), .val (.int v3), .val (.int v4), .val (.int v5), .val (.ref b1), .val (.ref b8), .val (.double (FP.i2d v0)), .second, .val (.int (0 : Int32)), .val (.int (0 : Int32))] [(.double (FP.i2d (v0 + v0))), (.double (FP.dmul (FP.i2d v0) 4611686018427387904))])) _
    refine XS.dcmpS X10.here hx rfl (hb hby at_222) rfl (v := (0 : Int32)) (own_odd B0) ?_
    show Steps p.tables e below (T10.setTop (mkF m 223 #[.val (.int p0), .val (.int p1), .val (.int p2), .val (.int p3), .val (.int p4), .val (.int p5), .val (.int (1 : Int32)), .val (.int v0), .val (.int v1), .val (.int v2), .val (.int v3), .val (.int v4), .val (.int v5), .val (.ref b1), .val (.ref b8), .val (.double (FP.i2d v0)), .second, .val (.int (0 : Int32)), .val (.int (0 : Int32))] [(.int (0 : Int32))])) _
    refine XS.ifNo X10.here hx rfl (hb hby at_223) rfl ((if0 _ _).trans (teq (rfl : (0 : Int32) = (0 : Int32))).2) ?_
    show Steps p.tables e below (T10.setTop (mkF m 226 #[.val (.int p0), .val (.int p1), .val (.int p2), .val (.int p3), .val (.int p4), .val (.int p5), .val (.int (1 : Int32)), .val (.int v0), .val (.int v1), .val (.int v2), .val (.int v3), .val (.int v4), .val (.int v5), .val (.ref b1), .val (.ref b8), .val (.double (FP.i2d v0)), .second, .val (.int (0 : Int32)), .val (.int (0 : Int32))] [])) _
    refine XS.iconst X10.here hx rfl (hb hby at_226) ?_
    show Steps p.tables e below (T10.setTop (mkF m 227 #[.val (.int p0), .val (.int p1), .val (.int p2), .val (.int p3), .val (.int p4), .val (.int p5), .val (.int (1 : Int32)), .val (.int v0), .val (.int v1), .val (.int v2), .val (.int v3), .val (.int v4), .val (.int v5), .val (.ref b1), .val (.ref b8), .val (.double (FP.i2d v0)), .second, .val (.int (0 : Int32)), .val (.int (0 : Int32))] [(.int (1 : Int32))])) _
    refine XS.goto X10.here hx rfl (pc0 := 227) (pc' := 231) rfl (hb hby at_227) (by decide) (by decide) ?_
    show Steps p.tables e below (T10.setTop (mkF m 231 #[.val (.int p0), .val (.int p1), .val (.int p2), .val (.int p3), .val (.int p4), .val (.int p5), .val (.int (1 : Int32)), .val (.int v0), .val (.int v1), .val (.int v2), .val (.int v3), .val (.int v4), .val (.int v5), .val (.ref b1), .val (.ref b8), .val (.double (FP.i2d v0)), .second, .val (.int (0 : Int32)), .val (.int (0 : Int32))] [(.int (1 : Int32))])) _
    exact retN X10 hx (t := .boolean) Bd.returns (by simp) (hb hby at_231) hr
  · show Q_rm0_1 Z p0 p1 p2 p3 p4 p5 v0 v1 v2 v3 v4 v5 h0 n0 _ T10.heap _
    rw [e10]
    exact ⟨rfl, N10⟩
def Q_rm0_2 (Z : State) (p0 : Int32) (p1 : Int32) (p2 : Int32) (p3 : Int32) (p4 : Int32) (p5 : Int32) (v0 : Int32) (v1 : Int32) (v2 : Int32) (v3 : Int32) (v4 : Int32) (v5 : Int32) (h0 : Heap) (n0 : Nat) (v : Option Value) (h : Heap) (L : List Loc) : Prop := v = some (.int (1 : Int32)) ∧ Fr n0 L
theorem ef_rm0_2 (m : MethodId) (p0 : Int32) (p1 : Int32) (p2 : Int32) (p3 : Int32) (p4 : Int32) (p5 : Int32) : entryFrame m #[(.int p0), (.int p1), (.int p2), (.int p3), (.int p4), (.int p5)] maxLocals = mkF m 0 #[.val (.int p0), .val (.int p1), .val (.int p2), .val (.int p3), .val (.int p4), .val (.int p5), .unset, .unset, .unset, .unset, .unset, .unset, .unset, .unset, .unset, .unset, .unset, .unset, .unset] [] := by first | (simp [entryFrame, mkF, argsToLocals, Value.category, maxLocals]; done) | rfl
set_option maxRecDepth 65536 in
set_option maxHeartbeats 40000000 in
theorem rm0_2 (l : Launch) (Z : State) (a0 : Array Value) (hw : ∀ d ∈ tables_1, d.before a0 Z = true) (ws : List Jvm.Cond) (p0 : Int32) (p1 : Int32) (p2 : Int32) (p3 : Int32) (p4 : Int32) (p5 : Int32) (v0 : Int32) (v1 : Int32) (v2 : Int32) (v3 : Int32) (v4 : Int32) (v5 : Int32) (h0 : Heap) (n0 : Nat) (Z0 : n0 ≤ h0.size) (hn : (((p0 &&& (7 : Int32)) % (6 : Int32)) + (1 : Int32)) = (2 : Int32)) (hv0 : (((p0 >>> ((3 : Int32) &&& 31)) &&& (1048575 : Int32)) - (524288 : Int32)) = v0) (hv1 : (v0 + (p1 &&& (65535 : Int32))) = v1) (hv2 : (v1 + (p2 &&& (65535 : Int32))) = v2) (hv3 : (v2 + (p3 &&& (65535 : Int32))) = v3) (hv4 : (v3 + (p4 &&& (65535 : Int32))) = v4) (hv5 : (v4 + (p5 &&& (65535 : Int32))) = v5) :
    MetFree l x (head1 (Jvm.Cond.code x code maxLocals ret :: ws) room_1) (fun a U => a = #[(.int p0), (.int p1), (.int p2), (.int p3), (.int p4), (.int p5)] ∧ Z.Warmed39 U.vm ∧ U.heap = h0) (fun _ _ _ _ _ => True) (fun _ U o U' => ∃ v L, o = .returned v ∧ Q_rm0_2 Z p0 p1 p2 p3 p4 p5 v0 v1 v2 v3 v4 v5 h0 n0 v U'.heap L ∧ FrameEnd U o U' L room_1.cells room_1.slots) := by
  refine MetFree.of_bodySF (plainFor_of_name pn_1) hisR ?_
  intro p e s m args below meth c s₁ Bd hml0 hP hK
  obtain ⟨rfl, hZ, hh⟩ := hP
  have hx := Bd.exec
  have hby := Bd.bytes
  have hml : c.maxLocals = 19 := hml0
  have hown : s.vm.findClass "parkline/scenario/BenchMedianPinLaw" = some m.cls := findClass_of_methodNamed Bd.named
  have hnm := (name_of_methodNamed Bd.named Bd.method).1
  have X0 : Stand p l e room_1 s m #[(.int p0), (.int p1), (.int p2), (.int p3), (.int p4), (.int p5)] below meth c s₁ [] 0 0 := Stand.of_body Bd
  have e0 : s₁.heap = h0 := by rw [← hh, Bd.state]; rfl
  have N0 := Fr.nil n0
  have pre0 : ∀ t, Steps p.tables e below (s₁.setTop (mkF m 0 #[.val (.int p0), .val (.int p1), .val (.int p2), .val (.int p3), .val (.int p4), .val (.int p5), .unset, .unset, .unset, .unset, .unset, .unset, .unset, .unset, .unset, .unset, .unset, .unset, .unset] [])) t → Steps p.tables e below (s₁.setTop (entryFrame m #[(.int p0), (.int p1), (.int p2), (.int p3), (.int p4), (.int p5)] maxLocals)) t := fun t k => castTop (ef_rm0_2 m p0 p1 p2 p3 p4 p5) k
  obtain ⟨B0, B1, B2, B3, B4, B5⟩ := own_b p0 p1 p2 p3 p4 p5 v0 v1 v2 v3 v4 v5 hv0 hv1 hv2 hv3 hv4 hv5
  obtain ⟨T1, h1, k1, X1, e1, E1, A1, st1⟩ := newP X0 hx hZ (hw _ (List.mem_of_getElem? (i := 3) rfl)) e0 (g := (mkF m 71 #[.val (.int p0), .val (.int p1), .val (.int p2), .val (.int p3), .val (.int p4), .val (.int p5), .val (.int (2 : Int32)), .val (.int v0), .val (.int v1), .val (.int v2), .val (.int v3), .val (.int v4), .val (.int v5), .unset, .unset, .unset, .unset, .unset, .unset] [(.int (6 : Int32))])) rfl (hb hby at_71) rfl (by decide) (cap := 6) (by decide) (by decide) (by decide) (by decide)
  obtain ⟨b1, g1⟩ : ∃ z, z = h0.size := ⟨_, rfl⟩
  rw [← g1] at A1 st1
  have V1 : Arv Z h1 b1 k1 .int (6 : Int32) [(.int (0 : Int32)), (.int (0 : Int32)), (.int (0 : Int32)), (.int (0 : Int32)), (.int (0 : Int32)), (.int (0 : Int32))] (.int (0 : Int32)) := (Arv.new A1 (by decide)).pad (pad_rep [] (.int (0 : Int32)) 6)
  have Vc2 := V1
  obtain ⟨cl2, Ar2, q2, S2, M2, H2, G2⟩ := Vc2
  have hin2 : ¬ ((0 : Int32) < 0 ∨ cl2.slots.size ≤ ((0 : Int32)).toNatClampNeg) := inb_of S2 ⟨by decide, by decide⟩
  obtain ⟨T2, h2, X2, e2, W2, st2⟩ := stI X1 hx hZ e1 Ar2 (j := (0 : Int32)) hin2 (g := (mkF m 77 #[.val (.int p0), .val (.int p1), .val (.int p2), .val (.int p3), .val (.int p4), .val (.int p5), .val (.int (2 : Int32)), .val (.int v0), .val (.int v1), .val (.int v2), .val (.int v3), .val (.int v4), .val (.int v5), .unset, .unset, .unset, .unset, .unset, .unset] [(.int v0), (.int (0 : Int32)), (.ref b1), (.ref b1)])) rfl rfl (hb hby at_77)
  have V2 : Arv Z h2 b1 k1 .int (6 : Int32) [(.int v0), (.int (0 : Int32)), (.int (0 : Int32)), (.int (0 : Int32)), (.int (0 : Int32)), (.int (0 : Int32))] (.int (0 : Int32)) := Arv.set Ar2 q2 S2 M2 H2 G2 rfl W2 0 rfl (Nat.le_of_ble_eq_true rfl)
  have N2 := Fr.snoc X2 N0 (Nat.le_trans Z0 (Nat.le_of_eq g1.symm))
  have Vc3 := V2
  obtain ⟨cl3, Ar3, q3, S3, M3, H3, G3⟩ := Vc3
  have hin3 : ¬ ((1 : Int32) < 0 ∨ cl3.slots.size ≤ ((1 : Int32)).toNatClampNeg) := inb_of S3 ⟨by decide, by decide⟩
  obtain ⟨T3, h3, X3, e3, W3, st3⟩ := stI X2 hx hZ e2 Ar3 (j := (1 : Int32)) hin3 (g := (mkF m 82 #[.val (.int p0), .val (.int p1), .val (.int p2), .val (.int p3), .val (.int p4), .val (.int p5), .val (.int (2 : Int32)), .val (.int v0), .val (.int v1), .val (.int v2), .val (.int v3), .val (.int v4), .val (.int v5), .unset, .unset, .unset, .unset, .unset, .unset] [(.int v1), (.int (1 : Int32)), (.ref b1), (.ref b1)])) rfl rfl (hb hby at_82)
  have V3 : Arv Z h3 b1 k1 .int (6 : Int32) [(.int v0), (.int v1), (.int (0 : Int32)), (.int (0 : Int32)), (.int (0 : Int32)), (.int (0 : Int32))] (.int (0 : Int32)) := Arv.set Ar3 q3 S3 M3 H3 G3 rfl W3 1 rfl (Nat.le_of_ble_eq_true rfl)
  have N3 := Fr.snoc X3 N2 (Nat.le_trans Z0 (Nat.le_of_eq g1.symm))
  have Vc4 := V3
  obtain ⟨cl4, Ar4, q4, S4, M4, H4, G4⟩ := Vc4
  have hin4 : ¬ ((2 : Int32) < 0 ∨ cl4.slots.size ≤ ((2 : Int32)).toNatClampNeg) := inb_of S4 ⟨by decide, by decide⟩
  obtain ⟨T4, h4, X4, e4, W4, st4⟩ := stI X3 hx hZ e3 Ar4 (j := (2 : Int32)) hin4 (g := (mkF m 87 #[.val (.int p0), .val (.int p1), .val (.int p2), .val (.int p3), .val (.int p4), .val (.int p5), .val (.int (2 : Int32)), .val (.int v0), .val (.int v1), .val (.int v2), .val (.int v3), .val (.int v4), .val (.int v5), .unset, .unset, .unset, .unset, .unset, .unset] [(.int v2), (.int (2 : Int32)), (.ref b1), (.ref b1)])) rfl rfl (hb hby at_87)
  have V4 : Arv Z h4 b1 k1 .int (6 : Int32) [(.int v0), (.int v1), (.int v2), (.int (0 : Int32)), (.int (0 : Int32)), (.int (0 : Int32))] (.int (0 : Int32)) := Arv.set Ar4 q4 S4 M4 H4 G4 rfl W4 2 rfl (Nat.le_of_ble_eq_true rfl)
  have N4 := Fr.snoc X4 N3 (Nat.le_trans Z0 (Nat.le_of_eq g1.symm))
  have Vc5 := V4
  obtain ⟨cl5, Ar5, q5, S5, M5, H5, G5⟩ := Vc5
  have hin5 : ¬ ((3 : Int32) < 0 ∨ cl5.slots.size ≤ ((3 : Int32)).toNatClampNeg) := inb_of S5 ⟨by decide, by decide⟩
  obtain ⟨T5, h5, X5, e5, W5, st5⟩ := stI X4 hx hZ e4 Ar5 (j := (3 : Int32)) hin5 (g := (mkF m 92 #[.val (.int p0), .val (.int p1), .val (.int p2), .val (.int p3), .val (.int p4), .val (.int p5), .val (.int (2 : Int32)), .val (.int v0), .val (.int v1), .val (.int v2), .val (.int v3), .val (.int v4), .val (.int v5), .unset, .unset, .unset, .unset, .unset, .unset] [(.int v3), (.int (3 : Int32)), (.ref b1), (.ref b1)])) rfl rfl (hb hby at_92)
  have V5 : Arv Z h5 b1 k1 .int (6 : Int32) [(.int v0), (.int v1), (.int v2), (.int v3), (.int (0 : Int32)), (.int (0 : Int32))] (.int (0 : Int32)) := Arv.set Ar5 q5 S5 M5 H5 G5 rfl W5 3 rfl (Nat.le_of_ble_eq_true rfl)
  have N5 := Fr.snoc X5 N4 (Nat.le_trans Z0 (Nat.le_of_eq g1.symm))
  have Vc6 := V5
  obtain ⟨cl6, Ar6, q6, S6, M6, H6, G6⟩ := Vc6
  have hin6 : ¬ ((4 : Int32) < 0 ∨ cl6.slots.size ≤ ((4 : Int32)).toNatClampNeg) := inb_of S6 ⟨by decide, by decide⟩
  obtain ⟨T6, h6, X6, e6, W6, st6⟩ := stI X5 hx hZ e5 Ar6 (j := (4 : Int32)) hin6 (g := (mkF m 97 #[.val (.int p0), .val (.int p1), .val (.int p2), .val (.int p3), .val (.int p4), .val (.int p5), .val (.int (2 : Int32)), .val (.int v0), .val (.int v1), .val (.int v2), .val (.int v3), .val (.int v4), .val (.int v5), .unset, .unset, .unset, .unset, .unset, .unset] [(.int v4), (.int (4 : Int32)), (.ref b1), (.ref b1)])) rfl rfl (hb hby at_97)
  have V6 : Arv Z h6 b1 k1 .int (6 : Int32) [(.int v0), (.int v1), (.int v2), (.int v3), (.int v4), (.int (0 : Int32))] (.int (0 : Int32)) := Arv.set Ar6 q6 S6 M6 H6 G6 rfl W6 4 rfl (Nat.le_of_ble_eq_true rfl)
  have N6 := Fr.snoc X6 N5 (Nat.le_trans Z0 (Nat.le_of_eq g1.symm))
  have Vc7 := V6
  obtain ⟨cl7, Ar7, q7, S7, M7, H7, G7⟩ := Vc7
  have hin7 : ¬ ((5 : Int32) < 0 ∨ cl7.slots.size ≤ ((5 : Int32)).toNatClampNeg) := inb_of S7 ⟨by decide, by decide⟩
  obtain ⟨T7, h7, X7, e7, W7, st7⟩ := stI X6 hx hZ e6 Ar7 (j := (5 : Int32)) hin7 (g := (mkF m 102 #[.val (.int p0), .val (.int p1), .val (.int p2), .val (.int p3), .val (.int p4), .val (.int p5), .val (.int (2 : Int32)), .val (.int v0), .val (.int v1), .val (.int v2), .val (.int v3), .val (.int v4), .val (.int v5), .unset, .unset, .unset, .unset, .unset, .unset] [(.int v5), (.int (5 : Int32)), (.ref b1), (.ref b1)])) rfl rfl (hb hby at_102)
  have V7 : Arv Z h7 b1 k1 .int (6 : Int32) [(.int v0), (.int v1), (.int v2), (.int v3), (.int v4), (.int v5)] (.int (0 : Int32)) := Arv.set Ar7 q7 S7 M7 H7 G7 rfl W7 5 rfl (Nat.le_of_ble_eq_true rfl)
  have N7 := Fr.snoc X7 N6 (Nat.le_trans Z0 (Nat.le_of_eq g1.symm))
  obtain ⟨T8, h8, k8, X8, e8, E8, A8, st8⟩ := newP X7 hx hZ (hw _ (List.mem_of_getElem? (i := 4) rfl)) e7 (g := (mkF m 107 #[.val (.int p0), .val (.int p1), .val (.int p2), .val (.int p3), .val (.int p4), .val (.int p5), .val (.int (2 : Int32)), .val (.int v0), .val (.int v1), .val (.int v2), .val (.int v3), .val (.int v4), .val (.int v5), .val (.ref b1), .unset, .unset, .unset, .unset, .unset] [(.int (2 : Int32))])) rfl (hb hby at_107) rfl (by decide) (cap := 2) (by decide) (by decide) (by decide) (by decide)
  obtain ⟨b8, g8⟩ : ∃ z, z = h7.size := ⟨_, rfl⟩
  rw [← g8] at A8 st8
  have V8 : Arv Z h8 b8 k8 .double (2 : Int32) [(.double 0), (.double 0)] (.double 0) := (Arv.new A8 (by decide)).pad (pad_rep [] (.double 0) 2)
  have Vc9 := V8
  obtain ⟨cl9, Ar9, q9, S9, M9, H9, G9⟩ := Vc9
  have hin9 : ¬ ((0 : Int32) < 0 ∨ cl9.slots.size ≤ ((0 : Int32)).toNatClampNeg) := inb_of S9 ⟨by decide, by decide⟩
  obtain ⟨T9, h9, X9, e9, W9, st9⟩ := stD X8 hx hZ e8 Ar9 (j := (0 : Int32)) hin9 (g := (mkF m 117 #[.val (.int p0), .val (.int p1), .val (.int p2), .val (.int p3), .val (.int p4), .val (.int p5), .val (.int (2 : Int32)), .val (.int v0), .val (.int v1), .val (.int v2), .val (.int v3), .val (.int v4), .val (.int v5), .val (.ref b1), .val (.ref b8), .unset, .unset, .unset, .unset] [(.double (FP.i2d v0)), (.int (0 : Int32)), (.ref b8)])) rfl rfl (hb hby at_117)
  have V9 : Arv Z h9 b8 k8 .double (2 : Int32) [(.double (FP.i2d v0)), (.double 0)] (.double 0) := Arv.set Ar9 q9 S9 M9 H9 G9 rfl W9 0 rfl (Nat.le_of_ble_eq_true rfl)
  have N9 := Fr.snoc X9 N7 (Nat.le_trans (Nat.le_trans (Nat.le_trans (Nat.le_trans (Nat.le_trans (Nat.le_trans (Nat.le_trans (Nat.le_trans Z0 E1.1) (Keep.of_wr W2).1) (Keep.of_wr W3).1) (Keep.of_wr W4).1) (Keep.of_wr W5).1) (Keep.of_wr W6).1) (Keep.of_wr W7).1) (Nat.le_of_eq g8.symm))
  have Vc10 := V9
  obtain ⟨cl10, Ar10, q10, S10, M10, H10, G10⟩ := Vc10
  have hin10 : ¬ ((1 : Int32) < 0 ∨ cl10.slots.size ≤ ((1 : Int32)).toNatClampNeg) := inb_of S10 ⟨by decide, by decide⟩
  obtain ⟨T10, h10, X10, e10, W10, st10⟩ := stD X9 hx hZ e9 Ar10 (j := (1 : Int32)) hin10 (g := (mkF m 130 #[.val (.int p0), .val (.int p1), .val (.int p2), .val (.int p3), .val (.int p4), .val (.int p5), .val (.int (2 : Int32)), .val (.int v0), .val (.int v1), .val (.int v2), .val (.int v3), .val (.int v4), .val (.int v5), .val (.ref b1), .val (.ref b8), .unset, .unset, .unset, .unset] [(.double (FP.i2d v1)), (.int (1 : Int32)), (.ref b8)])) rfl rfl (hb hby at_130)
  have V10 : Arv Z h10 b8 k8 .double (2 : Int32) [(.double (FP.i2d v0)), (.double (FP.i2d v1))] (.double 0) := Arv.set Ar10 q10 S10 M10 H10 G10 rfl W10 1 rfl (Nat.le_of_ble_eq_true rfl)
  have N10 := Fr.snoc X10 N9 (Nat.le_trans (Nat.le_trans (Nat.le_trans (Nat.le_trans (Nat.le_trans (Nat.le_trans (Nat.le_trans (Nat.le_trans Z0 E1.1) (Keep.of_wr W2).1) (Keep.of_wr W3).1) (Keep.of_wr W4).1) (Keep.of_wr W5).1) (Keep.of_wr W6).1) (Keep.of_wr W7).1) (Nat.le_of_eq g8.symm))
  obtain ⟨_, _, ⟨T11, L11, k11, n11⟩, -, X11, ⟨Lc11, hQ11, l11, y11, z11⟩, st11⟩ := Jvm.LawKit.callS X10 hx (y := (⟨"parkline/scenario/Bench", "median", "([D)D"⟩ : MethodName)) hown (mvT hZ (hw _ (List.mem_of_getElem? (i := 5) rfl))) (mvT hZ (hw _ (List.mem_of_getElem? (i := 6) rfl))) (mvT hZ (hw _ (List.mem_of_getElem? (i := 7) rfl))) (mvT hZ (hw _ (List.mem_of_getElem? (i := 8) rfl))) (by decide) (backOf (W := 0) (rmMed2 l Z a0 hw [] b8 k8 (FP.i2d v0) (FP.i2d v1) h10 n0 (Nat.le_trans (Nat.le_trans (Nat.le_trans (Nat.le_trans (Nat.le_trans (Nat.le_trans (Nat.le_trans (Nat.le_trans (Nat.le_trans (Nat.le_trans Z0 E1.1) (Keep.of_wr W2).1) (Keep.of_wr W3).1) (Keep.of_wr W4).1) (Keep.of_wr W5).1) (Keep.of_wr W6).1) (Keep.of_wr W7).1) E8.1) (Keep.of_wr W9).1) (Keep.of_wr W10).1) V10 (own_n27 B0 B1) (own_n31 B0 B1)) hZ (hw _ (List.mem_of_getElem? (i := 8) rfl)) (hw _ (List.mem_of_getElem? (i := 7) rfl)) (by decide) (by decide)) (g := (mkF m 185 #[.val (.int p0), .val (.int p1), .val (.int p2), .val (.int p3), .val (.int p4), .val (.int p5), .val (.int (2 : Int32)), .val (.int v0), .val (.int v1), .val (.int v2), .val (.int v3), .val (.int v4), .val (.int v5), .val (.ref b1), .val (.ref b8), .unset, .unset, .unset, .unset] [(.ref b8)])) rfl (by rw [hml]; rfl) (argsL := [(.ref b8)]) (rest := []) (lenOf pd_0 rfl) rfl (by show 2 * 0 + _ ≤ _; exact Nat.le_of_eq rfl) (hb hby at_185) (fun _ _ => ⟨rfl, e10, (by decide : 2 + 0 ≤ _), (by decide : 8 + 0 ≤ _)⟩)
  dsimp only [Pt.U, Pt.locs, Pt.cells, Pt.slots] at X11 l11 y11 z11 st11 hQ11
  subst l11 y11 z11
  obtain ⟨rfl, Nq11, e11⟩ := hQ11
  have N11 := Fr.app N10 Nq11
  have f12 : Arv Z h10 b1 k1 .int (6 : Int32) [(.int v0), (.int v1), (.int v2), (.int v3), (.int v4), (.int v5)] (.int (0 : Int32)) := (((V7.ext E8).other W9 (Nat.ne_of_lt (Nat.lt_of_lt_of_le V7.lt (Nat.le_of_eq g8.symm)))).other W10 (Nat.ne_of_lt (Nat.lt_of_lt_of_le V7.lt (Nat.le_of_eq g8.symm))))
  have Vc13 := f12
  obtain ⟨cl13, Ar13, q13, S13, M13, H13, G13⟩ := Vc13
  have hin13 : ¬ ((0 : Int32) < 0 ∨ cl13.slots.size ≤ ((0 : Int32)).toNatClampNeg) := inb_of S13 ⟨by decide, by decide⟩
  have hat13 : cl13.slots[((0 : Int32)).toNatClampNeg]? = some (.int v0) := Has.at H13 hin13 rfl
  have Vc14 := f12
  obtain ⟨cl14, Ar14, q14, S14, M14, H14, G14⟩ := Vc14
  have hin14 : ¬ ((1 : Int32) < 0 ∨ cl14.slots.size ≤ ((1 : Int32)).toNatClampNeg) := inb_of S14 ⟨by decide, by decide⟩
  have hat14 : cl14.slots[((1 : Int32)).toNatClampNeg]? = some (.int v1) := Has.at H14 hin14 rfl
  obtain ⟨fs, hr, hrun, hended, hW, hsame⟩ := X11.leave (v := some (.int (1 : Int32))) (fun h => by rw [Bd.returns] at h; cases h)
  refine ⟨_, _, pre0 _ ?_, hrun, hended, _, _, rfl, ?_, ⟨_, rfl⟩, hW, hsame.mono (by decide) (by decide)⟩
  · show Steps p.tables e below (s₁.setTop (mkF m 0 #[.val (.int p0), .val (.int p1), .val (.int p2), .val (.int p3), .val (.int p4), .val (.int p5), .unset, .unset, .unset, .unset, .unset, .unset, .unset, .unset, .unset, .unset, .unset, .unset, .unset] [])) _
    refine XS.iloadN X0.here hx rfl (hb hby at_0) rfl ?_
    show Steps p.tables e below (s₁.setTop (mkF m 1 #[.val (.int p0), .val (.int p1), .val (.int p2), .val (.int p3), .val (.int p4), .val (.int p5), .unset, .unset, .unset, .unset, .unset, .unset, .unset, .unset, .unset, .unset, .unset, .unset, .unset] [(.int p0)])) _
    refine XS.bipush X0.here hx rfl (hb hby at_1) ?_
    show Steps p.tables e below (s₁.setTop (mkF m 3 #[.val (.int p0), .val (.int p1), .val (.int p2), .val (.int p3), .val (.int p4), .val (.int p5), .unset, .unset, .unset, .unset, .unset, .unset, .unset, .unset, .unset, .unset, .unset, .unset, .unset] [(.int (7 : Int32)), (.int p0)])) _
    refine XS.iand X0.here hx rfl (hb hby at_3) rfl ?_
    show Steps p.tables e below (s₁.setTop (mkF m 4 #[.val (.int p0), .val (.int p1), .val (.int p2), .val (.int p3), .val (.int p4), .val (.int p5), .unset, .unset, .unset, .unset, .unset, .unset, .unset, .unset, .unset, .unset, .unset, .unset, .unset] [(.int (p0 &&& (7 : Int32)))])) _
    refine XS.bipush X0.here hx rfl (hb hby at_4) ?_
    show Steps p.tables e below (s₁.setTop (mkF m 6 #[.val (.int p0), .val (.int p1), .val (.int p2), .val (.int p3), .val (.int p4), .val (.int p5), .unset, .unset, .unset, .unset, .unset, .unset, .unset, .unset, .unset, .unset, .unset, .unset, .unset] [(.int (6 : Int32)), (.int (p0 &&& (7 : Int32)))])) _
    refine iremM X0 hx (g := (mkF m 6 #[.val (.int p0), .val (.int p1), .val (.int p2), .val (.int p3), .val (.int p4), .val (.int p5), .unset, .unset, .unset, .unset, .unset, .unset, .unset, .unset, .unset, .unset, .unset, .unset, .unset] [(.int (6 : Int32)), (.int (p0 &&& (7 : Int32)))])) rfl (hb hby at_6) rfl (by decide) ?_
    show Steps p.tables e below (s₁.setTop (mkF m 7 #[.val (.int p0), .val (.int p1), .val (.int p2), .val (.int p3), .val (.int p4), .val (.int p5), .unset, .unset, .unset, .unset, .unset, .unset, .unset, .unset, .unset, .unset, .unset, .unset, .unset] [(.int ((p0 &&& (7 : Int32)) % (6 : Int32)))])) _
    refine XS.iconst X0.here hx rfl (hb hby at_7) ?_
    show Steps p.tables e below (s₁.setTop (mkF m 8 #[.val (.int p0), .val (.int p1), .val (.int p2), .val (.int p3), .val (.int p4), .val (.int p5), .unset, .unset, .unset, .unset, .unset, .unset, .unset, .unset, .unset, .unset, .unset, .unset, .unset] [(.int (1 : Int32)), (.int ((p0 &&& (7 : Int32)) % (6 : Int32)))])) _
    refine XS.iadd X0.here hx rfl (hb hby at_8) rfl ?_
    show Steps p.tables e below (s₁.setTop (mkF m 9 #[.val (.int p0), .val (.int p1), .val (.int p2), .val (.int p3), .val (.int p4), .val (.int p5), .unset, .unset, .unset, .unset, .unset, .unset, .unset, .unset, .unset, .unset, .unset, .unset, .unset] [(.int (((p0 &&& (7 : Int32)) % (6 : Int32)) + (1 : Int32)))])) _
    rw [hn]
    show Steps p.tables e below (s₁.setTop (mkF m 9 #[.val (.int p0), .val (.int p1), .val (.int p2), .val (.int p3), .val (.int p4), .val (.int p5), .unset, .unset, .unset, .unset, .unset, .unset, .unset, .unset, .unset, .unset, .unset, .unset, .unset] [(.int (2 : Int32))])) _
    refine XS.istore X0.here hx rfl (hb hby at_9) rfl (l' := #[.val (.int p0), .val (.int p1), .val (.int p2), .val (.int p3), .val (.int p4), .val (.int p5), .val (.int (2 : Int32)), .unset, .unset, .unset, .unset, .unset, .unset, .unset, .unset, .unset, .unset, .unset, .unset]) rfl ?_
    show Steps p.tables e below (s₁.setTop (mkF m 11 #[.val (.int p0), .val (.int p1), .val (.int p2), .val (.int p3), .val (.int p4), .val (.int p5), .val (.int (2 : Int32)), .unset, .unset, .unset, .unset, .unset, .unset, .unset, .unset, .unset, .unset, .unset, .unset] [])) _
    refine XS.iloadN X0.here hx rfl (hb hby at_11) rfl ?_
    show Steps p.tables e below (s₁.setTop (mkF m 12 #[.val (.int p0), .val (.int p1), .val (.int p2), .val (.int p3), .val (.int p4), .val (.int p5), .val (.int (2 : Int32)), .unset, .unset, .unset, .unset, .unset, .unset, .unset, .unset, .unset, .unset, .unset, .unset] [(.int p0)])) _
    refine XS.iconst X0.here hx rfl (hb hby at_12) ?_
    show Steps p.tables e below (s₁.setTop (mkF m 13 #[.val (.int p0), .val (.int p1), .val (.int p2), .val (.int p3), .val (.int p4), .val (.int p5), .val (.int (2 : Int32)), .unset, .unset, .unset, .unset, .unset, .unset, .unset, .unset, .unset, .unset, .unset, .unset] [(.int (3 : Int32)), (.int p0)])) _
    refine XS.ishr X0.here hx rfl (hb hby at_13) rfl ?_
    show Steps p.tables e below (s₁.setTop (mkF m 14 #[.val (.int p0), .val (.int p1), .val (.int p2), .val (.int p3), .val (.int p4), .val (.int p5), .val (.int (2 : Int32)), .unset, .unset, .unset, .unset, .unset, .unset, .unset, .unset, .unset, .unset, .unset, .unset] [(.int (p0 >>> ((3 : Int32) &&& 31)))])) _
    refine X0.ldcInt hx hown (mvT hZ (hw _ (List.mem_of_getElem? (i := 0) rfl))) (g := (mkF m 14 #[.val (.int p0), .val (.int p1), .val (.int p2), .val (.int p3), .val (.int p4), .val (.int p5), .val (.int (2 : Int32)), .unset, .unset, .unset, .unset, .unset, .unset, .unset, .unset, .unset, .unset, .unset, .unset] [(.int (p0 >>> ((3 : Int32) &&& 31)))])) rfl (hb hby at_14) _ ?_
    show Steps p.tables e below (s₁.setTop (mkF m 16 #[.val (.int p0), .val (.int p1), .val (.int p2), .val (.int p3), .val (.int p4), .val (.int p5), .val (.int (2 : Int32)), .unset, .unset, .unset, .unset, .unset, .unset, .unset, .unset, .unset, .unset, .unset, .unset] [(.int (1048575 : Int32)), (.int (p0 >>> ((3 : Int32) &&& 31)))])) _
    refine XS.iand X0.here hx rfl (hb hby at_16) rfl ?_
    show Steps p.tables e below (s₁.setTop (mkF m 17 #[.val (.int p0), .val (.int p1), .val (.int p2), .val (.int p3), .val (.int p4), .val (.int p5), .val (.int (2 : Int32)), .unset, .unset, .unset, .unset, .unset, .unset, .unset, .unset, .unset, .unset, .unset, .unset] [(.int ((p0 >>> ((3 : Int32) &&& 31)) &&& (1048575 : Int32)))])) _
    refine X0.ldcInt hx hown (mvT hZ (hw _ (List.mem_of_getElem? (i := 1) rfl))) (g := (mkF m 17 #[.val (.int p0), .val (.int p1), .val (.int p2), .val (.int p3), .val (.int p4), .val (.int p5), .val (.int (2 : Int32)), .unset, .unset, .unset, .unset, .unset, .unset, .unset, .unset, .unset, .unset, .unset, .unset] [(.int ((p0 >>> ((3 : Int32) &&& 31)) &&& (1048575 : Int32)))])) rfl (hb hby at_17) _ ?_
    show Steps p.tables e below (s₁.setTop (mkF m 19 #[.val (.int p0), .val (.int p1), .val (.int p2), .val (.int p3), .val (.int p4), .val (.int p5), .val (.int (2 : Int32)), .unset, .unset, .unset, .unset, .unset, .unset, .unset, .unset, .unset, .unset, .unset, .unset] [(.int (524288 : Int32)), (.int ((p0 >>> ((3 : Int32) &&& 31)) &&& (1048575 : Int32)))])) _
    refine XS.isub X0.here hx rfl (hb hby at_19) rfl ?_
    show Steps p.tables e below (s₁.setTop (mkF m 20 #[.val (.int p0), .val (.int p1), .val (.int p2), .val (.int p3), .val (.int p4), .val (.int p5), .val (.int (2 : Int32)), .unset, .unset, .unset, .unset, .unset, .unset, .unset, .unset, .unset, .unset, .unset, .unset] [(.int (((p0 >>> ((3 : Int32) &&& 31)) &&& (1048575 : Int32)) - (524288 : Int32)))])) _
    rw [hv0]
    show Steps p.tables e below (s₁.setTop (mkF m 20 #[.val (.int p0), .val (.int p1), .val (.int p2), .val (.int p3), .val (.int p4), .val (.int p5), .val (.int (2 : Int32)), .unset, .unset, .unset, .unset, .unset, .unset, .unset, .unset, .unset, .unset, .unset, .unset] [(.int v0)])) _
    refine XS.istore X0.here hx rfl (hb hby at_20) rfl (l' := #[.val (.int p0), .val (.int p1), .val (.int p2), .val (.int p3), .val (.int p4), .val (.int p5), .val (.int (2 : Int32)), .val (.int v0), .unset, .unset, .unset, .unset, .unset, .unset, .unset, .unset, .unset, .unset, .unset]) rfl ?_
    show Steps p.tables e below (s₁.setTop (mkF m 22 #[.val (.int p0), .val (.int p1), .val (.int p2), .val (.int p3), .val (.int p4), .val (.int p5), .val (.int (2 : Int32)), .val (.int v0), .unset, .unset, .unset, .unset, .unset, .unset, .unset, .unset, .unset, .unset, .unset] [])) _
    refine XS.iload X0.here hx rfl (hb hby at_22) rfl ?_
    show Steps p.tables e below (s₁.setTop (mkF m 24 #[.val (.int p0), .val (.int p1), .val (.int p2), .val (.int p3), .val (.int p4), .val (.int p5), .val (.int (2 : Int32)), .val (.int v0), .unset, .unset, .unset, .unset, .unset, .unset, .unset, .unset, .unset, .unset, .unset] [(.int v0)])) _
    refine XS.iloadN X0.here hx rfl (hb hby at_24) rfl ?_
    show Steps p.tables e below (s₁.setTop (mkF m 25 #[.val (.int p0), .val (.int p1), .val (.int p2), .val (.int p3), .val (.int p4), .val (.int p5), .val (.int (2 : Int32)), .val (.int v0), .unset, .unset, .unset, .unset, .unset, .unset, .unset, .unset, .unset, .unset, .unset] [(.int p1), (.int v0)])) _
    refine X0.ldcInt hx hown (mvT hZ (hw _ (List.mem_of_getElem? (i := 2) rfl))) (g := (mkF m 25 #[.val (.int p0), .val (.int p1), .val (.int p2), .val (.int p3), .val (.int p4), .val (.int p5), .val (.int (2 : Int32)), .val (.int v0), .unset, .unset, .unset, .unset, .unset, .unset, .unset, .unset, .unset, .unset, .unset] [(.int p1), (.int v0)])) rfl (hb hby at_25) _ ?_
    show Steps p.tables e below (s₁.setTop (mkF m 27 #[.val (.int p0), .val (.int p1), .val (.int p2), .val (.int p3), .val (.int p4), .val (.int p5), .val (.int (2 : Int32)), .val (.int v0), .unset, .unset, .unset, .unset, .unset, .unset, .unset, .unset, .unset, .unset, .unset] [(.int (65535 : Int32)), (.int p1), (.int v0)])) _
    refine XS.iand X0.here hx rfl (hb hby at_27) rfl ?_
    show Steps p.tables e below (s₁.setTop (mkF m 28 #[.val (.int p0), .val (.int p1), .val (.int p2), .val (.int p3), .val (.int p4), .val (.int p5), .val (.int (2 : Int32)), .val (.int v0), .unset, .unset, .unset, .unset, .unset, .unset, .unset, .unset, .unset, .unset, .unset] [(.int (p1 &&& (65535 : Int32))), (.int v0)])) _
    refine XS.iadd X0.here hx rfl (hb hby at_28) rfl ?_
    show Steps p.tables e below (s₁.setTop (mkF m 29 #[.val (.int p0), .val (.int p1), .val (.int p2), .val (.int p3), .val (.int p4), .val (.int p5), .val (.int (2 : Int32)), .val (.int v0), .unset, .unset, .unset, .unset, .unset, .unset, .unset, .unset, .unset, .unset, .unset] [(.int (v0 + (p1 &&& (65535 : Int32))))])) _
    rw [hv1]
    show Steps p.tables e below (s₁.setTop (mkF m 29 #[.val (.int p0), .val (.int p1), .val (.int p2), .val (.int p3), .val (.int p4), .val (.int p5), .val (.int (2 : Int32)), .val (.int v0), .unset, .unset, .unset, .unset, .unset, .unset, .unset, .unset, .unset, .unset, .unset] [(.int v1)])) _
    refine XS.istore X0.here hx rfl (hb hby at_29) rfl (l' := #[.val (.int p0), .val (.int p1), .val (.int p2), .val (.int p3), .val (.int p4), .val (.int p5), .val (.int (2 : Int32)), .val (.int v0), .val (.int v1), .unset, .unset, .unset, .unset, .unset, .unset, .unset, .unset, .unset, .unset]) rfl ?_
    show Steps p.tables e below (s₁.setTop (mkF m 31 #[.val (.int p0), .val (.int p1), .val (.int p2), .val (.int p3), .val (.int p4), .val (.int p5), .val (.int (2 : Int32)), .val (.int v0), .val (.int v1), .unset, .unset, .unset, .unset, .unset, .unset, .unset, .unset, .unset, .unset] [])) _
    refine XS.iload X0.here hx rfl (hb hby at_31) rfl ?_
    show Steps p.tables e below (s₁.setTop (mkF m 33 #[.val (.int p0), .val (.int p1), .val (.int p2), .val (.int p3), .val (.int p4), .val (.int p5), .val (.int (2 : Int32)), .val (.int v0), .val (.int v1), .unset, .unset, .unset, .unset, .unset, .unset, .unset, .unset, .unset, .unset] [(.int v1)])) _
    refine XS.iloadN X0.here hx rfl (hb hby at_33) rfl ?_
    show Steps p.tables e below (s₁.setTop (mkF m 34 #[.val (.int p0), .val (.int p1), .val (.int p2), .val (.int p3), .val (.int p4), .val (.int p5), .val (.int (2 : Int32)), .val (.int v0), .val (.int v1), .unset, .unset, .unset, .unset, .unset, .unset, .unset, .unset, .unset, .unset] [(.int p2), (.int v1)])) _
    refine X0.ldcInt hx hown (mvT hZ (hw _ (List.mem_of_getElem? (i := 2) rfl))) (g := (mkF m 34 #[.val (.int p0), .val (.int p1), .val (.int p2), .val (.int p3), .val (.int p4), .val (.int p5), .val (.int (2 : Int32)), .val (.int v0), .val (.int v1), .unset, .unset, .unset, .unset, .unset, .unset, .unset, .unset, .unset, .unset] [(.int p2), (.int v1)])) rfl (hb hby at_34) _ ?_
    show Steps p.tables e below (s₁.setTop (mkF m 36 #[.val (.int p0), .val (.int p1), .val (.int p2), .val (.int p3), .val (.int p4), .val (.int p5), .val (.int (2 : Int32)), .val (.int v0), .val (.int v1), .unset, .unset, .unset, .unset, .unset, .unset, .unset, .unset, .unset, .unset] [(.int (65535 : Int32)), (.int p2), (.int v1)])) _
    refine XS.iand X0.here hx rfl (hb hby at_36) rfl ?_
    show Steps p.tables e below (s₁.setTop (mkF m 37 #[.val (.int p0), .val (.int p1), .val (.int p2), .val (.int p3), .val (.int p4), .val (.int p5), .val (.int (2 : Int32)), .val (.int v0), .val (.int v1), .unset, .unset, .unset, .unset, .unset, .unset, .unset, .unset, .unset, .unset] [(.int (p2 &&& (65535 : Int32))), (.int v1)])) _
    refine XS.iadd X0.here hx rfl (hb hby at_37) rfl ?_
    show Steps p.tables e below (s₁.setTop (mkF m 38 #[.val (.int p0), .val (.int p1), .val (.int p2), .val (.int p3), .val (.int p4), .val (.int p5), .val (.int (2 : Int32)), .val (.int v0), .val (.int v1), .unset, .unset, .unset, .unset, .unset, .unset, .unset, .unset, .unset, .unset] [(.int (v1 + (p2 &&& (65535 : Int32))))])) _
    rw [hv2]
    show Steps p.tables e below (s₁.setTop (mkF m 38 #[.val (.int p0), .val (.int p1), .val (.int p2), .val (.int p3), .val (.int p4), .val (.int p5), .val (.int (2 : Int32)), .val (.int v0), .val (.int v1), .unset, .unset, .unset, .unset, .unset, .unset, .unset, .unset, .unset, .unset] [(.int v2)])) _
    refine XS.istore X0.here hx rfl (hb hby at_38) rfl (l' := #[.val (.int p0), .val (.int p1), .val (.int p2), .val (.int p3), .val (.int p4), .val (.int p5), .val (.int (2 : Int32)), .val (.int v0), .val (.int v1), .val (.int v2), .unset, .unset, .unset, .unset, .unset, .unset, .unset, .unset, .unset]) rfl ?_
    show Steps p.tables e below (s₁.setTop (mkF m 40 #[.val (.int p0), .val (.int p1), .val (.int p2), .val (.int p3), .val (.int p4), .val (.int p5), .val (.int (2 : Int32)), .val (.int v0), .val (.int v1), .val (.int v2), .unset, .unset, .unset, .unset, .unset, .unset, .unset, .unset, .unset] [])) _
    refine XS.iload X0.here hx rfl (hb hby at_40) rfl ?_
    show Steps p.tables e below (s₁.setTop (mkF m 42 #[.val (.int p0), .val (.int p1), .val (.int p2), .val (.int p3), .val (.int p4), .val (.int p5), .val (.int (2 : Int32)), .val (.int v0), .val (.int v1), .val (.int v2), .unset, .unset, .unset, .unset, .unset, .unset, .unset, .unset, .unset] [(.int v2)])) _
    refine XS.iloadN X0.here hx rfl (hb hby at_42) rfl ?_
    show Steps p.tables e below (s₁.setTop (mkF m 43 #[.val (.int p0), .val (.int p1), .val (.int p2), .val (.int p3), .val (.int p4), .val (.int p5), .val (.int (2 : Int32)), .val (.int v0), .val (.int v1), .val (.int v2), .unset, .unset, .unset, .unset, .unset, .unset, .unset, .unset, .unset] [(.int p3), (.int v2)])) _
    refine X0.ldcInt hx hown (mvT hZ (hw _ (List.mem_of_getElem? (i := 2) rfl))) (g := (mkF m 43 #[.val (.int p0), .val (.int p1), .val (.int p2), .val (.int p3), .val (.int p4), .val (.int p5), .val (.int (2 : Int32)), .val (.int v0), .val (.int v1), .val (.int v2), .unset, .unset, .unset, .unset, .unset, .unset, .unset, .unset, .unset] [(.int p3), (.int v2)])) rfl (hb hby at_43) _ ?_
    show Steps p.tables e below (s₁.setTop (mkF m 45 #[.val (.int p0), .val (.int p1), .val (.int p2), .val (.int p3), .val (.int p4), .val (.int p5), .val (.int (2 : Int32)), .val (.int v0), .val (.int v1), .val (.int v2), .unset, .unset, .unset, .unset, .unset, .unset, .unset, .unset, .unset] [(.int (65535 : Int32)), (.int p3), (.int v2)])) _
    refine XS.iand X0.here hx rfl (hb hby at_45) rfl ?_
    show Steps p.tables e below (s₁.setTop (mkF m 46 #[.val (.int p0), .val (.int p1), .val (.int p2), .val (.int p3), .val (.int p4), .val (.int p5), .val (.int (2 : Int32)), .val (.int v0), .val (.int v1), .val (.int v2), .unset, .unset, .unset, .unset, .unset, .unset, .unset, .unset, .unset] [(.int (p3 &&& (65535 : Int32))), (.int v2)])) _
    refine XS.iadd X0.here hx rfl (hb hby at_46) rfl ?_
    show Steps p.tables e below (s₁.setTop (mkF m 47 #[.val (.int p0), .val (.int p1), .val (.int p2), .val (.int p3), .val (.int p4), .val (.int p5), .val (.int (2 : Int32)), .val (.int v0), .val (.int v1), .val (.int v2), .unset, .unset, .unset, .unset, .unset, .unset, .unset, .unset, .unset] [(.int (v2 + (p3 &&& (65535 : Int32))))])) _
    rw [hv3]
    show Steps p.tables e below (s₁.setTop (mkF m 47 #[.val (.int p0), .val (.int p1), .val (.int p2), .val (.int p3), .val (.int p4), .val (.int p5), .val (.int (2 : Int32)), .val (.int v0), .val (.int v1), .val (.int v2), .unset, .unset, .unset, .unset, .unset, .unset, .unset, .unset, .unset] [(.int v3)])) _
    refine XS.istore X0.here hx rfl (hb hby at_47) rfl (l' := #[.val (.int p0), .val (.int p1), .val (.int p2), .val (.int p3), .val (.int p4), .val (.int p5), .val (.int (2 : Int32)), .val (.int v0), .val (.int v1), .val (.int v2), .val (.int v3), .unset, .unset, .unset, .unset, .unset, .unset, .unset, .unset]) rfl ?_
    show Steps p.tables e below (s₁.setTop (mkF m 49 #[.val (.int p0), .val (.int p1), .val (.int p2), .val (.int p3), .val (.int p4), .val (.int p5), .val (.int (2 : Int32)), .val (.int v0), .val (.int v1), .val (.int v2), .val (.int v3), .unset, .unset, .unset, .unset, .unset, .unset, .unset, .unset] [])) _
    refine XS.iload X0.here hx rfl (hb hby at_49) rfl ?_
    show Steps p.tables e below (s₁.setTop (mkF m 51 #[.val (.int p0), .val (.int p1), .val (.int p2), .val (.int p3), .val (.int p4), .val (.int p5), .val (.int (2 : Int32)), .val (.int v0), .val (.int v1), .val (.int v2), .val (.int v3), .unset, .unset, .unset, .unset, .unset, .unset, .unset, .unset] [(.int v3)])) _
    refine XS.iload X0.here hx rfl (hb hby at_51) rfl ?_
    show Steps p.tables e below (s₁.setTop (mkF m 53 #[.val (.int p0), .val (.int p1), .val (.int p2), .val (.int p3), .val (.int p4), .val (.int p5), .val (.int (2 : Int32)), .val (.int v0), .val (.int v1), .val (.int v2), .val (.int v3), .unset, .unset, .unset, .unset, .unset, .unset, .unset, .unset] [(.int p4), (.int v3)])) _
    refine X0.ldcInt hx hown (mvT hZ (hw _ (List.mem_of_getElem? (i := 2) rfl))) (g := (mkF m 53 #[.val (.int p0), .val (.int p1), .val (.int p2), .val (.int p3), .val (.int p4), .val (.int p5), .val (.int (2 : Int32)), .val (.int v0), .val (.int v1), .val (.int v2), .val (.int v3), .unset, .unset, .unset, .unset, .unset, .unset, .unset, .unset] [(.int p4), (.int v3)])) rfl (hb hby at_53) _ ?_
    show Steps p.tables e below (s₁.setTop (mkF m 55 #[.val (.int p0), .val (.int p1), .val (.int p2), .val (.int p3), .val (.int p4), .val (.int p5), .val (.int (2 : Int32)), .val (.int v0), .val (.int v1), .val (.int v2), .val (.int v3), .unset, .unset, .unset, .unset, .unset, .unset, .unset, .unset] [(.int (65535 : Int32)), (.int p4), (.int v3)])) _
    refine XS.iand X0.here hx rfl (hb hby at_55) rfl ?_
    show Steps p.tables e below (s₁.setTop (mkF m 56 #[.val (.int p0), .val (.int p1), .val (.int p2), .val (.int p3), .val (.int p4), .val (.int p5), .val (.int (2 : Int32)), .val (.int v0), .val (.int v1), .val (.int v2), .val (.int v3), .unset, .unset, .unset, .unset, .unset, .unset, .unset, .unset] [(.int (p4 &&& (65535 : Int32))), (.int v3)])) _
    refine XS.iadd X0.here hx rfl (hb hby at_56) rfl ?_
    show Steps p.tables e below (s₁.setTop (mkF m 57 #[.val (.int p0), .val (.int p1), .val (.int p2), .val (.int p3), .val (.int p4), .val (.int p5), .val (.int (2 : Int32)), .val (.int v0), .val (.int v1), .val (.int v2), .val (.int v3), .unset, .unset, .unset, .unset, .unset, .unset, .unset, .unset] [(.int (v3 + (p4 &&& (65535 : Int32))))])) _
    rw [hv4]
    show Steps p.tables e below (s₁.setTop (mkF m 57 #[.val (.int p0), .val (.int p1), .val (.int p2), .val (.int p3), .val (.int p4), .val (.int p5), .val (.int (2 : Int32)), .val (.int v0), .val (.int v1), .val (.int v2), .val (.int v3), .unset, .unset, .unset, .unset, .unset, .unset, .unset, .unset] [(.int v4)])) _
    refine XS.istore X0.here hx rfl (hb hby at_57) rfl (l' := #[.val (.int p0), .val (.int p1), .val (.int p2), .val (.int p3), .val (.int p4), .val (.int p5), .val (.int (2 : Int32)), .val (.int v0), .val (.int v1), .val (.int v2), .val (.int v3), .val (.int v4), .unset, .unset, .unset, .unset, .unset, .unset, .unset]) rfl ?_
    show Steps p.tables e below (s₁.setTop (mkF m 59 #[.val (.int p0), .val (.int p1), .val (.int p2), .val (.int p3), .val (.int p4), .val (.int p5), .val (.int (2 : Int32)), .val (.int v0), .val (.int v1), .val (.int v2), .val (.int v3), .val (.int v4), .unset, .unset, .unset, .unset, .unset, .unset, .unset] [])) _
    refine XS.iload X0.here hx rfl (hb hby at_59) rfl ?_
    show Steps p.tables e below (s₁.setTop (mkF m 61 #[.val (.int p0), .val (.int p1), .val (.int p2), .val (.int p3), .val (.int p4), .val (.int p5), .val (.int (2 : Int32)), .val (.int v0), .val (.int v1), .val (.int v2), .val (.int v3), .val (.int v4), .unset, .unset, .unset, .unset, .unset, .unset, .unset] [(.int v4)])) _
    refine XS.iload X0.here hx rfl (hb hby at_61) rfl ?_
    show Steps p.tables e below (s₁.setTop (mkF m 63 #[.val (.int p0), .val (.int p1), .val (.int p2), .val (.int p3), .val (.int p4), .val (.int p5), .val (.int (2 : Int32)), .val (.int v0), .val (.int v1), .val (.int v2), .val (.int v3), .val (.int v4), .unset, .unset, .unset, .unset, .unset, .unset, .unset] [(.int p5), (.int v4)])) _
    refine X0.ldcInt hx hown (mvT hZ (hw _ (List.mem_of_getElem? (i := 2) rfl))) (g := (mkF m 63 #[.val (.int p0), .val (.int p1), .val (.int p2), .val (.int p3), .val (.int p4), .val (.int p5), .val (.int (2 : Int32)), .val (.int v0), .val (.int v1), .val (.int v2), .val (.int v3), .val (.int v4), .unset, .unset, .unset, .unset, .unset, .unset, .unset] [(.int p5), (.int v4)])) rfl (hb hby at_63) _ ?_
    show Steps p.tables e below (s₁.setTop (mkF m 65 #[.val (.int p0), .val (.int p1), .val (.int p2), .val (.int p3), .val (.int p4), .val (.int p5), .val (.int (2 : Int32)), .val (.int v0), .val (.int v1), .val (.int v2), .val (.int v3), .val (.int v4), .unset, .unset, .unset, .unset, .unset, .unset, .unset] [(.int (65535 : Int32)), (.int p5), (.int v4)])) _
    refine XS.iand X0.here hx rfl (hb hby at_65) rfl ?_
    show Steps p.tables e below (s₁.setTop (mkF m 66 #[.val (.int p0), .val (.int p1), .val (.int p2), .val (.int p3), .val (.int p4), .val (.int p5), .val (.int (2 : Int32)), .val (.int v0), .val (.int v1), .val (.int v2), .val (.int v3), .val (.int v4), .unset, .unset, .unset, .unset, .unset, .unset, .unset] [(.int (p5 &&& (65535 : Int32))), (.int v4)])) _
    refine XS.iadd X0.here hx rfl (hb hby at_66) rfl ?_
    show Steps p.tables e below (s₁.setTop (mkF m 67 #[.val (.int p0), .val (.int p1), .val (.int p2), .val (.int p3), .val (.int p4), .val (.int p5), .val (.int (2 : Int32)), .val (.int v0), .val (.int v1), .val (.int v2), .val (.int v3), .val (.int v4), .unset, .unset, .unset, .unset, .unset, .unset, .unset] [(.int (v4 + (p5 &&& (65535 : Int32))))])) _
    rw [hv5]
    show Steps p.tables e below (s₁.setTop (mkF m 67 #[.val (.int p0), .val (.int p1), .val (.int p2), .val (.int p3), .val (.int p4), .val (.int p5), .val (.int (2 : Int32)), .val (.int v0), .val (.int v1), .val (.int v2), .val (.int v3), .val (.int v4), .unset, .unset, .unset, .unset, .unset, .unset, .unset] [(.int v5)])) _
    refine XS.istore X0.here hx rfl (hb hby at_67) rfl (l' := #[.val (.int p0), .val (.int p1), .val (.int p2), .val (.int p3), .val (.int p4), .val (.int p5), .val (.int (2 : Int32)), .val (.int v0), .val (.int v1), .val (.int v2), .val (.int v3), .val (.int v4), .val (.int v5), .unset, .unset, .unset, .unset, .unset, .unset]) rfl ?_
    show Steps p.tables e below (s₁.setTop (mkF m 69 #[.val (.int p0), .val (.int p1), .val (.int p2), .val (.int p3), .val (.int p4), .val (.int p5), .val (.int (2 : Int32)), .val (.int v0), .val (.int v1), .val (.int v2), .val (.int v3), .val (.int v4), .val (.int v5), .unset, .unset, .unset, .unset, .unset, .unset] [])) _
    refine XS.bipush X0.here hx rfl (hb hby at_69) ?_
    show Steps p.tables e below (s₁.setTop (mkF m 71 #[.val (.int p0), .val (.int p1), .val (.int p2), .val (.int p3), .val (.int p4), .val (.int p5), .val (.int (2 : Int32)), .val (.int v0), .val (.int v1), .val (.int v2), .val (.int v3), .val (.int v4), .val (.int v5), .unset, .unset, .unset, .unset, .unset, .unset] [(.int (6 : Int32))])) _
    refine st1 _ ?_
    show Steps p.tables e below (T1.setTop (mkF m 73 #[.val (.int p0), .val (.int p1), .val (.int p2), .val (.int p3), .val (.int p4), .val (.int p5), .val (.int (2 : Int32)), .val (.int v0), .val (.int v1), .val (.int v2), .val (.int v3), .val (.int v4), .val (.int v5), .unset, .unset, .unset, .unset, .unset, .unset] [(.ref b1)])) _
    refine XS.dup X1.here hx rfl (hb hby at_73) rfl rfl ?_
    show Steps p.tables e below (T1.setTop (mkF m 74 #[.val (.int p0), .val (.int p1), .val (.int p2), .val (.int p3), .val (.int p4), .val (.int p5), .val (.int (2 : Int32)), .val (.int v0), .val (.int v1), .val (.int v2), .val (.int v3), .val (.int v4), .val (.int v5), .unset, .unset, .unset, .unset, .unset, .unset] [(.ref b1), (.ref b1)])) _
    refine XS.iconst X1.here hx rfl (hb hby at_74) ?_
    show Steps p.tables e below (T1.setTop (mkF m 75 #[.val (.int p0), .val (.int p1), .val (.int p2), .val (.int p3), .val (.int p4), .val (.int p5), .val (.int (2 : Int32)), .val (.int v0), .val (.int v1), .val (.int v2), .val (.int v3), .val (.int v4), .val (.int v5), .unset, .unset, .unset, .unset, .unset, .unset] [(.int (0 : Int32)), (.ref b1), (.ref b1)])) _
    refine XS.iload X1.here hx rfl (hb hby at_75) rfl ?_
    show Steps p.tables e below (T1.setTop (mkF m 77 #[.val (.int p0), .val (.int p1), .val (.int p2), .val (.int p3), .val (.int p4), .val (.int p5), .val (.int (2 : Int32)), .val (.int v0), .val (.int v1), .val (.int v2), .val (.int v3), .val (.int v4), .val (.int v5), .unset, .unset, .unset, .unset, .unset, .unset] [(.int v0), (.int (0 : Int32)), (.ref b1), (.ref b1)])) _
    refine st2 _ ?_
    show Steps p.tables e below (T2.setTop (mkF m 78 #[.val (.int p0), .val (.int p1), .val (.int p2), .val (.int p3), .val (.int p4), .val (.int p5), .val (.int (2 : Int32)), .val (.int v0), .val (.int v1), .val (.int v2), .val (.int v3), .val (.int v4), .val (.int v5), .unset, .unset, .unset, .unset, .unset, .unset] [(.ref b1)])) _
    refine XS.dup X2.here hx rfl (hb hby at_78) rfl rfl ?_
    show Steps p.tables e below (T2.setTop (mkF m 79 #[.val (.int p0), .val (.int p1), .val (.int p2), .val (.int p3), .val (.int p4), .val (.int p5), .val (.int (2 : Int32)), .val (.int v0), .val (.int v1), .val (.int v2), .val (.int v3), .val (.int v4), .val (.int v5), .unset, .unset, .unset, .unset, .unset, .unset] [(.ref b1), (.ref b1)])) _
    refine XS.iconst X2.here hx rfl (hb hby at_79) ?_
    show Steps p.tables e below (T2.setTop (mkF m 80 #[.val (.int p0), .val (.int p1), .val (.int p2), .val (.int p3), .val (.int p4), .val (.int p5), .val (.int (2 : Int32)), .val (.int v0), .val (.int v1), .val (.int v2), .val (.int v3), .val (.int v4), .val (.int v5), .unset, .unset, .unset, .unset, .unset, .unset] [(.int (1 : Int32)), (.ref b1), (.ref b1)])) _
    refine XS.iload X2.here hx rfl (hb hby at_80) rfl ?_
    show Steps p.tables e below (T2.setTop (mkF m 82 #[.val (.int p0), .val (.int p1), .val (.int p2), .val (.int p3), .val (.int p4), .val (.int p5), .val (.int (2 : Int32)), .val (.int v0), .val (.int v1), .val (.int v2), .val (.int v3), .val (.int v4), .val (.int v5), .unset, .unset, .unset, .unset, .unset, .unset] [(.int v1), (.int (1 : Int32)), (.ref b1), (.ref b1)])) _
    refine st3 _ ?_
    show Steps p.tables e below (T3.setTop (mkF m 83 #[.val (.int p0), .val (.int p1), .val (.int p2), .val (.int p3), .val (.int p4), .val (.int p5), .val (.int (2 : Int32)), .val (.int v0), .val (.int v1), .val (.int v2), .val (.int v3), .val (.int v4), .val (.int v5), .unset, .unset, .unset, .unset, .unset, .unset] [(.ref b1)])) _
    refine XS.dup X3.here hx rfl (hb hby at_83) rfl rfl ?_
    show Steps p.tables e below (T3.setTop (mkF m 84 #[.val (.int p0), .val (.int p1), .val (.int p2), .val (.int p3), .val (.int p4), .val (.int p5), .val (.int (2 : Int32)), .val (.int v0), .val (.int v1), .val (.int v2), .val (.int v3), .val (.int v4), .val (.int v5), .unset, .unset, .unset, .unset, .unset, .unset] [(.ref b1), (.ref b1)])) _
    refine XS.iconst X3.here hx rfl (hb hby at_84) ?_
    show Steps p.tables e below (T3.setTop (mkF m 85 #[.val (.int p0), .val (.int p1), .val (.int p2), .val (.int p3), .val (.int p4), .val (.int p5), .val (.int (2 : Int32)), .val (.int v0), .val (.int v1), .val (.int v2), .val (.int v3), .val (.int v4), .val (.int v5), .unset, .unset, .unset, .unset, .unset, .unset] [(.int (2 : Int32)), (.ref b1), (.ref b1)])) _
    refine XS.iload X3.here hx rfl (hb hby at_85) rfl ?_
    show Steps p.tables e below (T3.setTop (mkF m 87 #[.val (.int p0), .val (.int p1), .val (.int p2), .val (.int p3), .val (.int p4), .val (.int p5), .val (.int (2 : Int32)), .val (.int v0), .val (.int v1), .val (.int v2), .val (.int v3), .val (.int v4), .val (.int v5), .unset, .unset, .unset, .unset, .unset, .unset] [(.int v2), (.int (2 : Int32)), (.ref b1), (.ref b1)])) _
    refine st4 _ ?_
    show Steps p.tables e below (T4.setTop (mkF m 88 #[.val (.int p0), .val (.int p1), .val (.int p2), .val (.int p3), .val (.int p4), .val (.int p5), .val (.int (2 : Int32)), .val (.int v0), .val (.int v1), .val (.int v2), .val (.int v3), .val (.int v4), .val (.int v5), .unset, .unset, .unset, .unset, .unset, .unset] [(.ref b1)])) _
    refine XS.dup X4.here hx rfl (hb hby at_88) rfl rfl ?_
    show Steps p.tables e below (T4.setTop (mkF m 89 #[.val (.int p0), .val (.int p1), .val (.int p2), .val (.int p3), .val (.int p4), .val (.int p5), .val (.int (2 : Int32)), .val (.int v0), .val (.int v1), .val (.int v2), .val (.int v3), .val (.int v4), .val (.int v5), .unset, .unset, .unset, .unset, .unset, .unset] [(.ref b1), (.ref b1)])) _
    refine XS.iconst X4.here hx rfl (hb hby at_89) ?_
    show Steps p.tables e below (T4.setTop (mkF m 90 #[.val (.int p0), .val (.int p1), .val (.int p2), .val (.int p3), .val (.int p4), .val (.int p5), .val (.int (2 : Int32)), .val (.int v0), .val (.int v1), .val (.int v2), .val (.int v3), .val (.int v4), .val (.int v5), .unset, .unset, .unset, .unset, .unset, .unset] [(.int (3 : Int32)), (.ref b1), (.ref b1)])) _
    refine XS.iload X4.here hx rfl (hb hby at_90) rfl ?_
    show Steps p.tables e below (T4.setTop (mkF m 92 #[.val (.int p0), .val (.int p1), .val (.int p2), .val (.int p3), .val (.int p4), .val (.int p5), .val (.int (2 : Int32)), .val (.int v0), .val (.int v1), .val (.int v2), .val (.int v3), .val (.int v4), .val (.int v5), .unset, .unset, .unset, .unset, .unset, .unset] [(.int v3), (.int (3 : Int32)), (.ref b1), (.ref b1)])) _
    refine st5 _ ?_
    show Steps p.tables e below (T5.setTop (mkF m 93 #[.val (.int p0), .val (.int p1), .val (.int p2), .val (.int p3), .val (.int p4), .val (.int p5), .val (.int (2 : Int32)), .val (.int v0), .val (.int v1), .val (.int v2), .val (.int v3), .val (.int v4), .val (.int v5), .unset, .unset, .unset, .unset, .unset, .unset] [(.ref b1)])) _
    refine XS.dup X5.here hx rfl (hb hby at_93) rfl rfl ?_
    show Steps p.tables e below (T5.setTop (mkF m 94 #[.val (.int p0), .val (.int p1), .val (.int p2), .val (.int p3), .val (.int p4), .val (.int p5), .val (.int (2 : Int32)), .val (.int v0), .val (.int v1), .val (.int v2), .val (.int v3), .val (.int v4), .val (.int v5), .unset, .unset, .unset, .unset, .unset, .unset] [(.ref b1), (.ref b1)])) _
    refine XS.iconst X5.here hx rfl (hb hby at_94) ?_
    show Steps p.tables e below (T5.setTop (mkF m 95 #[.val (.int p0), .val (.int p1), .val (.int p2), .val (.int p3), .val (.int p4), .val (.int p5), .val (.int (2 : Int32)), .val (.int v0), .val (.int v1), .val (.int v2), .val (.int v3), .val (.int v4), .val (.int v5), .unset, .unset, .unset, .unset, .unset, .unset] [(.int (4 : Int32)), (.ref b1), (.ref b1)])) _
    refine XS.iload X5.here hx rfl (hb hby at_95) rfl ?_
    show Steps p.tables e below (T5.setTop (mkF m 97 #[.val (.int p0), .val (.int p1), .val (.int p2), .val (.int p3), .val (.int p4), .val (.int p5), .val (.int (2 : Int32)), .val (.int v0), .val (.int v1), .val (.int v2), .val (.int v3), .val (.int v4), .val (.int v5), .unset, .unset, .unset, .unset, .unset, .unset] [(.int v4), (.int (4 : Int32)), (.ref b1), (.ref b1)])) _
    refine st6 _ ?_
    show Steps p.tables e below (T6.setTop (mkF m 98 #[.val (.int p0), .val (.int p1), .val (.int p2), .val (.int p3), .val (.int p4), .val (.int p5), .val (.int (2 : Int32)), .val (.int v0), .val (.int v1), .val (.int v2), .val (.int v3), .val (.int v4), .val (.int v5), .unset, .unset, .unset, .unset, .unset, .unset] [(.ref b1)])) _
    refine XS.dup X6.here hx rfl (hb hby at_98) rfl rfl ?_
    show Steps p.tables e below (T6.setTop (mkF m 99 #[.val (.int p0), .val (.int p1), .val (.int p2), .val (.int p3), .val (.int p4), .val (.int p5), .val (.int (2 : Int32)), .val (.int v0), .val (.int v1), .val (.int v2), .val (.int v3), .val (.int v4), .val (.int v5), .unset, .unset, .unset, .unset, .unset, .unset] [(.ref b1), (.ref b1)])) _
    refine XS.iconst X6.here hx rfl (hb hby at_99) ?_
    show Steps p.tables e below (T6.setTop (mkF m 100 #[.val (.int p0), .val (.int p1), .val (.int p2), .val (.int p3), .val (.int p4), .val (.int p5), .val (.int (2 : Int32)), .val (.int v0), .val (.int v1), .val (.int v2), .val (.int v3), .val (.int v4), .val (.int v5), .unset, .unset, .unset, .unset, .unset, .unset] [(.int (5 : Int32)), (.ref b1), (.ref b1)])) _
    refine XS.iload X6.here hx rfl (hb hby at_100) rfl ?_
    show Steps p.tables e below (T6.setTop (mkF m 102 #[.val (.int p0), .val (.int p1), .val (.int p2), .val (.int p3), .val (.int p4), .val (.int p5), .val (.int (2 : Int32)), .val (.int v0), .val (.int v1), .val (.int v2), .val (.int v3), .val (.int v4), .val (.int v5), .unset, .unset, .unset, .unset, .unset, .unset] [(.int v5), (.int (5 : Int32)), (.ref b1), (.ref b1)])) _
    refine st7 _ ?_
    show Steps p.tables e below (T7.setTop (mkF m 103 #[.val (.int p0), .val (.int p1), .val (.int p2), .val (.int p3), .val (.int p4), .val (.int p5), .val (.int (2 : Int32)), .val (.int v0), .val (.int v1), .val (.int v2), .val (.int v3), .val (.int v4), .val (.int v5), .unset, .unset, .unset, .unset, .unset, .unset] [(.ref b1)])) _
    refine XS.astore X7.here hx rfl (hb hby at_103) rfl rfl (l' := #[.val (.int p0), .val (.int p1), .val (.int p2), .val (.int p3), .val (.int p4), .val (.int p5), .val (.int (2 : Int32)), .val (.int v0), .val (.int v1), .val (.int v2), .val (.int v3), .val (.int v4), .val (.int v5), .val (.ref b1), .unset, .unset, .unset, .unset, .unset]) rfl ?_
    show Steps p.tables e below (T7.setTop (mkF m 105 #[.val (.int p0), .val (.int p1), .val (.int p2), .val (.int p3), .val (.int p4), .val (.int p5), .val (.int (2 : Int32)), .val (.int v0), .val (.int v1), .val (.int v2), .val (.int v3), .val (.int v4), .val (.int v5), .val (.ref b1), .unset, .unset, .unset, .unset, .unset] [])) _
    refine XS.iload X7.here hx rfl (hb hby at_105) rfl ?_
    show Steps p.tables e below (T7.setTop (mkF m 107 #[.val (.int p0), .val (.int p1), .val (.int p2), .val (.int p3), .val (.int p4), .val (.int p5), .val (.int (2 : Int32)), .val (.int v0), .val (.int v1), .val (.int v2), .val (.int v3), .val (.int v4), .val (.int v5), .val (.ref b1), .unset, .unset, .unset, .unset, .unset] [(.int (2 : Int32))])) _
    refine st8 _ ?_
    show Steps p.tables e below (T8.setTop (mkF m 109 #[.val (.int p0), .val (.int p1), .val (.int p2), .val (.int p3), .val (.int p4), .val (.int p5), .val (.int (2 : Int32)), .val (.int v0), .val (.int v1), .val (.int v2), .val (.int v3), .val (.int v4), .val (.int v5), .val (.ref b1), .unset, .unset, .unset, .unset, .unset] [(.ref b8)])) _
    refine XS.astore X8.here hx rfl (hb hby at_109) rfl rfl (l' := #[.val (.int p0), .val (.int p1), .val (.int p2), .val (.int p3), .val (.int p4), .val (.int p5), .val (.int (2 : Int32)), .val (.int v0), .val (.int v1), .val (.int v2), .val (.int v3), .val (.int v4), .val (.int v5), .val (.ref b1), .val (.ref b8), .unset, .unset, .unset, .unset]) rfl ?_
    show Steps p.tables e below (T8.setTop (mkF m 111 #[.val (.int p0), .val (.int p1), .val (.int p2), .val (.int p3), .val (.int p4), .val (.int p5), .val (.int (2 : Int32)), .val (.int v0), .val (.int v1), .val (.int v2), .val (.int v3), .val (.int v4), .val (.int v5), .val (.ref b1), .val (.ref b8), .unset, .unset, .unset, .unset] [])) _
    refine XS.aload X8.here hx rfl (hb hby at_111) rfl rfl ?_
    show Steps p.tables e below (T8.setTop (mkF m 113 #[.val (.int p0), .val (.int p1), .val (.int p2), .val (.int p3), .val (.int p4), .val (.int p5), .val (.int (2 : Int32)), .val (.int v0), .val (.int v1), .val (.int v2), .val (.int v3), .val (.int v4), .val (.int v5), .val (.ref b1), .val (.ref b8), .unset, .unset, .unset, .unset] [(.ref b8)])) _
    refine XS.iconst X8.here hx rfl (hb hby at_113) ?_
    show Steps p.tables e below (T8.setTop (mkF m 114 #[.val (.int p0), .val (.int p1), .val (.int p2), .val (.int p3), .val (.int p4), .val (.int p5), .val (.int (2 : Int32)), .val (.int v0), .val (.int v1), .val (.int v2), .val (.int v3), .val (.int v4), .val (.int v5), .val (.ref b1), .val (.ref b8), .unset, .unset, .unset, .unset] [(.int (0 : Int32)), (.ref b8)])) _
    refine XS.iload X8.here hx rfl (hb hby at_114) rfl ?_
    show Steps p.tables e below (T8.setTop (mkF m 116 #[.val (.int p0), .val (.int p1), .val (.int p2), .val (.int p3), .val (.int p4), .val (.int p5), .val (.int (2 : Int32)), .val (.int v0), .val (.int v1), .val (.int v2), .val (.int v3), .val (.int v4), .val (.int v5), .val (.ref b1), .val (.ref b8), .unset, .unset, .unset, .unset] [(.int v0), (.int (0 : Int32)), (.ref b8)])) _
    refine XS.i2dS X8.here hx rfl (hb hby at_116) rfl rfl ?_
    show Steps p.tables e below (T8.setTop (mkF m 117 #[.val (.int p0), .val (.int p1), .val (.int p2), .val (.int p3), .val (.int p4), .val (.int p5), .val (.int (2 : Int32)), .val (.int v0), .val (.int v1), .val (.int v2), .val (.int v3), .val (.int v4), .val (.int v5), .val (.ref b1), .val (.ref b8), .unset, .unset, .unset, .unset] [(.double (FP.i2d v0)), (.int (0 : Int32)), (.ref b8)])) _
    refine st9 _ ?_
    show Steps p.tables e below (T9.setTop (mkF m 118 #[.val (.int p0), .val (.int p1), .val (.int p2), .val (.int p3), .val (.int p4), .val (.int p5), .val (.int (2 : Int32)), .val (.int v0), .val (.int v1), .val (.int v2), .val (.int v3), .val (.int v4), .val (.int v5), .val (.ref b1), .val (.ref b8), .unset, .unset, .unset, .unset] [])) _
    refine XS.iload X9.here hx rfl (hb hby at_118) rfl ?_
    show Steps p.tables e below (T9.setTop (mkF m 120 #[.val (.int p0), .val (.int p1), .val (.int p2), .val (.int p3), .val (.int p4), .val (.int p5), .val (.int (2 : Int32)), .val (.int v0), .val (.int v1), .val (.int v2), .val (.int v3), .val (.int v4), .val (.int v5), .val (.ref b1), .val (.ref b8), .unset, .unset, .unset, .unset] [(.int (2 : Int32))])) _
    refine XS.iconst X9.here hx rfl (hb hby at_120) ?_
    show Steps p.tables e below (T9.setTop (mkF m 121 #[.val (.int p0), .val (.int p1), .val (.int p2), .val (.int p3), .val (.int p4), .val (.int p5), .val (.int (2 : Int32)), .val (.int v0), .val (.int v1), .val (.int v2), .val (.int v3), .val (.int v4), .val (.int v5), .val (.ref b1), .val (.ref b8), .unset, .unset, .unset, .unset] [(.int (1 : Int32)), (.int (2 : Int32))])) _
    refine XS.icmpNo X9.here hx rfl (hb hby at_121) rfl (tlt (by decide : (1 : Int32) < (2 : Int32))).2.2.2 ?_
    show Steps p.tables e below (T9.setTop (mkF m 124 #[.val (.int p0), .val (.int p1), .val (.int p2), .val (.int p3), .val (.int p4), .val (.int p5), .val (.int (2 : Int32)), .val (.int v0), .val (.int v1), .val (.int v2), .val (.int v3), .val (.int v4), .val (.int v5), .val (.ref b1), .val (.ref b8), .unset, .unset, .unset, .unset] [])) _
    refine XS.aload X9.here hx rfl (hb hby at_124) rfl rfl ?_
    show Steps p.tables e below (T9.setTop (mkF m 126 #[.val (.int p0), .val (.int p1), .val (.int p2), .val (.int p3), .val (.int p4), .val (.int p5), .val (.int (2 : Int32)), .val (.int v0), .val (.int v1), .val (.int v2), .val (.int v3), .val (.int v4), .val (.int v5), .val (.ref b1), .val (.ref b8), .unset, .unset, .unset, .unset] [(.ref b8)])) _
    refine XS.iconst X9.here hx rfl (hb hby at_126) ?_
    show Steps p.tables e below (T9.setTop (mkF m 127 #[.val (.int p0), .val (.int p1), .val (.int p2), .val (.int p3), .val (.int p4), .val (.int p5), .val (.int (2 : Int32)), .val (.int v0), .val (.int v1), .val (.int v2), .val (.int v3), .val (.int v4), .val (.int v5), .val (.ref b1), .val (.ref b8), .unset, .unset, .unset, .unset] [(.int (1 : Int32)), (.ref b8)])) _
    refine XS.iload X9.here hx rfl (hb hby at_127) rfl ?_
    show Steps p.tables e below (T9.setTop (mkF m 129 #[.val (.int p0), .val (.int p1), .val (.int p2), .val (.int p3), .val (.int p4), .val (.int p5), .val (.int (2 : Int32)), .val (.int v0), .val (.int v1), .val (.int v2), .val (.int v3), .val (.int v4), .val (.int v5), .val (.ref b1), .val (.ref b8), .unset, .unset, .unset, .unset] [(.int v1), (.int (1 : Int32)), (.ref b8)])) _
    refine XS.i2dS X9.here hx rfl (hb hby at_129) rfl rfl ?_
    show Steps p.tables e below (T9.setTop (mkF m 130 #[.val (.int p0), .val (.int p1), .val (.int p2), .val (.int p3), .val (.int p4), .val (.int p5), .val (.int (2 : Int32)), .val (.int v0), .val (.int v1), .val (.int v2), .val (.int v3), .val (.int v4), .val (.int v5), .val (.ref b1), .val (.ref b8), .unset, .unset, .unset, .unset] [(.double (FP.i2d v1)), (.int (1 : Int32)), (.ref b8)])) _
    refine st10 _ ?_
    show Steps p.tables e below (T10.setTop (mkF m 131 #[.val (.int p0), .val (.int p1), .val (.int p2), .val (.int p3), .val (.int p4), .val (.int p5), .val (.int (2 : Int32)), .val (.int v0), .val (.int v1), .val (.int v2), .val (.int v3), .val (.int v4), .val (.int v5), .val (.ref b1), .val (.ref b8), .unset, .unset, .unset, .unset] [])) _
    refine XS.iload X10.here hx rfl (hb hby at_131) rfl ?_
    show Steps p.tables e below (T10.setTop (mkF m 133 #[.val (.int p0), .val (.int p1), .val (.int p2), .val (.int p3), .val (.int p4), .val (.int p5), .val (.int (2 : Int32)), .val (.int v0), .val (.int v1), .val (.int v2), .val (.int v3), .val (.int v4), .val (.int v5), .val (.ref b1), .val (.ref b8), .unset, .unset, .unset, .unset] [(.int (2 : Int32))])) _
    refine XS.iconst X10.here hx rfl (hb hby at_133) ?_
    show Steps p.tables e below (T10.setTop (mkF m 134 #[.val (.int p0), .val (.int p1), .val (.int p2), .val (.int p3), .val (.int p4), .val (.int p5), .val (.int (2 : Int32)), .val (.int v0), .val (.int v1), .val (.int v2), .val (.int v3), .val (.int v4), .val (.int v5), .val (.ref b1), .val (.ref b8), .unset, .unset, .unset, .unset] [(.int (2 : Int32)), (.int (2 : Int32))])) _
    refine XS.icmpYes X10.here hx rfl (pc0 := 134) (pc' := 144) rfl (hb hby at_134) rfl (flt (by decide : ¬ ((2 : Int32) < (2 : Int32)))).2.2.2 (by decide) (by decide) ?_
    show Steps p.tables e below (T10.setTop (mkF m 144 #[.val (.int p0), .val (.int p1), .val (.int p2), .val (.int p3), .val (.int p4), .val (.int p5), .val (.int (2 : Int32)), .val (.int v0), .val (.int v1), .val (.int v2), .val (.int v3), .val (.int v4), .val (.int v5), .val (.ref b1), .val (.ref b8), .unset, .unset, .unset, .unset] [])) _
    refine XS.iload X10.here hx rfl (hb hby at_144) rfl ?_
    show Steps p.tables e below (T10.setTop (mkF m 146 #[.val (.int p0), .val (.int p1), .val (.int p2), .val (.int p3), .val (.int p4), .val (.int p5), .val (.int (2 : Int32)), .val (.int v0), .val (.int v1), .val (.int v2), .val (.int v3), .val (.int v4), .val (.int v5), .val (.ref b1), .val (.ref b8), .unset, .unset, .unset, .unset] [(.int (2 : Int32))])) _
    refine XS.iconst X10.here hx rfl (hb hby at_146) ?_
    show Steps p.tables e below (T10.setTop (mkF m 147 #[.val (.int p0), .val (.int p1), .val (.int p2), .val (.int p3), .val (.int p4), .val (.int p5), .val (.int (2 : Int32)), .val (.int v0), .val (.int v1), .val (.int v2), .val (.int v3), .val (.int v4), .val (.int v5), .val (.ref b1), .val (.ref b8), .unset, .unset, .unset, .unset] [(.int (3 : Int32)), (.int (2 : Int32))])) _
    refine XS.icmpYes X10.here hx rfl (pc0 := 147) (pc' := 157) rfl (hb hby at_147) rfl (flt (by decide : ¬ ((3 : Int32) < (2 : Int32)))).2.2.2 (by decide) (by decide) ?_
    show Steps p.tables e below (T10.setTop (mkF m 157 #[.val (.int p0), .val (.int p1), .val (.int p2), .val (.int p3), .val (.int p4), .val (.int p5), .val (.int (2 : Int32)), .val (.int v0), .val (.int v1), .val (.int v2), .val (.int v3), .val (.int v4), .val (.int v5), .val (.ref b1), .val (.ref b8), .unset, .unset, .unset, .unset] [])) _
    refine XS.iload X10.here hx rfl (hb hby at_157) rfl ?_
    show Steps p.tables e below (T10.setTop (mkF m 159 #[.val (.int p0), .val (.int p1), .val (.int p2), .val (.int p3), .val (.int p4), .val (.int p5), .val (.int (2 : Int32)), .val (.int v0), .val (.int v1), .val (.int v2), .val (.int v3), .val (.int v4), .val (.int v5), .val (.ref b1), .val (.ref b8), .unset, .unset, .unset, .unset] [(.int (2 : Int32))])) _
    refine XS.iconst X10.here hx rfl (hb hby at_159) ?_
    show Steps p.tables e below (T10.setTop (mkF m 160 #[.val (.int p0), .val (.int p1), .val (.int p2), .val (.int p3), .val (.int p4), .val (.int p5), .val (.int (2 : Int32)), .val (.int v0), .val (.int v1), .val (.int v2), .val (.int v3), .val (.int v4), .val (.int v5), .val (.ref b1), .val (.ref b8), .unset, .unset, .unset, .unset] [(.int (4 : Int32)), (.int (2 : Int32))])) _
    refine XS.icmpYes X10.here hx rfl (pc0 := 160) (pc' := 170) rfl (hb hby at_160) rfl (flt (by decide : ¬ ((4 : Int32) < (2 : Int32)))).2.2.2 (by decide) (by decide) ?_
    show Steps p.tables e below (T10.setTop (mkF m 170 #[.val (.int p0), .val (.int p1), .val (.int p2), .val (.int p3), .val (.int p4), .val (.int p5), .val (.int (2 : Int32)), .val (.int v0), .val (.int v1), .val (.int v2), .val (.int v3), .val (.int v4), .val (.int v5), .val (.ref b1), .val (.ref b8), .unset, .unset, .unset, .unset] [])) _
    refine XS.iload X10.here hx rfl (hb hby at_170) rfl ?_
    show Steps p.tables e below (T10.setTop (mkF m 172 #[.val (.int p0), .val (.int p1), .val (.int p2), .val (.int p3), .val (.int p4), .val (.int p5), .val (.int (2 : Int32)), .val (.int v0), .val (.int v1), .val (.int v2), .val (.int v3), .val (.int v4), .val (.int v5), .val (.ref b1), .val (.ref b8), .unset, .unset, .unset, .unset] [(.int (2 : Int32))])) _
    refine XS.iconst X10.here hx rfl (hb hby at_172) ?_
    show Steps p.tables e below (T10.setTop (mkF m 173 #[.val (.int p0), .val (.int p1), .val (.int p2), .val (.int p3), .val (.int p4), .val (.int p5), .val (.int (2 : Int32)), .val (.int v0), .val (.int v1), .val (.int v2), .val (.int v3), .val (.int v4), .val (.int v5), .val (.ref b1), .val (.ref b8), .unset, .unset, .unset, .unset] [(.int (5 : Int32)), (.int (2 : Int32))])) _
    refine XS.icmpYes X10.here hx rfl (pc0 := 173) (pc' := 183) rfl (hb hby at_173) rfl (flt (by decide : ¬ ((5 : Int32) < (2 : Int32)))).2.2.2 (by decide) (by decide) ?_
    show Steps p.tables e below (T10.setTop (mkF m 183 #[.val (.int p0), .val (.int p1), .val (.int p2), .val (.int p3), .val (.int p4), .val (.int p5), .val (.int (2 : Int32)), .val (.int v0), .val (.int v1), .val (.int v2), .val (.int v3), .val (.int v4), .val (.int v5), .val (.ref b1), .val (.ref b8), .unset, .unset, .unset, .unset] [])) _
    refine XS.aload X10.here hx rfl (hb hby at_183) rfl rfl ?_
    show Steps p.tables e below (T10.setTop (mkF m 185 #[.val (.int p0), .val (.int p1), .val (.int p2), .val (.int p3), .val (.int p4), .val (.int p5), .val (.int (2 : Int32)), .val (.int v0), .val (.int v1), .val (.int v2), .val (.int v3), .val (.int v4), .val (.int v5), .val (.ref b1), .val (.ref b8), .unset, .unset, .unset, .unset] [(.ref b8)])) _
    refine st11 _ ?_
    show Steps p.tables e below (T11.setTop (mkF m 188 #[.val (.int p0), .val (.int p1), .val (.int p2), .val (.int p3), .val (.int p4), .val (.int p5), .val (.int (2 : Int32)), .val (.int v0), .val (.int v1), .val (.int v2), .val (.int v3), .val (.int v4), .val (.int v5), .val (.ref b1), .val (.ref b8), .unset, .unset, .unset, .unset] [(.double (FP.ddiv (FP.dadd (FP.i2d v0) (FP.i2d v1)) 4611686018427387904))])) _
    refine XS.dstore X11.here hx rfl (hb hby at_188) rfl (l' := #[.val (.int p0), .val (.int p1), .val (.int p2), .val (.int p3), .val (.int p4), .val (.int p5), .val (.int (2 : Int32)), .val (.int v0), .val (.int v1), .val (.int v2), .val (.int v3), .val (.int v4), .val (.int v5), .val (.ref b1), .val (.ref b8), .val (.double (FP.ddiv (FP.dadd (FP.i2d v0) (FP.i2d v1)) 4611686018427387904)), .second, .unset, .unset]) rfl ?_
    show Steps p.tables e below (T11.setTop (mkF m 190 #[.val (.int p0), .val (.int p1), .val (.int p2), .val (.int p3), .val (.int p4), .val (.int p5), .val (.int (2 : Int32)), .val (.int v0), .val (.int v1), .val (.int v2), .val (.int v3), .val (.int v4), .val (.int v5), .val (.ref b1), .val (.ref b8), .val (.double (FP.ddiv (FP.dadd (FP.i2d v0) (FP.i2d v1)) 4611686018427387904)), .second, .unset, .unset] [])) _
    refine XS.iload X11.here hx rfl (hb hby at_190) rfl ?_
    show Steps p.tables e below (T11.setTop (mkF m 192 #[.val (.int p0), .val (.int p1), .val (.int p2), .val (.int p3), .val (.int p4), .val (.int p5), .val (.int (2 : Int32)), .val (.int v0), .val (.int v1), .val (.int v2), .val (.int v3), .val (.int v4), .val (.int v5), .val (.ref b1), .val (.ref b8), .val (.double (FP.ddiv (FP.dadd (FP.i2d v0) (FP.i2d v1)) 4611686018427387904)), .second, .unset, .unset] [(.int (2 : Int32))])) _
    refine XS.iconst X11.here hx rfl (hb hby at_192) ?_
    show Steps p.tables e below (T11.setTop (mkF m 193 #[.val (.int p0), .val (.int p1), .val (.int p2), .val (.int p3), .val (.int p4), .val (.int p5), .val (.int (2 : Int32)), .val (.int v0), .val (.int v1), .val (.int v2), .val (.int v3), .val (.int v4), .val (.int v5), .val (.ref b1), .val (.ref b8), .val (.double (FP.ddiv (FP.dadd (FP.i2d v0) (FP.i2d v1)) 4611686018427387904)), .second, .unset, .unset] [(.int (1 : Int32)), (.int (2 : Int32))])) _
    refine XS.isub X11.here hx rfl (hb hby at_193) rfl ?_
    show Steps p.tables e below (T11.setTop (mkF m 194 #[.val (.int p0), .val (.int p1), .val (.int p2), .val (.int p3), .val (.int p4), .val (.int p5), .val (.int (2 : Int32)), .val (.int v0), .val (.int v1), .val (.int v2), .val (.int v3), .val (.int v4), .val (.int v5), .val (.ref b1), .val (.ref b8), .val (.double (FP.ddiv (FP.dadd (FP.i2d v0) (FP.i2d v1)) 4611686018427387904)), .second, .unset, .unset] [(.int ((2 : Int32) - (1 : Int32)))])) _
    rw [show ((2 : Int32) - (1 : Int32)) = (1 : Int32) from by decide]
    show Steps p.tables e below (T11.setTop (mkF m 194 #[.val (.int p0), .val (.int p1), .val (.int p2), .val (.int p3), .val (.int p4), .val (.int p5), .val (.int (2 : Int32)), .val (.int v0), .val (.int v1), .val (.int v2), .val (.int v3), .val (.int v4), .val (.int v5), .val (.ref b1), .val (.ref b8), .val (.double (FP.ddiv (FP.dadd (FP.i2d v0) (FP.i2d v1)) 4611686018427387904)), .second, .unset, .unset] [(.int (1 : Int32))])) _
    refine XS.iconst X11.here hx rfl (hb hby at_194) ?_
    show Steps p.tables e below (T11.setTop (mkF m 195 #[.val (.int p0), .val (.int p1), .val (.int p2), .val (.int p3), .val (.int p4), .val (.int p5), .val (.int (2 : Int32)), .val (.int v0), .val (.int v1), .val (.int v2), .val (.int v3), .val (.int v4), .val (.int v5), .val (.ref b1), .val (.ref b8), .val (.double (FP.ddiv (FP.dadd (FP.i2d v0) (FP.i2d v1)) 4611686018427387904)), .second, .unset, .unset] [(.int (2 : Int32)), (.int (1 : Int32))])) _
    refine XS.idiv X11.here hx rfl (hb hby at_195) rfl (by decide) ?_
    show Steps p.tables e below (T11.setTop (mkF m 196 #[.val (.int p0), .val (.int p1), .val (.int p2), .val (.int p3), .val (.int p4), .val (.int p5), .val (.int (2 : Int32)), .val (.int v0), .val (.int v1), .val (.int v2), .val (.int v3), .val (.int v4), .val (.int v5), .val (.ref b1), .val (.ref b8), .val (.double (FP.ddiv (FP.dadd (FP.i2d v0) (FP.i2d v1)) 4611686018427387904)), .second, .unset, .unset] [(.int ((1 : Int32) / (2 : Int32)))])) _
    rw [show ((1 : Int32) / (2 : Int32)) = (0 : Int32) from by decide]
    show Steps p.tables e below (T11.setTop (mkF m 196 #[.val (.int p0), .val (.int p1), .val (.int p2), .val (.int p3), .val (.int p4), .val (.int p5), .val (.int (2 : Int32)), .val (.int v0), .val (.int v1), .val (.int v2), .val (.int v3), .val (.int v4), .val (.int v5), .val (.ref b1), .val (.ref b8), .val (.double (FP.ddiv (FP.dadd (FP.i2d v0) (FP.i2d v1)) 4611686018427387904)), .second, .unset, .unset] [(.int (0 : Int32))])) _
    refine XS.istore X11.here hx rfl (hb hby at_196) rfl (l' := #[.val (.int p0), .val (.int p1), .val (.int p2), .val (.int p3), .val (.int p4), .val (.int p5), .val (.int (2 : Int32)), .val (.int v0), .val (.int v1), .val (.int v2), .val (.int v3), .val (.int v4), .val (.int v5), .val (.ref b1), .val (.ref b8), .val (.double (FP.ddiv (FP.dadd (FP.i2d v0) (FP.i2d v1)) 4611686018427387904)), .second, .val (.int (0 : Int32)), .unset]) rfl ?_
    show Steps p.tables e below (T11.setTop (mkF m 198 #[.val (.int p0), .val (.int p1), .val (.int p2), .val (.int p3), .val (.int p4), .val (.int p5), .val (.int (2 : Int32)), .val (.int v0), .val (.int v1), .val (.int v2), .val (.int v3), .val (.int v4), .val (.int v5), .val (.ref b1), .val (.ref b8), .val (.double (FP.ddiv (FP.dadd (FP.i2d v0) (FP.i2d v1)) 4611686018427387904)), .second, .val (.int (0 : Int32)), .unset] [])) _
    refine XS.iload X11.here hx rfl (hb hby at_198) rfl ?_
    show Steps p.tables e below (T11.setTop (mkF m 200 #[.val (.int p0), .val (.int p1), .val (.int p2), .val (.int p3), .val (.int p4), .val (.int p5), .val (.int (2 : Int32)), .val (.int v0), .val (.int v1), .val (.int v2), .val (.int v3), .val (.int v4), .val (.int v5), .val (.ref b1), .val (.ref b8), .val (.double (FP.ddiv (FP.dadd (FP.i2d v0) (FP.i2d v1)) 4611686018427387904)), .second, .val (.int (0 : Int32)), .unset] [(.int (2 : Int32))])) _
    refine XS.iconst X11.here hx rfl (hb hby at_200) ?_
    show Steps p.tables e below (T11.setTop (mkF m 201 #[.val (.int p0), .val (.int p1), .val (.int p2), .val (.int p3), .val (.int p4), .val (.int p5), .val (.int (2 : Int32)), .val (.int v0), .val (.int v1), .val (.int v2), .val (.int v3), .val (.int v4), .val (.int v5), .val (.ref b1), .val (.ref b8), .val (.double (FP.ddiv (FP.dadd (FP.i2d v0) (FP.i2d v1)) 4611686018427387904)), .second, .val (.int (0 : Int32)), .unset] [(.int (2 : Int32)), (.int (2 : Int32))])) _
    refine XS.idiv X11.here hx rfl (hb hby at_201) rfl (by decide) ?_
    show Steps p.tables e below (T11.setTop (mkF m 202 #[.val (.int p0), .val (.int p1), .val (.int p2), .val (.int p3), .val (.int p4), .val (.int p5), .val (.int (2 : Int32)), .val (.int v0), .val (.int v1), .val (.int v2), .val (.int v3), .val (.int v4), .val (.int v5), .val (.ref b1), .val (.ref b8), .val (.double (FP.ddiv (FP.dadd (FP.i2d v0) (FP.i2d v1)) 4611686018427387904)), .second, .val (.int (0 : Int32)), .unset] [(.int ((2 : Int32) / (2 : Int32)))])) _
    rw [show ((2 : Int32) / (2 : Int32)) = (1 : Int32) from by decide]
    show Steps p.tables e below (T11.setTop (mkF m 202 #[.val (.int p0), .val (.int p1), .val (.int p2), .val (.int p3), .val (.int p4), .val (.int p5), .val (.int (2 : Int32)), .val (.int v0), .val (.int v1), .val (.int v2), .val (.int v3), .val (.int v4), .val (.int v5), .val (.ref b1), .val (.ref b8), .val (.double (FP.ddiv (FP.dadd (FP.i2d v0) (FP.i2d v1)) 4611686018427387904)), .second, .val (.int (0 : Int32)), .unset] [(.int (1 : Int32))])) _
    refine XS.istore X11.here hx rfl (hb hby at_202) rfl (l' := #[.val (.int p0), .val (.int p1), .val (.int p2), .val (.int p3), .val (.int p4), .val (.int p5), .val (.int (2 : Int32)), .val (.int v0), .val (.int v1), .val (.int v2), .val (.int v3), .val (.int v4), .val (.int v5), .val (.ref b1), .val (.ref b8), .val (.double (FP.ddiv (FP.dadd (FP.i2d v0) (FP.i2d v1)) 4611686018427387904)), .second, .val (.int (0 : Int32)), .val (.int (1 : Int32))]) rfl ?_
    show Steps p.tables e below (T11.setTop (mkF m 204 #[.val (.int p0), .val (.int p1), .val (.int p2), .val (.int p3), .val (.int p4), .val (.int p5), .val (.int (2 : Int32)), .val (.int v0), .val (.int v1), .val (.int v2), .val (.int v3), .val (.int v4), .val (.int v5), .val (.ref b1), .val (.ref b8), .val (.double (FP.ddiv (FP.dadd (FP.i2d v0) (FP.i2d v1)) 4611686018427387904)), .second, .val (.int (0 : Int32)), .val (.int (1 : Int32))] [])) _
    refine XS.dload X11.here hx rfl (hb hby at_204) rfl ?_
    show Steps p.tables e below (T11.setTop (mkF m 206 #[.val (.int p0), .val (.int p1), .val (.int p2), .val (.int p3), .val (.int p4), .val (.int p5), .val (.int (2 : Int32)), .val (.int v0), .val (.int v1), .val (.int v2), .val (.int v3), .val (.int v4), .val (.int v5), .val (.ref b1), .val (.ref b8), .val (.double (FP.ddiv (FP.dadd (FP.i2d v0) (FP.i2d v1)) 4611686018427387904)), .second, .val (.int (0 : Int32)), .val (.int (1 : Int32))] [(.double (FP.ddiv (FP.dadd (FP.i2d v0) (FP.i2d v1)) 4611686018427387904))])) _
    refine X11.ldc2DoubleC hx hown (mvT hZ (hw _ (List.mem_of_getElem? (i := 9) rfl))) (g := (mkF m 206 #[.val (.int p0), .val (.int p1), .val (.int p2), .val (.int p3), .val (.int p4), .val (.int p5), .val (.int (2 : Int32)), .val (.int v0), .val (.int v1), .val (.int v2), .val (.int v3), .val (.int v4), .val (.int v5), .val (.ref b1), .val (.ref b8), .val (.double (FP.ddiv (FP.dadd (FP.i2d v0) (FP.i2d v1)) 4611686018427387904)), .second, .val (.int (0 : Int32)), .val (.int (1 : Int32))] [(.double (FP.ddiv (FP.dadd (FP.i2d v0) (FP.i2d v1)) 4611686018427387904))])) rfl (hb hby at_206) _ ?_
    show Steps p.tables e below (T11.setTop (mkF m 209 #[.val (.int p0), .val (.int p1), .val (.int p2), .val (.int p3), .val (.int p4), .val (.int p5), .val (.int (2 : Int32)), .val (.int v0), .val (.int v1), .val (.int v2), .val (.int v3), .val (.int v4), .val (.int v5), .val (.ref b1), .val (.ref b8), .val (.double (FP.ddiv (FP.dadd (FP.i2d v0) (FP.i2d v1)) 4611686018427387904)), .second, .val (.int (0 : Int32)), .val (.int (1 : Int32))] [(.double 4611686018427387904), (.double (FP.ddiv (FP.dadd (FP.i2d v0) (FP.i2d v1)) 4611686018427387904))])) _
    refine XS.dmulS X11.here hx rfl (hb hby at_209) rfl (own_n209e B0 B1) rfl ?_
    show Steps p.tables e below (T11.setTop (mkF m 210 #[.val (.int p0), .val (.int p1), .val (.int p2), .val (.int p3), .val (.int p4), .val (.int p5), .val (.int (2 : Int32)), .val (.int v0), .val (.int v1), .val (.int v2), .val (.int v3), .val (.int v4), .val (.int v5), .val (.ref b1), .val (.ref b8), .val (.double (FP.ddiv (FP.dadd (FP.i2d v0) (FP.i2d v1)) 4611686018427387904)), .second, .val (.int (0 : Int32)), .val (.int (1 : Int32))] [(.double (FP.dmul (FP.ddiv (FP.dadd (FP.i2d v0) (FP.i2d v1)) 4611686018427387904) 4611686018427387904))])) _
    refine XS.aload X11.here hx rfl (hb hby at_210) rfl rfl ?_
    show Steps p.tables e below (T11.setTop (mkF m 212 #[.val (.int p0), .val (.int p1), .val (.int p2), .val (.int p3), .val (.int p4), .val (.int p5), .val (.int (2 : Int32)), .val (.int v0), .val (.int v1), .val (.int v2), .val (.int v3), .val (.int v4), .val (.int v5), .val (.ref b1), .val (.ref b8), .val (.double (FP.ddiv (FP.dadd (FP.i2d v0) (FP.i2d v1)) 4611686018427387904)), .second, .val (.int (0 : Int32)), .val (.int (1 : Int32))] [(.ref b1), (.double (FP.dmul (FP.ddiv (FP.dadd (FP.i2d v0) (FP.i2d v1)) 4611686018427387904) 4611686018427387904))])) _
    refine XS.iload X11.here hx rfl (hb hby at_212) rfl ?_
    show Steps p.tables e below (T11.setTop (mkF m 214 #[.val (.int p0), .val (.int p1), .val (.int p2), .val (.int p3), .val (.int p4), .val (.int p5), .val (.int (2 : Int32)), .val (.int v0), .val (.int v1), .val (.int v2), .val (.int v3), .val (.int v4), .val (.int v5), .val (.ref b1), .val (.ref b8), .val (.double (FP.ddiv (FP.dadd (FP.i2d v0) (FP.i2d v1)) 4611686018427387904)), .second, .val (.int (0 : Int32)), .val (.int (1 : Int32))] [(.int (0 : Int32)), (.ref b1), (.double (FP.dmul (FP.ddiv (FP.dadd (FP.i2d v0) (FP.i2d v1)) 4611686018427387904) 4611686018427387904))])) _
    refine X11.iaload hx (j := (0 : Int32)) (v := (.int v0)) (by rw [e11]; exact Ar13.1) (State.isArrayOf_alike hZ.alike Ar13.2.1) Ar13.2.2 hin13 hat13 (g := (mkF m 214 #[.val (.int p0), .val (.int p1), .val (.int p2), .val (.int p3), .val (.int p4), .val (.int p5), .val (.int (2 : Int32)), .val (.int v0), .val (.int v1), .val (.int v2), .val (.int v3), .val (.int v4), .val (.int v5), .val (.ref b1), .val (.ref b8), .val (.double (FP.ddiv (FP.dadd (FP.i2d v0) (FP.i2d v1)) 4611686018427387904)), .second, .val (.int (0 : Int32)), .val (.int (1 : Int32))] [(.int (0 : Int32)), (.ref b1), (.double (FP.dmul (FP.ddiv (FP.dadd (FP.i2d v0) (FP.i2d v1)) 4611686018427387904) 4611686018427387904))])) rfl rfl (hb hby at_214) _ ?_
    show Steps p.tables e below (T11.setTop (mkF m 215 #[.val (.int p0), .val (.int p1), .val (.int p2), .val (.int p3), .val (.int p4), .val (.int p5), .val (.int (2 : Int32)), .val (.int v0), .val (.int v1), .val (.int v2), .val (.int v3), .val (.int v4), .val (.int v5), .val (.ref b1), .val (.ref b8), .val (.double (FP.ddiv (FP.dadd (FP.i2d v0) (FP.i2d v1)) 4611686018427387904)), .second, .val (.int (0 : Int32)), .val (.int (1 : Int32))] [(.int v0), (.double (FP.dmul (FP.ddiv (FP.dadd (FP.i2d v0) (FP.i2d v1)) 4611686018427387904) 4611686018427387904))])) _
    refine XS.aload X11.here hx rfl (hb hby at_215) rfl rfl ?_
    show Steps p.tables e below (T11.setTop (mkF m 217 #[.val (.int p0), .val (.int p1), .val (.int p2), .val (.int p3), .val (.int p4), .val (.int p5), .val (.int (2 : Int32)), .val (.int v0), .val (.int v1), .val (.int v2), .val (.int v3), .val (.int v4), .val (.int v5), .val (.ref b1), .val (.ref b8), .val (.double (FP.ddiv (FP.dadd (FP.i2d v0) (FP.i2d v1)) 4611686018427387904)), .second, .val (.int (0 : Int32)), .val (.int (1 : Int32))] [(.ref b1), (.int v0), (.double (FP.dmul (FP.ddiv (FP.dadd (FP.i2d v0) (FP.i2d v1)) 4611686018427387904) 4611686018427387904))])) _
    refine XS.iload X11.here hx rfl (hb hby at_217) rfl ?_
    show Steps p.tables e below (T11.setTop (mkF m 219 #[.val (.int p0), .val (.int p1), .val (.int p2), .val (.int p3), .val (.int p4), .val (.int p5), .val (.int (2 : Int32)), .val (.int v0), .val (.int v1), .val (.int v2), .val (.int v3), .val (.int v4), .val (.int v5), .val (.ref b1), .val (.ref b8), .val (.double (FP.ddiv (FP.dadd (FP.i2d v0) (FP.i2d v1)) 4611686018427387904)), .second, .val (.int (0 : Int32)), .val (.int (1 : Int32))] [(.int (1 : Int32)), (.ref b1), (.int v0), (.double (FP.dmul (FP.ddiv (FP.dadd (FP.i2d v0) (FP.i2d v1)) 4611686018427387904) 4611686018427387904))])) _
    refine X11.iaload hx (j := (1 : Int32)) (v := (.int v1)) (by rw [e11]; exact Ar14.1) (State.isArrayOf_alike hZ.alike Ar14.2.1) Ar14.2.2 hin14 hat14 (g := (mkF m 219 #[.val (.int p0), .val (.int p1), .val (.int p2), .val (.int p3), .val (.int p4), .val (.int p5), .val (.int (2 : Int32)), .val (.int v0), .val (.int v1), .val (.int v2), .val (.int v3), .val (.int v4), .val (.int v5), .val (.ref b1), .val (.ref b8), .val (.double (FP.ddiv (FP.dadd (FP.i2d v0) (FP.i2d v1)) 4611686018427387904)), .second, .val (.int (0 : Int32)), .val (.int (1 : Int32))] [(.int (1 : Int32)), (.ref b1), (.int v0), (.double (FP.dmul (FP.ddiv (FP.dadd (FP.i2d v0) (FP.i2d v1)) 4611686018427387904) 4611686018427387904))])) rfl rfl (hb hby at_219) _ ?_
    show Steps p.tables e below (T11.setTop (mkF m 220 #[.val (.int p0), .val (.int p1), .val (.int p2), .val (.int p3), .val (.int p4), .val (.int p5), .val (.int (2 : Int32)), .val (.int v0), .val (.int v1), .val (.int v2), .val (.int v3), .val (.int v4), .val (.int v5), .val (.ref b1), .val (.ref b8), .val (.double (FP.ddiv (FP.dadd (FP.i2d v0) (FP.i2d v1)) 4611686018427387904)), .second, .val (.int (0 : Int32)), .val (.int (1 : Int32))] [(.int v1), (.int v0), (.double (FP.dmul (FP.ddiv (FP.dadd (FP.i2d v0) (FP.i2d v1)) 4611686018427387904) 4611686018427387904))])) _
    refine XS.iadd X11.here hx rfl (hb hby at_220) rfl ?_
    show Steps p.tables e below (T11.setTop (mkF m 221 #[.val (.int p0), .val (.int p1), .val (.int p2), .val (.int p3), .val (.int p4), .val (.int p5), .val (.int (2 : Int32)), .val (.int v0), .val (.int v1), .val (.int v2), .val (.int v3), .val (.int v4), .val (.int v5), .val (.ref b1), .val (.ref b8), .val (.double (FP.ddiv (FP.dadd (FP.i2d v0) (FP.i2d v1)) 4611686018427387904)), .second, .val (.int (0 : Int32)), .val (.int (1 : Int32))] [(.int (v0 + v1)), (.double (FP.dmul (FP.ddiv (FP.dadd (FP.i2d v0) (FP.i2d v1)) 4611686018427387904) 4611686018427387904))])) _
    refine XS.i2dS X11.here hx rfl (hb hby at_221) rfl rfl ?_
    show Steps p.tables e below (T11.setTop (mkF m 222 #[.val (.int p0), .val (.int p1), .val (.int p2), .val (.int p3), .val (.int p4), .val (.int p5), .val (.int (2 : Int32)), .val (.int v0), .val (.int v1), .val (.int v2), .val (.int v3), .val (.int v4), .val (.int v5), .val (.ref b1), .val (.ref b8), .val (.double (FP.ddiv (FP.dadd (FP.i2d v0) (FP.i2d v1)) 4611686018427387904)), .second, .val (.int (0 : Int32)), .val (.int (1 : Int32))] [(.double (FP.i2d (v0 + v1))), (.double (FP.dmul (FP.ddiv (FP.dadd (FP.i2d v0) (FP.i2d v1)) 4611686018427387904) 4611686018427387904))])) _
    refine XS.dcmpS X11.here hx rfl (hb hby at_222) rfl (v := (0 : Int32)) (own_even B0 B1) ?_
    show Steps p.tables e below (T11.setTop (mkF m 223 #[.val (.int p0), .val (.int p1), .val (.int p2), .val (.int p3), .val (.int p4), .val (.int p5), .val (.int (2 : Int32)), .val (.int v0), .val (.int v1), .val (.int v2), .val (.int v3), .val (.int v4), .val (.int v5), .val (.ref b1), .val (.ref b8), .val (.double (FP.ddiv (FP.dadd (FP.i2d v0) (FP.i2d v1)) 4611686018427387904)), .second, .val (.int (0 : Int32)), .val (.int (1 : Int32))] [(.int (0 : Int32))])) _
    refine XS.ifNo X11.here hx rfl (hb hby at_223) rfl ((if0 _ _).trans (teq (rfl : (0 : Int32) = (0 : Int32))).2) ?_
    show Steps p.tables e below (T11.setTop (mkF m 226 #[.val (.int p0), .val (.int p1), .val (.int p2), .val (.int p3), .val (.int p4), .val (.int p5), .val (.int (2 : Int32)), .val (.int v0), .val (.int v1), .val (.int v2), .val (.int v3), .val (.int v4), .val (.int v5), .val (.ref b1), .val (.ref b8), .val (.double (FP.ddiv (FP.dadd (FP.i2d v0) (FP.i2d v1)) 4611686018427387904)), .second, .val (.int (0 : Int32)), .val (.int (1 : Int32))] [])) _
    refine XS.iconst X11.here hx rfl (hb hby at_226) ?_
    show Steps p.tables e below (T11.setTop (mkF m 227 #[.val (.int p0), .val (.int p1), .val (.int p2), .val (.int p3), .val (.int p4), .val (.int p5), .val (.int (2 : Int32)), .val (.int v0), .val (.int v1), .val (.int v2), .val (.int v3), .val (.int v4), .val (.int v5), .val (.ref b1), .val (.ref b8), .val (.double (FP.ddiv (FP.dadd (FP.i2d v0) (FP.i2d v1)) 4611686018427387904)), .second, .val (.int (0 : Int32)), .val (.int (1 : Int32))] [(.int (1 : Int32))])) _
    refine XS.goto X11.here hx rfl (pc0 := 227) (pc' := 231) rfl (hb hby at_227) (by decide) (by decide) ?_
    show Steps p.tables e below (T11.setTop (mkF m 231 #[.val (.int p0), .val (.int p1), .val (.int p2), .val (.int p3), .val (.int p4), .val (.int p5), .val (.int (2 : Int32)), .val (.int v0), .val (.int v1), .val (.int v2), .val (.int v3), .val (.int v4), .val (.int v5), .val (.ref b1), .val (.ref b8), .val (.double (FP.ddiv (FP.dadd (FP.i2d v0) (FP.i2d v1)) 4611686018427387904)), .second, .val (.int (0 : Int32)), .val (.int (1 : Int32))] [(.int (1 : Int32))])) _
    exact retN X11 hx (t := .boolean) Bd.returns (by simp) (hb hby at_231) hr
  · show Q_rm0_2 Z p0 p1 p2 p3 p4 p5 v0 v1 v2 v3 v4 v5 h0 n0 _ T11.heap _
    rw [e11]
    exact ⟨rfl, N11⟩
def Q_rm0_3 (Z : State) (p0 : Int32) (p1 : Int32) (p2 : Int32) (p3 : Int32) (p4 : Int32) (p5 : Int32) (v0 : Int32) (v1 : Int32) (v2 : Int32) (v3 : Int32) (v4 : Int32) (v5 : Int32) (h0 : Heap) (n0 : Nat) (v : Option Value) (h : Heap) (L : List Loc) : Prop := v = some (.int (1 : Int32)) ∧ Fr n0 L
theorem ef_rm0_3 (m : MethodId) (p0 : Int32) (p1 : Int32) (p2 : Int32) (p3 : Int32) (p4 : Int32) (p5 : Int32) : entryFrame m #[(.int p0), (.int p1), (.int p2), (.int p3), (.int p4), (.int p5)] maxLocals = mkF m 0 #[.val (.int p0), .val (.int p1), .val (.int p2), .val (.int p3), .val (.int p4), .val (.int p5), .unset, .unset, .unset, .unset, .unset, .unset, .unset, .unset, .unset, .unset, .unset, .unset, .unset] [] := by first | (simp [entryFrame, mkF, argsToLocals, Value.category, maxLocals]; done) | rfl
set_option maxRecDepth 65536 in
set_option maxHeartbeats 40000000 in
theorem rm0_3 (l : Launch) (Z : State) (a0 : Array Value) (hw : ∀ d ∈ tables_1, d.before a0 Z = true) (ws : List Jvm.Cond) (p0 : Int32) (p1 : Int32) (p2 : Int32) (p3 : Int32) (p4 : Int32) (p5 : Int32) (v0 : Int32) (v1 : Int32) (v2 : Int32) (v3 : Int32) (v4 : Int32) (v5 : Int32) (h0 : Heap) (n0 : Nat) (Z0 : n0 ≤ h0.size) (hn : (((p0 &&& (7 : Int32)) % (6 : Int32)) + (1 : Int32)) = (3 : Int32)) (hv0 : (((p0 >>> ((3 : Int32) &&& 31)) &&& (1048575 : Int32)) - (524288 : Int32)) = v0) (hv1 : (v0 + (p1 &&& (65535 : Int32))) = v1) (hv2 : (v1 + (p2 &&& (65535 : Int32))) = v2) (hv3 : (v2 + (p3 &&& (65535 : Int32))) = v3) (hv4 : (v3 + (p4 &&& (65535 : Int32))) = v4) (hv5 : (v4 + (p5 &&& (65535 : Int32))) = v5) :
    MetFree l x (head1 (Jvm.Cond.code x code maxLocals ret :: ws) room_1) (fun a U => a = #[(.int p0), (.int p1), (.int p2), (.int p3), (.int p4), (.int p5)] ∧ Z.Warmed39 U.vm ∧ U.heap = h0) (fun _ _ _ _ _ => True) (fun _ U o U' => ∃ v L, o = .returned v ∧ Q_rm0_3 Z p0 p1 p2 p3 p4 p5 v0 v1 v2 v3 v4 v5 h0 n0 v U'.heap L ∧ FrameEnd U o U' L room_1.cells room_1.slots) := by
  refine MetFree.of_bodySF (plainFor_of_name pn_1) hisR ?_
  intro p e s m args below meth c s₁ Bd hml0 hP hK
  obtain ⟨rfl, hZ, hh⟩ := hP
  have hx := Bd.exec
  have hby := Bd.bytes
  have hml : c.maxLocals = 19 := hml0
  have hown : s.vm.findClass "parkline/scenario/BenchMedianPinLaw" = some m.cls := findClass_of_methodNamed Bd.named
  have hnm := (name_of_methodNamed Bd.named Bd.method).1
  have X0 : Stand p l e room_1 s m #[(.int p0), (.int p1), (.int p2), (.int p3), (.int p4), (.int p5)] below meth c s₁ [] 0 0 := Stand.of_body Bd
  have e0 : s₁.heap = h0 := by rw [← hh, Bd.state]; rfl
  have N0 := Fr.nil n0
  have pre0 : ∀ t, Steps p.tables e below (s₁.setTop (mkF m 0 #[.val (.int p0), .val (.int p1), .val (.int p2), .val (.int p3), .val (.int p4), .val (.int p5), .unset, .unset, .unset, .unset, .unset, .unset, .unset, .unset, .unset, .unset, .unset, .unset, .unset] [])) t → Steps p.tables e below (s₁.setTop (entryFrame m #[(.int p0), (.int p1), (.int p2), (.int p3), (.int p4), (.int p5)] maxLocals)) t := fun t k => castTop (ef_rm0_3 m p0 p1 p2 p3 p4 p5) k
  obtain ⟨B0, B1, B2, B3, B4, B5⟩ := own_b p0 p1 p2 p3 p4 p5 v0 v1 v2 v3 v4 v5 hv0 hv1 hv2 hv3 hv4 hv5
  obtain ⟨T1, h1, k1, X1, e1, E1, A1, st1⟩ := newP X0 hx hZ (hw _ (List.mem_of_getElem? (i := 3) rfl)) e0 (g := (mkF m 71 #[.val (.int p0), .val (.int p1), .val (.int p2), .val (.int p3), .val (.int p4), .val (.int p5), .val (.int (3 : Int32)), .val (.int v0), .val (.int v1), .val (.int v2), .val (.int v3), .val (.int v4), .val (.int v5), .unset, .unset, .unset, .unset, .unset, .unset] [(.int (6 : Int32))])) rfl (hb hby at_71) rfl (by decide) (cap := 6) (by decide) (by decide) (by decide) (by decide)
  obtain ⟨b1, g1⟩ : ∃ z, z = h0.size := ⟨_, rfl⟩
  rw [← g1] at A1 st1
  have V1 : Arv Z h1 b1 k1 .int (6 : Int32) [(.int (0 : Int32)), (.int (0 : Int32)), (.int (0 : Int32)), (.int (0 : Int32)), (.int (0 : Int32)), (.int (0 : Int32))] (.int (0 : Int32)) := (Arv.new A1 (by decide)).pad (pad_rep [] (.int (0 : Int32)) 6)
  have Vc2 := V1
  obtain ⟨cl2, Ar2, q2, S2, M2, H2, G2⟩ := Vc2
  have hin2 : ¬ ((0 : Int32) < 0 ∨ cl2.slots.size ≤ ((0 : Int32)).toNatClampNeg) := inb_of S2 ⟨by decide, by decide⟩
  obtain ⟨T2, h2, X2, e2, W2, st2⟩ := stI X1 hx hZ e1 Ar2 (j := (0 : Int32)) hin2 (g := (mkF m 77 #[.val (.int p0), .val (.int p1), .val (.int p2), .val (.int p3), .val (.int p4), .val (.int p5), .val (.int (3 : Int32)), .val (.int v0), .val (.int v1), .val (.int v2), .val (.int v3), .val (.int v4), .val (.int v5), .unset, .unset, .unset, .unset, .unset, .unset] [(.int v0), (.int (0 : Int32)), (.ref b1), (.ref b1)])) rfl rfl (hb hby at_77)
  have V2 : Arv Z h2 b1 k1 .int (6 : Int32) [(.int v0), (.int (0 : Int32)), (.int (0 : Int32)), (.int (0 : Int32)), (.int (0 : Int32)), (.int (0 : Int32))] (.int (0 : Int32)) := Arv.set Ar2 q2 S2 M2 H2 G2 rfl W2 0 rfl (Nat.le_of_ble_eq_true rfl)
  have N2 := Fr.snoc X2 N0 (Nat.le_trans Z0 (Nat.le_of_eq g1.symm))
  have Vc3 := V2
  obtain ⟨cl3, Ar3, q3, S3, M3, H3, G3⟩ := Vc3
  have hin3 : ¬ ((1 : Int32) < 0 ∨ cl3.slots.size ≤ ((1 : Int32)).toNatClampNeg) := inb_of S3 ⟨by decide, by decide⟩
  obtain ⟨T3, h3, X3, e3, W3, st3⟩ := stI X2 hx hZ e2 Ar3 (j := (1 : Int32)) hin3 (g := (mkF m 82 #[.val (.int p0), .val (.int p1), .val (.int p2), .val (.int p3), .val (.int p4), .val (.int p5), .val (.int (3 : Int32)), .val (.int v0), .val (.int v1), .val (.int v2), .val (.int v3), .val (.int v4), .val (.int v5), .unset, .unset, .unset, .unset, .unset, .unset] [(.int v1), (.int (1 : Int32)), (.ref b1), (.ref b1)])) rfl rfl (hb hby at_82)
  have V3 : Arv Z h3 b1 k1 .int (6 : Int32) [(.int v0), (.int v1), (.int (0 : Int32)), (.int (0 : Int32)), (.int (0 : Int32)), (.int (0 : Int32))] (.int (0 : Int32)) := Arv.set Ar3 q3 S3 M3 H3 G3 rfl W3 1 rfl (Nat.le_of_ble_eq_true rfl)
  have N3 := Fr.snoc X3 N2 (Nat.le_trans Z0 (Nat.le_of_eq g1.symm))
  have Vc4 := V3
  obtain ⟨cl4, Ar4, q4, S4, M4, H4, G4⟩ := Vc4
  have hin4 : ¬ ((2 : Int32) < 0 ∨ cl4.slots.size ≤ ((2 : Int32)).toNatClampNeg) := inb_of S4 ⟨by decide, by decide⟩
  obtain ⟨T4, h4, X4, e4, W4, st4⟩ := stI X3 hx hZ e3 Ar4 (j := (2 : Int32)) hin4 (g := (mkF m 87 #[.val (.int p0), .val (.int p1), .val (.int p2), .val (.int p3), .val (.int p4), .val (.int p5), .val (.int (3 : Int32)), .val (.int v0), .val (.int v1), .val (.int v2), .val (.int v3), .val (.int v4), .val (.int v5), .unset, .unset, .unset, .unset, .unset, .unset] [(.int v2), (.int (2 : Int32)), (.ref b1), (.ref b1)])) rfl rfl (hb hby at_87)
  have V4 : Arv Z h4 b1 k1 .int (6 : Int32) [(.int v0), (.int v1), (.int v2), (.int (0 : Int32)), (.int (0 : Int32)), (.int (0 : Int32))] (.int (0 : Int32)) := Arv.set Ar4 q4 S4 M4 H4 G4 rfl W4 2 rfl (Nat.le_of_ble_eq_true rfl)
  have N4 := Fr.snoc X4 N3 (Nat.le_trans Z0 (Nat.le_of_eq g1.symm))
  have Vc5 := V4
  obtain ⟨cl5, Ar5, q5, S5, M5, H5, G5⟩ := Vc5
  have hin5 : ¬ ((3 : Int32) < 0 ∨ cl5.slots.size ≤ ((3 : Int32)).toNatClampNeg) := inb_of S5 ⟨by decide, by decide⟩
  obtain ⟨T5, h5, X5, e5, W5, st5⟩ := stI X4 hx hZ e4 Ar5 (j := (3 : Int32)) hin5 (g := (mkF m 92 #[.val (.int p0), .val (.int p1), .val (.int p2), .val (.int p3), .val (.int p4), .val (.int p5), .val (.int (3 : Int32)), .val (.int v0), .val (.int v1), .val (.int v2), .val (.int v3), .val (.int v4), .val (.int v5), .unset, .unset, .unset, .unset, .unset, .unset] [(.int v3), (.int (3 : Int32)), (.ref b1), (.ref b1)])) rfl rfl (hb hby at_92)
  have V5 : Arv Z h5 b1 k1 .int (6 : Int32) [(.int v0), (.int v1), (.int v2), (.int v3), (.int (0 : Int32)), (.int (0 : Int32))] (.int (0 : Int32)) := Arv.set Ar5 q5 S5 M5 H5 G5 rfl W5 3 rfl (Nat.le_of_ble_eq_true rfl)
  have N5 := Fr.snoc X5 N4 (Nat.le_trans Z0 (Nat.le_of_eq g1.symm))
  have Vc6 := V5
  obtain ⟨cl6, Ar6, q6, S6, M6, H6, G6⟩ := Vc6
  have hin6 : ¬ ((4 : Int32) < 0 ∨ cl6.slots.size ≤ ((4 : Int32)).toNatClampNeg) := inb_of S6 ⟨by decide, by decide⟩
  obtain ⟨T6, h6, X6, e6, W6, st6⟩ := stI X5 hx hZ e5 Ar6 (j := (4 : Int32)) hin6 (g := (mkF m 97 #[.val (.int p0), .val (.int p1), .val (.int p2), .val (.int p3), .val (.int p4), .val (.int p5), .val (.int (3 : Int32)), .val (.int v0), .val (.int v1), .val (.int v2), .val (.int v3), .val (.int v4), .val (.int v5), .unset, .unset, .unset, .unset, .unset, .unset] [(.int v4), (.int (4 : Int32)), (.ref b1), (.ref b1)])) rfl rfl (hb hby at_97)
  have V6 : Arv Z h6 b1 k1 .int (6 : Int32) [(.int v0), (.int v1), (.int v2), (.int v3), (.int v4), (.int (0 : Int32))] (.int (0 : Int32)) := Arv.set Ar6 q6 S6 M6 H6 G6 rfl W6 4 rfl (Nat.le_of_ble_eq_true rfl)
  have N6 := Fr.snoc X6 N5 (Nat.le_trans Z0 (Nat.le_of_eq g1.symm))
  have Vc7 := V6
  obtain ⟨cl7, Ar7, q7, S7, M7, H7, G7⟩ := Vc7
  have hin7 : ¬ ((5 : Int32) < 0 ∨ cl7.slots.size ≤ ((5 : Int32)).toNatClampNeg) := inb_of S7 ⟨by decide, by decide⟩
  obtain ⟨T7, h7, X7, e7, W7, st7⟩ := stI X6 hx hZ e6 Ar7 (j := (5 : Int32)) hin7 (g := (mkF m 102 #[.val (.int p0), .val (.int p1), .val (.int p2), .val (.int p3), .val (.int p4), .val (.int p5), .val (.int (3 : Int32)), .val (.int v0), .val (.int v1), .val (.int v2), .val (.int v3), .val (.int v4), .val (.int v5), .unset, .unset, .unset, .unset, .unset, .unset] [(.int v5), (.int (5 : Int32)), (.ref b1), (.ref b1)])) rfl rfl (hb hby at_102)
  have V7 : Arv Z h7 b1 k1 .int (6 : Int32) [(.int v0), (.int v1), (.int v2), (.int v3), (.int v4), (.int v5)] (.int (0 : Int32)) := Arv.set Ar7 q7 S7 M7 H7 G7 rfl W7 5 rfl (Nat.le_of_ble_eq_true rfl)
  have N7 := Fr.snoc X7 N6 (Nat.le_trans Z0 (Nat.le_of_eq g1.symm))
  obtain ⟨T8, h8, k8, X8, e8, E8, A8, st8⟩ := newP X7 hx hZ (hw _ (List.mem_of_getElem? (i := 4) rfl)) e7 (g := (mkF m 107 #[.val (.int p0), .val (.int p1), .val (.int p2), .val (.int p3), .val (.int p4), .val (.int p5), .val (.int (3 : Int32)), .val (.int v0), .val (.int v1), .val (.int v2), .val (.int v3), .val (.int v4), .val (.int v5), .val (.ref b1), .unset, .unset, .unset, .unset, .unset] [(.int (3 : Int32))])) rfl (hb hby at_107) rfl (by decide) (cap := 3) (by decide) (by decide) (by decide) (by decide)
  obtain ⟨b8, g8⟩ : ∃ z, z = h7.size := ⟨_, rfl⟩
  rw [← g8] at A8 st8
  have V8 : Arv Z h8 b8 k8 .double (3 : Int32) [(.double 0), (.double 0), (.double 0)] (.double 0) := (Arv.new A8 (by decide)).pad (pad_rep [] (.double 0) 3)
  have Vc9 := V8
  obtain ⟨cl9, Ar9, q9, S9, M9, H9, G9⟩ := Vc9
  have hin9 : ¬ ((0 : Int32) < 0 ∨ cl9.slots.size ≤ ((0 : Int32)).toNatClampNeg) := inb_of S9 ⟨by decide, by decide⟩
  obtain ⟨T9, h9, X9, e9, W9, st9⟩ := stD X8 hx hZ e8 Ar9 (j := (0 : Int32)) hin9 (g := (mkF m 117 #[.val (.int p0), .val (.int p1), .val (.int p2), .val (.int p3), .val (.int p4), .val (.int p5), .val (.int (3 : Int32)), .val (.int v0), .val (.int v1), .val (.int v2), .val (.int v3), .val (.int v4), .val (.int v5), .val (.ref b1), .val (.ref b8), .unset, .unset, .unset, .unset] [(.double (FP.i2d v0)), (.int (0 : Int32)), (.ref b8)])) rfl rfl (hb hby at_117)
  have V9 : Arv Z h9 b8 k8 .double (3 : Int32) [(.double (FP.i2d v0)), (.double 0), (.double 0)] (.double 0) := Arv.set Ar9 q9 S9 M9 H9 G9 rfl W9 0 rfl (Nat.le_of_ble_eq_true rfl)
  have N9 := Fr.snoc X9 N7 (Nat.le_trans (Nat.le_trans (Nat.le_trans (Nat.le_trans (Nat.le_trans (Nat.le_trans (Nat.le_trans (Nat.le_trans Z0 E1.1) (Keep.of_wr W2).1) (Keep.of_wr W3).1) (Keep.of_wr W4).1) (Keep.of_wr W5).1) (Keep.of_wr W6).1) (Keep.of_wr W7).1) (Nat.le_of_eq g8.symm))
  have Vc10 := V9
  obtain ⟨cl10, Ar10, q10, S10, M10, H10, G10⟩ := Vc10
  have hin10 : ¬ ((1 : Int32) < 0 ∨ cl10.slots.size ≤ ((1 : Int32)).toNatClampNeg) := inb_of S10 ⟨by decide, by decide⟩
  obtain ⟨T10, h10, X10, e10, W10, st10⟩ := stD X9 hx hZ e9 Ar10 (j := (1 : Int32)) hin10 (g := (mkF m 130 #[.val (.int p0), .val (.int p1), .val (.int p2), .val (.int p3), .val (.int p4), .val (.int p5), .val (.int (3 : Int32)), .val (.int v0), .val (.int v1), .val (.int v2), .val (.int v3), .val (.int v4), .val (.int v5), .val (.ref b1), .val (.ref b8), .unset, .unset, .unset, .unset] [(.double (FP.i2d v1)), (.int (1 : Int32)), (.ref b8)])) rfl rfl (hb hby at_130)
  have V10 : Arv Z h10 b8 k8 .double (3 : Int32) [(.double (FP.i2d v0)), (.double (FP.i2d v1)), (.double 0)] (.double 0) := Arv.set Ar10 q10 S10 M10 H10 G10 rfl W10 1 rfl (Nat.le_of_ble_eq_true rfl)
  have N10 := Fr.snoc X10 N9 (Nat.le_trans (Nat.le_trans (Nat.le_trans (Nat.le_trans (Nat.le_trans (Nat.le_trans (Nat.le_trans (Nat.le_trans Z0 E1.1) (Keep.of_wr W2).1) (Keep.of_wr W3).1) (Keep.of_wr W4).1) (Keep.of_wr W5).1) (Keep.of_wr W6).1) (Keep.of_wr W7).1) (Nat.le_of_eq g8.symm))
  have Vc11 := V10
  obtain ⟨cl11, Ar11, q11, S11, M11, H11, G11⟩ := Vc11
  have hin11 : ¬ ((2 : Int32) < 0 ∨ cl11.slots.size ≤ ((2 : Int32)).toNatClampNeg) := inb_of S11 ⟨by decide, by decide⟩
  obtain ⟨T11, h11, X11, e11, W11, st11⟩ := stD X10 hx hZ e10 Ar11 (j := (2 : Int32)) hin11 (g := (mkF m 143 #[.val (.int p0), .val (.int p1), .val (.int p2), .val (.int p3), .val (.int p4), .val (.int p5), .val (.int (3 : Int32)), .val (.int v0), .val (.int v1), .val (.int v2), .val (.int v3), .val (.int v4), .val (.int v5), .val (.ref b1), .val (.ref b8), .unset, .unset, .unset, .unset] [(.double (FP.i2d v2)), (.int (2 : Int32)), (.ref b8)])) rfl rfl (hb hby at_143)
  have V11 : Arv Z h11 b8 k8 .double (3 : Int32) [(.double (FP.i2d v0)), (.double (FP.i2d v1)), (.double (FP.i2d v2))] (.double 0) := Arv.set Ar11 q11 S11 M11 H11 G11 rfl W11 2 rfl (Nat.le_of_ble_eq_true rfl)
  have N11 := Fr.snoc X11 N10 (Nat.le_trans (Nat.le_trans (Nat.le_trans (Nat.le_trans (Nat.le_trans (Nat.le_trans (Nat.le_trans (Nat.le_trans Z0 E1.1) (Keep.of_wr W2).1) (Keep.of_wr W3).1) (Keep.of_wr W4).1) (Keep.of_wr W5).1) (Keep.of_wr W6).1) (Keep.of_wr W7).1) (Nat.le_of_eq g8.symm))
  obtain ⟨_, _, ⟨T12, L12, k12, n12⟩, -, X12, ⟨Lc12, hQ12, l12, y12, z12⟩, st12⟩ := Jvm.LawKit.callS X11 hx (y := (⟨"parkline/scenario/Bench", "median", "([D)D"⟩ : MethodName)) hown (mvT hZ (hw _ (List.mem_of_getElem? (i := 5) rfl))) (mvT hZ (hw _ (List.mem_of_getElem? (i := 6) rfl))) (mvT hZ (hw _ (List.mem_of_getElem? (i := 7) rfl))) (mvT hZ (hw _ (List.mem_of_getElem? (i := 8) rfl))) (by decide) (backOf (W := 0) (rmMed3 l Z a0 hw [] b8 k8 (FP.i2d v0) (FP.i2d v1) (FP.i2d v2) h11 n0 (Nat.le_trans (Nat.le_trans (Nat.le_trans (Nat.le_trans (Nat.le_trans (Nat.le_trans (Nat.le_trans (Nat.le_trans (Nat.le_trans (Nat.le_trans (Nat.le_trans Z0 E1.1) (Keep.of_wr W2).1) (Keep.of_wr W3).1) (Keep.of_wr W4).1) (Keep.of_wr W5).1) (Keep.of_wr W6).1) (Keep.of_wr W7).1) E8.1) (Keep.of_wr W9).1) (Keep.of_wr W10).1) (Keep.of_wr W11).1) V11) hZ (hw _ (List.mem_of_getElem? (i := 8) rfl)) (hw _ (List.mem_of_getElem? (i := 7) rfl)) (by decide) (by decide)) (g := (mkF m 185 #[.val (.int p0), .val (.int p1), .val (.int p2), .val (.int p3), .val (.int p4), .val (.int p5), .val (.int (3 : Int32)), .val (.int v0), .val (.int v1), .val (.int v2), .val (.int v3), .val (.int v4), .val (.int v5), .val (.ref b1), .val (.ref b8), .unset, .unset, .unset, .unset] [(.ref b8)])) rfl (by rw [hml]; rfl) (argsL := [(.ref b8)]) (rest := []) (lenOf pd_0 rfl) rfl (by show 2 * 0 + _ ≤ _; exact Nat.le_of_eq rfl) (hb hby at_185) (fun _ _ => ⟨rfl, e11, (by decide : 2 + 0 ≤ _), (by decide : 9 + 0 ≤ _)⟩)
  dsimp only [Pt.U, Pt.locs, Pt.cells, Pt.slots] at X12 l12 y12 z12 st12 hQ12
  subst l12 y12 z12
  obtain ⟨rfl, Nq12, e12⟩ := hQ12
  have N12 := Fr.app N11 Nq12
  have f13 : Arv Z h11 b1 k1 .int (6 : Int32) [(.int v0), (.int v1), (.int v2), (.int v3), (.int v4), (.int v5)] (.int (0 : Int32)) := ((((V7.ext E8).other W9 (Nat.ne_of_lt (Nat.lt_of_lt_of_le V7.lt (Nat.le_of_eq g8.symm)))).other W10 (Nat.ne_of_lt (Nat.lt_of_lt_of_le V7.lt (Nat.le_of_eq g8.symm)))).other W11 (Nat.ne_of_lt (Nat.lt_of_lt_of_le V7.lt (Nat.le_of_eq g8.symm))))
  have Vc14 := f13
  obtain ⟨cl14, Ar14, q14, S14, M14, H14, G14⟩ := Vc14
  have hin14 : ¬ ((1 : Int32) < 0 ∨ cl14.slots.size ≤ ((1 : Int32)).toNatClampNeg) := inb_of S14 ⟨by decide, by decide⟩
  have hat14 : cl14.slots[((1 : Int32)).toNatClampNeg]? = some (.int v1) := Has.at H14 hin14 rfl
  have Vc15 := f13
  obtain ⟨cl15, Ar15, q15, S15, M15, H15, G15⟩ := Vc15
  have hin15 : ¬ ((1 : Int32) < 0 ∨ cl15.slots.size ≤ ((1 : Int32)).toNatClampNeg) := inb_of S15 ⟨by decide, by decide⟩
  have hat15 : cl15.slots[((1 : Int32)).toNatClampNeg]? = some (.int v1) := Has.at H15 hin15 rfl
  obtain ⟨fs, hr, hrun, hended, hW, hsame⟩ := X12.leave (v := some (.int (1 : Int32))) (fun h => by rw [Bd.returns] at h; cases h)
  refine ⟨_, _, pre0 _ ?_, hrun, hended, _, _, rfl, ?_, ⟨_, rfl⟩, hW, hsame.mono (by decide) (by decide)⟩
  · show Steps p.tables e below (s₁.setTop (mkF m 0 #[.val (.int p0), .val (.int p1), .val (.int p2), .val (.int p3), .val (.int p4), .val (.int p5), .unset, .unset, .unset, .unset, .unset, .unset, .unset, .unset, .unset, .unset, .unset, .unset, .unset] [])) _
    refine XS.iloadN X0.here hx rfl (hb hby at_0) rfl ?_
    show Steps p.tables e below (s₁.setTop (mkF m 1 #[.val (.int p0), .val (.int p1), .val (.int p2), .val (.int p3), .val (.int p4), .val (.int p5), .unset, .unset, .unset, .unset, .unset, .unset, .unset, .unset, .unset, .unset, .unset, .unset, .unset] [(.int p0)])) _
    refine XS.bipush X0.here hx rfl (hb hby at_1) ?_
    show Steps p.tables e below (s₁.setTop (mkF m 3 #[.val (.int p0), .val (.int p1), .val (.int p2), .val (.int p3), .val (.int p4), .val (.int p5), .unset, .unset, .unset, .unset, .unset, .unset, .unset, .unset, .unset, .unset, .unset, .unset, .unset] [(.int (7 : Int32)), (.int p0)])) _
    refine XS.iand X0.here hx rfl (hb hby at_3) rfl ?_
    show Steps p.tables e below (s₁.setTop (mkF m 4 #[.val (.int p0), .val (.int p1), .val (.int p2), .val (.int p3), .val (.int p4), .val (.int p5), .unset, .unset, .unset, .unset, .unset, .unset, .unset, .unset, .unset, .unset, .unset, .unset, .unset] [(.int (p0 &&& (7 : Int32)))])) _
    refine XS.bipush X0.here hx rfl (hb hby at_4) ?_
    show Steps p.tables e below (s₁.setTop (mkF m 6 #[.val (.int p0), .val (.int p1), .val (.int p2), .val (.int p3), .val (.int p4), .val (.int p5), .unset, .unset, .unset, .unset, .unset, .unset, .unset, .unset, .unset, .unset, .unset, .unset, .unset] [(.int (6 : Int32)), (.int (p0 &&& (7 : Int32)))])) _
    refine iremM X0 hx (g := (mkF m 6 #[.val (.int p0), .val (.int p1), .val (.int p2), .val (.int p3), .val (.int p4), .val (.int p5), .unset, .unset, .unset, .unset, .unset, .unset, .unset, .unset, .unset, .unset, .unset, .unset, .unset] [(.int (6 : Int32)), (.int (p0 &&& (7 : Int32)))])) rfl (hb hby at_6) rfl (by decide) ?_
    show Steps p.tables e below (s₁.setTop (mkF m 7 #[.val (.int p0), .val (.int p1), .val (.int p2), .val (.int p3), .val (.int p4), .val (.int p5), .unset, .unset, .unset, .unset, .unset, .unset, .unset, .unset, .unset, .unset, .unset, .unset, .unset] [(.int ((p0 &&& (7 : Int32)) % (6 : Int32)))])) _
    refine XS.iconst X0.here hx rfl (hb hby at_7) ?_
    show Steps p.tables e below (s₁.setTop (mkF m 8 #[.val (.int p0), .val (.int p1), .val (.int p2), .val (.int p3), .val (.int p4), .val (.int p5), .unset, .unset, .unset, .unset, .unset, .unset, .unset, .unset, .unset, .unset, .unset, .unset, .unset] [(.int (1 : Int32)), (.int ((p0 &&& (7 : Int32)) % (6 : Int32)))])) _
    refine XS.iadd X0.here hx rfl (hb hby at_8) rfl ?_
    show Steps p.tables e below (s₁.setTop (mkF m 9 #[.val (.int p0), .val (.int p1), .val (.int p2), .val (.int p3), .val (.int p4), .val (.int p5), .unset, .unset, .unset, .unset, .unset, .unset, .unset, .unset, .unset, .unset, .unset, .unset, .unset] [(.int (((p0 &&& (7 : Int32)) % (6 : Int32)) + (1 : Int32)))])) _
    rw [hn]
    show Steps p.tables e below (s₁.setTop (mkF m 9 #[.val (.int p0), .val (.int p1), .val (.int p2), .val (.int p3), .val (.int p4), .val (.int p5), .unset, .unset, .unset, .unset, .unset, .unset, .unset, .unset, .unset, .unset, .unset, .unset, .unset] [(.int (3 : Int32))])) _
    refine XS.istore X0.here hx rfl (hb hby at_9) rfl (l' := #[.val (.int p0), .val (.int p1), .val (.int p2), .val (.int p3), .val (.int p4), .val (.int p5), .val (.int (3 : Int32)), .unset, .unset, .unset, .unset, .unset, .unset, .unset, .unset, .unset, .unset, .unset, .unset]) rfl ?_
    show Steps p.tables e below (s₁.setTop (mkF m 11 #[.val (.int p0), .val (.int p1), .val (.int p2), .val (.int p3), .val (.int p4), .val (.int p5), .val (.int (3 : Int32)), .unset, .unset, .unset, .unset, .unset, .unset, .unset, .unset, .unset, .unset, .unset, .unset] [])) _
    refine XS.iloadN X0.here hx rfl (hb hby at_11) rfl ?_
    show Steps p.tables e below (s₁.setTop (mkF m 12 #[.val (.int p0), .val (.int p1), .val (.int p2), .val (.int p3), .val (.int p4), .val (.int p5), .val (.int (3 : Int32)), .unset, .unset, .unset, .unset, .unset, .unset, .unset, .unset, .unset, .unset, .unset, .unset] [(.int p0)])) _
    refine XS.iconst X0.here hx rfl (hb hby at_12) ?_
    show Steps p.tables e below (s₁.setTop (mkF m 13 #[.val (.int p0), .val (.int p1), .val (.int p2), .val (.int p3), .val (.int p4), .val (.int p5), .val (.int (3 : Int32)), .unset, .unset, .unset, .unset, .unset, .unset, .unset, .unset, .unset, .unset, .unset, .unset] [(.int (3 : Int32)), (.int p0)])) _
    refine XS.ishr X0.here hx rfl (hb hby at_13) rfl ?_
    show Steps p.tables e below (s₁.setTop (mkF m 14 #[.val (.int p0), .val (.int p1), .val (.int p2), .val (.int p3), .val (.int p4), .val (.int p5), .val (.int (3 : Int32)), .unset, .unset, .unset, .unset, .unset, .unset, .unset, .unset, .unset, .unset, .unset, .unset] [(.int (p0 >>> ((3 : Int32) &&& 31)))])) _
    refine X0.ldcInt hx hown (mvT hZ (hw _ (List.mem_of_getElem? (i := 0) rfl))) (g := (mkF m 14 #[.val (.int p0), .val (.int p1), .val (.int p2), .val (.int p3), .val (.int p4), .val (.int p5), .val (.int (3 : Int32)), .unset, .unset, .unset, .unset, .unset, .unset, .unset, .unset, .unset, .unset, .unset, .unset] [(.int (p0 >>> ((3 : Int32) &&& 31)))])) rfl (hb hby at_14) _ ?_
    show Steps p.tables e below (s₁.setTop (mkF m 16 #[.val (.int p0), .val (.int p1), .val (.int p2), .val (.int p3), .val (.int p4), .val (.int p5), .val (.int (3 : Int32)), .unset, .unset, .unset, .unset, .unset, .unset, .unset, .unset, .unset, .unset, .unset, .unset] [(.int (1048575 : Int32)), (.int (p0 >>> ((3 : Int32) &&& 31)))])) _
    refine XS.iand X0.here hx rfl (hb hby at_16) rfl ?_
    show Steps p.tables e below (s₁.setTop (mkF m 17 #[.val (.int p0), .val (.int p1), .val (.int p2), .val (.int p3), .val (.int p4), .val (.int p5), .val (.int (3 : Int32)), .unset, .unset, .unset, .unset, .unset, .unset, .unset, .unset, .unset, .unset, .unset, .unset] [(.int ((p0 >>> ((3 : Int32) &&& 31)) &&& (1048575 : Int32)))])) _
    refine X0.ldcInt hx hown (mvT hZ (hw _ (List.mem_of_getElem? (i := 1) rfl))) (g := (mkF m 17 #[.val (.int p0), .val (.int p1), .val (.int p2), .val (.int p3), .val (.int p4), .val (.int p5), .val (.int (3 : Int32)), .unset, .unset, .unset, .unset, .unset, .unset, .unset, .unset, .unset, .unset, .unset, .unset] [(.int ((p0 >>> ((3 : Int32) &&& 31)) &&& (1048575 : Int32)))])) rfl (hb hby at_17) _ ?_
    show Steps p.tables e below (s₁.setTop (mkF m 19 #[.val (.int p0), .val (.int p1), .val (.int p2), .val (.int p3), .val (.int p4), .val (.int p5), .val (.int (3 : Int32)), .unset, .unset, .unset, .unset, .unset, .unset, .unset, .unset, .unset, .unset, .unset, .unset] [(.int (524288 : Int32)), (.int ((p0 >>> ((3 : Int32) &&& 31)) &&& (1048575 : Int32)))])) _
    refine XS.isub X0.here hx rfl (hb hby at_19) rfl ?_
    show Steps p.tables e below (s₁.setTop (mkF m 20 #[.val (.int p0), .val (.int p1), .val (.int p2), .val (.int p3), .val (.int p4), .val (.int p5), .val (.int (3 : Int32)), .unset, .unset, .unset, .unset, .unset, .unset, .unset, .unset, .unset, .unset, .unset, .unset] [(.int (((p0 >>> ((3 : Int32) &&& 31)) &&& (1048575 : Int32)) - (524288 : Int32)))])) _
    rw [hv0]
    show Steps p.tables e below (s₁.setTop (mkF m 20 #[.val (.int p0), .val (.int p1), .val (.int p2), .val (.int p3), .val (.int p4), .val (.int p5), .val (.int (3 : Int32)), .unset, .unset, .unset, .unset, .unset, .unset, .unset, .unset, .unset, .unset, .unset, .unset] [(.int v0)])) _
    refine XS.istore X0.here hx rfl (hb hby at_20) rfl (l' := #[.val (.int p0), .val (.int p1), .val (.int p2), .val (.int p3), .val (.int p4), .val (.int p5), .val (.int (3 : Int32)), .val (.int v0), .unset, .unset, .unset, .unset, .unset, .unset, .unset, .unset, .unset, .unset, .unset]) rfl ?_
    show Steps p.tables e below (s₁.setTop (mkF m 22 #[.val (.int p0), .val (.int p1), .val (.int p2), .val (.int p3), .val (.int p4), .val (.int p5), .val (.int (3 : Int32)), .val (.int v0), .unset, .unset, .unset, .unset, .unset, .unset, .unset, .unset, .unset, .unset, .unset] [])) _
    refine XS.iload X0.here hx rfl (hb hby at_22) rfl ?_
    show Steps p.tables e below (s₁.setTop (mkF m 24 #[.val (.int p0), .val (.int p1), .val (.int p2), .val (.int p3), .val (.int p4), .val (.int p5), .val (.int (3 : Int32)), .val (.int v0), .unset, .unset, .unset, .unset, .unset, .unset, .unset, .unset, .unset, .unset, .unset] [(.int v0)])) _
    refine XS.iloadN X0.here hx rfl (hb hby at_24) rfl ?_
    show Steps p.tables e below (s₁.setTop (mkF m 25 #[.val (.int p0), .val (.int p1), .val (.int p2), .val (.int p3), .val (.int p4), .val (.int p5), .val (.int (3 : Int32)), .val (.int v0), .unset, .unset, .unset, .unset, .unset, .unset, .unset, .unset, .unset, .unset, .unset] [(.int p1), (.int v0)])) _
    refine X0.ldcInt hx hown (mvT hZ (hw _ (List.mem_of_getElem? (i := 2) rfl))) (g := (mkF m 25 #[.val (.int p0), .val (.int p1), .val (.int p2), .val (.int p3), .val (.int p4), .val (.int p5), .val (.int (3 : Int32)), .val (.int v0), .unset, .unset, .unset, .unset, .unset, .unset, .unset, .unset, .unset, .unset, .unset] [(.int p1), (.int v0)])) rfl (hb hby at_25) _ ?_
    show Steps p.tables e below (s₁.setTop (mkF m 27 #[.val (.int p0), .val (.int p1), .val (.int p2), .val (.int p3), .val (.int p4), .val (.int p5), .val (.int (3 : Int32)), .val (.int v0), .unset, .unset, .unset, .unset, .unset, .unset, .unset, .unset, .unset, .unset, .unset] [(.int (65535 : Int32)), (.int p1), (.int v0)])) _
    refine XS.iand X0.here hx rfl (hb hby at_27) rfl ?_
    show Steps p.tables e below (s₁.setTop (mkF m 28 #[.val (.int p0), .val (.int p1), .val (.int p2), .val (.int p3), .val (.int p4), .val (.int p5), .val (.int (3 : Int32)), .val (.int v0), .unset, .unset, .unset, .unset, .unset, .unset, .unset, .unset, .unset, .unset, .unset] [(.int (p1 &&& (65535 : Int32))), (.int v0)])) _
    refine XS.iadd X0.here hx rfl (hb hby at_28) rfl ?_
    show Steps p.tables e below (s₁.setTop (mkF m 29 #[.val (.int p0), .val (.int p1), .val (.int p2), .val (.int p3), .val (.int p4), .val (.int p5), .val (.int (3 : Int32)), .val (.int v0), .unset, .unset, .unset, .unset, .unset, .unset, .unset, .unset, .unset, .unset, .unset] [(.int (v0 + (p1 &&& (65535 : Int32))))])) _
    rw [hv1]
    show Steps p.tables e below (s₁.setTop (mkF m 29 #[.val (.int p0), .val (.int p1), .val (.int p2), .val (.int p3), .val (.int p4), .val (.int p5), .val (.int (3 : Int32)), .val (.int v0), .unset, .unset, .unset, .unset, .unset, .unset, .unset, .unset, .unset, .unset, .unset] [(.int v1)])) _
    refine XS.istore X0.here hx rfl (hb hby at_29) rfl (l' := #[.val (.int p0), .val (.int p1), .val (.int p2), .val (.int p3), .val (.int p4), .val (.int p5), .val (.int (3 : Int32)), .val (.int v0), .val (.int v1), .unset, .unset, .unset, .unset, .unset, .unset, .unset, .unset, .unset, .unset]) rfl ?_
    show Steps p.tables e below (s₁.setTop (mkF m 31 #[.val (.int p0), .val (.int p1), .val (.int p2), .val (.int p3), .val (.int p4), .val (.int p5), .val (.int (3 : Int32)), .val (.int v0), .val (.int v1), .unset, .unset, .unset, .unset, .unset, .unset, .unset, .unset, .unset, .unset] [])) _
    refine XS.iload X0.here hx rfl (hb hby at_31) rfl ?_
    show Steps p.tables e below (s₁.setTop (mkF m 33 #[.val (.int p0), .val (.int p1), .val (.int p2), .val (.int p3), .val (.int p4), .val (.int p5), .val (.int (3 : Int32)), .val (.int v0), .val (.int v1), .unset, .unset, .unset, .unset, .unset, .unset, .unset, .unset, .unset, .unset] [(.int v1)])) _
    refine XS.iloadN X0.here hx rfl (hb hby at_33) rfl ?_
    show Steps p.tables e below (s₁.setTop (mkF m 34 #[.val (.int p0), .val (.int p1), .val (.int p2), .val (.int p3), .val (.int p4), .val (.int p5), .val (.int (3 : Int32)), .val (.int v0), .val (.int v1), .unset, .unset, .unset, .unset, .unset, .unset, .unset, .unset, .unset, .unset] [(.int p2), (.int v1)])) _
    refine X0.ldcInt hx hown (mvT hZ (hw _ (List.mem_of_getElem? (i := 2) rfl))) (g := (mkF m 34 #[.val (.int p0), .val (.int p1), .val (.int p2), .val (.int p3), .val (.int p4), .val (.int p5), .val (.int (3 : Int32)), .val (.int v0), .val (.int v1), .unset, .unset, .unset, .unset, .unset, .unset, .unset, .unset, .unset, .unset] [(.int p2), (.int v1)])) rfl (hb hby at_34) _ ?_
    show Steps p.tables e below (s₁.setTop (mkF m 36 #[.val (.int p0), .val (.int p1), .val (.int p2), .val (.int p3), .val (.int p4), .val (.int p5), .val (.int (3 : Int32)), .val (.int v0), .val (.int v1), .unset, .unset, .unset, .unset, .unset, .unset, .unset, .unset, .unset, .unset] [(.int (65535 : Int32)), (.int p2), (.int v1)])) _
    refine XS.iand X0.here hx rfl (hb hby at_36) rfl ?_
    show Steps p.tables e below (s₁.setTop (mkF m 37 #[.val (.int p0), .val (.int p1), .val (.int p2), .val (.int p3), .val (.int p4), .val (.int p5), .val (.int (3 : Int32)), .val (.int v0), .val (.int v1), .unset, .unset, .unset, .unset, .unset, .unset, .unset, .unset, .unset, .unset] [(.int (p2 &&& (65535 : Int32))), (.int v1)])) _
    refine XS.iadd X0.here hx rfl (hb hby at_37) rfl ?_
    show Steps p.tables e below (s₁.setTop (mkF m 38 #[.val (.int p0), .val (.int p1), .val (.int p2), .val (.int p3), .val (.int p4), .val (.int p5), .val (.int (3 : Int32)), .val (.int v0), .val (.int v1), .unset, .unset, .unset, .unset, .unset, .unset, .unset, .unset, .unset, .unset] [(.int (v1 + (p2 &&& (65535 : Int32))))])) _
    rw [hv2]
    show Steps p.tables e below (s₁.setTop (mkF m 38 #[.val (.int p0), .val (.int p1), .val (.int p2), .val (.int p3), .val (.int p4), .val (.int p5), .val (.int (3 : Int32)), .val (.int v0), .val (.int v1), .unset, .unset, .unset, .unset, .unset, .unset, .unset, .unset, .unset, .unset] [(.int v2)])) _
    refine XS.istore X0.here hx rfl (hb hby at_38) rfl (l' := #[.val (.int p0), .val (.int p1), .val (.int p2), .val (.int p3), .val (.int p4), .val (.int p5), .val (.int (3 : Int32)), .val (.int v0), .val (.int v1), .val (.int v2), .unset, .unset, .unset, .unset, .unset, .unset, .unset, .unset, .unset]) rfl ?_
    show Steps p.tables e below (s₁.setTop (mkF m 40 #[.val (.int p0), .val (.int p1), .val (.int p2), .val (.int p3), .val (.int p4), .val (.int p5), .val (.int (3 : Int32)), .val (.int v0), .val (.int v1), .val (.int v2), .unset, .unset, .unset, .unset, .unset, .unset, .unset, .unset, .unset] [])) _
    refine XS.iload X0.here hx rfl (hb hby at_40) rfl ?_
    show Steps p.tables e below (s₁.setTop (mkF m 42 #[.val (.int p0), .val (.int p1), .val (.int p2), .val (.int p3), .val (.int p4), .val (.int p5), .val (.int (3 : Int32)), .val (.int v0), .val (.int v1), .val (.int v2), .unset, .unset, .unset, .unset, .unset, .unset, .unset, .unset, .unset] [(.int v2)])) _
    refine XS.iloadN X0.here hx rfl (hb hby at_42) rfl ?_
    show Steps p.tables e below (s₁.setTop (mkF m 43 #[.val (.int p0), .val (.int p1), .val (.int p2), .val (.int p3), .val (.int p4), .val (.int p5), .val (.int (3 : Int32)), .val (.int v0), .val (.int v1), .val (.int v2), .unset, .unset, .unset, .unset, .unset, .unset, .unset, .unset, .unset] [(.int p3), (.int v2)])) _
    refine X0.ldcInt hx hown (mvT hZ (hw _ (List.mem_of_getElem? (i := 2) rfl))) (g := (mkF m 43 #[.val (.int p0), .val (.int p1), .val (.int p2), .val (.int p3), .val (.int p4), .val (.int p5), .val (.int (3 : Int32)), .val (.int v0), .val (.int v1), .val (.int v2), .unset, .unset, .unset, .unset, .unset, .unset, .unset, .unset, .unset] [(.int p3), (.int v2)])) rfl (hb hby at_43) _ ?_
    show Steps p.tables e below (s₁.setTop (mkF m 45 #[.val (.int p0), .val (.int p1), .val (.int p2), .val (.int p3), .val (.int p4), .val (.int p5), .val (.int (3 : Int32)), .val (.int v0), .val (.int v1), .val (.int v2), .unset, .unset, .unset, .unset, .unset, .unset, .unset, .unset, .unset] [(.int (65535 : Int32)), (.int p3), (.int v2)])) _
    refine XS.iand X0.here hx rfl (hb hby at_45) rfl ?_
    show Steps p.tables e below (s₁.setTop (mkF m 46 #[.val (.int p0), .val (.int p1), .val (.int p2), .val (.int p3), .val (.int p4), .val (.int p5), .val (.int (3 : Int32)), .val (.int v0), .val (.int v1), .val (.int v2), .unset, .unset, .unset, .unset, .unset, .unset, .unset, .unset, .unset] [(.int (p3 &&& (65535 : Int32))), (.int v2)])) _
    refine XS.iadd X0.here hx rfl (hb hby at_46) rfl ?_
    show Steps p.tables e below (s₁.setTop (mkF m 47 #[.val (.int p0), .val (.int p1), .val (.int p2), .val (.int p3), .val (.int p4), .val (.int p5), .val (.int (3 : Int32)), .val (.int v0), .val (.int v1), .val (.int v2), .unset, .unset, .unset, .unset, .unset, .unset, .unset, .unset, .unset] [(.int (v2 + (p3 &&& (65535 : Int32))))])) _
    rw [hv3]
    show Steps p.tables e below (s₁.setTop (mkF m 47 #[.val (.int p0), .val (.int p1), .val (.int p2), .val (.int p3), .val (.int p4), .val (.int p5), .val (.int (3 : Int32)), .val (.int v0), .val (.int v1), .val (.int v2), .unset, .unset, .unset, .unset, .unset, .unset, .unset, .unset, .unset] [(.int v3)])) _
    refine XS.istore X0.here hx rfl (hb hby at_47) rfl (l' := #[.val (.int p0), .val (.int p1), .val (.int p2), .val (.int p3), .val (.int p4), .val (.int p5), .val (.int (3 : Int32)), .val (.int v0), .val (.int v1), .val (.int v2), .val (.int v3), .unset, .unset, .unset, .unset, .unset, .unset, .unset, .unset]) rfl ?_
    show Steps p.tables e below (s₁.setTop (mkF m 49 #[.val (.int p0), .val (.int p1), .val (.int p2), .val (.int p3), .val (.int p4), .val (.int p5), .val (.int (3 : Int32)), .val (.int v0), .val (.int v1), .val (.int v2), .val (.int v3), .unset, .unset, .unset, .unset, .unset, .unset, .unset, .unset] [])) _
    refine XS.iload X0.here hx rfl (hb hby at_49) rfl ?_
    show Steps p.tables e below (s₁.setTop (mkF m 51 #[.val (.int p0), .val (.int p1), .val (.int p2), .val (.int p3), .val (.int p4), .val (.int p5), .val (.int (3 : Int32)), .val (.int v0), .val (.int v1), .val (.int v2), .val (.int v3), .unset, .unset, .unset, .unset, .unset, .unset, .unset, .unset] [(.int v3)])) _
    refine XS.iload X0.here hx rfl (hb hby at_51) rfl ?_
    show Steps p.tables e below (s₁.setTop (mkF m 53 #[.val (.int p0), .val (.int p1), .val (.int p2), .val (.int p3), .val (.int p4), .val (.int p5), .val (.int (3 : Int32)), .val (.int v0), .val (.int v1), .val (.int v2), .val (.int v3), .unset, .unset, .unset, .unset, .unset, .unset, .unset, .unset] [(.int p4), (.int v3)])) _
    refine X0.ldcInt hx hown (mvT hZ (hw _ (List.mem_of_getElem? (i := 2) rfl))) (g := (mkF m 53 #[.val (.int p0), .val (.int p1), .val (.int p2), .val (.int p3), .val (.int p4), .val (.int p5), .val (.int (3 : Int32)), .val (.int v0), .val (.int v1), .val (.int v2), .val (.int v3), .unset, .unset, .unset, .unset, .unset, .unset, .unset, .unset] [(.int p4), (.int v3)])) rfl (hb hby at_53) _ ?_
    show Steps p.tables e below (s₁.setTop (mkF m 55 #[.val (.int p0), .val (.int p1), .val (.int p2), .val (.int p3), .val (.int p4), .val (.int p5), .val (.int (3 : Int32)), .val (.int v0), .val (.int v1), .val (.int v2), .val (.int v3), .unset, .unset, .unset, .unset, .unset, .unset, .unset, .unset] [(.int (65535 : Int32)), (.int p4), (.int v3)])) _
    refine XS.iand X0.here hx rfl (hb hby at_55) rfl ?_
    show Steps p.tables e below (s₁.setTop (mkF m 56 #[.val (.int p0), .val (.int p1), .val (.int p2), .val (.int p3), .val (.int p4), .val (.int p5), .val (.int (3 : Int32)), .val (.int v0), .val (.int v1), .val (.int v2), .val (.int v3), .unset, .unset, .unset, .unset, .unset, .unset, .unset, .unset] [(.int (p4 &&& (65535 : Int32))), (.int v3)])) _
    refine XS.iadd X0.here hx rfl (hb hby at_56) rfl ?_
    show Steps p.tables e below (s₁.setTop (mkF m 57 #[.val (.int p0), .val (.int p1), .val (.int p2), .val (.int p3), .val (.int p4), .val (.int p5), .val (.int (3 : Int32)), .val (.int v0), .val (.int v1), .val (.int v2), .val (.int v3), .unset, .unset, .unset, .unset, .unset, .unset, .unset, .unset] [(.int (v3 + (p4 &&& (65535 : Int32))))])) _
    rw [hv4]
    show Steps p.tables e below (s₁.setTop (mkF m 57 #[.val (.int p0), .val (.int p1), .val (.int p2), .val (.int p3), .val (.int p4), .val (.int p5), .val (.int (3 : Int32)), .val (.int v0), .val (.int v1), .val (.int v2), .val (.int v3), .unset, .unset, .unset, .unset, .unset, .unset, .unset, .unset] [(.int v4)])) _
    refine XS.istore X0.here hx rfl (hb hby at_57) rfl (l' := #[.val (.int p0), .val (.int p1), .val (.int p2), .val (.int p3), .val (.int p4), .val (.int p5), .val (.int (3 : Int32)), .val (.int v0), .val (.int v1), .val (.int v2), .val (.int v3), .val (.int v4), .unset, .unset, .unset, .unset, .unset, .unset, .unset]) rfl ?_
    show Steps p.tables e below (s₁.setTop (mkF m 59 #[.val (.int p0), .val (.int p1), .val (.int p2), .val (.int p3), .val (.int p4), .val (.int p5), .val (.int (3 : Int32)), .val (.int v0), .val (.int v1), .val (.int v2), .val (.int v3), .val (.int v4), .unset, .unset, .unset, .unset, .unset, .unset, .unset] [])) _
    refine XS.iload X0.here hx rfl (hb hby at_59) rfl ?_
    show Steps p.tables e below (s₁.setTop (mkF m 61 #[.val (.int p0), .val (.int p1), .val (.int p2), .val (.int p3), .val (.int p4), .val (.int p5), .val (.int (3 : Int32)), .val (.int v0), .val (.int v1), .val (.int v2), .val (.int v3), .val (.int v4), .unset, .unset, .unset, .unset, .unset, .unset, .unset] [(.int v4)])) _
    refine XS.iload X0.here hx rfl (hb hby at_61) rfl ?_
    show Steps p.tables e below (s₁.setTop (mkF m 63 #[.val (.int p0), .val (.int p1), .val (.int p2), .val (.int p3), .val (.int p4), .val (.int p5), .val (.int (3 : Int32)), .val (.int v0), .val (.int v1), .val (.int v2), .val (.int v3), .val (.int v4), .unset, .unset, .unset, .unset, .unset, .unset, .unset] [(.int p5), (.int v4)])) _
    refine X0.ldcInt hx hown (mvT hZ (hw _ (List.mem_of_getElem? (i := 2) rfl))) (g := (mkF m 63 #[.val (.int p0), .val (.int p1), .val (.int p2), .val (.int p3), .val (.int p4), .val (.int p5), .val (.int (3 : Int32)), .val (.int v0), .val (.int v1), .val (.int v2), .val (.int v3), .val (.int v4), .unset, .unset, .unset, .unset, .unset, .unset, .unset] [(.int p5), (.int v4)])) rfl (hb hby at_63) _ ?_
    show Steps p.tables e below (s₁.setTop (mkF m 65 #[.val (.int p0), .val (.int p1), .val (.int p2), .val (.int p3), .val (.int p4), .val (.int p5), .val (.int (3 : Int32)), .val (.int v0), .val (.int v1), .val (.int v2), .val (.int v3), .val (.int v4), .unset, .unset, .unset, .unset, .unset, .unset, .unset] [(.int (65535 : Int32)), (.int p5), (.int v4)])) _
    refine XS.iand X0.here hx rfl (hb hby at_65) rfl ?_
    show Steps p.tables e below (s₁.setTop (mkF m 66 #[.val (.int p0), .val (.int p1), .val (.int p2), .val (.int p3), .val (.int p4), .val (.int p5), .val (.int (3 : Int32)), .val (.int v0), .val (.int v1), .val (.int v2), .val (.int v3), .val (.int v4), .unset, .unset, .unset, .unset, .unset, .unset, .unset] [(.int (p5 &&& (65535 : Int32))), (.int v4)])) _
    refine XS.iadd X0.here hx rfl (hb hby at_66) rfl ?_
    show Steps p.tables e below (s₁.setTop (mkF m 67 #[.val (.int p0), .val (.int p1), .val (.int p2), .val (.int p3), .val (.int p4), .val (.int p5), .val (.int (3 : Int32)), .val (.int v0), .val (.int v1), .val (.int v2), .val (.int v3), .val (.int v4), .unset, .unset, .unset, .unset, .unset, .unset, .unset] [(.int (v4 + (p5 &&& (65535 : Int32))))])) _
    rw [hv5]
    show Steps p.tables e below (s₁.setTop (mkF m 67 #[.val (.int p0), .val (.int p1), .val (.int p2), .val (.int p3), .val (.int p4), .val (.int p5), .val (.int (3 : Int32)), .val (.int v0), .val (.int v1), .val (.int v2), .val (.int v3), .val (.int v4), .unset, .unset, .unset, .unset, .unset, .unset, .unset] [(.int v5)])) _
    refine XS.istore X0.here hx rfl (hb hby at_67) rfl (l' := #[.val (.int p0), .val (.int p1), .val (.int p2), .val (.int p3), .val (.int p4), .val (.int p5), .val (.int (3 : Int32)), .val (.int v0), .val (.int v1), .val (.int v2), .val (.int v3), .val (.int v4), .val (.int v5), .unset, .unset, .unset, .unset, .unset, .unset]) rfl ?_
    show Steps p.tables e below (s₁.setTop (mkF m 69 #[.val (.int p0), .val (.int p1), .val (.int p2), .val (.int p3), .val (.int p4), .val (.int p5), .val (.int (3 : Int32)), .val (.int v0), .val (.int v1), .val (.int v2), .val (.int v3), .val (.int v4), .val (.int v5), .unset, .unset, .unset, .unset, .unset, .unset] [])) _
    refine XS.bipush X0.here hx rfl (hb hby at_69) ?_
    show Steps p.tables e below (s₁.setTop (mkF m 71 #[.val (.int p0), .val (.int p1), .val (.int p2), .val (.int p3), .val (.int p4), .val (.int p5), .val (.int (3 : Int32)), .val (.int v0), .val (.int v1), .val (.int v2), .val (.int v3), .val (.int v4), .val (.int v5), .unset, .unset, .unset, .unset, .unset, .unset] [(.int (6 : Int32))])) _
    refine st1 _ ?_
    show Steps p.tables e below (T1.setTop (mkF m 73 #[.val (.int p0), .val (.int p1), .val (.int p2), .val (.int p3), .val (.int p4), .val (.int p5), .val (.int (3 : Int32)), .val (.int v0), .val (.int v1), .val (.int v2), .val (.int v3), .val (.int v4), .val (.int v5), .unset, .unset, .unset, .unset, .unset, .unset] [(.ref b1)])) _
    refine XS.dup X1.here hx rfl (hb hby at_73) rfl rfl ?_
    show Steps p.tables e below (T1.setTop (mkF m 74 #[.val (.int p0), .val (.int p1), .val (.int p2), .val (.int p3), .val (.int p4), .val (.int p5), .val (.int (3 : Int32)), .val (.int v0), .val (.int v1), .val (.int v2), .val (.int v3), .val (.int v4), .val (.int v5), .unset, .unset, .unset, .unset, .unset, .unset] [(.ref b1), (.ref b1)])) _
    refine XS.iconst X1.here hx rfl (hb hby at_74) ?_
    show Steps p.tables e below (T1.setTop (mkF m 75 #[.val (.int p0), .val (.int p1), .val (.int p2), .val (.int p3), .val (.int p4), .val (.int p5), .val (.int (3 : Int32)), .val (.int v0), .val (.int v1), .val (.int v2), .val (.int v3), .val (.int v4), .val (.int v5), .unset, .unset, .unset, .unset, .unset, .unset] [(.int (0 : Int32)), (.ref b1), (.ref b1)])) _
    refine XS.iload X1.here hx rfl (hb hby at_75) rfl ?_
    show Steps p.tables e below (T1.setTop (mkF m 77 #[.val (.int p0), .val (.int p1), .val (.int p2), .val (.int p3), .val (.int p4), .val (.int p5), .val (.int (3 : Int32)), .val (.int v0), .val (.int v1), .val (.int v2), .val (.int v3), .val (.int v4), .val (.int v5), .unset, .unset, .unset, .unset, .unset, .unset] [(.int v0), (.int (0 : Int32)), (.ref b1), (.ref b1)])) _
    refine st2 _ ?_
    show Steps p.tables e below (T2.setTop (mkF m 78 #[.val (.int p0), .val (.int p1), .val (.int p2), .val (.int p3), .val (.int p4), .val (.int p5), .val (.int (3 : Int32)), .val (.int v0), .val (.int v1), .val (.int v2), .val (.int v3), .val (.int v4), .val (.int v5), .unset, .unset, .unset, .unset, .unset, .unset] [(.ref b1)])) _
    refine XS.dup X2.here hx rfl (hb hby at_78) rfl rfl ?_
    show Steps p.tables e below (T2.setTop (mkF m 79 #[.val (.int p0), .val (.int p1), .val (.int p2), .val (.int p3), .val (.int p4), .val (.int p5), .val (.int (3 : Int32)), .val (.int v0), .val (.int v1), .val (.int v2), .val (.int v3), .val (.int v4), .val (.int v5), .unset, .unset, .unset, .unset, .unset, .unset] [(.ref b1), (.ref b1)])) _
    refine XS.iconst X2.here hx rfl (hb hby at_79) ?_
    show Steps p.tables e below (T2.setTop (mkF m 80 #[.val (.int p0), .val (.int p1), .val (.int p2), .val (.int p3), .val (.int p4), .val (.int p5), .val (.int (3 : Int32)), .val (.int v0), .val (.int v1), .val (.int v2), .val (.int v3), .val (.int v4), .val (.int v5), .unset, .unset, .unset, .unset, .unset, .unset] [(.int (1 : Int32)), (.ref b1), (.ref b1)])) _
    refine XS.iload X2.here hx rfl (hb hby at_80) rfl ?_
    show Steps p.tables e below (T2.setTop (mkF m 82 #[.val (.int p0), .val (.int p1), .val (.int p2), .val (.int p3), .val (.int p4), .val (.int p5), .val (.int (3 : Int32)), .val (.int v0), .val (.int v1), .val (.int v2), .val (.int v3), .val (.int v4), .val (.int v5), .unset, .unset, .unset, .unset, .unset, .unset] [(.int v1), (.int (1 : Int32)), (.ref b1), (.ref b1)])) _
    refine st3 _ ?_
    show Steps p.tables e below (T3.setTop (mkF m 83 #[.val (.int p0), .val (.int p1), .val (.int p2), .val (.int p3), .val (.int p4), .val (.int p5), .val (.int (3 : Int32)), .val (.int v0), .val (.int v1), .val (.int v2), .val (.int v3), .val (.int v4), .val (.int v5), .unset, .unset, .unset, .unset, .unset, .unset] [(.ref b1)])) _
    refine XS.dup X3.here hx rfl (hb hby at_83) rfl rfl ?_
    show Steps p.tables e below (T3.setTop (mkF m 84 #[.val (.int p0), .val (.int p1), .val (.int p2), .val (.int p3), .val (.int p4), .val (.int p5), .val (.int (3 : Int32)), .val (.int v0), .val (.int v1), .val (.int v2), .val (.int v3), .val (.int v4), .val (.int v5), .unset, .unset, .unset, .unset, .unset, .unset] [(.ref b1), (.ref b1)])) _
    refine XS.iconst X3.here hx rfl (hb hby at_84) ?_
    show Steps p.tables e below (T3.setTop (mkF m 85 #[.val (.int p0), .val (.int p1), .val (.int p2), .val (.int p3), .val (.int p4), .val (.int p5), .val (.int (3 : Int32)), .val (.int v0), .val (.int v1), .val (.int v2), .val (.int v3), .val (.int v4), .val (.int v5), .unset, .unset, .unset, .unset, .unset, .unset] [(.int (2 : Int32)), (.ref b1), (.ref b1)])) _
    refine XS.iload X3.here hx rfl (hb hby at_85) rfl ?_
    show Steps p.tables e below (T3.setTop (mkF m 87 #[.val (.int p0), .val (.int p1), .val (.int p2), .val (.int p3), .val (.int p4), .val (.int p5), .val (.int (3 : Int32)), .val (.int v0), .val (.int v1), .val (.int v2), .val (.int v3), .val (.int v4), .val (.int v5), .unset, .unset, .unset, .unset, .unset, .unset] [(.int v2), (.int (2 : Int32)), (.ref b1), (.ref b1)])) _
    refine st4 _ ?_
    show Steps p.tables e below (T4.setTop (mkF m 88 #[.val (.int p0), .val (.int p1), .val (.int p2), .val (.int p3), .val (.int p4), .val (.int p5), .val (.int (3 : Int32)), .val (.int v0), .val (.int v1), .val (.int v2), .val (.int v3), .val (.int v4), .val (.int v5), .unset, .unset, .unset, .unset, .unset, .unset] [(.ref b1)])) _
    refine XS.dup X4.here hx rfl (hb hby at_88) rfl rfl ?_
    show Steps p.tables e below (T4.setTop (mkF m 89 #[.val (.int p0), .val (.int p1), .val (.int p2), .val (.int p3), .val (.int p4), .val (.int p5), .val (.int (3 : Int32)), .val (.int v0), .val (.int v1), .val (.int v2), .val (.int v3), .val (.int v4), .val (.int v5), .unset, .unset, .unset, .unset, .unset, .unset] [(.ref b1), (.ref b1)])) _
    refine XS.iconst X4.here hx rfl (hb hby at_89) ?_
    show Steps p.tables e below (T4.setTop (mkF m 90 #[.val (.int p0), .val (.int p1), .val (.int p2), .val (.int p3), .val (.int p4), .val (.int p5), .val (.int (3 : Int32)), .val (.int v0), .val (.int v1), .val (.int v2), .val (.int v3), .val (.int v4), .val (.int v5), .unset, .unset, .unset, .unset, .unset, .unset] [(.int (3 : Int32)), (.ref b1), (.ref b1)])) _
    refine XS.iload X4.here hx rfl (hb hby at_90) rfl ?_
    show Steps p.tables e below (T4.setTop (mkF m 92 #[.val (.int p0), .val (.int p1), .val (.int p2), .val (.int p3), .val (.int p4), .val (.int p5), .val (.int (3 : Int32)), .val (.int v0), .val (.int v1), .val (.int v2), .val (.int v3), .val (.int v4), .val (.int v5), .unset, .unset, .unset, .unset, .unset, .unset] [(.int v3), (.int (3 : Int32)), (.ref b1), (.ref b1)])) _
    refine st5 _ ?_
    show Steps p.tables e below (T5.setTop (mkF m 93 #[.val (.int p0), .val (.int p1), .val (.int p2), .val (.int p3), .val (.int p4), .val (.int p5), .val (.int (3 : Int32)), .val (.int v0), .val (.int v1), .val (.int v2), .val (.int v3), .val (.int v4), .val (.int v5), .unset, .unset, .unset, .unset, .unset, .unset] [(.ref b1)])) _
    refine XS.dup X5.here hx rfl (hb hby at_93) rfl rfl ?_
    show Steps p.tables e below (T5.setTop (mkF m 94 #[.val (.int p0), .val (.int p1), .val (.int p2), .val (.int p3), .val (.int p4), .val (.int p5), .val (.int (3 : Int32)), .val (.int v0), .val (.int v1), .val (.int v2), .val (.int v3), .val (.int v4), .val (.int v5), .unset, .unset, .unset, .unset, .unset, .unset] [(.ref b1), (.ref b1)])) _
    refine XS.iconst X5.here hx rfl (hb hby at_94) ?_
    show Steps p.tables e below (T5.setTop (mkF m 95 #[.val (.int p0), .val (.int p1), .val (.int p2), .val (.int p3), .val (.int p4), .val (.int p5), .val (.int (3 : Int32)), .val (.int v0), .val (.int v1), .val (.int v2), .val (.int v3), .val (.int v4), .val (.int v5), .unset, .unset, .unset, .unset, .unset, .unset] [(.int (4 : Int32)), (.ref b1), (.ref b1)])) _
    refine XS.iload X5.here hx rfl (hb hby at_95) rfl ?_
    show Steps p.tables e below (T5.setTop (mkF m 97 #[.val (.int p0), .val (.int p1), .val (.int p2), .val (.int p3), .val (.int p4), .val (.int p5), .val (.int (3 : Int32)), .val (.int v0), .val (.int v1), .val (.int v2), .val (.int v3), .val (.int v4), .val (.int v5), .unset, .unset, .unset, .unset, .unset, .unset] [(.int v4), (.int (4 : Int32)), (.ref b1), (.ref b1)])) _
    refine st6 _ ?_
    show Steps p.tables e below (T6.setTop (mkF m 98 #[.val (.int p0), .val (.int p1), .val (.int p2), .val (.int p3), .val (.int p4), .val (.int p5), .val (.int (3 : Int32)), .val (.int v0), .val (.int v1), .val (.int v2), .val (.int v3), .val (.int v4), .val (.int v5), .unset, .unset, .unset, .unset, .unset, .unset] [(.ref b1)])) _
    refine XS.dup X6.here hx rfl (hb hby at_98) rfl rfl ?_
    show Steps p.tables e below (T6.setTop (mkF m 99 #[.val (.int p0), .val (.int p1), .val (.int p2), .val (.int p3), .val (.int p4), .val (.int p5), .val (.int (3 : Int32)), .val (.int v0), .val (.int v1), .val (.int v2), .val (.int v3), .val (.int v4), .val (.int v5), .unset, .unset, .unset, .unset, .unset, .unset] [(.ref b1), (.ref b1)])) _
    refine XS.iconst X6.here hx rfl (hb hby at_99) ?_
    show Steps p.tables e below (T6.setTop (mkF m 100 #[.val (.int p0), .val (.int p1), .val (.int p2), .val (.int p3), .val (.int p4), .val (.int p5), .val (.int (3 : Int32)), .val (.int v0), .val (.int v1), .val (.int v2), .val (.int v3), .val (.int v4), .val (.int v5), .unset, .unset, .unset, .unset, .unset, .unset] [(.int (5 : Int32)), (.ref b1), (.ref b1)])) _
    refine XS.iload X6.here hx rfl (hb hby at_100) rfl ?_
    show Steps p.tables e below (T6.setTop (mkF m 102 #[.val (.int p0), .val (.int p1), .val (.int p2), .val (.int p3), .val (.int p4), .val (.int p5), .val (.int (3 : Int32)), .val (.int v0), .val (.int v1), .val (.int v2), .val (.int v3), .val (.int v4), .val (.int v5), .unset, .unset, .unset, .unset, .unset, .unset] [(.int v5), (.int (5 : Int32)), (.ref b1), (.ref b1)])) _
    refine st7 _ ?_
    show Steps p.tables e below (T7.setTop (mkF m 103 #[.val (.int p0), .val (.int p1), .val (.int p2), .val (.int p3), .val (.int p4), .val (.int p5), .val (.int (3 : Int32)), .val (.int v0), .val (.int v1), .val (.int v2), .val (.int v3), .val (.int v4), .val (.int v5), .unset, .unset, .unset, .unset, .unset, .unset] [(.ref b1)])) _
    refine XS.astore X7.here hx rfl (hb hby at_103) rfl rfl (l' := #[.val (.int p0), .val (.int p1), .val (.int p2), .val (.int p3), .val (.int p4), .val (.int p5), .val (.int (3 : Int32)), .val (.int v0), .val (.int v1), .val (.int v2), .val (.int v3), .val (.int v4), .val (.int v5), .val (.ref b1), .unset, .unset, .unset, .unset, .unset]) rfl ?_
    show Steps p.tables e below (T7.setTop (mkF m 105 #[.val (.int p0), .val (.int p1), .val (.int p2), .val (.int p3), .val (.int p4), .val (.int p5), .val (.int (3 : Int32)), .val (.int v0), .val (.int v1), .val (.int v2), .val (.int v3), .val (.int v4), .val (.int v5), .val (.ref b1), .unset, .unset, .unset, .unset, .unset] [])) _
    refine XS.iload X7.here hx rfl (hb hby at_105) rfl ?_
    show Steps p.tables e below (T7.setTop (mkF m 107 #[.val (.int p0), .val (.int p1), .val (.int p2), .val (.int p3), .val (.int p4), .val (.int p5), .val (.int (3 : Int32)), .val (.int v0), .val (.int v1), .val (.int v2), .val (.int v3), .val (.int v4), .val (.int v5), .val (.ref b1), .unset, .unset, .unset, .unset, .unset] [(.int (3 : Int32))])) _
    refine st8 _ ?_
    show Steps p.tables e below (T8.setTop (mkF m 109 #[.val (.int p0), .val (.int p1), .val (.int p2), .val (.int p3), .val (.int p4), .val (.int p5), .val (.int (3 : Int32)), .val (.int v0), .val (.int v1), .val (.int v2), .val (.int v3), .val (.int v4), .val (.int v5), .val (.ref b1), .unset, .unset, .unset, .unset, .unset] [(.ref b8)])) _
    refine XS.astore X8.here hx rfl (hb hby at_109) rfl rfl (l' := #[.val (.int p0), .val (.int p1), .val (.int p2), .val (.int p3), .val (.int p4), .val (.int p5), .val (.int (3 : Int32)), .val (.int v0), .val (.int v1), .val (.int v2), .val (.int v3), .val (.int v4), .val (.int v5), .val (.ref b1), .val (.ref b8), .unset, .unset, .unset, .unset]) rfl ?_
    show Steps p.tables e below (T8.setTop (mkF m 111 #[.val (.int p0), .val (.int p1), .val (.int p2), .val (.int p3), .val (.int p4), .val (.int p5), .val (.int (3 : Int32)), .val (.int v0), .val (.int v1), .val (.int v2), .val (.int v3), .val (.int v4), .val (.int v5), .val (.ref b1), .val (.ref b8), .unset, .unset, .unset, .unset] [])) _
    refine XS.aload X8.here hx rfl (hb hby at_111) rfl rfl ?_
    show Steps p.tables e below (T8.setTop (mkF m 113 #[.val (.int p0), .val (.int p1), .val (.int p2), .val (.int p3), .val (.int p4), .val (.int p5), .val (.int (3 : Int32)), .val (.int v0), .val (.int v1), .val (.int v2), .val (.int v3), .val (.int v4), .val (.int v5), .val (.ref b1), .val (.ref b8), .unset, .unset, .unset, .unset] [(.ref b8)])) _
    refine XS.iconst X8.here hx rfl (hb hby at_113) ?_
    show Steps p.tables e below (T8.setTop (mkF m 114 #[.val (.int p0), .val (.int p1), .val (.int p2), .val (.int p3), .val (.int p4), .val (.int p5), .val (.int (3 : Int32)), .val (.int v0), .val (.int v1), .val (.int v2), .val (.int v3), .val (.int v4), .val (.int v5), .val (.ref b1), .val (.ref b8), .unset, .unset, .unset, .unset] [(.int (0 : Int32)), (.ref b8)])) _
    refine XS.iload X8.here hx rfl (hb hby at_114) rfl ?_
    show Steps p.tables e below (T8.setTop (mkF m 116 #[.val (.int p0), .val (.int p1), .val (.int p2), .val (.int p3), .val (.int p4), .val (.int p5), .val (.int (3 : Int32)), .val (.int v0), .val (.int v1), .val (.int v2), .val (.int v3), .val (.int v4), .val (.int v5), .val (.ref b1), .val (.ref b8), .unset, .unset, .unset, .unset] [(.int v0), (.int (0 : Int32)), (.ref b8)])) _
    refine XS.i2dS X8.here hx rfl (hb hby at_116) rfl rfl ?_
    show Steps p.tables e below (T8.setTop (mkF m 117 #[.val (.int p0), .val (.int p1), .val (.int p2), .val (.int p3), .val (.int p4), .val (.int p5), .val (.int (3 : Int32)), .val (.int v0), .val (.int v1), .val (.int v2), .val (.int v3), .val (.int v4), .val (.int v5), .val (.ref b1), .val (.ref b8), .unset, .unset, .unset, .unset] [(.double (FP.i2d v0)), (.int (0 : Int32)), (.ref b8)])) _
    refine st9 _ ?_
    show Steps p.tables e below (T9.setTop (mkF m 118 #[.val (.int p0), .val (.int p1), .val (.int p2), .val (.int p3), .val (.int p4), .val (.int p5), .val (.int (3 : Int32)), .val (.int v0), .val (.int v1), .val (.int v2), .val (.int v3), .val (.int v4), .val (.int v5), .val (.ref b1), .val (.ref b8), .unset, .unset, .unset, .unset] [])) _
    refine XS.iload X9.here hx rfl (hb hby at_118) rfl ?_
    show Steps p.tables e below (T9.setTop (mkF m 120 #[.val (.int p0), .val (.int p1), .val (.int p2), .val (.int p3), .val (.int p4), .val (.int p5), .val (.int (3 : Int32)), .val (.int v0), .val (.int v1), .val (.int v2), .val (.int v3), .val (.int v4), .val (.int v5), .val (.ref b1), .val (.ref b8), .unset, .unset, .unset, .unset] [(.int (3 : Int32))])) _
    refine XS.iconst X9.here hx rfl (hb hby at_120) ?_
    show Steps p.tables e below (T9.setTop (mkF m 121 #[.val (.int p0), .val (.int p1), .val (.int p2), .val (.int p3), .val (.int p4), .val (.int p5), .val (.int (3 : Int32)), .val (.int v0), .val (.int v1), .val (.int v2), .val (.int v3), .val (.int v4), .val (.int v5), .val (.ref b1), .val (.ref b8), .unset, .unset, .unset, .unset] [(.int (1 : Int32)), (.int (3 : Int32))])) _
    refine XS.icmpNo X9.here hx rfl (hb hby at_121) rfl (tlt (by decide : (1 : Int32) < (3 : Int32))).2.2.2 ?_
    show Steps p.tables e below (T9.setTop (mkF m 124 #[.val (.int p0), .val (.int p1), .val (.int p2), .val (.int p3), .val (.int p4), .val (.int p5), .val (.int (3 : Int32)), .val (.int v0), .val (.int v1), .val (.int v2), .val (.int v3), .val (.int v4), .val (.int v5), .val (.ref b1), .val (.ref b8), .unset, .unset, .unset, .unset] [])) _
    refine XS.aload X9.here hx rfl (hb hby at_124) rfl rfl ?_
    show Steps p.tables e below (T9.setTop (mkF m 126 #[.val (.int p0), .val (.int p1), .val (.int p2), .val (.int p3), .val (.int p4), .val (.int p5), .val (.int (3 : Int32)), .val (.int v0), .val (.int v1), .val (.int v2), .val (.int v3), .val (.int v4), .val (.int v5), .val (.ref b1), .val (.ref b8), .unset, .unset, .unset, .unset] [(.ref b8)])) _
    refine XS.iconst X9.here hx rfl (hb hby at_126) ?_
    show Steps p.tables e below (T9.setTop (mkF m 127 #[.val (.int p0), .val (.int p1), .val (.int p2), .val (.int p3), .val (.int p4), .val (.int p5), .val (.int (3 : Int32)), .val (.int v0), .val (.int v1), .val (.int v2), .val (.int v3), .val (.int v4), .val (.int v5), .val (.ref b1), .val (.ref b8), .unset, .unset, .unset, .unset] [(.int (1 : Int32)), (.ref b8)])) _
    refine XS.iload X9.here hx rfl (hb hby at_127) rfl ?_
    show Steps p.tables e below (T9.setTop (mkF m 129 #[.val (.int p0), .val (.int p1), .val (.int p2), .val (.int p3), .val (.int p4), .val (.int p5), .val (.int (3 : Int32)), .val (.int v0), .val (.int v1), .val (.int v2), .val (.int v3), .val (.int v4), .val (.int v5), .val (.ref b1), .val (.ref b8), .unset, .unset, .unset, .unset] [(.int v1), (.int (1 : Int32)), (.ref b8)])) _
    refine XS.i2dS X9.here hx rfl (hb hby at_129) rfl rfl ?_
    show Steps p.tables e below (T9.setTop (mkF m 130 #[.val (.int p0), .val (.int p1), .val (.int p2), .val (.int p3), .val (.int p4), .val (.int p5), .val (.int (3 : Int32)), .val (.int v0), .val (.int v1), .val (.int v2), .val (.int v3), .val (.int v4), .val (.int v5), .val (.ref b1), .val (.ref b8), .unset, .unset, .unset, .unset] [(.double (FP.i2d v1)), (.int (1 : Int32)), (.ref b8)])) _
    refine st10 _ ?_
    show Steps p.tables e below (T10.setTop (mkF m 131 #[.val (.int p0), .val (.int p1), .val (.int p2), .val (.int p3), .val (.int p4), .val (.int p5), .val (.int (3 : Int32)), .val (.int v0), .val (.int v1), .val (.int v2), .val (.int v3), .val (.int v4), .val (.int v5), .val (.ref b1), .val (.ref b8), .unset, .unset, .unset, .unset] [])) _
    refine XS.iload X10.here hx rfl (hb hby at_131) rfl ?_
    show Steps p.tables e below (T10.setTop (mkF m 133 #[.val (.int p0), .val (.int p1), .val (.int p2), .val (.int p3), .val (.int p4), .val (.int p5), .val (.int (3 : Int32)), .val (.int v0), .val (.int v1), .val (.int v2), .val (.int v3), .val (.int v4), .val (.int v5), .val (.ref b1), .val (.ref b8), .unset, .unset, .unset, .unset] [(.int (3 : Int32))])) _
    refine XS.iconst X10.here hx rfl (hb hby at_133) ?_
    show Steps p.tables e below (T10.setTop (mkF m 134 #[.val (.int p0), .val (.int p1), .val (.int p2), .val (.int p3), .val (.int p4), .val (.int p5), .val (.int (3 : Int32)), .val (.int v0), .val (.int v1), .val (.int v2), .val (.int v3), .val (.int v4), .val (.int v5), .val (.ref b1), .val (.ref b8), .unset, .unset, .unset, .unset] [(.int (2 : Int32)), (.int (3 : Int32))])) _
    refine XS.icmpNo X10.here hx rfl (hb hby at_134) rfl (tlt (by decide : (2 : Int32) < (3 : Int32))).2.2.2 ?_
    show Steps p.tables e below (T10.setTop (mkF m 137 #[.val (.int p0), .val (.int p1), .val (.int p2), .val (.int p3), .val (.int p4), .val (.int p5), .val (.int (3 : Int32)), .val (.int v0), .val (.int v1), .val (.int v2), .val (.int v3), .val (.int v4), .val (.int v5), .val (.ref b1), .val (.ref b8), .unset, .unset, .unset, .unset] [])) _
    refine XS.aload X10.here hx rfl (hb hby at_137) rfl rfl ?_
    show Steps p.tables e below (T10.setTop (mkF m 139 #[.val (.int p0), .val (.int p1), .val (.int p2), .val (.int p3), .val (.int p4), .val (.int p5), .val (.int (3 : Int32)), .val (.int v0), .val (.int v1), .val (.int v2), .val (.int v3), .val (.int v4), .val (.int v5), .val (.ref b1), .val (.ref b8), .unset, .unset, .unset, .unset] [(.ref b8)])) _
    refine XS.iconst X10.here hx rfl (hb hby at_139) ?_
    show Steps p.tables e below (T10.setTop (mkF m 140 #[.val (.int p0), .val (.int p1), .val (.int p2), .val (.int p3), .val (.int p4), .val (.int p5), .val (.int (3 : Int32)), .val (.int v0), .val (.int v1), .val (.int v2), .val (.int v3), .val (.int v4), .val (.int v5), .val (.ref b1), .val (.ref b8), .unset, .unset, .unset, .unset] [(.int (2 : Int32)), (.ref b8)])) _
    refine XS.iload X10.here hx rfl (hb hby at_140) rfl ?_
    show Steps p.tables e below (T10.setTop (mkF m 142 #[.val (.int p0), .val (.int p1), .val (.int p2), .val (.int p3), .val (.int p4), .val (.int p5), .val (.int (3 : Int32)), .val (.int v0), .val (.int v1), .val (.int v2), .val (.int v3), .val (.int v4), .val (.int v5), .val (.ref b1), .val (.ref b8), .unset, .unset, .unset, .unset] [(.int v2), (.int (2 : Int32)), (.ref b8)])) _
    refine XS.i2dS X10.here hx rfl (hb hby at_142) rfl rfl ?_
    show Steps p.tables e below (T10.setTop (mkF m 143 #[.val (.int p0), .val (.int p1), .val (.int p2), .val (.int p3), .val (.int p4), .val (.int p5), .val (.int (3 : Int32)), .val (.int v0), .val (.int v1), .val (.int v2), .val (.int v3), .val (.int v4), .val (.int v5), .val (.ref b1), .val (.ref b8), .unset, .unset, .unset, .unset] [(.double (FP.i2d v2)), (.int (2 : Int32)), (.ref b8)])) _
    refine st11 _ ?_
    show Steps p.tables e below (T11.setTop (mkF m 144 #[.val (.int p0), .val (.int p1), .val (.int p2), .val (.int p3), .val (.int p4), .val (.int p5), .val (.int (3 : Int32)), .val (.int v0), .val (.int v1), .val (.int v2), .val (.int v3), .val (.int v4), .val (.int v5), .val (.ref b1), .val (.ref b8), .unset, .unset, .unset, .unset] [])) _
    refine XS.iload X11.here hx rfl (hb hby at_144) rfl ?_
    show Steps p.tables e below (T11.setTop (mkF m 146 #[.val (.int p0), .val (.int p1), .val (.int p2), .val (.int p3), .val (.int p4), .val (.int p5), .val (.int (3 : Int32)), .val (.int v0), .val (.int v1), .val (.int v2), .val (.int v3), .val (.int v4), .val (.int v5), .val (.ref b1), .val (.ref b8), .unset, .unset, .unset, .unset] [(.int (3 : Int32))])) _
    refine XS.iconst X11.here hx rfl (hb hby at_146) ?_
    show Steps p.tables e below (T11.setTop (mkF m 147 #[.val (.int p0), .val (.int p1), .val (.int p2), .val (.int p3), .val (.int p4), .val (.int p5), .val (.int (3 : Int32)), .val (.int v0), .val (.int v1), .val (.int v2), .val (.int v3), .val (.int v4), .val (.int v5), .val (.ref b1), .val (.ref b8), .unset, .unset, .unset, .unset] [(.int (3 : Int32)), (.int (3 : Int32))])) _
    refine XS.icmpYes X11.here hx rfl (pc0 := 147) (pc' := 157) rfl (hb hby at_147) rfl (flt (by decide : ¬ ((3 : Int32) < (3 : Int32)))).2.2.2 (by decide) (by decide) ?_
    show Steps p.tables e below (T11.setTop (mkF m 157 #[.val (.int p0), .val (.int p1), .val (.int p2), .val (.int p3), .val (.int p4), .val (.int p5), .val (.int (3 : Int32)), .val (.int v0), .val (.int v1), .val (.int v2), .val (.int v3), .val (.int v4), .val (.int v5), .val (.ref b1), .val (.ref b8), .unset, .unset, .unset, .unset] [])) _
    refine XS.iload X11.here hx rfl (hb hby at_157) rfl ?_
    show Steps p.tables e below (T11.setTop (mkF m 159 #[.val (.int p0), .val (.int p1), .val (.int p2), .val (.int p3), .val (.int p4), .val (.int p5), .val (.int (3 : Int32)), .val (.int v0), .val (.int v1), .val (.int v2), .val (.int v3), .val (.int v4), .val (.int v5), .val (.ref b1), .val (.ref b8), .unset, .unset, .unset, .unset] [(.int (3 : Int32))])) _
    refine XS.iconst X11.here hx rfl (hb hby at_159) ?_
    show Steps p.tables e below (T11.setTop (mkF m 160 #[.val (.int p0), .val (.int p1), .val (.int p2), .val (.int p3), .val (.int p4), .val (.int p5), .val (.int (3 : Int32)), .val (.int v0), .val (.int v1), .val (.int v2), .val (.int v3), .val (.int v4), .val (.int v5), .val (.ref b1), .val (.ref b8), .unset, .unset, .unset, .unset] [(.int (4 : Int32)), (.int (3 : Int32))])) _
    refine XS.icmpYes X11.here hx rfl (pc0 := 160) (pc' := 170) rfl (hb hby at_160) rfl (flt (by decide : ¬ ((4 : Int32) < (3 : Int32)))).2.2.2 (by decide) (by decide) ?_
    show Steps p.tables e below (T11.setTop (mkF m 170 #[.val (.int p0), .val (.int p1), .val (.int p2), .val (.int p3), .val (.int p4), .val (.int p5), .val (.int (3 : Int32)), .val (.int v0), .val (.int v1), .val (.int v2), .val (.int v3), .val (.int v4), .val (.int v5), .val (.ref b1), .val (.ref b8), .unset, .unset, .unset, .unset] [])) _
    refine XS.iload X11.here hx rfl (hb hby at_170) rfl ?_
    show Steps p.tables e below (T11.setTop (mkF m 172 #[.val (.int p0), .val (.int p1), .val (.int p2), .val (.int p3), .val (.int p4), .val (.int p5), .val (.int (3 : Int32)), .val (.int v0), .val (.int v1), .val (.int v2), .val (.int v3), .val (.int v4), .val (.int v5), .val (.ref b1), .val (.ref b8), .unset, .unset, .unset, .unset] [(.int (3 : Int32))])) _
    refine XS.iconst X11.here hx rfl (hb hby at_172) ?_
    show Steps p.tables e below (T11.setTop (mkF m 173 #[.val (.int p0), .val (.int p1), .val (.int p2), .val (.int p3), .val (.int p4), .val (.int p5), .val (.int (3 : Int32)), .val (.int v0), .val (.int v1), .val (.int v2), .val (.int v3), .val (.int v4), .val (.int v5), .val (.ref b1), .val (.ref b8), .unset, .unset, .unset, .unset] [(.int (5 : Int32)), (.int (3 : Int32))])) _
    refine XS.icmpYes X11.here hx rfl (pc0 := 173) (pc' := 183) rfl (hb hby at_173) rfl (flt (by decide : ¬ ((5 : Int32) < (3 : Int32)))).2.2.2 (by decide) (by decide) ?_
    show Steps p.tables e below (T11.setTop (mkF m 183 #[.val (.int p0), .val (.int p1), .val (.int p2), .val (.int p3), .val (.int p4), .val (.int p5), .val (.int (3 : Int32)), .val (.int v0), .val (.int v1), .val (.int v2), .val (.int v3), .val (.int v4), .val (.int v5), .val (.ref b1), .val (.ref b8), .unset, .unset, .unset, .unset] [])) _
    refine XS.aload X11.here hx rfl (hb hby at_183) rfl rfl ?_
    show Steps p.tables e below (T11.setTop (mkF m 185 #[.val (.int p0), .val (.int p1), .val (.int p2), .val (.int p3), .val (.int p4), .val (.int p5), .val (.int (3 : Int32)), .val (.int v0), .val (.int v1), .val (.int v2), .val (.int v3), .val (.int v4), .val (.int v5), .val (.ref b1), .val (.ref b8), .unset, .unset, .unset, .unset] [(.ref b8)])) _
    refine st12 _ ?_
    show Steps p.tables e below (T12.setTop (mkF m 188 #[.val (.int p0), .val (.int p1), .val (.int p2), .val (.int p3), .val (.int p4), .val (.int p5), .val (.int (3 : Int32)), .val (.int v0), .val (.int v1), .val (.int v2), .val (.int v3), .val (.int v4), .val (.int v5), .val (.ref b1), .val (.ref b8), .unset, .unset, .unset, .unset] [(.double (FP.i2d v1))])) _
    refine XS.dstore X12.here hx rfl (hb hby at_188) rfl (l' := #[.val (.int p0), .val (.int p1), .val (.int p2), .val (.int p3), .val (.int p4), .val (.int p5), .val (.int (3 : Int32)), .val (.int v0), .val (.int v1), .val (.int v2), .val (.int v3), .val (.int v4), .val (.int v5), .val (.ref b1), .val (.ref b8), .val (.double (FP.i2d v1)), .second, .unset, .unset]) rfl ?_
    show Steps p.tables e below (T12.setTop (mkF m 190 #[.val (.int p0), .val (.int p1), .val (.int p2), .val (.int p3), .val (.int p4), .val (.int p5), .val (.int (3 : Int32)), .val (.int v0), .val (.int v1), .val (.int v2), .val (.int v3), .val (.int v4), .val (.int v5), .val (.ref b1), .val (.ref b8), .val (.double (FP.i2d v1)), .second, .unset, .unset] [])) _
    refine XS.iload X12.here hx rfl (hb hby at_190) rfl ?_
    show Steps p.tables e below (T12.setTop (mkF m 192 #[.val (.int p0), .val (.int p1), .val (.int p2), .val (.int p3), .val (.int p4), .val (.int p5), .val (.int (3 : Int32)), .val (.int v0), .val (.int v1), .val (.int v2), .val (.int v3), .val (.int v4), .val (.int v5), .val (.ref b1), .val (.ref b8), .val (.double (FP.i2d v1)), .second, .unset, .unset] [(.int (3 : Int32))])) _
    refine XS.iconst X12.here hx rfl (hb hby at_192) ?_
    show Steps p.tables e below (T12.setTop (mkF m 193 #[.val (.int p0), .val (.int p1), .val (.int p2), .val (.int p3), .val (.int p4), .val (.int p5), .val (.int (3 : Int32)), .val (.int v0), .val (.int v1), .val (.int v2), .val (.int v3), .val (.int v4), .val (.int v5), .val (.ref b1), .val (.ref b8), .val (.double (FP.i2d v1)), .second, .unset, .unset] [(.int (1 : Int32)), (.int (3 : Int32))])) _
    refine XS.isub X12.here hx rfl (hb hby at_193) rfl ?_
    show Steps p.tables e below (T12.setTop (mkF m 194 #[.val (.int p0), .val (.int p1), .val (.int p2), .val (.int p3), .val (.int p4), .val (.int p5), .val (.int (3 : Int32)), .val (.int v0), .val (.int v1), .val (.int v2), .val (.int v3), .val (.int v4), .val (.int v5), .val (.ref b1), .val (.ref b8), .val (.double (FP.i2d v1)), .second, .unset, .unset] [(.int ((3 : Int32) - (1 : Int32)))])) _
    rw [show ((3 : Int32) - (1 : Int32)) = (2 : Int32) from by decide]
    show Steps p.tables e below (T12.setTop (mkF m 194 #[.val (.int p0), .val (.int p1), .val (.int p2), .val (.int p3), .val (.int p4), .val (.int p5), .val (.int (3 : Int32)), .val (.int v0), .val (.int v1), .val (.int v2), .val (.int v3), .val (.int v4), .val (.int v5), .val (.ref b1), .val (.ref b8), .val (.double (FP.i2d v1)), .second, .unset, .unset] [(.int (2 : Int32))])) _
    refine XS.iconst X12.here hx rfl (hb hby at_194) ?_
    show Steps p.tables e below (T12.setTop (mkF m 195 #[.val (.int p0), .val (.int p1), .val (.int p2), .val (.int p3), .val (.int p4), .val (.int p5), .val (.int (3 : Int32)), .val (.int v0), .val (.int v1), .val (.int v2), .val (.int v3), .val (.int v4), .val (.int v5), .val (.ref b1), .val (.ref b8), .val (.double (FP.i2d v1)), .second, .unset, .unset] [(.int (2 : Int32)), (.int (2 : Int32))])) _
    refine XS.idiv X12.here hx rfl (hb hby at_195) rfl (by decide) ?_
    show Steps p.tables e below (T12.setTop (mkF m 196 #[.val (.int p0), .val (.int p1), .val (.int p2), .val (.int p3), .val (.int p4), .val (.int p5), .val (.int (3 : Int32)), .val (.int v0), .val (.int v1), .val (.int v2), .val (.int v3), .val (.int v4), .val (.int v5), .val (.ref b1), .val (.ref b8), .val (.double (FP.i2d v1)), .second, .unset, .unset] [(.int ((2 : Int32) / (2 : Int32)))])) _
    rw [show ((2 : Int32) / (2 : Int32)) = (1 : Int32) from by decide]
    show Steps p.tables e below (T12.setTop (mkF m 196 #[.val (.int p0), .val (.int p1), .val (.int p2), .val (.int p3), .val (.int p4), .val (.int p5), .val (.int (3 : Int32)), .val (.int v0), .val (.int v1), .val (.int v2), .val (.int v3), .val (.int v4), .val (.int v5), .val (.ref b1), .val (.ref b8), .val (.double (FP.i2d v1)), .second, .unset, .unset] [(.int (1 : Int32))])) _
    refine XS.istore X12.here hx rfl (hb hby at_196) rfl (l' := #[.val (.int p0), .val (.int p1), .val (.int p2), .val (.int p3), .val (.int p4), .val (.int p5), .val (.int (3 : Int32)), .val (.int v0), .val (.int v1), .val (.int v2), .val (.int v3), .val (.int v4), .val (.int v5), .val (.ref b1), .val (.ref b8), .val (.double (FP.i2d v1)), .second, .val (.int (1 : Int32)), .unset]) rfl ?_
    show Steps p.tables e below (T12.setTop (mkF m 198 #[.val (.int p0), .val (.int p1), .val (.int p2), .val (.int p3), .val (.int p4), .val (.int p5), .val (.int (3 : Int32)), .val (.int v0), .val (.int v1), .val (.int v2), .val (.int v3), .val (.int v4), .val (.int v5), .val (.ref b1), .val (.ref b8), .val (.double (FP.i2d v1)), .second, .val (.int (1 : Int32)), .unset] [])) _
    refine XS.iload X12.here hx rfl (hb hby at_198) rfl ?_
    show Steps p.tables e below (T12.setTop (mkF m 200 #[.val (.int p0), .val (.int p1), .val (.int p2), .val (.int p3), .val (.int p4), .val (.int p5), .val (.int (3 : Int32)), .val (.int v0), .val (.int v1), .val (.int v2), .val (.int v3), .val (.int v4), .val (.int v5), .val (.ref b1), .val (.ref b8), .val (.double (FP.i2d v1)), .second, .val (.int (1 : Int32)), .unset] [(.int (3 : Int32))])) _
    refine XS.iconst X12.here hx rfl (hb hby at_200) ?_
    show Steps p.tables e below (T12.setTop (mkF m 201 #[.val (.int p0), .val (.int p1), .val (.int p2), .val (.int p3), .val (.int p4), .val (.int p5), .val (.int (3 : Int32)), .val (.int v0), .val (.int v1), .val (.int v2), .val (.int v3), .val (.int v4), .val (.int v5), .val (.ref b1), .val (.ref b8), .val (.double (FP.i2d v1)), .second, .val (.int (1 : Int32)), .unset] [(.int (2 : Int32)), (.int (3 : Int32))])) _
    refine XS.idiv X12.here hx rfl (hb hby at_201) rfl (by decide) ?_
    show Steps p.tables e below (T12.setTop (mkF m 202 #[.val (.int p0), .val (.int p1), .val (.int p2), .val (.int p3), .val (.int p4), .val (.int p5), .val (.int (3 : Int32)), .val (.int v0), .val (.int v1), .val (.int v2), .val (.int v3), .val (.int v4), .val (.int v5), .val (.ref b1), .val (.ref b8), .val (.double (FP.i2d v1)), .second, .val (.int (1 : Int32)), .unset] [(.int ((3 : Int32) / (2 : Int32)))])) _
    rw [show ((3 : Int32) / (2 : Int32)) = (1 : Int32) from by decide]
    show Steps p.tables e below (T12.setTop (mkF m 202 #[.val (.int p0), .val (.int p1), .val (.int p2), .val (.int p3), .val (.int p4), .val (.int p5), .val (.int (3 : Int32)), .val (.int v0), .val (.int v1), .val (.int v2), .val (.int v3), .val (.int v4), .val (.int v5), .val (.ref b1), .val (.ref b8), .val (.double (FP.i2d v1)), .second, .val (.int (1 : Int32)), .unset] [(.int (1 : Int32))])) _
    refine XS.istore X12.here hx rfl (hb hby at_202) rfl (l' := #[.val (.int p0), .val (.int p1), .val (.int p2), .val (.int p3), .val (.int p4), .val (.int p5), .val (.int (3 : Int32)), .val (.int v0), .val (.int v1), .val (.int v2), .val (.int v3), .val (.int v4), .val (.int v5), .val (.ref b1), .val (.ref b8), .val (.double (FP.i2d v1)), .second, .val (.int (1 : Int32)), .val (.int (1 : Int32))]) rfl ?_
    show Steps p.tables e below (T12.setTop (mkF m 204 #[.val (.int p0), .val (.int p1), .val (.int p2), .val (.int p3), .val (.int p4), .val (.int p5), .val (.int (3 : Int32)), .val (.int v0), .val (.int v1), .val (.int v2), .val (.int v3), .val (.int v4), .val (.int v5), .val (.ref b1), .val (.ref b8), .val (.double (FP.i2d v1)), .second, .val (.int (1 : Int32)), .val (.int (1 : Int32))] [])) _
    refine XS.dload X12.here hx rfl (hb hby at_204) rfl ?_
    show Steps p.tables e below (T12.setTop (mkF m 206 #[.val (.int p0), .val (.int p1), .val (.int p2), .val (.int p3), .val (.int p4), .val (.int p5), .val (.int (3 : Int32)), .val (.int v0), .val (.int v1), .val (.int v2), .val (.int v3), .val (.int v4), .val (.int v5), .val (.ref b1), .val (.ref b8), .val (.double (FP.i2d v1)), .second, .val (.int (1 : Int32)), .val (.int (1 : Int32))] [(.double (FP.i2d v1))])) _
    refine X12.ldc2DoubleC hx hown (mvT hZ (hw _ (List.mem_of_getElem? (i := 9) rfl))) (g := (mkF m 206 #[.val (.int p0), .val (.int p1), .val (.int p2), .val (.int p3), .val (.int p4), .val (.int p5), .val (.int (3 : Int32)), .val (.int v0), .val (.int v1), .val (.int v2), .val (.int v3), .val (.int v4), .val (.int v5), .val (.ref b1), .val (.ref b8), .val (.double (FP.i2d v1)), .second, .val (.int (1 : Int32)), .val (.int (1 : Int32))] [(.double (FP.i2d v1))])) rfl (hb hby at_206) _ ?_
    show Steps p.tables e below (T12.setTop (mkF m 209 #[.val (.int p0), .val (.int p1), .val (.int p2), .val (.int p3), .val (.int p4), .val (.int p5), .val (.int (3 : Int32)), .val (.int v0), .val (.int v1), .val (.int v2), .val (.int v3), .val (.int v4), .val (.int v5), .val (.ref b1), .val (.ref b8), .val (.double (FP.i2d v1)), .second, .val (.int (1 : Int32)), .val (.int (1 : Int32))] [(.double 4611686018427387904), (.double (FP.i2d v1))])) _
    refine XS.dmulS X12.here hx rfl (hb hby at_209) rfl (own_n209o B1) rfl ?_
    show Steps p.tables e below (T12.setTop (mkF m 210 #[.val (.int p0), .val (.int p1), .val (.int p2), .val (.int p3), .val (.int p4), .val (.int p5), .val (.int (3 : Int32)), .val (.int v0), .val (.int v1), .val (.int v2), .val (.int v3), .val (.int v4), .val (.int v5), .val (.ref b1), .val (.ref b8), .val (.double (FP.i2d v1)), .second, .val (.int (1 : Int32)), .val (.int (1 : Int32))] [(.double (FP.dmul (FP.i2d v1) 4611686018427387904))])) _
    refine XS.aload X12.here hx rfl (hb hby at_210) rfl rfl ?_
    show Steps p.tables e below (T12.setTop (mkF m 212 #[.val (.int p0), .val (.int p1), .val (.int p2), .val (.int p3), .val (.int p4), .val (.int p5), .val (.int (3 : Int32)), .val (.int v0), .val (.int v1), .val (.int v2), .val (.int v3), .val (.int v4), .val (.int v5), .val (.ref b1), .val (.ref b8), .val (.double (FP.i2d v1)), .second, .val (.int (1 : Int32)), .val (.int (1 : Int32))] [(.ref b1), (.double (FP.dmul (FP.i2d v1) 4611686018427387904))])) _
    refine XS.iload X12.here hx rfl (hb hby at_212) rfl ?_
    show Steps p.tables e below (T12.setTop (mkF m 214 #[.val (.int p0), .val (.int p1), .val (.int p2), .val (.int p3), .val (.int p4), .val (.int p5), .val (.int (3 : Int32)), .val (.int v0), .val (.int v1), .val (.int v2), .val (.int v3), .val (.int v4), .val (.int v5), .val (.ref b1), .val (.ref b8), .val (.double (FP.i2d v1)), .second, .val (.int (1 : Int32)), .val (.int (1 : Int32))] [(.int (1 : Int32)), (.ref b1), (.double (FP.dmul (FP.i2d v1) 4611686018427387904))])) _
    refine X12.iaload hx (j := (1 : Int32)) (v := (.int v1)) (by rw [e12]; exact Ar14.1) (State.isArrayOf_alike hZ.alike Ar14.2.1) Ar14.2.2 hin14 hat14 (g := (mkF m 214 #[.val (.int p0), .val (.int p1), .val (.int p2), .val (.int p3), .val (.int p4), .val (.int p5), .val (.int (3 : Int32)), .val (.int v0), .val (.int v1), .val (.int v2), .val (.int v3), .val (.int v4), .val (.int v5), .val (.ref b1), .val (.ref b8), .val (.double (FP.i2d v1)), .second, .val (.int (1 : Int32)), .val (.int (1 : Int32))] [(.int (1 : Int32)), (.ref b1), (.double (FP.dmul (FP.i2d v1) 4611686018427387904))])) rfl rfl (hb hby at_214) _ ?_
    show Steps p.tables e below (T12.setTop (mkF m 215 #[.val (.int p0), .val (.int p1), .val (.int p2), .val (.int p3), .val (.int p4), .val (.int p5), .val (.int (3 : Int32)), .val (.int v0), .val (.int v1), .val (.int v2), .val (.int v3), .val (.int v4), .val (.int v5), .val (.ref b1), .val (.ref b8), .val (.double (FP.i2d v1)), .second, .val (.int (1 : Int32)), .val (.int (1 : Int32))] [(.int v1), (.double (FP.dmul (FP.i2d v1) 4611686018427387904))])) _
    refine XS.aload X12.here hx rfl (hb hby at_215) rfl rfl ?_
    show Steps p.tables e below (T12.setTop (mkF m 217 #[.val (.int p0), .val (.int p1), .val (.int p2), .val (.int p3), .val (.int p4), .val (.int p5), .val (.int (3 : Int32)), .val (.int v0), .val (.int v1), .val (.int v2), .val (.int v3), .val (.int v4), .val (.int v5), .val (.ref b1), .val (.ref b8), .val (.double (FP.i2d v1)), .second, .val (.int (1 : Int32)), .val (.int (1 : Int32))] [(.ref b1), (.int v1), (.double (FP.dmul (FP.i2d v1) 4611686018427387904))])) _
    refine XS.iload X12.here hx rfl (hb hby at_217) rfl ?_
    show Steps p.tables e below (T12.setTop (mkF m 219 #[.val (.int p0), .val (.int p1), .val (.int p2), .val (.int p3), .val (.int p4), .val (.int p5), .val (.int (3 : Int32)), .val (.int v0), .val (.int v1), .val (.int v2), .val (.int v3), .val (.int v4), .val (.int v5), .val (.ref b1), .val (.ref b8), .val (.double (FP.i2d v1)), .second, .val (.int (1 : Int32)), .val (.int (1 : Int32))] [(.int (1 : Int32)), (.ref b1), (.int v1), (.double (FP.dmul (FP.i2d v1) 4611686018427387904))])) _
    refine X12.iaload hx (j := (1 : Int32)) (v := (.int v1)) (by rw [e12]; exact Ar15.1) (State.isArrayOf_alike hZ.alike Ar15.2.1) Ar15.2.2 hin15 hat15 (g := (mkF m 219 #[.val (.int p0), .val (.int p1), .val (.int p2), .val (.int p3), .val (.int p4), .val (.int p5), .val (.int (3 : Int32)), .val (.int v0), .val (.int v1), .val (.int v2), .val (.int v3), .val (.int v4), .val (.int v5), .val (.ref b1), .val (.ref b8), .val (.double (FP.i2d v1)), .second, .val (.int (1 : Int32)), .val (.int (1 : Int32))] [(.int (1 : Int32)), (.ref b1), (.int v1), (.double (FP.dmul (FP.i2d v1) 4611686018427387904))])) rfl rfl (hb hby at_219) _ ?_
    show Steps p.tables e below (T12.setTop (mkF m 220 #[.val (.int p0), .val (.int p1), .val (.int p2), .val (.int p3), .val (.int p4), .val (.int p5), .val (.int (3 : Int32)), .val (.int v0), .val (.int v1), .val (.int v2), .val (.int v3), .val (.int v4), .val (.int v5), .val (.ref b1), .val (.ref b8), .val (.double (FP.i2d v1)), .second, .val (.int (1 : Int32)), .val (.int (1 : Int32))] [(.int v1), (.int v1), (.double (FP.dmul (FP.i2d v1) 4611686018427387904))])) _
    refine XS.iadd X12.here hx rfl (hb hby at_220) rfl ?_
    show Steps p.tables e below (T12.setTop (mkF m 221 #[.val (.int p0), .val (.int p1), .val (.int p2), .val (.int p3), .val (.int p4), .val (.int p5), .val (.int (3 : Int32)), .val (.int v0), .val (.int v1), .val (.int v2), .val (.int v3), .val (.int v4), .val (.int v5), .val (.ref b1), .val (.ref b8), .val (.double (FP.i2d v1)), .second, .val (.int (1 : Int32)), .val (.int (1 : Int32))] [(.int (v1 + v1)), (.double (FP.dmul (FP.i2d v1) 4611686018427387904))])) _
    refine XS.i2dS X12.here hx rfl (hb hby at_221) rfl rfl ?_
    show Steps p.tables e below (T12.setTop (mkF m 222 #[.val (.int p0), .val (.int p1), .val (.int p2), .val (.int p3), .val (.int p4), .val (.int p5), .val (.int (3 : Int32)), .val (.int v0), .val (.int v1), .val (.int v2), .val (.int v3), .val (.int v4), .val (.int v5), .val (.ref b1), .val (.ref b8), .val (.double (FP.i2d v1)), .second, .val (.int (1 : Int32)), .val (.int (1 : Int32))] [(.double (FP.i2d (v1 + v1))), (.double (FP.dmul (FP.i2d v1) 4611686018427387904))])) _
    refine XS.dcmpS X12.here hx rfl (hb hby at_222) rfl (v := (0 : Int32)) (own_odd B1) ?_
    show Steps p.tables e below (T12.setTop (mkF m 223 #[.val (.int p0), .val (.int p1), .val (.int p2), .val (.int p3), .val (.int p4), .val (.int p5), .val (.int (3 : Int32)), .val (.int v0), .val (.int v1), .val (.int v2), .val (.int v3), .val (.int v4), .val (.int v5), .val (.ref b1), .val (.ref b8), .val (.double (FP.i2d v1)), .second, .val (.int (1 : Int32)), .val (.int (1 : Int32))] [(.int (0 : Int32))])) _
    refine XS.ifNo X12.here hx rfl (hb hby at_223) rfl ((if0 _ _).trans (teq (rfl : (0 : Int32) = (0 : Int32))).2) ?_
    show Steps p.tables e below (T12.setTop (mkF m 226 #[.val (.int p0), .val (.int p1), .val (.int p2), .val (.int p3), .val (.int p4), .val (.int p5), .val (.int (3 : Int32)), .val (.int v0), .val (.int v1), .val (.int v2), .val (.int v3), .val (.int v4), .val (.int v5), .val (.ref b1), .val (.ref b8), .val (.double (FP.i2d v1)), .second, .val (.int (1 : Int32)), .val (.int (1 : Int32))] [])) _
    refine XS.iconst X12.here hx rfl (hb hby at_226) ?_
    show Steps p.tables e below (T12.setTop (mkF m 227 #[.val (.int p0), .val (.int p1), .val (.int p2), .val (.int p3), .val (.int p4), .val (.int p5), .val (.int (3 : Int32)), .val (.int v0), .val (.int v1), .val (.int v2), .val (.int v3), .val (.int v4), .val (.int v5), .val (.ref b1), .val (.ref b8), .val (.double (FP.i2d v1)), .second, .val (.int (1 : Int32)), .val (.int (1 : Int32))] [(.int (1 : Int32))])) _
    refine XS.goto X12.here hx rfl (pc0 := 227) (pc' := 231) rfl (hb hby at_227) (by decide) (by decide) ?_
    show Steps p.tables e below (T12.setTop (mkF m 231 #[.val (.int p0), .val (.int p1), .val (.int p2), .val (.int p3), .val (.int p4), .val (.int p5), .val (.int (3 : Int32)), .val (.int v0), .val (.int v1), .val (.int v2), .val (.int v3), .val (.int v4), .val (.int v5), .val (.ref b1), .val (.ref b8), .val (.double (FP.i2d v1)), .second, .val (.int (1 : Int32)), .val (.int (1 : Int32))] [(.int (1 : Int32))])) _
    exact retN X12 hx (t := .boolean) Bd.returns (by simp) (hb hby at_231) hr
  · show Q_rm0_3 Z p0 p1 p2 p3 p4 p5 v0 v1 v2 v3 v4 v5 h0 n0 _ T12.heap _
    rw [e12]
    exact ⟨rfl, N12⟩
def Q_rm0_4 (Z : State) (p0 : Int32) (p1 : Int32) (p2 : Int32) (p3 : Int32) (p4 : Int32) (p5 : Int32) (v0 : Int32) (v1 : Int32) (v2 : Int32) (v3 : Int32) (v4 : Int32) (v5 : Int32) (h0 : Heap) (n0 : Nat) (v : Option Value) (h : Heap) (L : List Loc) : Prop := v = some (.int (1 : Int32)) ∧ Fr n0 L
theorem ef_rm0_4 (m : MethodId) (p0 : Int32) (p1 : Int32) (p2 : Int32) (p3 : Int32) (p4 : Int32) (p5 : Int32) : entryFrame m #[(.int p0), (.int p1), (.int p2), (.int p3), (.int p4), (.int p5)] maxLocals = mkF m 0 #[.val (.int p0), .val (.int p1), .val (.int p2), .val (.int p3), .val (.int p4), .val (.int p5), .unset, .unset, .unset, .unset, .unset, .unset, .unset, .unset, .unset, .unset, .unset, .unset, .unset] [] := by first | (simp [entryFrame, mkF, argsToLocals, Value.category, maxLocals]; done) | rfl
set_option maxRecDepth 65536 in
set_option maxHeartbeats 40000000 in
theorem rm0_4 (l : Launch) (Z : State) (a0 : Array Value) (hw : ∀ d ∈ tables_1, d.before a0 Z = true) (ws : List Jvm.Cond) (p0 : Int32) (p1 : Int32) (p2 : Int32) (p3 : Int32) (p4 : Int32) (p5 : Int32) (v0 : Int32) (v1 : Int32) (v2 : Int32) (v3 : Int32) (v4 : Int32) (v5 : Int32) (h0 : Heap) (n0 : Nat) (Z0 : n0 ≤ h0.size) (hn : (((p0 &&& (7 : Int32)) % (6 : Int32)) + (1 : Int32)) = (4 : Int32)) (hv0 : (((p0 >>> ((3 : Int32) &&& 31)) &&& (1048575 : Int32)) - (524288 : Int32)) = v0) (hv1 : (v0 + (p1 &&& (65535 : Int32))) = v1) (hv2 : (v1 + (p2 &&& (65535 : Int32))) = v2) (hv3 : (v2 + (p3 &&& (65535 : Int32))) = v3) (hv4 : (v3 + (p4 &&& (65535 : Int32))) = v4) (hv5 : (v4 + (p5 &&& (65535 : Int32))) = v5) :
    MetFree l x (head1 (Jvm.Cond.code x code maxLocals ret :: ws) room_1) (fun a U => a = #[(.int p0), (.int p1), (.int p2), (.int p3), (.int p4), (.int p5)] ∧ Z.Warmed39 U.vm ∧ U.heap = h0) (fun _ _ _ _ _ => True) (fun _ U o U' => ∃ v L, o = .returned v ∧ Q_rm0_4 Z p0 p1 p2 p3 p4 p5 v0 v1 v2 v3 v4 v5 h0 n0 v U'.heap L ∧ FrameEnd U o U' L room_1.cells room_1.slots) := by
  refine MetFree.of_bodySF (plainFor_of_name pn_1) hisR ?_
  intro p e s m args below meth c s₁ Bd hml0 hP hK
  obtain ⟨rfl, hZ, hh⟩ := hP
  have hx := Bd.exec
  have hby := Bd.bytes
  have hml : c.maxLocals = 19 := hml0
  have hown : s.vm.findClass "parkline/scenario/BenchMedianPinLaw" = some m.cls := findClass_of_methodNamed Bd.named
  have hnm := (name_of_methodNamed Bd.named Bd.method).1
  have X0 : Stand p l e room_1 s m #[(.int p0), (.int p1), (.int p2), (.int p3), (.int p4), (.int p5)] below meth c s₁ [] 0 0 := Stand.of_body Bd
  have e0 : s₁.heap = h0 := by rw [← hh, Bd.state]; rfl
  have N0 := Fr.nil n0
  have pre0 : ∀ t, Steps p.tables e below (s₁.setTop (mkF m 0 #[.val (.int p0), .val (.int p1), .val (.int p2), .val (.int p3), .val (.int p4), .val (.int p5), .unset, .unset, .unset, .unset, .unset, .unset, .unset, .unset, .unset, .unset, .unset, .unset, .unset] [])) t → Steps p.tables e below (s₁.setTop (entryFrame m #[(.int p0), (.int p1), (.int p2), (.int p3), (.int p4), (.int p5)] maxLocals)) t := fun t k => castTop (ef_rm0_4 m p0 p1 p2 p3 p4 p5) k
  obtain ⟨B0, B1, B2, B3, B4, B5⟩ := own_b p0 p1 p2 p3 p4 p5 v0 v1 v2 v3 v4 v5 hv0 hv1 hv2 hv3 hv4 hv5
  obtain ⟨T1, h1, k1, X1, e1, E1, A1, st1⟩ := newP X0 hx hZ (hw _ (List.mem_of_getElem? (i := 3) rfl)) e0 (g := (mkF m 71 #[.val (.int p0), .val (.int p1), .val (.int p2), .val (.int p3), .val (.int p4), .val (.int p5), .val (.int (4 : Int32)), .val (.int v0), .val (.int v1), .val (.int v2), .val (.int v3), .val (.int v4), .val (.int v5), .unset, .unset, .unset, .unset, .unset, .unset] [(.int (6 : Int32))])) rfl (hb hby at_71) rfl (by decide) (cap := 6) (by decide) (by decide) (by decide) (by decide)
  obtain ⟨b1, g1⟩ : ∃ z, z = h0.size := ⟨_, rfl⟩
  rw [← g1] at A1 st1
  have V1 : Arv Z h1 b1 k1 .int (6 : Int32) [(.int (0 : Int32)), (.int (0 : Int32)), (.int (0 : Int32)), (.int (0 : Int32)), (.int (0 : Int32)), (.int (0 : Int32))] (.int (0 : Int32)) := (Arv.new A1 (by decide)).pad (pad_rep [] (.int (0 : Int32)) 6)
  have Vc2 := V1
  obtain ⟨cl2, Ar2, q2, S2, M2, H2, G2⟩ := Vc2
  have hin2 : ¬ ((0 : Int32) < 0 ∨ cl2.slots.size ≤ ((0 : Int32)).toNatClampNeg) := inb_of S2 ⟨by decide, by decide⟩
  obtain ⟨T2, h2, X2, e2, W2, st2⟩ := stI X1 hx hZ e1 Ar2 (j := (0 : Int32)) hin2 (g := (mkF m 77 #[.val (.int p0), .val (.int p1), .val (.int p2), .val (.int p3), .val (.int p4), .val (.int p5), .val (.int (4 : Int32)), .val (.int v0), .val (.int v1), .val (.int v2), .val (.int v3), .val (.int v4), .val (.int v5), .unset, .unset, .unset, .unset, .unset, .unset] [(.int v0), (.int (0 : Int32)), (.ref b1), (.ref b1)])) rfl rfl (hb hby at_77)
  have V2 : Arv Z h2 b1 k1 .int (6 : Int32) [(.int v0), (.int (0 : Int32)), (.int (0 : Int32)), (.int (0 : Int32)), (.int (0 : Int32)), (.int (0 : Int32))] (.int (0 : Int32)) := Arv.set Ar2 q2 S2 M2 H2 G2 rfl W2 0 rfl (Nat.le_of_ble_eq_true rfl)
  have N2 := Fr.snoc X2 N0 (Nat.le_trans Z0 (Nat.le_of_eq g1.symm))
  have Vc3 := V2
  obtain ⟨cl3, Ar3, q3, S3, M3, H3, G3⟩ := Vc3
  have hin3 : ¬ ((1 : Int32) < 0 ∨ cl3.slots.size ≤ ((1 : Int32)).toNatClampNeg) := inb_of S3 ⟨by decide, by decide⟩
  obtain ⟨T3, h3, X3, e3, W3, st3⟩ := stI X2 hx hZ e2 Ar3 (j := (1 : Int32)) hin3 (g := (mkF m 82 #[.val (.int p0), .val (.int p1), .val (.int p2), .val (.int p3), .val (.int p4), .val (.int p5), .val (.int (4 : Int32)), .val (.int v0), .val (.int v1), .val (.int v2), .val (.int v3), .val (.int v4), .val (.int v5), .unset, .unset, .unset, .unset, .unset, .unset] [(.int v1), (.int (1 : Int32)), (.ref b1), (.ref b1)])) rfl rfl (hb hby at_82)
  have V3 : Arv Z h3 b1 k1 .int (6 : Int32) [(.int v0), (.int v1), (.int (0 : Int32)), (.int (0 : Int32)), (.int (0 : Int32)), (.int (0 : Int32))] (.int (0 : Int32)) := Arv.set Ar3 q3 S3 M3 H3 G3 rfl W3 1 rfl (Nat.le_of_ble_eq_true rfl)
  have N3 := Fr.snoc X3 N2 (Nat.le_trans Z0 (Nat.le_of_eq g1.symm))
  have Vc4 := V3
  obtain ⟨cl4, Ar4, q4, S4, M4, H4, G4⟩ := Vc4
  have hin4 : ¬ ((2 : Int32) < 0 ∨ cl4.slots.size ≤ ((2 : Int32)).toNatClampNeg) := inb_of S4 ⟨by decide, by decide⟩
  obtain ⟨T4, h4, X4, e4, W4, st4⟩ := stI X3 hx hZ e3 Ar4 (j := (2 : Int32)) hin4 (g := (mkF m 87 #[.val (.int p0), .val (.int p1), .val (.int p2), .val (.int p3), .val (.int p4), .val (.int p5), .val (.int (4 : Int32)), .val (.int v0), .val (.int v1), .val (.int v2), .val (.int v3), .val (.int v4), .val (.int v5), .unset, .unset, .unset, .unset, .unset, .unset] [(.int v2), (.int (2 : Int32)), (.ref b1), (.ref b1)])) rfl rfl (hb hby at_87)
  have V4 : Arv Z h4 b1 k1 .int (6 : Int32) [(.int v0), (.int v1), (.int v2), (.int (0 : Int32)), (.int (0 : Int32)), (.int (0 : Int32))] (.int (0 : Int32)) := Arv.set Ar4 q4 S4 M4 H4 G4 rfl W4 2 rfl (Nat.le_of_ble_eq_true rfl)
  have N4 := Fr.snoc X4 N3 (Nat.le_trans Z0 (Nat.le_of_eq g1.symm))
  have Vc5 := V4
  obtain ⟨cl5, Ar5, q5, S5, M5, H5, G5⟩ := Vc5
  have hin5 : ¬ ((3 : Int32) < 0 ∨ cl5.slots.size ≤ ((3 : Int32)).toNatClampNeg) := inb_of S5 ⟨by decide, by decide⟩
  obtain ⟨T5, h5, X5, e5, W5, st5⟩ := stI X4 hx hZ e4 Ar5 (j := (3 : Int32)) hin5 (g := (mkF m 92 #[.val (.int p0), .val (.int p1), .val (.int p2), .val (.int p3), .val (.int p4), .val (.int p5), .val (.int (4 : Int32)), .val (.int v0), .val (.int v1), .val (.int v2), .val (.int v3), .val (.int v4), .val (.int v5), .unset, .unset, .unset, .unset, .unset, .unset] [(.int v3), (.int (3 : Int32)), (.ref b1), (.ref b1)])) rfl rfl (hb hby at_92)
  have V5 : Arv Z h5 b1 k1 .int (6 : Int32) [(.int v0), (.int v1), (.int v2), (.int v3), (.int (0 : Int32)), (.int (0 : Int32))] (.int (0 : Int32)) := Arv.set Ar5 q5 S5 M5 H5 G5 rfl W5 3 rfl (Nat.le_of_ble_eq_true rfl)
  have N5 := Fr.snoc X5 N4 (Nat.le_trans Z0 (Nat.le_of_eq g1.symm))
  have Vc6 := V5
  obtain ⟨cl6, Ar6, q6, S6, M6, H6, G6⟩ := Vc6
  have hin6 : ¬ ((4 : Int32) < 0 ∨ cl6.slots.size ≤ ((4 : Int32)).toNatClampNeg) := inb_of S6 ⟨by decide, by decide⟩
  obtain ⟨T6, h6, X6, e6, W6, st6⟩ := stI X5 hx hZ e5 Ar6 (j := (4 : Int32)) hin6 (g := (mkF m 97 #[.val (.int p0), .val (.int p1), .val (.int p2), .val (.int p3), .val (.int p4), .val (.int p5), .val (.int (4 : Int32)), .val (.int v0), .val (.int v1), .val (.int v2), .val (.int v3), .val (.int v4), .val (.int v5), .unset, .unset, .unset, .unset, .unset, .unset] [(.int v4), (.int (4 : Int32)), (.ref b1), (.ref b1)])) rfl rfl (hb hby at_97)
  have V6 : Arv Z h6 b1 k1 .int (6 : Int32) [(.int v0), (.int v1), (.int v2), (.int v3), (.int v4), (.int (0 : Int32))] (.int (0 : Int32)) := Arv.set Ar6 q6 S6 M6 H6 G6 rfl W6 4 rfl (Nat.le_of_ble_eq_true rfl)
  have N6 := Fr.snoc X6 N5 (Nat.le_trans Z0 (Nat.le_of_eq g1.symm))
  have Vc7 := V6
  obtain ⟨cl7, Ar7, q7, S7, M7, H7, G7⟩ := Vc7
  have hin7 : ¬ ((5 : Int32) < 0 ∨ cl7.slots.size ≤ ((5 : Int32)).toNatClampNeg) := inb_of S7 ⟨by decide, by decide⟩
  obtain ⟨T7, h7, X7, e7, W7, st7⟩ := stI X6 hx hZ e6 Ar7 (j := (5 : Int32)) hin7 (g := (mkF m 102 #[.val (.int p0), .val (.int p1), .val (.int p2), .val (.int p3), .val (.int p4), .val (.int p5), .val (.int (4 : Int32)), .val (.int v0), .val (.int v1), .val (.int v2), .val (.int v3), .val (.int v4), .val (.int v5), .unset, .unset, .unset, .unset, .unset, .unset] [(.int v5), (.int (5 : Int32)), (.ref b1), (.ref b1)])) rfl rfl (hb hby at_102)
  have V7 : Arv Z h7 b1 k1 .int (6 : Int32) [(.int v0), (.int v1), (.int v2), (.int v3), (.int v4), (.int v5)] (.int (0 : Int32)) := Arv.set Ar7 q7 S7 M7 H7 G7 rfl W7 5 rfl (Nat.le_of_ble_eq_true rfl)
  have N7 := Fr.snoc X7 N6 (Nat.le_trans Z0 (Nat.le_of_eq g1.symm))
  obtain ⟨T8, h8, k8, X8, e8, E8, A8, st8⟩ := newP X7 hx hZ (hw _ (List.mem_of_getElem? (i := 4) rfl)) e7 (g := (mkF m 107 #[.val (.int p0), .val (.int p1), .val (.int p2), .val (.int p3), .val (.int p4), .val (.int p5), .val (.int (4 : Int32)), .val (.int v0), .val (.int v1), .val (.int v2), .val (.int v3), .val (.int v4), .val (.int v5), .val (.ref b1), .unset, .unset, .unset, .unset, .unset] [(.int (4 : Int32))])) rfl (hb hby at_107) rfl (by decide) (cap := 4) (by decide) (by decide) (by decide) (by decide)
  obtain ⟨b8, g8⟩ : ∃ z, z = h7.size := ⟨_, rfl⟩
  rw [← g8] at A8 st8
  have V8 : Arv Z h8 b8 k8 .double (4 : Int32) [(.double 0), (.double 0), (.double 0), (.double 0)] (.double 0) := (Arv.new A8 (by decide)).pad (pad_rep [] (.double 0) 4)
  have Vc9 := V8
  obtain ⟨cl9, Ar9, q9, S9, M9, H9, G9⟩ := Vc9
  have hin9 : ¬ ((0 : Int32) < 0 ∨ cl9.slots.size ≤ ((0 : Int32)).toNatClampNeg) := inb_of S9 ⟨by decide, by decide⟩
  obtain ⟨T9, h9, X9, e9, W9, st9⟩ := stD X8 hx hZ e8 Ar9 (j := (0 : Int32)) hin9 (g := (mkF m 117 #[.val (.int p0), .val (.int p1), .val (.int p2), .val (.int p3), .val (.int p4), .val (.int p5), .val (.int (4 : Int32)), .val (.int v0), .val (.int v1), .val (.int v2), .val (.int v3), .val (.int v4), .val (.int v5), .val (.ref b1), .val (.ref b8), .unset, .unset, .unset, .unset] [(.double (FP.i2d v0)), (.int (0 : Int32)), (.ref b8)])) rfl rfl (hb hby at_117)
  have V9 : Arv Z h9 b8 k8 .double (4 : Int32) [(.double (FP.i2d v0)), (.double 0), (.double 0), (.double 0)] (.double 0) := Arv.set Ar9 q9 S9 M9 H9 G9 rfl W9 0 rfl (Nat.le_of_ble_eq_true rfl)
  have N9 := Fr.snoc X9 N7 (Nat.le_trans (Nat.le_trans (Nat.le_trans (Nat.le_trans (Nat.le_trans (Nat.le_trans (Nat.le_trans (Nat.le_trans Z0 E1.1) (Keep.of_wr W2).1) (Keep.of_wr W3).1) (Keep.of_wr W4).1) (Keep.of_wr W5).1) (Keep.of_wr W6).1) (Keep.of_wr W7).1) (Nat.le_of_eq g8.symm))
  have Vc10 := V9
  obtain ⟨cl10, Ar10, q10, S10, M10, H10, G10⟩ := Vc10
  have hin10 : ¬ ((1 : Int32) < 0 ∨ cl10.slots.size ≤ ((1 : Int32)).toNatClampNeg) := inb_of S10 ⟨by decide, by decide⟩
  obtain ⟨T10, h10, X10, e10, W10, st10⟩ := stD X9 hx hZ e9 Ar10 (j := (1 : Int32)) hin10 (g := (mkF m 130 #[.val (.int p0), .val (.int p1), .val (.int p2), .val (.int p3), .val (.int p4), .val (.int p5), .val (.int (4 : Int32)), .val (.int v0), .val (.int v1), .val (.int v2), .val (.int v3), .val (.int v4), .val (.int v5), .val (.ref b1), .val (.ref b8), .unset, .unset, .unset, .unset] [(.double (FP.i2d v1)), (.int (1 : Int32)), (.ref b8)])) rfl rfl (hb hby at_130)
  have V10 : Arv Z h10 b8 k8 .double (4 : Int32) [(.double (FP.i2d v0)), (.double (FP.i2d v1)), (.double 0), (.double 0)] (.double 0) := Arv.set Ar10 q10 S10 M10 H10 G10 rfl W10 1 rfl (Nat.le_of_ble_eq_true rfl)
  have N10 := Fr.snoc X10 N9 (Nat.le_trans (Nat.le_trans (Nat.le_trans (Nat.le_trans (Nat.le_trans (Nat.le_trans (Nat.le_trans (Nat.le_trans Z0 E1.1) (Keep.of_wr W2).1) (Keep.of_wr W3).1) (Keep.of_wr W4).1) (Keep.of_wr W5).1) (Keep.of_wr W6).1) (Keep.of_wr W7).1) (Nat.le_of_eq g8.symm))
  have Vc11 := V10
  obtain ⟨cl11, Ar11, q11, S11, M11, H11, G11⟩ := Vc11
  have hin11 : ¬ ((2 : Int32) < 0 ∨ cl11.slots.size ≤ ((2 : Int32)).toNatClampNeg) := inb_of S11 ⟨by decide, by decide⟩
  obtain ⟨T11, h11, X11, e11, W11, st11⟩ := stD X10 hx hZ e10 Ar11 (j := (2 : Int32)) hin11 (g := (mkF m 143 #[.val (.int p0), .val (.int p1), .val (.int p2), .val (.int p3), .val (.int p4), .val (.int p5), .val (.int (4 : Int32)), .val (.int v0), .val (.int v1), .val (.int v2), .val (.int v3), .val (.int v4), .val (.int v5), .val (.ref b1), .val (.ref b8), .unset, .unset, .unset, .unset] [(.double (FP.i2d v2)), (.int (2 : Int32)), (.ref b8)])) rfl rfl (hb hby at_143)
  have V11 : Arv Z h11 b8 k8 .double (4 : Int32) [(.double (FP.i2d v0)), (.double (FP.i2d v1)), (.double (FP.i2d v2)), (.double 0)] (.double 0) := Arv.set Ar11 q11 S11 M11 H11 G11 rfl W11 2 rfl (Nat.le_of_ble_eq_true rfl)
  have N11 := Fr.snoc X11 N10 (Nat.le_trans (Nat.le_trans (Nat.le_trans (Nat.le_trans (Nat.le_trans (Nat.le_trans (Nat.le_trans (Nat.le_trans Z0 E1.1) (Keep.of_wr W2).1) (Keep.of_wr W3).1) (Keep.of_wr W4).1) (Keep.of_wr W5).1) (Keep.of_wr W6).1) (Keep.of_wr W7).1) (Nat.le_of_eq g8.symm))
  have Vc12 := V11
  obtain ⟨cl12, Ar12, q12, S12, M12, H12, G12⟩ := Vc12
  have hin12 : ¬ ((3 : Int32) < 0 ∨ cl12.slots.size ≤ ((3 : Int32)).toNatClampNeg) := inb_of S12 ⟨by decide, by decide⟩
  obtain ⟨T12, h12, X12, e12, W12, st12⟩ := stD X11 hx hZ e11 Ar12 (j := (3 : Int32)) hin12 (g := (mkF m 156 #[.val (.int p0), .val (.int p1), .val (.int p2), .val (.int p3), .val (.int p4), .val (.int p5), .val (.int (4 : Int32)), .val (.int v0), .val (.int v1), .val (.int v2), .val (.int v3), .val (.int v4), .val (.int v5), .val (.ref b1), .val (.ref b8), .unset, .unset, .unset, .unset] [(.double (FP.i2d v3)), (.int (3 : Int32)), (.ref b8)])) rfl rfl (hb hby at_156)
  have V12 : Arv Z h12 b8 k8 .double (4 : Int32) [(.double (FP.i2d v0)), (.double (FP.i2d v1)), (.double (FP.i2d v2)), (.double (FP.i2d v3))] (.double 0) := Arv.set Ar12 q12 S12 M12 H12 G12 rfl W12 3 rfl (Nat.le_of_ble_eq_true rfl)
  have N12 := Fr.snoc X12 N11 (Nat.le_trans (Nat.le_trans (Nat.le_trans (Nat.le_trans (Nat.le_trans (Nat.le_trans (Nat.le_trans (Nat.le_trans Z0 E1.1) (Keep.of_wr W2).1) (Keep.of_wr W3).1) (Keep.of_wr W4).1) (Keep.of_wr W5).1) (Keep.of_wr W6).1) (Keep.of_wr W7).1) (Nat.le_of_eq g8.symm))
  obtain ⟨_, _, ⟨T13, L13, k13, n13⟩, -, X13, ⟨Lc13, hQ13, l13, y13, z13⟩, st13⟩ := Jvm.LawKit.callS X12 hx (y := (⟨"parkline/scenario/Bench", "median", "([D)D"⟩ : MethodName)) hown (mvT hZ (hw _ (List.mem_of_getElem? (i := 5) rfl))) (mvT hZ (hw _ (List.mem_of_getElem? (i := 6) rfl))) (mvT hZ (hw _ (List.mem_of_getElem? (i := 7) rfl))) (mvT hZ (hw _ (List.mem_of_getElem? (i := 8) rfl))) (by decide) (backOf (W := 0) (rmMed4 l Z a0 hw [] b8 k8 (FP.i2d v0) (FP.i2d v1) (FP.i2d v2) (FP.i2d v3) h12 n0 (Nat.le_trans (Nat.le_trans (Nat.le_trans (Nat.le_trans (Nat.le_trans (Nat.le_trans (Nat.le_trans (Nat.le_trans (Nat.le_trans (Nat.le_trans (Nat.le_trans (Nat.le_trans Z0 E1.1) (Keep.of_wr W2).1) (Keep.of_wr W3).1) (Keep.of_wr W4).1) (Keep.of_wr W5).1) (Keep.of_wr W6).1) (Keep.of_wr W7).1) E8.1) (Keep.of_wr W9).1) (Keep.of_wr W10).1) (Keep.of_wr W11).1) (Keep.of_wr W12).1) V12 (own_n27 B1 B2) (own_n31 B1 B2)) hZ (hw _ (List.mem_of_getElem? (i := 8) rfl)) (hw _ (List.mem_of_getElem? (i := 7) rfl)) (by decide) (by decide)) (g := (mkF m 185 #[.val (.int p0), .val (.int p1), .val (.int p2), .val (.int p3), .val (.int p4), .val (.int p5), .val (.int (4 : Int32)), .val (.int v0), .val (.int v1), .val (.int v2), .val (.int v3), .val (.int v4), .val (.int v5), .val (.ref b1), .val (.ref b8), .unset, .unset, .unset, .unset] [(.ref b8)])) rfl (by rw [hml]; rfl) (argsL := [(.ref b8)]) (rest := []) (lenOf pd_0 rfl) rfl (by show 2 * 0 + _ ≤ _; exact Nat.le_of_eq rfl) (hb hby at_185) (fun _ _ => ⟨rfl, e12, (by decide : 2 + 0 ≤ _), (by decide : 10 + 0 ≤ _)⟩)
  dsimp only [Pt.U, Pt.locs, Pt.cells, Pt.slots] at X13 l13 y13 z13 st13 hQ13
  subst l13 y13 z13
  obtain ⟨rfl, Nq13, e13⟩ := hQ13
  have N13 := Fr.app N12 Nq13
  have f14 : Arv Z h12 b1 k1 .int (6 : Int32) [(.int v0), (.int v1), (.int v2), (.int v3), (.int v4), (.int v5)] (.int (0 : Int32)) := (((((V7.ext E8).other W9 (Nat.ne_of_lt (Nat.lt_of_lt_of_le V7.lt (Nat.le_of_eq g8.symm)))).other W10 (Nat.ne_of_lt (Nat.lt_of_lt_of_le V7.lt (Nat.le_of_eq g8.symm)))).other W11 (Nat.ne_of_lt (Nat.lt_of_lt_of_le V7.lt (Nat.le_of_eq g8.symm)))).other W12 (Nat.ne_of_lt (Nat.lt_of_lt_of_le V7.lt (Nat.le_of_eq g8.symm))))
  have Vc15 := f14
  obtain ⟨cl15, Ar15, q15, S15, M15, H15, G15⟩ := Vc15
  have hin15 : ¬ ((1 : Int32) < 0 ∨ cl15.slots.size ≤ ((1 : Int32)).toNatClampNeg) := inb_of S15 ⟨by decide, by decide⟩
  have hat15 : cl15.slots[((1 : Int32)).toNatClampNeg]? = some (.int v1) := Has.at H15 hin15 rfl
  have Vc16 := f14
  obtain ⟨cl16, Ar16, q16, S16, M16, H16, G16⟩ := Vc16
  have hin16 : ¬ ((2 : Int32) < 0 ∨ cl16.slots.size ≤ ((2 : Int32)).toNatClampNeg) := inb_of S16 ⟨by decide, by decide⟩
  have hat16 : cl16.slots[((2 : Int32)).toNatClampNeg]? = some (.int v2) := Has.at H16 hin16 rfl
  obtain ⟨fs, hr, hrun, hended, hW, hsame⟩ := X13.leave (v := some (.int (1 : Int32))) (fun h => by rw [Bd.returns] at h; cases h)
  refine ⟨_, _, pre0 _ ?_, hrun, hended, _, _, rfl, ?_, ⟨_, rfl⟩, hW, hsame.mono (by decide) (by decide)⟩
  · show Steps p.tables e below (s₁.setTop (mkF m 0 #[.val (.int p0), .val (.int p1), .val (.int p2), .val (.int p3), .val (.int p4), .val (.int p5), .unset, .unset, .unset, .unset, .unset, .unset, .unset, .unset, .unset, .unset, .unset, .unset, .unset] [])) _
    refine XS.iloadN X0.here hx rfl (hb hby at_0) rfl ?_
    show Steps p.tables e below (s₁.setTop (mkF m 1 #[.val (.int p0), .val (.int p1), .val (.int p2), .val (.int p3), .val (.int p4), .val (.int p5), .unset, .unset, .unset, .unset, .unset, .unset, .unset, .unset, .unset, .unset, .unset, .unset, .unset] [(.int p0)])) _
    refine XS.bipush X0.here hx rfl (hb hby at_1) ?_
    show Steps p.tables e below (s₁.setTop (mkF m 3 #[.val (.int p0), .val (.int p1), .val (.int p2), .val (.int p3), .val (.int p4), .val (.int p5), .unset, .unset, .unset, .unset, .unset, .unset, .unset, .unset, .unset, .unset, .unset, .unset, .unset] [(.int (7 : Int32)), (.int p0)])) _
    refine XS.iand X0.here hx rfl (hb hby at_3) rfl ?_
    show Steps p.tables e below (s₁.setTop (mkF m 4 #[.val (.int p0), .val (.int p1), .val (.int p2), .val (.int p3), .val (.int p4), .val (.int p5), .unset, .unset, .unset, .unset, .unset, .unset, .unset, .unset, .unset, .unset, .unset, .unset, .unset] [(.int (p0 &&& (7 : Int32)))])) _
    refine XS.bipush X0.here hx rfl (hb hby at_4) ?_
    show Steps p.tables e below (s₁.setTop (mkF m 6 #[.val (.int p0), .val (.int p1), .val (.int p2), .val (.int p3), .val (.int p4), .val (.int p5), .unset, .unset, .unset, .unset, .unset, .unset, .unset, .unset, .unset, .unset, .unset, .unset, .unset] [(.int (6 : Int32)), (.int (p0 &&& (7 : Int32)))])) _
    refine iremM X0 hx (g := (mkF m 6 #[.val (.int p0), .val (.int p1), .val (.int p2), .val (.int p3), .val (.int p4), .val (.int p5), .unset, .unset, .unset, .unset, .unset, .unset, .unset, .unset, .unset, .unset, .unset, .unset, .unset] [(.int (6 : Int32)), (.int (p0 &&& (7 : Int32)))])) rfl (hb hby at_6) rfl (by decide) ?_
    show Steps p.tables e below (s₁.setTop (mkF m 7 #[.val (.int p0), .val (.int p1), .val (.int p2), .val (.int p3), .val (.int p4), .val (.int p5), .unset, .unset, .unset, .unset, .unset, .unset, .unset, .unset, .unset, .unset, .unset, .unset, .unset] [(.int ((p0 &&& (7 : Int32)) % (6 : Int32)))])) _
    refine XS.iconst X0.here hx rfl (hb hby at_7) ?_
    show Steps p.tables e below (s₁.setTop (mkF m 8 #[.val (.int p0), .val (.int p1), .val (.int p2), .val (.int p3), .val (.int p4), .val (.int p5), .unset, .unset, .unset, .unset, .unset, .unset, .unset, .unset, .unset, .unset, .unset, .unset, .unset] [(.int (1 : Int32)), (.int ((p0 &&& (7 : Int32)) % (6 : Int32)))])) _
    refine XS.iadd X0.here hx rfl (hb hby at_8) rfl ?_
    show Steps p.tables e below (s₁.setTop (mkF m 9 #[.val (.int p0), .val (.int p1), .val (.int p2), .val (.int p3), .val (.int p4), .val (.int p5), .unset, .unset, .unset, .unset, .unset, .unset, .unset, .unset, .unset, .unset, .unset, .unset, .unset] [(.int (((p0 &&& (7 : Int32)) % (6 : Int32)) + (1 : Int32)))])) _
    rw [hn]
    show Steps p.tables e below (s₁.setTop (mkF m 9 #[.val (.int p0), .val (.int p1), .val (.int p2), .val (.int p3), .val (.int p4), .val (.int p5), .unset, .unset, .unset, .unset, .unset, .unset, .unset, .unset, .unset, .unset, .unset, .unset, .unset] [(.int (4 : Int32))])) _
    refine XS.istore X0.here hx rfl (hb hby at_9) rfl (l' := #[.val (.int p0), .val (.int p1), .val (.int p2), .val (.int p3), .val (.int p4), .val (.int p5), .val (.int (4 : Int32)), .unset, .unset, .unset, .unset, .unset, .unset, .unset, .unset, .unset, .unset, .unset, .unset]) rfl ?_
    show Steps p.tables e below (s₁.setTop (mkF m 11 #[.val (.int p0), .val (.int p1), .val (.int p2), .val (.int p3), .val (.int p4), .val (.int p5), .val (.int (4 : Int32)), .unset, .unset, .unset, .unset, .unset, .unset, .unset, .unset, .unset, .unset, .unset, .unset] [])) _
    refine XS.iloadN X0.here hx rfl (hb hby at_11) rfl ?_
    show Steps p.tables e below (s₁.setTop (mkF m 12 #[.val (.int p0), .val (.int p1), .val (.int p2), .val (.int p3), .val (.int p4), .val (.int p5), .val (.int (4 : Int32)), .unset, .unset, .unset, .unset, .unset, .unset, .unset, .unset, .unset, .unset, .unset, .unset] [(.int p0)])) _
    refine XS.iconst X0.here hx rfl (hb hby at_12) ?_
    show Steps p.tables e below (s₁.setTop (mkF m 13 #[.val (.int p0), .val (.int p1), .val (.int p2), .val (.int p3), .val (.int p4), .val (.int p5), .val (.int (4 : Int32)), .unset, .unset, .unset, .unset, .unset, .unset, .unset, .unset, .unset, .unset, .unset, .unset] [(.int (3 : Int32)), (.int p0)])) _
    refine XS.ishr X0.here hx rfl (hb hby at_13) rfl ?_
    show Steps p.tables e below (s₁.setTop (mkF m 14 #[.val (.int p0), .val (.int p1), .val (.int p2), .val (.int p3), .val (.int p4), .val (.int p5), .val (.int (4 : Int32)), .unset, .unset, .unset, .unset, .unset, .unset, .unset, .unset, .unset, .unset, .unset, .unset] [(.int (p0 >>> ((3 : Int32) &&& 31)))])) _
    refine X0.ldcInt hx hown (mvT hZ (hw _ (List.mem_of_getElem? (i := 0) rfl))) (g := (mkF m 14 #[.val (.int p0), .val (.int p1), .val (.int p2), .val (.int p3), .val (.int p4), .val (.int p5), .val (.int (4 : Int32)), .unset, .unset, .unset, .unset, .unset, .unset, .unset, .unset, .unset, .unset, .unset, .unset] [(.int (p0 >>> ((3 : Int32) &&& 31)))])) rfl (hb hby at_14) _ ?_
    show Steps p.tables e below (s₁.setTop (mkF m 16 #[.val (.int p0), .val (.int p1), .val (.int p2), .val (.int p3), .val (.int p4), .val (.int p5), .val (.int (4 : Int32)), .unset, .unset, .unset, .unset, .unset, .unset, .unset, .unset, .unset, .unset, .unset, .unset] [(.int (1048575 : Int32)), (.int (p0 >>> ((3 : Int32) &&& 31)))])) _
    refine XS.iand X0.here hx rfl (hb hby at_16) rfl ?_
    show Steps p.tables e below (s₁.setTop (mkF m 17 #[.val (.int p0), .val (.int p1), .val (.int p2), .val (.int p3), .val (.int p4), .val (.int p5), .val (.int (4 : Int32)), .unset, .unset, .unset, .unset, .unset, .unset, .unset, .unset, .unset, .unset, .unset, .unset] [(.int ((p0 >>> ((3 : Int32) &&& 31)) &&& (1048575 : Int32)))])) _
    refine X0.ldcInt hx hown (mvT hZ (hw _ (List.mem_of_getElem? (i := 1) rfl))) (g := (mkF m 17 #[.val (.int p0), .val (.int p1), .val (.int p2), .val (.int p3), .val (.int p4), .val (.int p5), .val (.int (4 : Int32)), .unset, .unset, .unset, .unset, .unset, .unset, .unset, .unset, .unset, .unset, .unset, .unset] [(.int ((p0 >>> ((3 : Int32) &&& 31)) &&& (1048575 : Int32)))])) rfl (hb hby at_17) _ ?_
    show Steps p.tables e below (s₁.setTop (mkF m 19 #[.val (.int p0), .val (.int p1), .val (.int p2), .val (.int p3), .val (.int p4), .val (.int p5), .val (.int (4 : Int32)), .unset, .unset, .unset, .unset, .unset, .unset, .unset, .unset, .unset, .unset, .unset, .unset] [(.int (524288 : Int32)), (.int ((p0 >>> ((3 : Int32) &&& 31)) &&& (1048575 : Int32)))])) _
    refine XS.isub X0.here hx rfl (hb hby at_19) rfl ?_
    show Steps p.tables e below (s₁.setTop (mkF m 20 #[.val (.int p0), .val (.int p1), .val (.int p2), .val (.int p3), .val (.int p4), .val (.int p5), .val (.int (4 : Int32)), .unset, .unset, .unset, .unset, .unset, .unset, .unset, .unset, .unset, .unset, .unset, .unset] [(.int (((p0 >>> ((3 : Int32) &&& 31)) &&& (1048575 : Int32)) - (524288 : Int32)))])) _
    rw [hv0]
    show Steps p.tables e below (s₁.setTop (mkF m 20 #[.val (.int p0), .val (.int p1), .val (.int p2), .val (.int p3), .val (.int p4), .val (.int p5), .val (.int (4 : Int32)), .unset, .unset, .unset, .unset, .unset, .unset, .unset, .unset, .unset, .unset, .unset, .unset] [(.int v0)])) _
    refine XS.istore X0.here hx rfl (hb hby at_20) rfl (l' := #[.val (.int p0), .val (.int p1), .val (.int p2), .val (.int p3), .val (.int p4), .val (.int p5), .val (.int (4 : Int32)), .val (.int v0), .unset, .unset, .unset, .unset, .unset, .unset, .unset, .unset, .unset, .unset, .unset]) rfl ?_
    show Steps p.tables e below (s₁.setTop (mkF m 22 #[.val (.int p0), .val (.int p1), .val (.int p2), .val (.int p3), .val (.int p4), .val (.int p5), .val (.int (4 : Int32)), .val (.int v0), .unset, .unset, .unset, .unset, .unset, .unset, .unset, .unset, .unset, .unset, .unset] [])) _
    refine XS.iload X0.here hx rfl (hb hby at_22) rfl ?_
    show Steps p.tables e below (s₁.setTop (mkF m 24 #[.val (.int p0), .val (.int p1), .val (.int p2), .val (.int p3), .val (.int p4), .val (.int p5), .val (.int (4 : Int32)), .val (.int v0), .unset, .unset, .unset, .unset, .unset, .unset, .unset, .unset, .unset, .unset, .unset] [(.int v0)])) _
    refine XS.iloadN X0.here hx rfl (hb hby at_24) rfl ?_
    show Steps p.tables e below (s₁.setTop (mkF m 25 #[.val (.int p0), .val (.int p1), .val (.int p2), .val (.int p3), .val (.int p4), .val (.int p5), .val (.int (4 : Int32)), .val (.int v0), .unset, .unset, .unset, .unset, .unset, .unset, .unset, .unset, .unset, .unset, .unset] [(.int p1), (.int v0)])) _
    refine X0.ldcInt hx hown (mvT hZ (hw _ (List.mem_of_getElem? (i := 2) rfl))) (g := (mkF m 25 #[.val (.int p0), .val (.int p1), .val (.int p2), .val (.int p3), .val (.int p4), .val (.int p5), .val (.int (4 : Int32)), .val (.int v0), .unset, .unset, .unset, .unset, .unset, .unset, .unset, .unset, .unset, .unset, .unset] [(.int p1), (.int v0)])) rfl (hb hby at_25) _ ?_
    show Steps p.tables e below (s₁.setTop (mkF m 27 #[.val (.int p0), .val (.int p1), .val (.int p2), .val (.int p3), .val (.int p4), .val (.int p5), .val (.int (4 : Int32)), .val (.int v0), .unset, .unset, .unset, .unset, .unset, .unset, .unset, .unset, .unset, .unset, .unset] [(.int (65535 : Int32)), (.int p1), (.int v0)])) _
    refine XS.iand X0.here hx rfl (hb hby at_27) rfl ?_
    show Steps p.tables e below (s₁.setTop (mkF m 28 #[.val (.int p0), .val (.int p1), .val (.int p2), .val (.int p3), .val (.int p4), .val (.int p5), .val (.int (4 : Int32)), .val (.int v0), .unset, .unset, .unset, .unset, .unset, .unset, .unset, .unset, .unset, .unset, .unset] [(.int (p1 &&& (65535 : Int32))), (.int v0)])) _
    refine XS.iadd X0.here hx rfl (hb hby at_28) rfl ?_
    show Steps p.tables e below (s₁.setTop (mkF m 29 #[.val (.int p0), .val (.int p1), .val (.int p2), .val (.int p3), .val (.int p4), .val (.int p5), .val (.int (4 : Int32)), .val (.int v0), .unset, .unset, .unset, .unset, .unset, .unset, .unset, .unset, .unset, .unset, .unset] [(.int (v0 + (p1 &&& (65535 : Int32))))])) _
    rw [hv1]
    show Steps p.tables e below (s₁.setTop (mkF m 29 #[.val (.int p0), .val (.int p1), .val (.int p2), .val (.int p3), .val (.int p4), .val (.int p5), .val (.int (4 : Int32)), .val (.int v0), .unset, .unset, .unset, .unset, .unset, .unset, .unset, .unset, .unset, .unset, .unset] [(.int v1)])) _
    refine XS.istore X0.here hx rfl (hb hby at_29) rfl (l' := #[.val (.int p0), .val (.int p1), .val (.int p2), .val (.int p3), .val (.int p4), .val (.int p5), .val (.int (4 : Int32)), .val (.int v0), .val (.int v1), .unset, .unset, .unset, .unset, .unset, .unset, .unset, .unset, .unset, .unset]) rfl ?_
    show Steps p.tables e below (s₁.setTop (mkF m 31 #[.val (.int p0), .val (.int p1), .val (.int p2), .val (.int p3), .val (.int p4), .val (.int p5), .val (.int (4 : Int32)), .val (.int v0), .val (.int v1), .unset, .unset, .unset, .unset, .unset, .unset, .unset, .unset, .unset, .unset] [])) _
    refine XS.iload X0.here hx rfl (hb hby at_31) rfl ?_
    show Steps p.tables e below (s₁.setTop (mkF m 33 #[.val (.int p0), .val (.int p1), .val (.int p2), .val (.int p3), .val (.int p4), .val (.int p5), .val (.int (4 : Int32)), .val (.int v0), .val (.int v1), .unset, .unset, .unset, .unset, .unset, .unset, .unset, .unset, .unset, .unset] [(.int v1)])) _
    refine XS.iloadN X0.here hx rfl (hb hby at_33) rfl ?_
    show Steps p.tables e below (s₁.setTop (mkF m 34 #[.val (.int p0), .val (.int p1), .val (.int p2), .val (.int p3), .val (.int p4), .val (.int p5), .val (.int (4 : Int32)), .val (.int v0), .val (.int v1), .unset, .unset, .unset, .unset, .unset, .unset, .unset, .unset, .unset, .unset] [(.int p2), (.int v1)])) _
    refine X0.ldcInt hx hown (mvT hZ (hw _ (List.mem_of_getElem? (i := 2) rfl))) (g := (mkF m 34 #[.val (.int p0), .val (.int p1), .val (.int p2), .val (.int p3), .val (.int p4), .val (.int p5), .val (.int (4 : Int32)), .val (.int v0), .val (.int v1), .unset, .unset, .unset, .unset, .unset, .unset, .unset, .unset, .unset, .unset] [(.int p2), (.int v1)])) rfl (hb hby at_34) _ ?_
    show Steps p.tables e below (s₁.setTop (mkF m 36 #[.val (.int p0), .val (.int p1), .val (.int p2), .val (.int p3), .val (.int p4), .val (.int p5), .val (.int (4 : Int32)), .val (.int v0), .val (.int v1), .unset, .unset, .unset, .unset, .unset, .unset, .unset, .unset, .unset, .unset] [(.int (65535 : Int32)), (.int p2), (.int v1)])) _
    refine XS.iand X0.here hx rfl (hb hby at_36) rfl ?_
    show Steps p.tables e below (s₁.setTop (mkF m 37 #[.val (.int p0), .val (.int p1), .val (.int p2), .val (.int p3), .val (.int p4), .val (.int p5), .val (.int (4 : Int32)), .val (.int v0), .val (.int v1), .unset, .unset, .unset, .unset, .unset, .unset, .unset, .unset, .unset, .unset] [(.int (p2 &&& (65535 : Int32))), (.int v1)])) _
    refine XS.iadd X0.here hx rfl (hb hby at_37) rfl ?_
    show Steps p.tables e below (s₁.setTop (mkF m 38 #[.val (.int p0), .val (.int p1), .val (.int p2), .val (.int p3), .val (.int p4), .val (.int p5), .val (.int (4 : Int32)), .val (.int v0), .val (.int v1), .unset, .unset, .unset, .unset, .unset, .unset, .unset, .unset, .unset, .unset] [(.int (v1 + (p2 &&& (65535 : Int32))))])) _
    rw [hv2]
    show Steps p.tables e below (s₁.setTop (mkF m 38 #[.val (.int p0), .val (.int p1), .val (.int p2), .val (.int p3), .val (.int p4), .val (.int p5), .val (.int (4 : Int32)), .val (.int v0), .val (.int v1), .unset, .unset, .unset, .unset, .unset, .unset, .unset, .unset, .unset, .unset] [(.int v2)])) _
    refine XS.istore X0.here hx rfl (hb hby at_38) rfl (l' := #[.val (.int p0), .val (.int p1), .val (.int p2), .val (.int p3), .val (.int p4), .val (.int p5), .val (.int (4 : Int32)), .val (.int v0), .val (.int v1), .val (.int v2), .unset, .unset, .unset, .unset, .unset, .unset, .unset, .unset, .unset]) rfl ?_
    show Steps p.tables e below (s₁.setTop (mkF m 40 #[.val (.int p0), .val (.int p1), .val (.int p2), .val (.int p3), .val (.int p4), .val (.int p5), .val (.int (4 : Int32)), .val (.int v0), .val (.int v1), .val (.int v2), .unset, .unset, .unset, .unset, .unset, .unset, .unset, .unset, .unset] [])) _
    refine XS.iload X0.here hx rfl (hb hby at_40) rfl ?_
    show Steps p.tables e below (s₁.setTop (mkF m 42 #[.val (.int p0), .val (.int p1), .val (.int p2), .val (.int p3), .val (.int p4), .val (.int p5), .val (.int (4 : Int32)), .val (.int v0), .val (.int v1), .val (.int v2), .unset, .unset, .unset, .unset, .unset, .unset, .unset, .unset, .unset] [(.int v2)])) _
    refine XS.iloadN X0.here hx rfl (hb hby at_42) rfl ?_
    show Steps p.tables e below (s₁.setTop (mkF m 43 #[.val (.int p0), .val (.int p1), .val (.int p2), .val (.int p3), .val (.int p4), .val (.int p5), .val (.int (4 : Int32)), .val (.int v0), .val (.int v1), .val (.int v2), .unset, .unset, .unset, .unset, .unset, .unset, .unset, .unset, .unset] [(.int p3), (.int v2)])) _
    refine X0.ldcInt hx hown (mvT hZ (hw _ (List.mem_of_getElem? (i := 2) rfl))) (g := (mkF m 43 #[.val (.int p0), .val (.int p1), .val (.int p2), .val (.int p3), .val (.int p4), .val (.int p5), .val (.int (4 : Int32)), .val (.int v0), .val (.int v1), .val (.int v2), .unset, .unset, .unset, .unset, .unset, .unset, .unset, .unset, .unset] [(.int p3), (.int v2)])) rfl (hb hby at_43) _ ?_
    show Steps p.tables e below (s₁.setTop (mkF m 45 #[.val (.int p0), .val (.int p1), .val (.int p2), .val (.int p3), .val (.int p4), .val (.int p5), .val (.int (4 : Int32)), .val (.int v0), .val (.int v1), .val (.int v2), .unset, .unset, .unset, .unset, .unset, .unset, .unset, .unset, .unset] [(.int (65535 : Int32)), (.int p3), (.int v2)])) _
    refine XS.iand X0.here hx rfl (hb hby at_45) rfl ?_
    show Steps p.tables e below (s₁.setTop (mkF m 46 #[.val (.int p0), .val (.int p1), .val (.int p2), .val (.int p3), .val (.int p4), .val (.int p5), .val (.int (4 : Int32)), .val (.int v0), .val (.int v1), .val (.int v2), .unset, .unset, .unset, .unset, .unset, .unset, .unset, .unset, .unset] [(.int (p3 &&& (65535 : Int32))), (.int v2)])) _
    refine XS.iadd X0.here hx rfl (hb hby at_46) rfl ?_
    show Steps p.tables e below (s₁.setTop (mkF m 47 #[.val (.int p0), .val (.int p1), .val (.int p2), .val (.int p3), .val (.int p4), .val (.int p5), .val (.int (4 : Int32)), .val (.int v0), .val (.int v1), .val (.int v2), .unset, .unset, .unset, .unset, .unset, .unset, .unset, .unset, .unset] [(.int (v2 + (p3 &&& (65535 : Int32))))])) _
    rw [hv3]
    show Steps p.tables e below (s₁.setTop (mkF m 47 #[.val (.int p0), .val (.int p1), .val (.int p2), .val (.int p3), .val (.int p4), .val (.int p5), .val (.int (4 : Int32)), .val (.int v0), .val (.int v1), .val (.int v2), .unset, .unset, .unset, .unset, .unset, .unset, .unset, .unset, .unset] [(.int v3)])) _
    refine XS.istore X0.here hx rfl (hb hby at_47) rfl (l' := #[.val (.int p0), .val (.int p1), .val (.int p2), .val (.int p3), .val (.int p4), .val (.int p5), .val (.int (4 : Int32)), .val (.int v0), .val (.int v1), .val (.int v2), .val (.int v3), .unset, .unset, .unset, .unset, .unset, .unset, .unset, .unset]) rfl ?_
    show Steps p.tables e below (s₁.setTop (mkF m 49 #[.val (.int p0), .val (.int p1), .val (.int p2), .val (.int p3), .val (.int p4), .val (.int p5), .val (.int (4 : Int32)), .val (.int v0), .val (.int v1), .val (.int v2), .val (.int v3), .unset, .unset, .unset, .unset, .unset, .unset, .unset, .unset] [])) _
    refine XS.iload X0.here hx rfl (hb hby at_49) rfl ?_
    show Steps p.tables e below (s₁.setTop (mkF m 51 #[.val (.int p0), .val (.int p1), .val (.int p2), .val (.int p3), .val (.int p4), .val (.int p5), .val (.int (4 : Int32)), .val (.int v0), .val (.int v1), .val (.int v2), .val (.int v3), .unset, .unset, .unset, .unset, .unset, .unset, .unset, .unset] [(.int v3)])) _
    refine XS.iload X0.here hx rfl (hb hby at_51) rfl ?_
    show Steps p.tables e below (s₁.setTop (mkF m 53 #[.val (.int p0), .val (.int p1), .val (.int p2), .val (.int p3), .val (.int p4), .val (.int p5), .val (.int (4 : Int32)), .val (.int v0), .val (.int v1), .val (.int v2), .val (.int v3), .unset, .unset, .unset, .unset, .unset, .unset, .unset, .unset] [(.int p4), (.int v3)])) _
    refine X0.ldcInt hx hown (mvT hZ (hw _ (List.mem_of_getElem? (i := 2) rfl))) (g := (mkF m 53 #[.val (.int p0), .val (.int p1), .val (.int p2), .val (.int p3), .val (.int p4), .val (.int p5), .val (.int (4 : Int32)), .val (.int v0), .val (.int v1), .val (.int v2), .val (.int v3), .unset, .unset, .unset, .unset, .unset, .unset, .unset, .unset] [(.int p4), (.int v3)])) rfl (hb hby at_53) _ ?_
    show Steps p.tables e below (s₁.setTop (mkF m 55 #[.val (.int p0), .val (.int p1), .val (.int p2), .val (.int p3), .val (.int p4), .val (.int p5), .val (.int (4 : Int32)), .val (.int v0), .val (.int v1), .val (.int v2), .val (.int v3), .unset, .unset, .unset, .unset, .unset, .unset, .unset, .unset] [(.int (65535 : Int32)), (.int p4), (.int v3)])) _
    refine XS.iand X0.here hx rfl (hb hby at_55) rfl ?_
    show Steps p.tables e below (s₁.setTop (mkF m 56 #[.val (.int p0), .val (.int p1), .val (.int p2), .val (.int p3), .val (.int p4), .val (.int p5), .val (.int (4 : Int32)), .val (.int v0), .val (.int v1), .val (.int v2), .val (.int v3), .unset, .unset, .unset, .unset, .unset, .unset, .unset, .unset] [(.int (p4 &&& (65535 : Int32))), (.int v3)])) _
    refine XS.iadd X0.here hx rfl (hb hby at_56) rfl ?_
    show Steps p.tables e below (s₁.setTop (mkF m 57 #[.val (.int p0), .val (.int p1), .val (.int p2), .val (.int p3), .val (.int p4), .val (.int p5), .val (.int (4 : Int32)), .val (.int v0), .val (.int v1), .val (.int v2), .val (.int v3), .unset, .unset, .unset, .unset, .unset, .unset, .unset, .unset] [(.int (v3 + (p4 &&& (65535 : Int32))))])) _
    rw [hv4]
    show Steps p.tables e below (s₁.setTop (mkF m 57 #[.val (.int p0), .val (.int p1), .val (.int p2), .val (.int p3), .val (.int p4), .val (.int p5), .val (.int (4 : Int32)), .val (.int v0), .val (.int v1), .val (.int v2), .val (.int v3), .unset, .unset, .unset, .unset, .unset, .unset, .unset, .unset] [(.int v4)])) _
    refine XS.istore X0.here hx rfl (hb hby at_57) rfl (l' := #[.val (.int p0), .val (.int p1), .val (.int p2), .val (.int p3), .val (.int p4), .val (.int p5), .val (.int (4 : Int32)), .val (.int v0), .val (.int v1), .val (.int v2), .val (.int v3), .val (.int v4), .unset, .unset, .unset, .unset, .unset, .unset, .unset]) rfl ?_
    show Steps p.tables e below (s₁.setTop (mkF m 59 #[.val (.int p0), .val (.int p1), .val (.int p2), .val (.int p3), .val (.int p4), .val (.int p5), .val (.int (4 : Int32)), .val (.int v0), .val (.int v1), .val (.int v2), .val (.int v3), .val (.int v4), .unset, .unset, .unset, .unset, .unset, .unset, .unset] [])) _
    refine XS.iload X0.here hx rfl (hb hby at_59) rfl ?_
    show Steps p.tables e below (s₁.setTop (mkF m 61 #[.val (.int p0), .val (.int p1), .val (.int p2), .val (.int p3), .val (.int p4), .val (.int p5), .val (.int (4 : Int32)), .val (.int v0), .val (.int v1), .val (.int v2), .val (.int v3), .val (.int v4), .unset, .unset, .unset, .unset, .unset, .unset, .unset] [(.int v4)])) _
    refine XS.iload X0.here hx rfl (hb hby at_61) rfl ?_
    show Steps p.tables e below (s₁.setTop (mkF m 63 #[.val (.int p0), .val (.int p1), .val (.int p2), .val (.int p3), .val (.int p4), .val (.int p5), .val (.int (4 : Int32)), .val (.int v0), .val (.int v1), .val (.int v2), .val (.int v3), .val (.int v4), .unset, .unset, .unset, .unset, .unset, .unset, .unset] [(.int p5), (.int v4)])) _
    refine X0.ldcInt hx hown (mvT hZ (hw _ (List.mem_of_getElem? (i := 2) rfl))) (g := (mkF m 63 #[.val (.int p0), .val (.int p1), .val (.int p2), .val (.int p3), .val (.int p4), .val (.int p5), .val (.int (4 : Int32)), .val (.int v0), .val (.int v1), .val (.int v2), .val (.int v3), .val (.int v4), .unset, .unset, .unset, .unset, .unset, .unset, .unset] [(.int p5), (.int v4)])) rfl (hb hby at_63) _ ?_
    show Steps p.tables e below (s₁.setTop (mkF m 65 #[.val (.int p0), .val (.int p1), .val (.int p2), .val (.int p3), .val (.int p4), .val (.int p5), .val (.int (4 : Int32)), .val (.int v0), .val (.int v1), .val (.int v2), .val (.int v3), .val (.int v4), .unset, .unset, .unset, .unset, .unset, .unset, .unset] [(.int (65535 : Int32)), (.int p5), (.int v4)])) _
    refine XS.iand X0.here hx rfl (hb hby at_65) rfl ?_
    show Steps p.tables e below (s₁.setTop (mkF m 66 #[.val (.int p0), .val (.int p1), .val (.int p2), .val (.int p3), .val (.int p4), .val (.int p5), .val (.int (4 : Int32)), .val (.int v0), .val (.int v1), .val (.int v2), .val (.int v3), .val (.int v4), .unset, .unset, .unset, .unset, .unset, .unset, .unset] [(.int (p5 &&& (65535 : Int32))), (.int v4)])) _
    refine XS.iadd X0.here hx rfl (hb hby at_66) rfl ?_
    show Steps p.tables e below (s₁.setTop (mkF m 67 #[.val (.int p0), .val (.int p1), .val (.int p2), .val (.int p3), .val (.int p4), .val (.int p5), .val (.int (4 : Int32)), .val (.int v0), .val (.int v1), .val (.int v2), .val (.int v3), .val (.int v4), .unset, .unset, .unset, .unset, .unset, .unset, .unset] [(.int (v4 + (p5 &&& (65535 : Int32))))])) _
    rw [hv5]
    show Steps p.tables e below (s₁.setTop (mkF m 67 #[.val (.int p0), .val (.int p1), .val (.int p2), .val (.int p3), .val (.int p4), .val (.int p5), .val (.int (4 : Int32)), .val (.int v0), .val (.int v1), .val (.int v2), .val (.int v3), .val (.int v4), .unset, .unset, .unset, .unset, .unset, .unset, .unset] [(.int v5)])) _
    refine XS.istore X0.here hx rfl (hb hby at_67) rfl (l' := #[.val (.int p0), .val (.int p1), .val (.int p2), .val (.int p3), .val (.int p4), .val (.int p5), .val (.int (4 : Int32)), .val (.int v0), .val (.int v1), .val (.int v2), .val (.int v3), .val (.int v4), .val (.int v5), .unset, .unset, .unset, .unset, .unset, .unset]) rfl ?_
    show Steps p.tables e below (s₁.setTop (mkF m 69 #[.val (.int p0), .val (.int p1), .val (.int p2), .val (.int p3), .val (.int p4), .val (.int p5), .val (.int (4 : Int32)), .val (.int v0), .val (.int v1), .val (.int v2), .val (.int v3), .val (.int v4), .val (.int v5), .unset, .unset, .unset, .unset, .unset, .unset] [])) _
    refine XS.bipush X0.here hx rfl (hb hby at_69) ?_
    show Steps p.tables e below (s₁.setTop (mkF m 71 #[.val (.int p0), .val (.int p1), .val (.int p2), .val (.int p3), .val (.int p4), .val (.int p5), .val (.int (4 : Int32)), .val (.int v0), .val (.int v1), .val (.int v2), .val (.int v3), .val (.int v4), .val (.int v5), .unset, .unset, .unset, .unset, .unset, .unset] [(.int (6 : Int32))])) _
    refine st1 _ ?_
    show Steps p.tables e below (T1.setTop (mkF m 73 #[.val (.int p0), .val (.int p1), .val (.int p2), .val (.int p3), .val (.int p4), .val (.int p5), .val (.int (4 : Int32)), .val (.int v0), .val (.int v1), .val (.int v2), .val (.int v3), .val (.int v4), .val (.int v5), .unset, .unset, .unset, .unset, .unset, .unset] [(.ref b1)])) _
    refine XS.dup X1.here hx rfl (hb hby at_73) rfl rfl ?_
    show Steps p.tables e below (T1.setTop (mkF m 74 #[.val (.int p0), .val (.int p1), .val (.int p2), .val (.int p3), .val (.int p4), .val (.int p5), .val (.int (4 : Int32)), .val (.int v0), .val (.int v1), .val (.int v2), .val (.int v3), .val (.int v4), .val (.int v5), .unset, .unset, .unset, .unset, .unset, .unset] [(.ref b1), (.ref b1)])) _
    refine XS.iconst X1.here hx rfl (hb hby at_74) ?_
    show Steps p.tables e below (T1.setTop (mkF m 75 #[.val (.int p0), .val (.int p1), .val (.int p2), .val (.int p3), .val (.int p4), .val (.int p5), .val (.int (4 : Int32)), .val (.int v0), .val (.int v1), .val (.int v2), .val (.int v3), .val (.int v4), .val (.int v5), .unset, .unset, .unset, .unset, .unset, .unset] [(.int (0 : Int32)), (.ref b1), (.ref b1)])) _
    refine XS.iload X1.here hx rfl (hb hby at_75) rfl ?_
    show Steps p.tables e below (T1.setTop (mkF m 77 #[.val (.int p0), .val (.int p1), .val (.int p2), .val (.int p3), .val (.int p4), .val (.int p5), .val (.int (4 : Int32)), .val (.int v0), .val (.int v1), .val (.int v2), .val (.int v3), .val (.int v4), .val (.int v5), .unset, .unset, .unset, .unset, .unset, .unset] [(.int v0), (.int (0 : Int32)), (.ref b1), (.ref b1)])) _
    refine st2 _ ?_
    show Steps p.tables e below (T2.setTop (mkF m 78 #[.val (.int p0), .val (.int p1), .val (.int p2), .val (.int p3), .val (.int p4), .val (.int p5), .val (.int (4 : Int32)), .val (.int v0), .val (.int v1), .val (.int v2), .val (.int v3), .val (.int v4), .val (.int v5), .unset, .unset, .unset, .unset, .unset, .unset] [(.ref b1)])) _
    refine XS.dup X2.here hx rfl (hb hby at_78) rfl rfl ?_
    show Steps p.tables e below (T2.setTop (mkF m 79 #[.val (.int p0), .val (.int p1), .val (.int p2), .val (.int p3), .val (.int p4), .val (.int p5), .val (.int (4 : Int32)), .val (.int v0), .val (.int v1), .val (.int v2), .val (.int v3), .val (.int v4), .val (.int v5), .unset, .unset, .unset, .unset, .unset, .unset] [(.ref b1), (.ref b1)])) _
    refine XS.iconst X2.here hx rfl (hb hby at_79) ?_
    show Steps p.tables e below (T2.setTop (mkF m 80 #[.val (.int p0), .val (.int p1), .val (.int p2), .val (.int p3), .val (.int p4), .val (.int p5), .val (.int (4 : Int32)), .val (.int v0), .val (.int v1), .val (.int v2), .val (.int v3), .val (.int v4), .val (.int v5), .unset, .unset, .unset, .unset, .unset, .unset] [(.int (1 : Int32)), (.ref b1), (.ref b1)])) _
    refine XS.iload X2.here hx rfl (hb hby at_80) rfl ?_
    show Steps p.tables e below (T2.setTop (mkF m 82 #[.val (.int p0), .val (.int p1), .val (.int p2), .val (.int p3), .val (.int p4), .val (.int p5), .val (.int (4 : Int32)), .val (.int v0), .val (.int v1), .val (.int v2), .val (.int v3), .val (.int v4), .val (.int v5), .unset, .unset, .unset, .unset, .unset, .unset] [(.int v1), (.int (1 : Int32)), (.ref b1), (.ref b1)])) _
    refine st3 _ ?_
    show Steps p.tables e below (T3.setTop (mkF m 83 #[.val (.int p0), .val (.int p1), .val (.int p2), .val (.int p3), .val (.int p4), .val (.int p5), .val (.int (4 : Int32)), .val (.int v0), .val (.int v1), .val (.int v2), .val (.int v3), .val (.int v4), .val (.int v5), .unset, .unset, .unset, .unset, .unset, .unset] [(.ref b1)])) _
    refine XS.dup X3.here hx rfl (hb hby at_83) rfl rfl ?_
    show Steps p.tables e below (T3.setTop (mkF m 84 #[.val (.int p0), .val (.int p1), .val (.int p2), .val (.int p3), .val (.int p4), .val (.int p5), .val (.int (4 : Int32)), .val (.int v0), .val (.int v1), .val (.int v2), .val (.int v3), .val (.int v4), .val (.int v5), .unset, .unset, .unset, .unset, .unset, .unset] [(.ref b1), (.ref b1)])) _
    refine XS.iconst X3.here hx rfl (hb hby at_84) ?_
    show Steps p.tables e below (T3.setTop (mkF m 85 #[.val (.int p0), .val (.int p1), .val (.int p2), .val (.int p3), .val (.int p4), .val (.int p5), .val (.int (4 : Int32)), .val (.int v0), .val (.int v1), .val (.int v2), .val (.int v3), .val (.int v4), .val (.int v5), .unset, .unset, .unset, .unset, .unset, .unset] [(.int (2 : Int32)), (.ref b1), (.ref b1)])) _
    refine XS.iload X3.here hx rfl (hb hby at_85) rfl ?_
    show Steps p.tables e below (T3.setTop (mkF m 87 #[.val (.int p0), .val (.int p1), .val (.int p2), .val (.int p3), .val (.int p4), .val (.int p5), .val (.int (4 : Int32)), .val (.int v0), .val (.int v1), .val (.int v2), .val (.int v3), .val (.int v4), .val (.int v5), .unset, .unset, .unset, .unset, .unset, .unset] [(.int v2), (.int (2 : Int32)), (.ref b1), (.ref b1)])) _
    refine st4 _ ?_
    show Steps p.tables e below (T4.setTop (mkF m 88 #[.val (.int p0), .val (.int p1), .val (.int p2), .val (.int p3), .val (.int p4), .val (.int p5), .val (.int (4 : Int32)), .val (.int v0), .val (.int v1), .val (.int v2), .val (.int v3), .val (.int v4), .val (.int v5), .unset, .unset, .unset, .unset, .unset, .unset] [(.ref b1)])) _
    refine XS.dup X4.here hx rfl (hb hby at_88) rfl rfl ?_
    show Steps p.tables e below (T4.setTop (mkF m 89 #[.val (.int p0), .val (.int p1), .val (.int p2), .val (.int p3), .val (.int p4), .val (.int p5), .val (.int (4 : Int32)), .val (.int v0), .val (.int v1), .val (.int v2), .val (.int v3), .val (.int v4), .val (.int v5), .unset, .unset, .unset, .unset, .unset, .unset] [(.ref b1), (.ref b1)])) _
    refine XS.iconst X4.here hx rfl (hb hby at_89) ?_
    show Steps p.tables e below (T4.setTop (mkF m 90 #[.val (.int p0), .val (.int p1), .val (.int p2), .val (.int p3), .val (.int p4), .val (.int p5), .val (.int (4 : Int32)), .val (.int v0), .val (.int v1), .val (.int v2), .val (.int v3), .val (.int v4), .val (.int v5), .unset, .unset, .unset, .unset, .unset, .unset] [(.int (3 : Int32)), (.ref b1), (.ref b1)])) _
    refine XS.iload X4.here hx rfl (hb hby at_90) rfl ?_
    show Steps p.tables e below (T4.setTop (mkF m 92 #[.val (.int p0), .val (.int p1), .val (.int p2), .val (.int p3), .val (.int p4), .val (.int p5), .val (.int (4 : Int32)), .val (.int v0), .val (.int v1), .val (.int v2), .val (.int v3), .val (.int v4), .val (.int v5), .unset, .unset, .unset, .unset, .unset, .unset] [(.int v3), (.int (3 : Int32)), (.ref b1), (.ref b1)])) _
    refine st5 _ ?_
    show Steps p.tables e below (T5.setTop (mkF m 93 #[.val (.int p0), .val (.int p1), .val (.int p2), .val (.int p3), .val (.int p4), .val (.int p5), .val (.int (4 : Int32)), .val (.int v0), .val (.int v1), .val (.int v2), .val (.int v3), .val (.int v4), .val (.int v5), .unset, .unset, .unset, .unset, .unset, .unset] [(.ref b1)])) _
    refine XS.dup X5.here hx rfl (hb hby at_93) rfl rfl ?_
    show Steps p.tables e below (T5.setTop (mkF m 94 #[.val (.int p0), .val (.int p1), .val (.int p2), .val (.int p3), .val (.int p4), .val (.int p5), .val (.int (4 : Int32)), .val (.int v0), .val (.int v1), .val (.int v2), .val (.int v3), .val (.int v4), .val (.int v5), .unset, .unset, .unset, .unset, .unset, .unset] [(.ref b1), (.ref b1)])) _
    refine XS.iconst X5.here hx rfl (hb hby at_94) ?_
    show Steps p.tables e below (T5.setTop (mkF m 95 #[.val (.int p0), .val (.int p1), .val (.int p2), .val (.int p3), .val (.int p4), .val (.int p5), .val (.int (4 : Int32)), .val (.int v0), .val (.int v1), .val (.int v2), .val (.int v3), .val (.int v4), .val (.int v5), .unset, .unset, .unset, .unset, .unset, .unset] [(.int (4 : Int32)), (.ref b1), (.ref b1)])) _
    refine XS.iload X5.here hx rfl (hb hby at_95) rfl ?_
    show Steps p.tables e below (T5.setTop (mkF m 97 #[.val (.int p0), .val (.int p1), .val (.int p2), .val (.int p3), .val (.int p4), .val (.int p5), .val (.int (4 : Int32)), .val (.int v0), .val (.int v1), .val (.int v2), .val (.int v3), .val (.int v4), .val (.int v5), .unset, .unset, .unset, .unset, .unset, .unset] [(.int v4), (.int (4 : Int32)), (.ref b1), (.ref b1)])) _
    refine st6 _ ?_
    show Steps p.tables e below (T6.setTop (mkF m 98 #[.val (.int p0), .val (.int p1), .val (.int p2), .val (.int p3), .val (.int p4), .val (.int p5), .val (.int (4 : Int32)), .val (.int v0), .val (.int v1), .val (.int v2), .val (.int v3), .val (.int v4), .val (.int v5), .unset, .unset, .unset, .unset, .unset, .unset] [(.ref b1)])) _
    refine XS.dup X6.here hx rfl (hb hby at_98) rfl rfl ?_
    show Steps p.tables e below (T6.setTop (mkF m 99 #[.val (.int p0), .val (.int p1), .val (.int p2), .val (.int p3), .val (.int p4), .val (.int p5), .val (.int (4 : Int32)), .val (.int v0), .val (.int v1), .val (.int v2), .val (.int v3), .val (.int v4), .val (.int v5), .unset, .unset, .unset, .unset, .unset, .unset] [(.ref b1), (.ref b1)])) _
    refine XS.iconst X6.here hx rfl (hb hby at_99) ?_
    show Steps p.tables e below (T6.setTop (mkF m 100 #[.val (.int p0), .val (.int p1), .val (.int p2), .val (.int p3), .val (.int p4), .val (.int p5), .val (.int (4 : Int32)), .val (.int v0), .val (.int v1), .val (.int v2), .val (.int v3), .val (.int v4), .val (.int v5), .unset, .unset, .unset, .unset, .unset, .unset] [(.int (5 : Int32)), (.ref b1), (.ref b1)])) _
    refine XS.iload X6.here hx rfl (hb hby at_100) rfl ?_
    show Steps p.tables e below (T6.setTop (mkF m 102 #[.val (.int p0), .val (.int p1), .val (.int p2), .val (.int p3), .val (.int p4), .val (.int p5), .val (.int (4 : Int32)), .val (.int v0), .val (.int v1), .val (.int v2), .val (.int v3), .val (.int v4), .val (.int v5), .unset, .unset, .unset, .unset, .unset, .unset] [(.int v5), (.int (5 : Int32)), (.ref b1), (.ref b1)])) _
    refine st7 _ ?_
    show Steps p.tables e below (T7.setTop (mkF m 103 #[.val (.int p0), .val (.int p1), .val (.int p2), .val (.int p3), .val (.int p4), .val (.int p5), .val (.int (4 : Int32)), .val (.int v0), .val (.int v1), .val (.int v2), .val (.int v3), .val (.int v4), .val (.int v5), .unset, .unset, .unset, .unset, .unset, .unset] [(.ref b1)])) _
    refine XS.astore X7.here hx rfl (hb hby at_103) rfl rfl (l' := #[.val (.int p0), .val (.int p1), .val (.int p2), .val (.int p3), .val (.int p4), .val (.int p5), .val (.int (4 : Int32)), .val (.int v0), .val (.int v1), .val (.int v2), .val (.int v3), .val (.int v4), .val (.int v5), .val (.ref b1), .unset, .unset, .unset, .unset, .unset]) rfl ?_
    show Steps p.tables e below (T7.setTop (mkF m 105 #[.val (.int p0), .val (.int p1), .val (.int p2), .val (.int p3), .val (.int p4), .val (.int p5), .val (.int (4 : Int32)), .val (.int v0), .val (.int v1), .val (.int v2), .val (.int v3), .val (.int v4), .val (.int v5), .val (.ref b1), .unset, .unset, .unset, .unset, .unset] [])) _
    refine XS.iload X7.here hx rfl (hb hby at_105) rfl ?_
    show Steps p.tables e below (T7.setTop (mkF m 107 #[.val (.int p0), .val (.int p1), .val (.int p2), .val (.int p3), .val (.int p4), .val (.int p5), .val (.int (4 : Int32)), .val (.int v0), .val (.int v1), .val (.int v2), .val (.int v3), .val (.int v4), .val (.int v5), .val (.ref b1), .unset, .unset, .unset, .unset, .unset] [(.int (4 : Int32))])) _
    refine st8 _ ?_
    show Steps p.tables e below (T8.setTop (mkF m 109 #[.val (.int p0), .val (.int p1), .val (.int p2), .val (.int p3), .val (.int p4), .val (.int p5), .val (.int (4 : Int32)), .val (.int v0), .val (.int v1), .val (.int v2), .val (.int v3), .val (.int v4), .val (.int v5), .val (.ref b1), .unset, .unset, .unset, .unset, .unset] [(.ref b8)])) _
    refine XS.astore X8.here hx rfl (hb hby at_109) rfl rfl (l' := #[.val (.int p0), .val (.int p1), .val (.int p2), .val (.int p3), .val (.int p4), .val (.int p5), .val (.int (4 : Int32)), .val (.int v0), .val (.int v1), .val (.int v2), .val (.int v3), .val (.int v4), .val (.int v5), .val (.ref b1), .val (.ref b8), .unset, .unset, .unset, .unset]) rfl ?_
    show Steps p.tables e below (T8.setTop (mkF m 111 #[.val (.int p0), .val (.int p1), .val (.int p2), .val (.int p3), .val (.int p4), .val (.int p5), .val (.int (4 : Int32)), .val (.int v0), .val (.int v1), .val (.int v2), .val (.int v3), .val (.int v4), .val (.int v5), .val (.ref b1), .val (.ref b8), .unset, .unset, .unset, .unset] [])) _
    refine XS.aload X8.here hx rfl (hb hby at_111) rfl rfl ?_
    show Steps p.tables e below (T8.setTop (mkF m 113 #[.val (.int p0), .val (.int p1), .val (.int p2), .val (.int p3), .val (.int p4), .val (.int p5), .val (.int (4 : Int32)), .val (.int v0), .val (.int v1), .val (.int v2), .val (.int v3), .val (.int v4), .val (.int v5), .val (.ref b1), .val (.ref b8), .unset, .unset, .unset, .unset] [(.ref b8)])) _
    refine XS.iconst X8.here hx rfl (hb hby at_113) ?_
    show Steps p.tables e below (T8.setTop (mkF m 114 #[.val (.int p0), .val (.int p1), .val (.int p2), .val (.int p3), .val (.int p4), .val (.int p5), .val (.int (4 : Int32)), .val (.int v0), .val (.int v1), .val (.int v2), .val (.int v3), .val (.int v4), .val (.int v5), .val (.ref b1), .val (.ref b8), .unset, .unset, .unset, .unset] [(.int (0 : Int32)), (.ref b8)])) _
    refine XS.iload X8.here hx rfl (hb hby at_114) rfl ?_
    show Steps p.tables e below (T8.setTop (mkF m 116 #[.val (.int p0), .val (.int p1), .val (.int p2), .val (.int p3), .val (.int p4), .val (.int p5), .val (.int (4 : Int32)), .val (.int v0), .val (.int v1), .val (.int v2), .val (.int v3), .val (.int v4), .val (.int v5), .val (.ref b1), .val (.ref b8), .unset, .unset, .unset, .unset] [(.int v0), (.int (0 : Int32)), (.ref b8)])) _
    refine XS.i2dS X8.here hx rfl (hb hby at_116) rfl rfl ?_
    show Steps p.tables e below (T8.setTop (mkF m 117 #[.val (.int p0), .val (.int p1), .val (.int p2), .val (.int p3), .val (.int p4), .val (.int p5), .val (.int (4 : Int32)), .val (.int v0), .val (.int v1), .val (.int v2), .val (.int v3), .val (.int v4), .val (.int v5), .val (.ref b1), .val (.ref b8), .unset, .unset, .unset, .unset] [(.double (FP.i2d v0)), (.int (0 : Int32)), (.ref b8)])) _
    refine st9 _ ?_
    show Steps p.tables e below (T9.setTop (mkF m 118 #[.val (.int p0), .val (.int p1), .val (.int p2), .val (.int p3), .val (.int p4), .val (.int p5), .val (.int (4 : Int32)), .val (.int v0), .val (.int v1), .val (.int v2), .val (.int v3), .val (.int v4), .val (.int v5), .val (.ref b1), .val (.ref b8), .unset, .unset, .unset, .unset] [])) _
    refine XS.iload X9.here hx rfl (hb hby at_118) rfl ?_
    show Steps p.tables e below (T9.setTop (mkF m 120 #[.val (.int p0), .val (.int p1), .val (.int p2), .val (.int p3), .val (.int p4), .val (.int p5), .val (.int (4 : Int32)), .val (.int v0), .val (.int v1), .val (.int v2), .val (.int v3), .val (.int v4), .val (.int v5), .val (.ref b1), .val (.ref b8), .unset, .unset, .unset, .unset] [(.int (4 : Int32))])) _
    refine XS.iconst X9.here hx rfl (hb hby at_120) ?_
    show Steps p.tables e below (T9.setTop (mkF m 121 #[.val (.int p0), .val (.int p1), .val (.int p2), .val (.int p3), .val (.int p4), .val (.int p5), .val (.int (4 : Int32)), .val (.int v0), .val (.int v1), .val (.int v2), .val (.int v3), .val (.int v4), .val (.int v5), .val (.ref b1), .val (.ref b8), .unset, .unset, .unset, .unset] [(.int (1 : Int32)), (.int (4 : Int32))])) _
    refine XS.icmpNo X9.here hx rfl (hb hby at_121) rfl (tlt (by decide : (1 : Int32) < (4 : Int32))).2.2.2 ?_
    show Steps p.tables e below (T9.setTop (mkF m 124 #[.val (.int p0), .val (.int p1), .val (.int p2), .val (.int p3), .val (.int p4), .val (.int p5), .val (.int (4 : Int32)), .val (.int v0), .val (.int v1), .val (.int v2), .val (.int v3), .val (.int v4), .val (.int v5), .val (.ref b1), .val (.ref b8), .unset, .unset, .unset, .unset] [])) _
    refine XS.aload X9.here hx rfl (hb hby at_124) rfl rfl ?_
    show Steps p.tables e below (T9.setTop (mkF m 126 #[.val (.int p0), .val (.int p1), .val (.int p2), .val (.int p3), .val (.int p4), .val (.int p5), .val (.int (4 : Int32)), .val (.int v0), .val (.int v1), .val (.int v2), .val (.int v3), .val (.int v4), .val (.int v5), .val (.ref b1), .val (.ref b8), .unset, .unset, .unset, .unset] [(.ref b8)])) _
    refine XS.iconst X9.here hx rfl (hb hby at_126) ?_
    show Steps p.tables e below (T9.setTop (mkF m 127 #[.val (.int p0), .val (.int p1), .val (.int p2), .val (.int p3), .val (.int p4), .val (.int p5), .val (.int (4 : Int32)), .val (.int v0), .val (.int v1), .val (.int v2), .val (.int v3), .val (.int v4), .val (.int v5), .val (.ref b1), .val (.ref b8), .unset, .unset, .unset, .unset] [(.int (1 : Int32)), (.ref b8)])) _
    refine XS.iload X9.here hx rfl (hb hby at_127) rfl ?_
    show Steps p.tables e below (T9.setTop (mkF m 129 #[.val (.int p0), .val (.int p1), .val (.int p2), .val (.int p3), .val (.int p4), .val (.int p5), .val (.int (4 : Int32)), .val (.int v0), .val (.int v1), .val (.int v2), .val (.int v3), .val (.int v4), .val (.int v5), .val (.ref b1), .val (.ref b8), .unset, .unset, .unset, .unset] [(.int v1), (.int (1 : Int32)), (.ref b8)])) _
    refine XS.i2dS X9.here hx rfl (hb hby at_129) rfl rfl ?_
    show Steps p.tables e below (T9.setTop (mkF m 130 #[.val (.int p0), .val (.int p1), .val (.int p2), .val (.int p3), .val (.int p4), .val (.int p5), .val (.int (4 : Int32)), .val (.int v0), .val (.int v1), .val (.int v2), .val (.int v3), .val (.int v4), .val (.int v5), .val (.ref b1), .val (.ref b8), .unset, .unset, .unset, .unset] [(.double (FP.i2d v1)), (.int (1 : Int32)), (.ref b8)])) _
    refine st10 _ ?_
    show Steps p.tables e below (T10.setTop (mkF m 131 #[.val (.int p0), .val (.int p1), .val (.int p2), .val (.int p3), .val (.int p4), .val (.int p5), .val (.int (4 : Int32)), .val (.int v0), .val (.int v1), .val (.int v2), .val (.int v3), .val (.int v4), .val (.int v5), .val (.ref b1), .val (.ref b8), .unset, .unset, .unset, .unset] [])) _
    refine XS.iload X10.here hx rfl (hb hby at_131) rfl ?_
    show Steps p.tables e below (T10.setTop (mkF m 133 #[.val (.int p0), .val (.int p1), .val (.int p2), .val (.int p3), .val (.int p4), .val (.int p5), .val (.int (4 : Int32)), .val (.int v0), .val (.int v1), .val (.int v2), .val (.int v3), .val (.int v4), .val (.int v5), .val (.ref b1), .val (.ref b8), .unset, .unset, .unset, .unset] [(.int (4 : Int32))])) _
    refine XS.iconst X10.here hx rfl (hb hby at_133) ?_
    show Steps p.tables e below (T10.setTop (mkF m 134 #[.val (.int p0), .val (.int p1), .val (.int p2), .val (.int p3), .val (.int p4), .val (.int p5), .val (.int (4 : Int32)), .val (.int v0), .val (.int v1), .val (.int v2), .val (.int v3), .val (.int v4), .val (.int v5), .val (.ref b1), .val (.ref b8), .unset, .unset, .unset, .unset] [(.int (2 : Int32)), (.int (4 : Int32))])) _
    refine XS.icmpNo X10.here hx rfl (hb hby at_134) rfl (tlt (by decide : (2 : Int32) < (4 : Int32))).2.2.2 ?_
    show Steps p.tables e below (T10.setTop (mkF m 137 #[.val (.int p0), .val (.int p1), .val (.int p2), .val (.int p3), .val (.int p4), .val (.int p5), .val (.int (4 : Int32)), .val (.int v0), .val (.int v1), .val (.int v2), .val (.int v3), .val (.int v4), .val (.int v5), .val (.ref b1), .val (.ref b8), .unset, .unset, .unset, .unset] [])) _
    refine XS.aload X10.here hx rfl (hb hby at_137) rfl rfl ?_
    show Steps p.tables e below (T10.setTop (mkF m 139 #[.val (.int p0), .val (.int p1), .val (.int p2), .val (.int p3), .val (.int p4), .val (.int p5), .val (.int (4 : Int32)), .val (.int v0), .val (.int v1), .val (.int v2), .val (.int v3), .val (.int v4), .val (.int v5), .val (.ref b1), .val (.ref b8), .unset, .unset, .unset, .unset] [(.ref b8)])) _
    refine XS.iconst X10.here hx rfl (hb hby at_139) ?_
    show Steps p.tables e below (T10.setTop (mkF m 140 #[.val (.int p0), .val (.int p1), .val (.int p2), .val (.int p3), .val (.int p4), .val (.int p5), .val (.int (4 : Int32)), .val (.int v0), .val (.int v1), .val (.int v2), .val (.int v3), .val (.int v4), .val (.int v5), .val (.ref b1), .val (.ref b8), .unset, .unset, .unset, .unset] [(.int (2 : Int32)), (.ref b8)])) _
    refine XS.iload X10.here hx rfl (hb hby at_140) rfl ?_
    show Steps p.tables e below (T10.setTop (mkF m 142 #[.val (.int p0), .val (.int p1), .val (.int p2), .val (.int p3), .val (.int p4), .val (.int p5), .val (.int (4 : Int32)), .val (.int v0), .val (.int v1), .val (.int v2), .val (.int v3), .val (.int v4), .val (.int v5), .val (.ref b1), .val (.ref b8), .unset, .unset, .unset, .unset] [(.int v2), (.int (2 : Int32)), (.ref b8)])) _
    refine XS.i2dS X10.here hx rfl (hb hby at_142) rfl rfl ?_
    show Steps p.tables e below (T10.setTop (mkF m 143 #[.val (.int p0), .val (.int p1), .val (.int p2), .val (.int p3), .val (.int p4), .val (.int p5), .val (.int (4 : Int32)), .val (.int v0), .val (.int v1), .val (.int v2), .val (.int v3), .val (.int v4), .val (.int v5), .val (.ref b1), .val (.ref b8), .unset, .unset, .unset, .unset] [(.double (FP.i2d v2)), (.int (2 : Int32)), (.ref b8)])) _
    refine st11 _ ?_
    show Steps p.tables e below (T11.setTop (mkF m 144 #[.val (.int p0), .val (.int p1), .val (.int p2), .val (.int p3), .val (.int p4), .val (.int p5), .val (.int (4 : Int32)), .val (.int v0), .val (.int v1), .val (.int v2), .val (.int v3), .val (.int v4), .val (.int v5), .val (.ref b1), .val (.ref b8), .unset, .unset, .unset, .unset] [])) _
    refine XS.iload X11.here hx rfl (hb hby at_144) rfl ?_
    show Steps p.tables e below (T11.setTop (mkF m 146 #[.val (.int p0), .val (.int p1), .val (.int p2), .val (.int p3), .val (.int p4), .val (.int p5), .val (.int (4 : Int32)), .val (.int v0), .val (.int v1), .val (.int v2), .val (.int v3), .val (.int v4), .val (.int v5), .val (.ref b1), .val (.ref b8), .unset, .unset, .unset, .unset] [(.int (4 : Int32))])) _
    refine XS.iconst X11.here hx rfl (hb hby at_146) ?_
    show Steps p.tables e below (T11.setTop (mkF m 147 #[.val (.int p0), .val (.int p1), .val (.int p2), .val (.int p3), .val (.int p4), .val (.int p5), .val (.int (4 : Int32)), .val (.int v0), .val (.int v1), .val (.int v2), .val (.int v3), .val (.int v4), .val (.int v5), .val (.ref b1), .val (.ref b8), .unset, .unset, .unset, .unset] [(.int (3 : Int32)), (.int (4 : Int32))])) _
    refine XS.icmpNo X11.here hx rfl (hb hby at_147) rfl (tlt (by decide : (3 : Int32) < (4 : Int32))).2.2.2 ?_
    show Steps p.tables e below (T11.setTop (mkF m 150 #[.val (.int p0), .val (.int p1), .val (.int p2), .val (.int p3), .val (.int p4), .val (.int p5), .val (.int (4 : Int32)), .val (.int v0), .val (.int v1), .val (.int v2), .val (.int v3), .val (.int v4), .val (.int v5), .val (.ref b1), .val (.ref b8), .unset, .unset, .unset, .unset] [])) _
    refine XS.aload X11.here hx rfl (hb hby at_150) rfl rfl ?_
    show Steps p.tables e below (T11.setTop (mkF m 152 #[.val (.int p0), .val (.int p1), .val (.int p2), .val (.int p3), .val (.int p4), .val (.int p5), .val (.int (4 : Int32)), .val (.int v0), .val (.int v1), .val (.int v2), .val (.int v3), .val (.int v4), .val (.int v5), .val (.ref b1), .val (.ref b8), .unset, .unset, .unset, .unset] [(.ref b8)])) _
    refine XS.iconst X11.here hx rfl (hb hby at_152) ?_
    show Steps p.tables e below (T11.setTop (mkF m 153 #[.val (.int p0), .val (.int p1), .val (.int p2), .val (.int p3), .val (.int p4), .val (.int p5), .val (.int (4 : Int32)), .val (.int v0), .val (.int v1), .val (.int v2), .val (.int v3), .val (.int v4), .val (.int v5), .val (.ref b1), .val (.ref b8), .unset, .unset, .unset, .unset] [(.int (3 : Int32)), (.ref b8)])) _
    refine XS.iload X11.here hx rfl (hb hby at_153) rfl ?_
    show Steps p.tables e below (T11.setTop (mkF m 155 #[.val (.int p0), .val (.int p1), .val (.int p2), .val (.int p3), .val (.int p4), .val (.int p5), .val (.int (4 : Int32)), .val (.int v0), .val (.int v1), .val (.int v2), .val (.int v3), .val (.int v4), .val (.int v5), .val (.ref b1), .val (.ref b8), .unset, .unset, .unset, .unset] [(.int v3), (.int (3 : Int32)), (.ref b8)])) _
    refine XS.i2dS X11.here hx rfl (hb hby at_155) rfl rfl ?_
    show Steps p.tables e below (T11.setTop (mkF m 156 #[.val (.int p0), .val (.int p1), .val (.int p2), .val (.int p3), .val (.int p4), .val (.int p5), .val (.int (4 : Int32)), .val (.int v0), .val (.int v1), .val (.int v2), .val (.int v3), .val (.int v4), .val (.int v5), .val (.ref b1), .val (.ref b8), .unset, .unset, .unset, .unset] [(.double (FP.i2d v3)), (.int (3 : Int32)), (.ref b8)])) _
    refine st12 _ ?_
    show Steps p.tables e below (T12.setTop (mkF m 157 #[.val (.int p0), .val (.int p1), .val (.int p2), .val (.int p3), .val (.int p4), .val (.int p5), .val (.int (4 : Int32)), .val (.int v0), .val (.int v1), .val (.int v2), .val (.int v3), .val (.int v4), .val (.int v5), .val (.ref b1), .val (.ref b8), .unset, .unset, .unset, .unset] [])) _
    refine XS.iload X12.here hx rfl (hb hby at_157) rfl ?_
    show Steps p.tables e below (T12.setTop (mkF m 159 #[.val (.int p0), .val (.int p1), .val (.int p2), .val (.int p3), .val (.int p4), .val (.int p5), .val (.int (4 : Int32)), .val (.int v0), .val (.int v1), .val (.int v2), .val (.int v3), .val (.int v4), .val (.int v5), .val (.ref b1), .val (.ref b8), .unset, .unset, .unset, .unset] [(.int (4 : Int32))])) _
    refine XS.iconst X12.here hx rfl (hb hby at_159) ?_
    show Steps p.tables e below (T12.setTop (mkF m 160 #[.val (.int p0), .val (.int p1), .val (.int p2), .val (.int p3), .val (.int p4), .val (.int p5), .val (.int (4 : Int32)), .val (.int v0), .val (.int v1), .val (.int v2), .val (.int v3), .val (.int v4), .val (.int v5), .val (.ref b1), .val (.ref b8), .unset, .unset, .unset, .unset] [(.int (4 : Int32)), (.int (4 : Int32))])) _
    refine XS.icmpYes X12.here hx rfl (pc0 := 160) (pc' := 170) rfl (hb hby at_160) rfl (flt (by decide : ¬ ((4 : Int32) < (4 : Int32)))).2.2.2 (by decide) (by decide) ?_
    show Steps p.tables e below (T12.setTop (mkF m 170 #[.val (.int p0), .val (.int p1), .val (.int p2), .val (.int p3), .val (.int p4), .val (.int p5), .val (.int (4 : Int32)), .val (.int v0), .val (.int v1), .val (.int v2), .val (.int v3), .val (.int v4), .val (.int v5), .val (.ref b1), .val (.ref b8), .unset, .unset, .unset, .unset] [])) _
    refine XS.iload X12.here hx rfl (hb hby at_170) rfl ?_
    show Steps p.tables e below (T12.setTop (mkF m 172 #[.val (.int p0), .val (.int p1), .val (.int p2), .val (.int p3), .val (.int p4), .val (.int p5), .val (.int (4 : Int32)), .val (.int v0), .val (.int v1), .val (.int v2), .val (.int v3), .val (.int v4), .val (.int v5), .val (.ref b1), .val (.ref b8), .unset, .unset, .unset, .unset] [(.int (4 : Int32))])) _
    refine XS.iconst X12.here hx rfl (hb hby at_172) ?_
    show Steps p.tables e below (T12.setTop (mkF m 173 #[.val (.int p0), .val (.int p1), .val (.int p2), .val (.int p3), .val (.int p4), .val (.int p5), .val (.int (4 : Int32)), .val (.int v0), .val (.int v1), .val (.int v2), .val (.int v3), .val (.int v4), .val (.int v5), .val (.ref b1), .val (.ref b8), .unset, .unset, .unset, .unset] [(.int (5 : Int32)), (.int (4 : Int32))])) _
    refine XS.icmpYes X12.here hx rfl (pc0 := 173) (pc' := 183) rfl (hb hby at_173) rfl (flt (by decide : ¬ ((5 : Int32) < (4 : Int32)))).2.2.2 (by decide) (by decide) ?_
    show Steps p.tables e below (T12.setTop (mkF m 183 #[.val (.int p0), .val (.int p1), .val (.int p2), .val (.int p3), .val (.int p4), .val (.int p5), .val (.int (4 : Int32)), .val (.int v0), .val (.int v1), .val (.int v2), .val (.int v3), .val (.int v4), .val (.int v5), .val (.ref b1), .val (.ref b8), .unset, .unset, .unset, .unset] [])) _
    refine XS.aload X12.here hx rfl (hb hby at_183) rfl rfl ?_
    show Steps p.tables e below (T12.setTop (mkF m 185 #[.val (.int p0), .val (.int p1), .val (.int p2), .val (.int p3), .val (.int p4), .val (.int p5), .val (.int (4 : Int32)), .val (.int v0), .val (.int v1), .val (.int v2), .val (.int v3), .val (.int v4), .val (.int v5), .val (.ref b1), .val (.ref b8), .unset, .unset, .unset, .unset] [(.ref b8)])) _
    refine st13 _ ?_
    show Steps p.tables e below (T13.setTop (mkF m 188 #[.val (.int p0), .val (.int p1), .val (.int p2), .val (.int p3), .val (.int p4), .val (.int p5), .val (.int (4 : Int32)), .val (.int v0), .val (.int v1), .val (.int v2), .val (.int v3), .val (.int v4), .val (.int v5), .val (.ref b1), .val (.ref b8), .unset, .unset, .unset, .unset] [(.double (FP.ddiv (FP.dadd (FP.i2d v1) (FP.i2d v2)) 4611686018427387904))])) _
    refine XS.dstore X13.here hx rfl (hb hby at_188) rfl (l' := #[.val (.int p0), .val (.int p1), .val (.int p2), .val (.int p3), .val (.int p4), .val (.int p5), .val (.int (4 : Int32)), .val (.int v0), .val (.int v1), .val (.int v2), .val (.int v3), .val (.int v4), .val (.int v5), .val (.ref b1), .val (.ref b8), .val (.double (FP.ddiv (FP.dadd (FP.i2d v1) (FP.i2d v2)) 4611686018427387904)), .second, .unset, .unset]) rfl ?_
    show Steps p.tables e below (T13.setTop (mkF m 190 #[.val (.int p0), .val (.int p1), .val (.int p2), .val (.int p3), .val (.int p4), .val (.int p5), .val (.int (4 : Int32)), .val (.int v0), .val (.int v1), .val (.int v2), .val (.int v3), .val (.int v4), .val (.int v5), .val (.ref b1), .val (.ref b8), .val (.double (FP.ddiv (FP.dadd (FP.i2d v1) (FP.i2d v2)) 4611686018427387904)), .second, .unset, .unset] [])) _
    refine XS.iload X13.here hx rfl (hb hby at_190) rfl ?_
    show Steps p.tables e below (T13.setTop (mkF m 192 #[.val (.int p0), .val (.int p1), .val (.int p2), .val (.int p3), .val (.int p4), .val (.int p5), .val (.int (4 : Int32)), .val (.int v0), .val (.int v1), .val (.int v2), .val (.int v3), .val (.int v4), .val (.int v5), .val (.ref b1), .val (.ref b8), .val (.double (FP.ddiv (FP.dadd (FP.i2d v1) (FP.i2d v2)) 4611686018427387904)), .second, .unset, .unset] [(.int (4 : Int32))])) _
    refine XS.iconst X13.here hx rfl (hb hby at_192) ?_
    show Steps p.tables e below (T13.setTop (mkF m 193 #[.val (.int p0), .val (.int p1), .val (.int p2), .val (.int p3), .val (.int p4), .val (.int p5), .val (.int (4 : Int32)), .val (.int v0), .val (.int v1), .val (.int v2), .val (.int v3), .val (.int v4), .val (.int v5), .val (.ref b1), .val (.ref b8), .val (.double (FP.ddiv (FP.dadd (FP.i2d v1) (FP.i2d v2)) 4611686018427387904)), .second, .unset, .unset] [(.int (1 : Int32)), (.int (4 : Int32))])) _
    refine XS.isub X13.here hx rfl (hb hby at_193) rfl ?_
    show Steps p.tables e below (T13.setTop (mkF m 194 #[.val (.int p0), .val (.int p1), .val (.int p2), .val (.int p3), .val (.int p4), .val (.int p5), .val (.int (4 : Int32)), .val (.int v0), .val (.int v1), .val (.int v2), .val (.int v3), .val (.int v4), .val (.int v5), .val (.ref b1), .val (.ref b8), .val (.double (FP.ddiv (FP.dadd (FP.i2d v1) (FP.i2d v2)) 4611686018427387904)), .second, .unset, .unset] [(.int ((4 : Int32) - (1 : Int32)))])) _
    rw [show ((4 : Int32) - (1 : Int32)) = (3 : Int32) from by decide]
    show Steps p.tables e below (T13.setTop (mkF m 194 #[.val (.int p0), .val (.int p1), .val (.int p2), .val (.int p3), .val (.int p4), .val (.int p5), .val (.int (4 : Int32)), .val (.int v0), .val (.int v1), .val (.int v2), .val (.int v3), .val (.int v4), .val (.int v5), .val (.ref b1), .val (.ref b8), .val (.double (FP.ddiv (FP.dadd (FP.i2d v1) (FP.i2d v2)) 4611686018427387904)), .second, .unset, .unset] [(.int (3 : Int32))])) _
    refine XS.iconst X13.here hx rfl (hb hby at_194) ?_
    show Steps p.tables e below (T13.setTop (mkF m 195 #[.val (.int p0), .val (.int p1), .val (.int p2), .val (.int p3), .val (.int p4), .val (.int p5), .val (.int (4 : Int32)), .val (.int v0), .val (.int v1), .val (.int v2), .val (.int v3), .val (.int v4), .val (.int v5), .val (.ref b1), .val (.ref b8), .val (.double (FP.ddiv (FP.dadd (FP.i2d v1) (FP.i2d v2)) 4611686018427387904)), .second, .unset, .unset] [(.int (2 : Int32)), (.int (3 : Int32))])) _
    refine XS.idiv X13.here hx rfl (hb hby at_195) rfl (by decide) ?_
    show Steps p.tables e below (T13.setTop (mkF m 196 #[.val (.int p0), .val (.int p1), .val (.int p2), .val (.int p3), .val (.int p4), .val (.int p5), .val (.int (4 : Int32)), .val (.int v0), .val (.int v1), .val (.int v2), .val (.int v3), .val (.int v4), .val (.int v5), .val (.ref b1), .val (.ref b8), .val (.double (FP.ddiv (FP.dadd (FP.i2d v1) (FP.i2d v2)) 4611686018427387904)), .second, .unset, .unset] [(.int ((3 : Int32) / (2 : Int32)))])) _
    rw [show ((3 : Int32) / (2 : Int32)) = (1 : Int32) from by decide]
    show Steps p.tables e below (T13.setTop (mkF m 196 #[.val (.int p0), .val (.int p1), .val (.int p2), .val (.int p3), .val (.int p4), .val (.int p5), .val (.int (4 : Int32)), .val (.int v0), .val (.int v1), .val (.int v2), .val (.int v3), .val (.int v4), .val (.int v5), .val (.ref b1), .val (.ref b8), .val (.double (FP.ddiv (FP.dadd (FP.i2d v1) (FP.i2d v2)) 4611686018427387904)), .second, .unset, .unset] [(.int (1 : Int32))])) _
    refine XS.istore X13.here hx rfl (hb hby at_196) rfl (l' := #[.val (.int p0), .val (.int p1), .val (.int p2), .val (.int p3), .val (.int p4), .val (.int p5), .val (.int (4 : Int32)), .val (.int v0), .val (.int v1), .val (.int v2), .val (.int v3), .val (.int v4), .val (.int v5), .val (.ref b1), .val (.ref b8), .val (.double (FP.ddiv (FP.dadd (FP.i2d v1) (FP.i2d v2)) 4611686018427387904)), .second, .val (.int (1 : Int32)), .unset]) rfl ?_
    show Steps p.tables e below (T13.setTop (mkF m 198 #[.val (.int p0), .val (.int p1), .val (.int p2), .val (.int p3), .val (.int p4), .val (.int p5), .val (.int (4 : Int32)), .val (.int v0), .val (.int v1), .val (.int v2), .val (.int v3), .val (.int v4), .val (.int v5), .val (.ref b1), .val (.ref b8), .val (.double (FP.ddiv (FP.dadd (FP.i2d v1) (FP.i2d v2)) 4611686018427387904)), .second, .val (.int (1 : Int32)), .unset] [])) _
    refine XS.iload X13.here hx rfl (hb hby at_198) rfl ?_
    show Steps p.tables e below (T13.setTop (mkF m 200 #[.val (.int p0), .val (.int p1), .val (.int p2), .val (.int p3), .val (.int p4), .val (.int p5), .val (.int (4 : Int32)), .val (.int v0), .val (.int v1), .val (.int v2), .val (.int v3), .val (.int v4), .val (.int v5), .val (.ref b1), .val (.ref b8), .val (.double (FP.ddiv (FP.dadd (FP.i2d v1) (FP.i2d v2)) 4611686018427387904)), .second, .val (.int (1 : Int32)), .unset] [(.int (4 : Int32))])) _
    refine XS.iconst X13.here hx rfl (hb hby at_200) ?_
    show Steps p.tables e below (T13.setTop (mkF m 201 #[.val (.int p0), .val (.int p1), .val (.int p2), .val (.int p3), .val (.int p4), .val (.int p5), .val (.int (4 : Int32)), .val (.int v0), .val (.int v1), .val (.int v2), .val (.int v3), .val (.int v4), .val (.int v5), .val (.ref b1), .val (.ref b8), .val (.double (FP.ddiv (FP.dadd (FP.i2d v1) (FP.i2d v2)) 4611686018427387904)), .second, .val (.int (1 : Int32)), .unset] [(.int (2 : Int32)), (.int (4 : Int32))])) _
    refine XS.idiv X13.here hx rfl (hb hby at_201) rfl (by decide) ?_
    show Steps p.tables e below (T13.setTop (mkF m 202 #[.val (.int p0), .val (.int p1), .val (.int p2), .val (.int p3), .val (.int p4), .val (.int p5), .val (.int (4 : Int32)), .val (.int v0), .val (.int v1), .val (.int v2), .val (.int v3), .val (.int v4), .val (.int v5), .val (.ref b1), .val (.ref b8), .val (.double (FP.ddiv (FP.dadd (FP.i2d v1) (FP.i2d v2)) 4611686018427387904)), .second, .val (.int (1 : Int32)), .unset] [(.int ((4 : Int32) / (2 : Int32)))])) _
    rw [show ((4 : Int32) / (2 : Int32)) = (2 : Int32) from by decide]
    show Steps p.tables e below (T13.setTop (mkF m 202 #[.val (.int p0), .val (.int p1), .val (.int p2), .val (.int p3), .val (.int p4), .val (.int p5), .val (.int (4 : Int32)), .val (.int v0), .val (.int v1), .val (.int v2), .val (.int v3), .val (.int v4), .val (.int v5), .val (.ref b1), .val (.ref b8), .val (.double (FP.ddiv (FP.dadd (FP.i2d v1) (FP.i2d v2)) 4611686018427387904)), .second, .val (.int (1 : Int32)), .unset] [(.int (2 : Int32))])) _
    refine XS.istore X13.here hx rfl (hb hby at_202) rfl (l' := #[.val (.int p0), .val (.int p1), .val (.int p2), .val (.int p3), .val (.int p4), .val (.int p5), .val (.int (4 : Int32)), .val (.int v0), .val (.int v1), .val (.int v2), .val (.int v3), .val (.int v4), .val (.int v5), .val (.ref b1), .val (.ref b8), .val (.double (FP.ddiv (FP.dadd (FP.i2d v1) (FP.i2d v2)) 4611686018427387904)), .second, .val (.int (1 : Int32)), .val (.int (2 : Int32))]) rfl ?_
    show Steps p.tables e below (T13.setTop (mkF m 204 #[.val (.int p0), .val (.int p1), .val (.int p2), .val (.int p3), .val (.int p4), .val (.int p5), .val (.int (4 : Int32)), .val (.int v0), .val (.int v1), .val (.int v2), .val (.int v3), .val (.int v4), .val (.int v5), .val (.ref b1), .val (.ref b8), .val (.double (FP.ddiv (FP.dadd (FP.i2d v1) (FP.i2d v2)) 4611686018427387904)), .second, .val (.int (1 : Int32)), .val (.int (2 : Int32))] [])) _
    refine XS.dload X13.here hx rfl (hb hby at_204) rfl ?_
    show Steps p.tables e below (T13.setTop (mkF m 206 #[.val (.int p0), .val (.int p1), .val (.int p2), .val (.int p3), .val (.int p4), .val (.int p5), .val (.int (4 : Int32)), .val (.int v0), .val (.int v1), .val (.int v2), .val (.int v3), .val (.int v4), .val (.int v5), .val (.ref b1), .val (.ref b8), .val (.double (FP.ddiv (FP.dadd (FP.i2d v1) (FP.i2d v2)) 4611686018427387904)), .second, .val (.int (1 : Int32)), .val (.int (2 : Int32))] [(.double (FP.ddiv (FP.dadd (FP.i2d v1) (FP.i2d v2)) 4611686018427387904))])) _
    refine X13.ldc2DoubleC hx hown (mvT hZ (hw _ (List.mem_of_getElem? (i := 9) rfl))) (g := (mkF m 206 #[.val (.int p0), .val (.int p1), .val (.int p2), .val (.int p3), .val (.int p4), .val (.int p5), .val (.int (4 : Int32)), .val (.int v0), .val (.int v1), .val (.int v2), .val (.int v3), .val (.int v4), .val (.int v5), .val (.ref b1), .val (.ref b8), .val (.double (FP.ddiv (FP.dadd (FP.i2d v1) (FP.i2d v2)) 4611686018427387904)), .second, .val (.int (1 : Int32)), .val (.int (2 : Int32))] [(.double (FP.ddiv (FP.dadd (FP.i2d v1) (FP.i2d v2)) 4611686018427387904))])) rfl (hb hby at_206) _ ?_
    show Steps p.tables e below (T13.setTop (mkF m 209 #[.val (.int p0), .val (.int p1), .val (.int p2), .val (.int p3), .val (.int p4), .val (.int p5), .val (.int (4 : Int32)), .val (.int v0), .val (.int v1), .val (.int v2), .val (.int v3), .val (.int v4), .val (.int v5), .val (.ref b1), .val (.ref b8), .val (.double (FP.ddiv (FP.dadd (FP.i2d v1) (FP.i2d v2)) 4611686018427387904)), .second, .val (.int (1 : Int32)), .val (.int (2 : Int32))] [(.double 4611686018427387904), (.double (FP.ddiv (FP.dadd (FP.i2d v1) (FP.i2d v2)) 4611686018427387904))])) _
    refine XS.dmulS X13.here hx rfl (hb hby at_209) rfl (own_n209e B1 B2) rfl ?_
    show Steps p.tables e below (T13.setTop (mkF m 210 #[.val (.int p0), .val (.int p1), .val (.int p2), .val (.int p3), .val (.int p4), .val (.int p5), .val (.int (4 : Int32)), .val (.int v0), .val (.int v1), .val (.int v2), .val (.int v3), .val (.int v4), .val (.int v5), .val (.ref b1), .val (.ref b8), .val (.double (FP.ddiv (FP.dadd (FP.i2d v1) (FP.i2d v2)) 4611686018427387904)), .second, .val (.int (1 : Int32)), .val (.int (2 : Int32))] [(.double (FP.dmul (FP.ddiv (FP.dadd (FP.i2d v1) (FP.i2d v2)) 4611686018427387904) 4611686018427387904))])) _
    refine XS.aload X13.here hx rfl (hb hby at_210) rfl rfl ?_
    show Steps p.tables e below (T13.setTop (mkF m 212 #[.val (.int p0), .val (.int p1), .val (.int p2), .val (.int p3), .val (.int p4), .val (.int p5), .val (.int (4 : Int32)), .val (.int v0), .val (.int v1), .val (.int v2), .val (.int v3), .val (.int v4), .val (.int v5), .val (.ref b1), .val (.ref b8), .val (.double (FP.ddiv (FP.dadd (FP.i2d v1) (FP.i2d v2)) 4611686018427387904)), .second, .val (.int (1 : Int32)), .val (.int (2 : Int32))] [(.ref b1), (.double (FP.dmul (FP.ddiv (FP.dadd (FP.i2d v1) (FP.i2d v2)) 4611686018427387904) 4611686018427387904))])) _
    refine XS.iload X13.here hx rfl (hb hby at_212) rfl ?_
    show Steps p.tables e below (T13.setTop (mkF m 214 #[.val (.int p0), .val (.int p1), .val (.int p2), .val (.int p3), .val (.int p4), .val (.int p5), .val (.int (4 : Int32)), .val (.int v0), .val (.int v1), .val (.int v2), .val (.int v3), .val (.int v4), .val (.int v5), .val (.ref b1), .val (.ref b8), .val (.double (FP.ddiv (FP.dadd (FP.i2d v1) (FP.i2d v2)) 4611686018427387904)), .second, .val (.int (1 : Int32)), .val (.int (2 : Int32))] [(.int (1 : Int32)), (.ref b1), (.double (FP.dmul (FP.ddiv (FP.dadd (FP.i2d v1) (FP.i2d v2)) 4611686018427387904) 4611686018427387904))])) _
    refine X13.iaload hx (j := (1 : Int32)) (v := (.int v1)) (by rw [e13]; exact Ar15.1) (State.isArrayOf_alike hZ.alike Ar15.2.1) Ar15.2.2 hin15 hat15 (g := (mkF m 214 #[.val (.int p0), .val (.int p1), .val (.int p2), .val (.int p3), .val (.int p4), .val (.int p5), .val (.int (4 : Int32)), .val (.int v0), .val (.int v1), .val (.int v2), .val (.int v3), .val (.int v4), .val (.int v5), .val (.ref b1), .val (.ref b8), .val (.double (FP.ddiv (FP.dadd (FP.i2d v1) (FP.i2d v2)) 4611686018427387904)), .second, .val (.int (1 : Int32)), .val (.int (2 : Int32))] [(.int (1 : Int32)), (.ref b1), (.double (FP.dmul (FP.ddiv (FP.dadd (FP.i2d v1) (FP.i2d v2)) 4611686018427387904) 4611686018427387904))])) rfl rfl (hb hby at_214) _ ?_
    show Steps p.tables e below (T13.setTop (mkF m 215 #[.val (.int p0), .val (.int p1), .val (.int p2), .val (.int p3), .val (.int p4), .val (.int p5), .val (.int (4 : Int32)), .val (.int v0), .val (.int v1), .val (.int v2), .val (.int v3), .val (.int v4), .val (.int v5), .val (.ref b1), .val (.ref b8), .val (.double (FP.ddiv (FP.dadd (FP.i2d v1) (FP.i2d v2)) 4611686018427387904)), .second, .val (.int (1 : Int32)), .val (.int (2 : Int32))] [(.int v1), (.double (FP.dmul (FP.ddiv (FP.dadd (FP.i2d v1) (FP.i2d v2)) 4611686018427387904) 4611686018427387904))])) _
    refine XS.aload X13.here hx rfl (hb hby at_215) rfl rfl ?_
    show Steps p.tables e below (T13.setTop (mkF m 217 #[.val (.int p0), .val (.int p1), .val (.int p2), .val (.int p3), .val (.int p4), .val (.int p5), .val (.int (4 : Int32)), .val (.int v0), .val (.int v1), .val (.int v2), .val (.int v3), .val (.int v4), .val (.int v5), .val (.ref b1), .val (.ref b8), .val (.double (FP.ddiv (FP.dadd (FP.i2d v1) (FP.i2d v2)) 4611686018427387904)), .second, .val (.int (1 : Int32)), .val (.int (2 : Int32))] [(.ref b1), (.int v1), (.double (FP.dmul (FP.ddiv (FP.dadd (FP.i2d v1) (FP.i2d v2)) 4611686018427387904) 4611686018427387904))])) _
    refine XS.iload X13.here hx rfl (hb hby at_217) rfl ?_
    show Steps p.tables e below (T13.setTop (mkF m 219 #[.val (.int p0), .val (.int p1), .val (.int p2), .val (.int p3), .val (.int p4), .val (.int p5), .val (.int (4 : Int32)), .val (.int v0), .val (.int v1), .val (.int v2), .val (.int v3), .val (.int v4), .val (.int v5), .val (.ref b1), .val (.ref b8), .val (.double (FP.ddiv (FP.dadd (FP.i2d v1) (FP.i2d v2)) 4611686018427387904)), .second, .val (.int (1 : Int32)), .val (.int (2 : Int32))] [(.int (2 : Int32)), (.ref b1), (.int v1), (.double (FP.dmul (FP.ddiv (FP.dadd (FP.i2d v1) (FP.i2d v2)) 4611686018427387904) 4611686018427387904))])) _
    refine X13.iaload hx (j := (2 : Int32)) (v := (.int v2)) (by rw [e13]; exact Ar16.1) (State.isArrayOf_alike hZ.alike Ar16.2.1) Ar16.2.2 hin16 hat16 (g := (mkF m 219 #[.val (.int p0), .val (.int p1), .val (.int p2), .val (.int p3), .val (.int p4), .val (.int p5), .val (.int (4 : Int32)), .val (.int v0), .val (.int v1), .val (.int v2), .val (.int v3), .val (.int v4), .val (.int v5), .val (.ref b1), .val (.ref b8), .val (.double (FP.ddiv (FP.dadd (FP.i2d v1) (FP.i2d v2)) 4611686018427387904)), .second, .val (.int (1 : Int32)), .val (.int (2 : Int32))] [(.int (2 : Int32)), (.ref b1), (.int v1), (.double (FP.dmul (FP.ddiv (FP.dadd (FP.i2d v1) (FP.i2d v2)) 4611686018427387904) 4611686018427387904))])) rfl rfl (hb hby at_219) _ ?_
    show Steps p.tables e below (T13.setTop (mkF m 220 #[.val (.int p0), .val (.int p1), .val (.int p2), .val (.int p3), .val (.int p4), .val (.int p5), .val (.int (4 : Int32)), .val (.int v0), .val (.int v1), .val (.int v2), .val (.int v3), .val (.int v4), .val (.int v5), .val (.ref b1), .val (.ref b8), .val (.double (FP.ddiv (FP.dadd (FP.i2d v1) (FP.i2d v2)) 4611686018427387904)), .second, .val (.int (1 : Int32)), .val (.int (2 : Int32))] [(.int v2), (.int v1), (.double (FP.dmul (FP.ddiv (FP.dadd (FP.i2d v1) (FP.i2d v2)) 4611686018427387904) 4611686018427387904))])) _
    refine XS.iadd X13.here hx rfl (hb hby at_220) rfl ?_
    show Steps p.tables e below (T13.setTop (mkF m 221 #[.val (.int p0), .val (.int p1), .val (.int p2), .val (.int p3), .val (.int p4), .val (.int p5), .val (.int (4 : Int32)), .val (.int v0), .val (.int v1), .val (.int v2), .val (.int v3), .val (.int v4), .val (.int v5), .val (.ref b1), .val (.ref b8), .val (.double (FP.ddiv (FP.dadd (FP.i2d v1) (FP.i2d v2)) 4611686018427387904)), .second, .val (.int (1 : Int32)), .val (.int (2 : Int32))] [(.int (v1 + v2)), (.double (FP.dmul (FP.ddiv (FP.dadd (FP.i2d v1) (FP.i2d v2)) 4611686018427387904) 4611686018427387904))])) _
    refine XS.i2dS X13.here hx rfl (hb hby at_221) rfl rfl ?_
    show Steps p.tables e below (T13.setTop (mkF m 222 #[.val (.int p0), .val (.int p1), .val (.int p2), .val (.int p3), .val (.int p4), .val (.int p5), .val (.int (4 : Int32)), .val (.int v0), .val (.int v1), .val (.int v2), .val (.int v3), .val (.int v4), .val (.int v5), .val (.ref b1), .val (.ref b8), .val (.double (FP.ddiv (FP.dadd (FP.i2d v1) (FP.i2d v2)) 4611686018427387904)), .second, .val (.int (1 : Int32)), .val (.int (2 : Int32))] [(.double (FP.i2d (v1 + v2))), (.double (FP.dmul (FP.ddiv (FP.dadd (FP.i2d v1) (FP.i2d v2)) 4611686018427387904) 4611686018427387904))])) _
    refine XS.dcmpS X13.here hx rfl (hb hby at_222) rfl (v := (0 : Int32)) (own_even B1 B2) ?_
    show Steps p.tables e below (T13.setTop (mkF m 223 #[.val (.int p0), .val (.int p1), .val (.int p2), .val (.int p3), .val (.int p4), .val (.int p5), .val (.int (4 : Int32)), .val (.int v0), .val (.int v1), .val (.int v2), .val (.int v3), .val (.int v4), .val (.int v5), .val (.ref b1), .val (.ref b8), .val (.double (FP.ddiv (FP.dadd (FP.i2d v1) (FP.i2d v2)) 4611686018427387904)), .second, .val (.int (1 : Int32)), .val (.int (2 : Int32))] [(.int (0 : Int32))])) _
    refine XS.ifNo X13.here hx rfl (hb hby at_223) rfl ((if0 _ _).trans (teq (rfl : (0 : Int32) = (0 : Int32))).2) ?_
    show Steps p.tables e below (T13.setTop (mkF m 226 #[.val (.int p0), .val (.int p1), .val (.int p2), .val (.int p3), .val (.int p4), .val (.int p5), .val (.int (4 : Int32)), .val (.int v0), .val (.int v1), .val (.int v2), .val (.int v3), .val (.int v4), .val (.int v5), .val (.ref b1), .val (.ref b8), .val (.double (FP.ddiv (FP.dadd (FP.i2d v1) (FP.i2d v2)) 4611686018427387904)), .second, .val (.int (1 : Int32)), .val (.int (2 : Int32))] [])) _
    refine XS.iconst X13.here hx rfl (hb hby at_226) ?_
    show Steps p.tables e below (T13.setTop (mkF m 227 #[.val (.int p0), .val (.int p1), .val (.int p2), .val (.int p3), .val (.int p4), .val (.int p5), .val (.int (4 : Int32)), .val (.int v0), .val (.int v1), .val (.int v2), .val (.int v3), .val (.int v4), .val (.int v5), .val (.ref b1), .val (.ref b8), .val (.double (FP.ddiv (FP.dadd (FP.i2d v1) (FP.i2d v2)) 4611686018427387904)), .second, .val (.int (1 : Int32)), .val (.int (2 : Int32))] [(.int (1 : Int32))])) _
    refine XS.goto X13.here hx rfl (pc0 := 227) (pc' := 231) rfl (hb hby at_227) (by decide) (by decide) ?_
    show Steps p.tables e below (T13.setTop (mkF m 231 #[.val (.int p0), .val (.int p1), .val (.int p2), .val (.int p3), .val (.int p4), .val (.int p5), .val (.int (4 : Int32)), .val (.int v0), .val (.int v1), .val (.int v2), .val (.int v3), .val (.int v4), .val (.int v5), .val (.ref b1), .val (.ref b8), .val (.double (FP.ddiv (FP.dadd (FP.i2d v1) (FP.i2d v2)) 4611686018427387904)), .second, .val (.int (1 : Int32)), .val (.int (2 : Int32))] [(.int (1 : Int32))])) _
    exact retN X13 hx (t := .boolean) Bd.returns (by simp) (hb hby at_231) hr
  · show Q_rm0_4 Z p0 p1 p2 p3 p4 p5 v0 v1 v2 v3 v4 v5 h0 n0 _ T13.heap _
    rw [e13]
    exact ⟨rfl, N13⟩
def Q_rm0_5 (Z : State) (p0 : Int32) (p1 : Int32) (p2 : Int32) (p3 : Int32) (p4 : Int32) (p5 : Int32) (v0 : Int32) (v1 : Int32) (v2 : Int32) (v3 : Int32) (v4 : Int32) (v5 : Int32) (h0 : Heap) (n0 : Nat) (v : Option Value) (h : Heap) (L : List Loc) : Prop := v = some (.int (1 : Int32)) ∧ Fr n0 L
theorem ef_rm0_5 (m : MethodId) (p0 : Int32) (p1 : Int32) (p2 : Int32) (p3 : Int32) (p4 : Int32) (p5 : Int32) : entryFrame m #[(.int p0), (.int p1), (.int p2), (.int p3), (.int p4), (.int p5)] maxLocals = mkF m 0 #[.val (.int p0), .val (.int p1), .val (.int p2), .val (.int p3), .val (.int p4), .val (.int p5), .unset, .unset, .unset, .unset, .unset, .unset, .unset, .unset, .unset, .unset, .unset, .unset, .unset] [] := by first | (simp [entryFrame, mkF, argsToLocals, Value.category, maxLocals]; done) | rfl
set_option maxRecDepth 65536 in
set_option maxHeartbeats 40000000 in
theorem rm0_5 (l : Launch) (Z : State) (a0 : Array Value) (hw : ∀ d ∈ tables_1, d.before a0 Z = true) (ws : List Jvm.Cond) (p0 : Int32) (p1 : Int32) (p2 : Int32) (p3 : Int32) (p4 : Int32) (p5 : Int32) (v0 : Int32) (v1 : Int32) (v2 : Int32) (v3 : Int32) (v4 : Int32) (v5 : Int32) (h0 : Heap) (n0 : Nat) (Z0 : n0 ≤ h0.size) (hn : (((p0 &&& (7 : Int32)) % (6 : Int32)) + (1 : Int32)) = (5 : Int32)) (hv0 : (((p0 >>> ((3 : Int32) &&& 31)) &&& (1048575 : Int32)) - (524288 : Int32)) = v0) (hv1 : (v0 + (p1 &&& (65535 : Int32))) = v1) (hv2 : (v1 + (p2 &&& (65535 : Int32))) = v2) (hv3 : (v2 + (p3 &&& (65535 : Int32))) = v3) (hv4 : (v3 + (p4 &&& (65535 : Int32))) = v4) (hv5 : (v4 + (p5 &&& (65535 : Int32))) = v5) :
    MetFree l x (head1 (Jvm.Cond.code x code maxLocals ret :: ws) room_1) (fun a U => a = #[(.int p0), (.int p1), (.int p2), (.int p3), (.int p4), (.int p5)] ∧ Z.Warmed39 U.vm ∧ U.heap = h0) (fun _ _ _ _ _ => True) (fun _ U o U' => ∃ v L, o = .returned v ∧ Q_rm0_5 Z p0 p1 p2 p3 p4 p5 v0 v1 v2 v3 v4 v5 h0 n0 v U'.heap L ∧ FrameEnd U o U' L room_1.cells room_1.slots) := by
  refine MetFree.of_bodySF (plainFor_of_name pn_1) hisR ?_
  intro p e s m args below meth c s₁ Bd hml0 hP hK
  obtain ⟨rfl, hZ, hh⟩ := hP
  have hx := Bd.exec
  have hby := Bd.bytes
  have hml : c.maxLocals = 19 := hml0
  have hown : s.vm.findClass "parkline/scenario/BenchMedianPinLaw" = some m.cls := findClass_of_methodNamed Bd.named
  have hnm := (name_of_methodNamed Bd.named Bd.method).1
  have X0 : Stand p l e room_1 s m #[(.int p0), (.int p1), (.int p2), (.int p3), (.int p4), (.int p5)] below meth c s₁ [] 0 0 := Stand.of_body Bd
  have e0 : s₁.heap = h0 := by rw [← hh, Bd.state]; rfl
  have N0 := Fr.nil n0
  have pre0 : ∀ t, Steps p.tables e below (s₁.setTop (mkF m 0 #[.val (.int p0), .val (.int p1), .val (.int p2), .val (.int p3), .val (.int p4), .val (.int p5), .unset, .unset, .unset, .unset, .unset, .unset, .unset, .unset, .unset, .unset, .unset, .unset, .unset] [])) t → Steps p.tables e below (s₁.setTop (entryFrame m #[(.int p0), (.int p1), (.int p2), (.int p3), (.int p4), (.int p5)] maxLocals)) t := fun t k => castTop (ef_rm0_5 m p0 p1 p2 p3 p4 p5) k
  obtain ⟨B0, B1, B2, B3, B4, B5⟩ := own_b p0 p1 p2 p3 p4 p5 v0 v1 v2 v3 v4 v5 hv0 hv1 hv2 hv3 hv4 hv5
  obtain ⟨T1, h1, k1, X1, e1, E1, A1, st1⟩ := newP X0 hx hZ (hw _ (List.mem_of_getElem? (i := 3) rfl)) e0 (g := (mkF m 71 #[.val (.int p0), .val (.int p1), .val (.int p2), .val (.int p3), .val (.int p4), .val (.int p5), .val (.int (5 : Int32)), .val (.int v0), .val (.int v1), .val (.int v2), .val (.int v3), .val (.int v4), .val (.int v5), .unset, .unset, .unset, .unset, .unset, .unset] [(.int (6 : Int32))])) rfl (hb hby at_71) rfl (by decide) (cap := 6) (by decide) (by decide) (by decide) (by decide)
  obtain ⟨b1, g1⟩ : ∃ z, z = h0.size := ⟨_, rfl⟩
  rw [← g1] at A1 st1
  have V1 : Arv Z h1 b1 k1 .int (6 : Int32) [(.int (0 : Int32)), (.int (0 : Int32)), (.int (0 : Int32)), (.int (0 : Int32)), (.int (0 : Int32)), (.int (0 : Int32))] (.int (0 : Int32)) := (Arv.new A1 (by decide)).pad (pad_rep [] (.int (0 : Int32)) 6)
  have Vc2 := V1
  obtain ⟨cl2, Ar2, q2, S2, M2, H2, G2⟩ := Vc2
  have hin2 : ¬ ((0 : Int32) < 0 ∨ cl2.slots.size ≤ ((0 : Int32)).toNatClampNeg) := inb_of S2 ⟨by decide, by decide⟩
  obtain ⟨T2, h2, X2, e2, W2, st2⟩ := stI X1 hx hZ e1 Ar2 (j := (0 : Int32)) hin2 (g := (mkF m 77 #[.val (.int p0), .val (.int p1), .val (.int p2), .val (.int p3), .val (.int p4), .val (.int p5), .val (.int (5 : Int32)), .val (.int v0), .val (.int v1), .val (.int v2), .val (.int v3), .val (.int v4), .val (.int v5), .unset, .unset, .unset, .unset, .unset, .unset] [(.int v0), (.int (0 : Int32)), (.ref b1), (.ref b1)])) rfl rfl (hb hby at_77)
  have V2 : Arv Z h2 b1 k1 .int (6 : Int32) [(.int v0), (.int (0 : Int32)), (.int (0 : Int32)), (.int (0 : Int32)), (.int (0 : Int32)), (.int (0 : Int32))] (.int (0 : Int32)) := Arv.set Ar2 q2 S2 M2 H2 G2 rfl W2 0 rfl (Nat.le_of_ble_eq_true rfl)
  have N2 := Fr.snoc X2 N0 (Nat.le_trans Z0 (Nat.le_of_eq g1.symm))
  have Vc3 := V2
  obtain ⟨cl3, Ar3, q3, S3, M3, H3, G3⟩ := Vc3
  have hin3 : ¬ ((1 : Int32) < 0 ∨ cl3.slots.size ≤ ((1 : Int32)).toNatClampNeg) := inb_of S3 ⟨by decide, by decide⟩
  obtain ⟨T3, h3, X3, e3, W3, st3⟩ := stI X2 hx hZ e2 Ar3 (j := (1 : Int32)) hin3 (g := (mkF m 82 #[.val (.int p0), .val (.int p1), .val (.int p2), .val (.int p3), .val (.int p4), .val (.int p5), .val (.int (5 : Int32)), .val (.int v0), .val (.int v1), .val (.int v2), .val (.int v3), .val (.int v4), .val (.int v5), .unset, .unset, .unset, .unset, .unset, .unset] [(.int v1), (.int (1 : Int32)), (.ref b1), (.ref b1)])) rfl rfl (hb hby at_82)
  have V3 : Arv Z h3 b1 k1 .int (6 : Int32) [(.int v0), (.int v1), (.int (0 : Int32)), (.int (0 : Int32)), (.int (0 : Int32)), (.int (0 : Int32))] (.int (0 : Int32)) := Arv.set Ar3 q3 S3 M3 H3 G3 rfl W3 1 rfl (Nat.le_of_ble_eq_true rfl)
  have N3 := Fr.snoc X3 N2 (Nat.le_trans Z0 (Nat.le_of_eq g1.symm))
  have Vc4 := V3
  obtain ⟨cl4, Ar4, q4, S4, M4, H4, G4⟩ := Vc4
  have hin4 : ¬ ((2 : Int32) < 0 ∨ cl4.slots.size ≤ ((2 : Int32)).toNatClampNeg) := inb_of S4 ⟨by decide, by decide⟩
  obtain ⟨T4, h4, X4, e4, W4, st4⟩ := stI X3 hx hZ e3 Ar4 (j := (2 : Int32)) hin4 (g := (mkF m 87 #[.val (.int p0), .val (.int p1), .val (.int p2), .val (.int p3), .val (.int p4), .val (.int p5), .val (.int (5 : Int32)), .val (.int v0), .val (.int v1), .val (.int v2), .val (.int v3), .val (.int v4), .val (.int v5), .unset, .unset, .unset, .unset, .unset, .unset] [(.int v2), (.int (2 : Int32)), (.ref b1), (.ref b1)])) rfl rfl (hb hby at_87)
  have V4 : Arv Z h4 b1 k1 .int (6 : Int32) [(.int v0), (.int v1), (.int v2), (.int (0 : Int32)), (.int (0 : Int32)), (.int (0 : Int32))] (.int (0 : Int32)) := Arv.set Ar4 q4 S4 M4 H4 G4 rfl W4 2 rfl (Nat.le_of_ble_eq_true rfl)
  have N4 := Fr.snoc X4 N3 (Nat.le_trans Z0 (Nat.le_of_eq g1.symm))
  have Vc5 := V4
  obtain ⟨cl5, Ar5, q5, S5, M5, H5, G5⟩ := Vc5
  have hin5 : ¬ ((3 : Int32) < 0 ∨ cl5.slots.size ≤ ((3 : Int32)).toNatClampNeg) := inb_of S5 ⟨by decide, by decide⟩
  obtain ⟨T5, h5, X5, e5, W5, st5⟩ := stI X4 hx hZ e4 Ar5 (j := (3 : Int32)) hin5 (g := (mkF m 92 #[.val (.int p0), .val (.int p1), .val (.int p2), .val (.int p3), .val (.int p4), .val (.int p5), .val (.int (5 : Int32)), .val (.int v0), .val (.int v1), .val (.int v2), .val (.int v3), .val (.int v4), .val (.int v5), .unset, .unset, .unset, .unset, .unset, .unset] [(.int v3), (.int (3 : Int32)), (.ref b1), (.ref b1)])) rfl rfl (hb hby at_92)
  have V5 : Arv Z h5 b1 k1 .int (6 : Int32) [(.int v0), (.int v1), (.int v2), (.int v3), (.int (0 : Int32)), (.int (0 : Int32))] (.int (0 : Int32)) := Arv.set Ar5 q5 S5 M5 H5 G5 rfl W5 3 rfl (Nat.le_of_ble_eq_true rfl)
  have N5 := Fr.snoc X5 N4 (Nat.le_trans Z0 (Nat.le_of_eq g1.symm))
  have Vc6 := V5
  obtain ⟨cl6, Ar6, q6, S6, M6, H6, G6⟩ := Vc6
  have hin6 : ¬ ((4 : Int32) < 0 ∨ cl6.slots.size ≤ ((4 : Int32)).toNatClampNeg) := inb_of S6 ⟨by decide, by decide⟩
  obtain ⟨T6, h6, X6, e6, W6, st6⟩ := stI X5 hx hZ e5 Ar6 (j := (4 : Int32)) hin6 (g := (mkF m 97 #[.val (.int p0), .val (.int p1), .val (.int p2), .val (.int p3), .val (.int p4), .val (.int p5), .val (.int (5 : Int32)), .val (.int v0), .val (.int v1), .val (.int v2), .val (.int v3), .val (.int v4), .val (.int v5), .unset, .unset, .unset, .unset, .unset, .unset] [(.int v4), (.int (4 : Int32)), (.ref b1), (.ref b1)])) rfl rfl (hb hby at_97)
  have V6 : Arv Z h6 b1 k1 .int (6 : Int32) [(.int v0), (.int v1), (.int v2), (.int v3), (.int v4), (.int (0 : Int32))] (.int (0 : Int32)) := Arv.set Ar6 q6 S6 M6 H6 G6 rfl W6 4 rfl (Nat.le_of_ble_eq_true rfl)
  have N6 := Fr.snoc X6 N5 (Nat.le_trans Z0 (Nat.le_of_eq g1.symm))
  have Vc7 := V6
  obtain ⟨cl7, Ar7, q7, S7, M7, H7, G7⟩ := Vc7
  have hin7 : ¬ ((5 : Int32) < 0 ∨ cl7.slots.size ≤ ((5 : Int32)).toNatClampNeg) := inb_of S7 ⟨by decide, by decide⟩
  obtain ⟨T7, h7, X7, e7, W7, st7⟩ := stI X6 hx hZ e6 Ar7 (j := (5 : Int32)) hin7 (g := (mkF m 102 #[.val (.int p0), .val (.int p1), .val (.int p2), .val (.int p3), .val (.int p4), .val (.int p5), .val (.int (5 : Int32)), .val (.int v0), .val (.int v1), .val (.int v2), .val (.int v3), .val (.int v4), .val (.int v5), .unset, .unset, .unset, .unset, .unset, .unset] [(.int v5), (.int (5 : Int32)), (.ref b1), (.ref b1)])) rfl rfl (hb hby at_102)
  have V7 : Arv Z h7 b1 k1 .int (6 : Int32) [(.int v0), (.int v1), (.int v2), (.int v3), (.int v4), (.int v5)] (.int (0 : Int32)) := Arv.set Ar7 q7 S7 M7 H7 G7 rfl W7 5 rfl (Nat.le_of_ble_eq_true rfl)
  have N7 := Fr.snoc X7 N6 (Nat.le_trans Z0 (Nat.le_of_eq g1.symm))
  obtain ⟨T8, h8, k8, X8, e8, E8, A8, st8⟩ := newP X7 hx hZ (hw _ (List.mem_of_getElem? (i := 4) rfl)) e7 (g := (mkF m 107 #[.val (.int p0), .val (.int p1), .val (.int p2), .val (.int p3), .val (.int p4), .val (.int p5), .val (.int (5 : Int32)), .val (.int v0), .val (.int v1), .val (.int v2), .val (.int v3), .val (.int v4), .val (.int v5), .val (.ref b1), .unset, .unset, .unset, .unset, .unset] [(.int (5 : Int32))])) rfl (hb hby at_107) rfl (by decide) (cap := 5) (by decide) (by decide) (by decide) (by decide)
  obtain ⟨b8, g8⟩ : ∃ z, z = h7.size := ⟨_, rfl⟩
  rw [← g8] at A8 st8
  have V8 : Arv Z h8 b8 k8 .double (5 : Int32) [(.double 0), (.double 0), (.double 0), (.double 0), (.double 0)] (.double 0) := (Arv.new A8 (by decide)).pad (pad_rep [] (.double 0) 5)
  have Vc9 := V8
  obtain ⟨cl9, Ar9, q9, S9, M9, H9, G9⟩ := Vc9
  have hin9 : ¬ ((0 : Int32) < 0 ∨ cl9.slots.size ≤ ((0 : Int32)).toNatClampNeg) := inb_of S9 ⟨by decide, by decide⟩
  obtain ⟨T9, h9, X9, e9, W9, st9⟩ := stD X8 hx hZ e8 Ar9 (j := (0 : Int32)) hin9 (g := (mkF m 117 #[.val (.int p0), .val (.int p1), .val (.int p2), .val (.int p3), .val (.int p4), .val (.int p5), .val (.int (5 : Int32)), .val (.int v0), .val (.int v1), .val (.int v2), .val (.int v3), .val (.int v4), .val (.int v5), .val (.ref b1), .val (.ref b8), .unset, .unset, .unset, .unset] [(.double (FP.i2d v0)), (.int (0 : Int32)), (.ref b8)])) rfl rfl (hb hby at_117)
  have V9 : Arv Z h9 b8 k8 .double (5 : Int32) [(.double (FP.i2d v0)), (.double 0), (.double 0), (.double 0), (.double 0)] (.double 0) := Arv.set Ar9 q9 S9 M9 H9 G9 rfl W9 0 rfl (Nat.le_of_ble_eq_true rfl)
  have N9 := Fr.snoc X9 N7 (Nat.le_trans (Nat.le_trans (Nat.le_trans (Nat.le_trans (Nat.le_trans (Nat.le_trans (Nat.le_trans (Nat.le_trans Z0 E1.1) (Keep.of_wr W2).1) (Keep.of_wr W3).1) (Keep.of_wr W4).1) (Keep.of_wr W5).1) (Keep.of_wr W6).1) (Keep.of_wr W7).1) (Nat.le_of_eq g8.symm))
  have Vc10 := V9
  obtain ⟨cl10, Ar10, q10, S10, M10, H10, G10⟩ := Vc10
  have hin10 : ¬ ((1 : Int32) < 0 ∨ cl10.slots.size ≤ ((1 : Int32)).toNatClampNeg) := inb_of S10 ⟨by decide, by decide⟩
  obtain ⟨T10, h10, X10, e10, W10, st10⟩ := stD X9 hx hZ e9 Ar10 (j := (1 : Int32)) hin10 (g := (mkF m 130 #[.val (.int p0), .val (.int p1), .val (.int p2), .val (.int p3), .val (.int p4), .val (.int p5), .val (.int (5 : Int32)), .val (.int v0), .val (.int v1), .val (.int v2), .val (.int v3), .val (.int v4), .val (.int v5), .val (.ref b1), .val (.ref b8), .unset, .unset, .unset, .unset] [(.double (FP.i2d v1)), (.int (1 : Int32)), (.ref b8)])) rfl rfl (hb hby at_130)
  have V10 : Arv Z h10 b8 k8 .double (5 : Int32) [(.double (FP.i2d v0)), (.double (FP.i2d v1)), (.double 0), (.double 0), (.double 0)] (.double 0) := Arv.set Ar10 q10 S10 M10 H10 G10 rfl W10 1 rfl (Nat.le_of_ble_eq_true rfl)
  have N10 := Fr.snoc X10 N9 (Nat.le_trans (Nat.le_trans (Nat.le_trans (Nat.le_trans (Nat.le_trans (Nat.le_trans (Nat.le_trans (Nat.le_trans Z0 E1.1) (Keep.of_wr W2).1) (Keep.of_wr W3).1) (Keep.of_wr W4).1) (Keep.of_wr W5).1) (Keep.of_wr W6).1) (Keep.of_wr W7).1) (Nat.le_of_eq g8.symm))
  have Vc11 := V10
  obtain ⟨cl11, Ar11, q11, S11, M11, H11, G11⟩ := Vc11
  have hin11 : ¬ ((2 : Int32) < 0 ∨ cl11.slots.size ≤ ((2 : Int32)).toNatClampNeg) := inb_of S11 ⟨by decide, by decide⟩
  obtain ⟨T11, h11, X11, e11, W11, st11⟩ := stD X10 hx hZ e10 Ar11 (j := (2 : Int32)) hin11 (g := (mkF m 143 #[.val (.int p0), .val (.int p1), .val (.int p2), .val (.int p3), .val (.int p4), .val (.int p5), .val (.int (5 : Int32)), .val (.int v0), .val (.int v1), .val (.int v2), .val (.int v3), .val (.int v4), .val (.int v5), .val (.ref b1), .val (.ref b8), .unset, .unset, .unset, .unset] [(.double (FP.i2d v2)), (.int (2 : Int32)), (.ref b8)])) rfl rfl (hb hby at_143)
  have V11 : Arv Z h11 b8 k8 .double (5 : Int32) [(.double (FP.i2d v0)), (.double (FP.i2d v1)), (.double (FP.i2d v2)), (.double 0), (.double 0)] (.double 0) := Arv.set Ar11 q11 S11 M11 H11 G11 rfl W11 2 rfl (Nat.le_of_ble_eq_true rfl)
  have N11 := Fr.snoc X11 N10 (Nat.le_trans (Nat.le_trans (Nat.le_trans (Nat.le_trans (Nat.le_trans (Nat.le_trans (Nat.le_trans (Nat.le_trans Z0 E1.1) (Keep.of_wr W2).1) (Keep.of_wr W3).1) (Keep.of_wr W4).1) (Keep.of_wr W5).1) (Keep.of_wr W6).1) (Keep.of_wr W7).1) (Nat.le_of_eq g8.symm))
  have Vc12 := V11
  obtain ⟨cl12, Ar12, q12, S12, M12, H12, G12⟩ := Vc12
  have hin12 : ¬ ((3 : Int32) < 0 ∨ cl12.slots.size ≤ ((3 : Int32)).toNatClampNeg) := inb_of S12 ⟨by decide, by decide⟩
  obtain ⟨T12, h12, X12, e12, W12, st12⟩ := stD X11 hx hZ e11 Ar12 (j := (3 : Int32)) hin12 (g := (mkF m 156 #[.val (.int p0), .val (.int p1), .val (.int p2), .val (.int p3), .val (.int p4), .val (.int p5), .val (.int (5 : Int32)), .val (.int v0), .val (.int v1), .val (.int v2), .val (.int v3), .val (.int v4), .val (.int v5), .val (.ref b1), .val (.ref b8), .unset, .unset, .unset, .unset] [(.double (FP.i2d v3)), (.int (3 : Int32)), (.ref b8)])) rfl rfl (hb hby at_156)
  have V12 : Arv Z h12 b8 k8 .double (5 : Int32) [(.double (FP.i2d v0)), (.double (FP.i2d v1)), (.double (FP.i2d v2)), (.double (FP.i2d v3)), (.double 0)] (.double 0) := Arv.set Ar12 q12 S12 M12 H12 G12 rfl W12 3 rfl (Nat.le_of_ble_eq_true rfl)
  have N12 := Fr.snoc X12 N11 (Nat.le_trans (Nat.le_trans (Nat.le_trans (Nat.le_trans (Nat.le_trans (Nat.le_trans (Nat.le_trans (Nat.le_trans Z0 E1.1) (Keep.of_wr W2).1) (Keep.of_wr W3).1) (Keep.of_wr W4).1) (Keep.of_wr W5).1) (Keep.of_wr W6).1) (Keep.of_wr W7).1) (Nat.le_of_eq g8.symm))
  have Vc13 := V12
  obtain ⟨cl13, Ar13, q13, S13, M13, H13, G13⟩ := Vc13
  have hin13 : ¬ ((4 : Int32) < 0 ∨ cl13.slots.size ≤ ((4 : Int32)).toNatClampNeg) := inb_of S13 ⟨by decide, by decide⟩
  obtain ⟨T13, h13, X13, e13, W13, st13⟩ := stD X12 hx hZ e12 Ar13 (j := (4 : Int32)) hin13 (g := (mkF m 169 #[.val (.int p0), .val (.int p1), .val (.int p2), .val (.int p3), .val (.int p4), .val (.int p5), .val (.int (5 : Int32)), .val (.int v0), .val (.int v1), .val (.int v2), .val (.int v3), .val (.int v4), .val (.int v5), .val (.ref b1), .val (.ref b8), .unset, .unset, .unset, .unset] [(.double (FP.i2d v4)), (.int (4 : Int32)), (.ref b8)])) rfl rfl (hb hby at_169)
  have V13 : Arv Z h13 b8 k8 .double (5 : Int32) [(.double (FP.i2d v0)), (.double (FP.i2d v1)), (.double (FP.i2d v2)), (.double (FP.i2d v3)), (.double (FP.i2d v4))] (.double 0) := Arv.set Ar13 q13 S13 M13 H13 G13 rfl W13 4 rfl (Nat.le_of_ble_eq_true rfl)
  have N13 := Fr.snoc X13 N12 (Nat.le_trans (Nat.le_trans (Nat.le_trans (Nat.le_trans (Nat.le_trans (Nat.le_trans (Nat.le_trans (Nat.le_trans Z0 E1.1) (Keep.of_wr W2).1) (Keep.of_wr W3).1) (Keep.of_wr W4).1) (Keep.of_wr W5).1) (Keep.of_wr W6).1) (Keep.of_wr W7).1) (Nat.le_of_eq g8.symm))
  obtain ⟨_, _, ⟨T14, L14, k14, n14⟩, -, X14, ⟨Lc14, hQ14, l14, y14, z14⟩, st14⟩ := Jvm.LawKit.callS X13 hx (y := (⟨"parkline/scenario/Bench", "median", "([D)D"⟩ : MethodName)) hown (mvT hZ (hw _ (List.mem_of_getElem? (i := 5) rfl))) (mvT hZ (hw _ (List.mem_of_getElem? (i := 6) rfl))) (mvT hZ (hw _ (List.mem_of_getElem? (i := 7) rfl))) (mvT hZ (hw _ (List.mem_of_getElem? (i := 8) rfl))) (by decide) (backOf (W := 0) (rmMed5 l Z a0 hw [] b8 k8 (FP.i2d v0) (FP.i2d v1) (FP.i2d v2) (FP.i2d v3) (FP.i2d v4) h13 n0 (Nat.le_trans (Nat.le_trans (Nat.le_trans (Nat.le_trans (Nat.le_trans (Nat.le_trans (Nat.le_trans (Nat.le_trans (Nat.le_trans (Nat.le_trans (Nat.le_trans (Nat.le_trans (Nat.le_trans Z0 E1.1) (Keep.of_wr W2).1) (Keep.of_wr W3).1) (Keep.of_wr W4).1) (Keep.of_wr W5).1) (Keep.of_wr W6).1) (Keep.of_wr W7).1) E8.1) (Keep.of_wr W9).1) (Keep.of_wr W10).1) (Keep.of_wr W11).1) (Keep.of_wr W12).1) (Keep.of_wr W13).1) V13) hZ (hw _ (List.mem_of_getElem? (i := 8) rfl)) (hw _ (List.mem_of_getElem? (i := 7) rfl)) (by decide) (by decide)) (g := (mkF m 185 #[.val (.int p0), .val (.int p1), .val (.int p2), .val (.int p3), .val (.int p4), .val (.int p5), .val (.int (5 : Int32)), .val (.int v0), .val (.int v1), .val (.int v2), .val (.int v3), .val (.int v4), .val (.int v5), .val (.ref b1), .val (.ref b8), .unset, .unset, .unset, .unset] [(.ref b8)])) rfl (by rw [hml]; rfl) (argsL := [(.ref b8)]) (rest := []) (lenOf pd_0 rfl) rfl (by show 2 * 0 + _ ≤ _; exact Nat.le_of_eq rfl) (hb hby at_185) (fun _ _ => ⟨rfl, e13, (by decide : 2 + 0 ≤ _), (by decide : 11 + 0 ≤ _)⟩)
  dsimp only [Pt.U, Pt.locs, Pt.cells, Pt.slots] at X14 l14 y14 z14 st14 hQ14
  subst l14 y14 z14
  obtain ⟨rfl, Nq14, e14⟩ := hQ14
  have N14 := Fr.app N13 Nq14
  have f15 : Arv Z h13 b1 k1 .int (6 : Int32) [(.int v0), (.int v1), (.int v2), (.int v3), (.int v4), (.int v5)] (.int (0 : Int32)) := ((((((V7.ext E8).other W9 (Nat.ne_of_lt (Nat.lt_of_lt_of_le V7.lt (Nat.le_of_eq g8.symm)))).other W10 (Nat.ne_of_lt (Nat.lt_of_lt_of_le V7.lt (Nat.le_of_eq g8.symm)))).other W11 (Nat.ne_of_lt (Nat.lt_of_lt_of_le V7.lt (Nat.le_of_eq g8.symm)))).other W12 (Nat.ne_of_lt (Nat.lt_of_lt_of_le V7.lt (Nat.le_of_eq g8.symm)))).other W13 (Nat.ne_of_lt (Nat.lt_of_lt_of_le V7.lt (Nat.le_of_eq g8.symm))))
  have Vc16 := f15
  obtain ⟨cl16, Ar16, q16, S16, M16, H16, G16⟩ := Vc16
  have hin16 : ¬ ((2 : Int32) < 0 ∨ cl16.slots.size ≤ ((2 : Int32)).toNatClampNeg) := inb_of S16 ⟨by decide, by decide⟩
  have hat16 : cl16.slots[((2 : Int32)).toNatClampNeg]? = some (.int v2) := Has.at H16 hin16 rfl
  have Vc17 := f15
  obtain ⟨cl17, Ar17, q17, S17, M17, H17, G17⟩ := Vc17
  have hin17 : ¬ ((2 : Int32) < 0 ∨ cl17.slots.size ≤ ((2 : Int32)).toNatClampNeg) := inb_of S17 ⟨by decide, by decide⟩
  have hat17 : cl17.slots[((2 : Int32)).toNatClampNeg]? = some (.int v2) := Has.at H17 hin17 rfl
  obtain ⟨fs, hr, hrun, hended, hW, hsame⟩ := X14.leave (v := some (.int (1 : Int32))) (fun h => by rw [Bd.returns] at h; cases h)
  refine ⟨_, _, pre0 _ ?_, hrun, hended, _, _, rfl, ?_, ⟨_, rfl⟩, hW, hsame.mono (by decide) (by decide)⟩
  · show Steps p.tables e below (s₁.setTop (mkF m 0 #[.val (.int p0), .val (.int p1), .val (.int p2), .val (.int p3), .val (.int p4), .val (.int p5), .unset, .unset, .unset, .unset, .unset, .unset, .unset, .unset, .unset, .unset, .unset, .unset, .unset] [])) _
    refine XS.iloadN X0.here hx rfl (hb hby at_0) rfl ?_
    show Steps p.tables e below (s₁.setTop (mkF m 1 #[.val (.int p0), .val (.int p1), .val (.int p2), .val (.int p3), .val (.int p4), .val (.int p5), .unset, .unset, .unset, .unset, .unset, .unset, .unset, .unset, .unset, .unset, .unset, .unset, .unset] [(.int p0)])) _
    refine XS.bipush X0.here hx rfl (hb hby at_1) ?_
    show Steps p.tables e below (s₁.setTop (mkF m 3 #[.val (.int p0), .val (.int p1), .val (.int p2), .val (.int p3), .val (.int p4), .val (.int p5), .unset, .unset, .unset, .unset, .unset, .unset, .unset, .unset, .unset, .unset, .unset, .unset, .unset] [(.int (7 : Int32)), (.int p0)])) _
    refine XS.iand X0.here hx rfl (hb hby at_3) rfl ?_
    show Steps p.tables e below (s₁.setTop (mkF m 4 #[.val (.int p0), .val (.int p1), .val (.int p2), .val (.int p3), .val (.int p4), .val (.int p5), .unset, .unset, .unset, .unset, .unset, .unset, .unset, .unset, .unset, .unset, .unset, .unset, .unset] [(.int (p0 &&& (7 : Int32)))])) _
    refine XS.bipush X0.here hx rfl (hb hby at_4) ?_
    show Steps p.tables e below (s₁.setTop (mkF m 6 #[.val (.int p0), .val (.int p1), .val (.int p2), .val (.int p3), .val (.int p4), .val (.int p5), .unset, .unset, .unset, .unset, .unset, .unset, .unset, .unset, .unset, .unset, .unset, .unset, .unset] [(.int (6 : Int32)), (.int (p0 &&& (7 : Int32)))])) _
    refine iremM X0 hx (g := (mkF m 6 #[.val (.int p0), .val (.int p1), .val (.int p2), .val (.int p3), .val (.int p4), .val (.int p5), .unset, .unset, .unset, .unset, .unset, .unset, .unset, .unset, .unset, .unset, .unset, .unset, .unset] [(.int (6 : Int32)), (.int (p0 &&& (7 : Int32)))])) rfl (hb hby at_6) rfl (by decide) ?_
    show Steps p.tables e below (s₁.setTop (mkF m 7 #[.val (.int p0), .val (.int p1), .val (.int p2), .val (.int p3), .val (.int p4), .val (.int p5), .unset, .unset, .unset, .unset, .unset, .unset, .unset, .unset, .unset, .unset, .unset, .unset, .unset] [(.int ((p0 &&& (7 : Int32)) % (6 : Int32)))])) _
    refine XS.iconst X0.here hx rfl (hb hby at_7) ?_
    show Steps p.tables e below (s₁.setTop (mkF m 8 #[.val (.int p0), .val (.int p1), .val (.int p2), .val (.int p3), .val (.int p4), .val (.int p5), .unset, .unset, .unset, .unset, .unset, .unset, .unset, .unset, .unset, .unset, .unset, .unset, .unset] [(.int (1 : Int32)), (.int ((p0 &&& (7 : Int32)) % (6 : Int32)))])) _
    refine XS.iadd X0.here hx rfl (hb hby at_8) rfl ?_
    show Steps p.tables e below (s₁.setTop (mkF m 9 #[.val (.int p0), .val (.int p1), .val (.int p2), .val (.int p3), .val (.int p4), .val (.int p5), .unset, .unset, .unset, .unset, .unset, .unset, .unset, .unset, .unset, .unset, .unset, .unset, .unset] [(.int (((p0 &&& (7 : Int32)) % (6 : Int32)) + (1 : Int32)))])) _
    rw [hn]
    show Steps p.tables e below (s₁.setTop (mkF m 9 #[.val (.int p0), .val (.int p1), .val (.int p2), .val (.int p3), .val (.int p4), .val (.int p5), .unset, .unset, .unset, .unset, .unset, .unset, .unset, .unset, .unset, .unset, .unset, .unset, .unset] [(.int (5 : Int32))])) _
    refine XS.istore X0.here hx rfl (hb hby at_9) rfl (l' := #[.val (.int p0), .val (.int p1), .val (.int p2), .val (.int p3), .val (.int p4), .val (.int p5), .val (.int (5 : Int32)), .unset, .unset, .unset, .unset, .unset, .unset, .unset, .unset, .unset, .unset, .unset, .unset]) rfl ?_
    show Steps p.tables e below (s₁.setTop (mkF m 11 #[.val (.int p0), .val (.int p1), .val (.int p2), .val (.int p3), .val (.int p4), .val (.int p5), .val (.int (5 : Int32)), .unset, .unset, .unset, .unset, .unset, .unset, .unset, .unset, .unset, .unset, .unset, .unset] [])) _
    refine XS.iloadN X0.here hx rfl (hb hby at_11) rfl ?_
    show Steps p.tables e below (s₁.setTop (mkF m 12 #[.val (.int p0), .val (.int p1), .val (.int p2), .val (.int p3), .val (.int p4), .val (.int p5), .val (.int (5 : Int32)), .unset, .unset, .unset, .unset, .unset, .unset, .unset, .unset, .unset, .unset, .unset, .unset] [(.int p0)])) _
    refine XS.iconst X0.here hx rfl (hb hby at_12) ?_
    show Steps p.tables e below (s₁.setTop (mkF m 13 #[.val (.int p0), .val (.int p1), .val (.int p2), .val (.int p3), .val (.int p4), .val (.int p5), .val (.int (5 : Int32)), .unset, .unset, .unset, .unset, .unset, .unset, .unset, .unset, .unset, .unset, .unset, .unset] [(.int (3 : Int32)), (.int p0)])) _
    refine XS.ishr X0.here hx rfl (hb hby at_13) rfl ?_
    show Steps p.tables e below (s₁.setTop (mkF m 14 #[.val (.int p0), .val (.int p1), .val (.int p2), .val (.int p3), .val (.int p4), .val (.int p5), .val (.int (5 : Int32)), .unset, .unset, .unset, .unset, .unset, .unset, .unset, .unset, .unset, .unset, .unset, .unset] [(.int (p0 >>> ((3 : Int32) &&& 31)))])) _
    refine X0.ldcInt hx hown (mvT hZ (hw _ (List.mem_of_getElem? (i := 0) rfl))) (g := (mkF m 14 #[.val (.int p0), .val (.int p1), .val (.int p2), .val (.int p3), .val (.int p4), .val (.int p5), .val (.int (5 : Int32)), .unset, .unset, .unset, .unset, .unset, .unset, .unset, .unset, .unset, .unset, .unset, .unset] [(.int (p0 >>> ((3 : Int32) &&& 31)))])) rfl (hb hby at_14) _ ?_
    show Steps p.tables e below (s₁.setTop (mkF m 16 #[.val (.int p0), .val (.int p1), .val (.int p2), .val (.int p3), .val (.int p4), .val (.int p5), .val (.int (5 : Int32)), .unset, .unset, .unset, .unset, .unset, .unset, .unset, .unset, .unset, .unset, .unset, .unset] [(.int (1048575 : Int32)), (.int (p0 >>> ((3 : Int32) &&& 31)))])) _
    refine XS.iand X0.here hx rfl (hb hby at_16) rfl ?_
    show Steps p.tables e below (s₁.setTop (mkF m 17 #[.val (.int p0), .val (.int p1), .val (.int p2), .val (.int p3), .val (.int p4), .val (.int p5), .val (.int (5 : Int32)), .unset, .unset, .unset, .unset, .unset, .unset, .unset, .unset, .unset, .unset, .unset, .unset] [(.int ((p0 >>> ((3 : Int32) &&& 31)) &&& (1048575 : Int32)))])) _
    refine X0.ldcInt hx hown (mvT hZ (hw _ (List.mem_of_getElem? (i := 1) rfl))) (g := (mkF m 17 #[.val (.int p0), .val (.int p1), .val (.int p2), .val (.int p3), .val (.int p4), .val (.int p5), .val (.int (5 : Int32)), .unset, .unset, .unset, .unset, .unset, .unset, .unset, .unset, .unset, .unset, .unset, .unset] [(.int ((p0 >>> ((3 : Int32) &&& 31)) &&& (1048575 : Int32)))])) rfl (hb hby at_17) _ ?_
    show Steps p.tables e below (s₁.setTop (mkF m 19 #[.val (.int p0), .val (.int p1), .val (.int p2), .val (.int p3), .val (.int p4), .val (.int p5), .val (.int (5 : Int32)), .unset, .unset, .unset, .unset, .unset, .unset, .unset, .unset, .unset, .unset, .unset, .unset] [(.int (524288 : Int32)), (.int ((p0 >>> ((3 : Int32) &&& 31)) &&& (1048575 : Int32)))])) _
    refine XS.isub X0.here hx rfl (hb hby at_19) rfl ?_
    show Steps p.tables e below (s₁.setTop (mkF m 20 #[.val (.int p0), .val (.int p1), .val (.int p2), .val (.int p3), .val (.int p4), .val (.int p5), .val (.int (5 : Int32)), .unset, .unset, .unset, .unset, .unset, .unset, .unset, .unset, .unset, .unset, .unset, .unset] [(.int (((p0 >>> ((3 : Int32) &&& 31)) &&& (1048575 : Int32)) - (524288 : Int32)))])) _
    rw [hv0]
    show Steps p.tables e below (s₁.setTop (mkF m 20 #[.val (.int p0), .val (.int p1), .val (.int p2), .val (.int p3), .val (.int p4), .val (.int p5), .val (.int (5 : Int32)), .unset, .unset, .unset, .unset, .unset, .unset, .unset, .unset, .unset, .unset, .unset, .unset] [(.int v0)])) _
    refine XS.istore X0.here hx rfl (hb hby at_20) rfl (l' := #[.val (.int p0), .val (.int p1), .val (.int p2), .val (.int p3), .val (.int p4), .val (.int p5), .val (.int (5 : Int32)), .val (.int v0), .unset, .unset, .unset, .unset, .unset, .unset, .unset, .unset, .unset, .unset, .unset]) rfl ?_
    show Steps p.tables e below (s₁.setTop (mkF m 22 #[.val (.int p0), .val (.int p1), .val (.int p2), .val (.int p3), .val (.int p4), .val (.int p5), .val (.int (5 : Int32)), .val (.int v0), .unset, .unset, .unset, .unset, .unset, .unset, .unset, .unset, .unset, .unset, .unset] [])) _
    refine XS.iload X0.here hx rfl (hb hby at_22) rfl ?_
    show Steps p.tables e below (s₁.setTop (mkF m 24 #[.val (.int p0), .val (.int p1), .val (.int p2), .val (.int p3), .val (.int p4), .val (.int p5), .val (.int (5 : Int32)), .val (.int v0), .unset, .unset, .unset, .unset, .unset, .unset, .unset, .unset, .unset, .unset, .unset] [(.int v0)])) _
    refine XS.iloadN X0.here hx rfl (hb hby at_24) rfl ?_
    show Steps p.tables e below (s₁.setTop (mkF m 25 #[.val (.int p0), .val (.int p1), .val (.int p2), .val (.int p3), .val (.int p4), .val (.int p5), .val (.int (5 : Int32)), .val (.int v0), .unset, .unset, .unset, .unset, .unset, .unset, .unset, .unset, .unset, .unset, .unset] [(.int p1), (.int v0)])) _
    refine X0.ldcInt hx hown (mvT hZ (hw _ (List.mem_of_getElem? (i := 2) rfl))) (g := (mkF m 25 #[.val (.int p0), .val (.int p1), .val (.int p2), .val (.int p3), .val (.int p4), .val (.int p5), .val (.int (5 : Int32)), .val (.int v0), .unset, .unset, .unset, .unset, .unset, .unset, .unset, .unset, .unset, .unset, .unset] [(.int p1), (.int v0)])) rfl (hb hby at_25) _ ?_
    show Steps p.tables e below (s₁.setTop (mkF m 27 #[.val (.int p0), .val (.int p1), .val (.int p2), .val (.int p3), .val (.int p4), .val (.int p5), .val (.int (5 : Int32)), .val (.int v0), .unset, .unset, .unset, .unset, .unset, .unset, .unset, .unset, .unset, .unset, .unset] [(.int (65535 : Int32)), (.int p1), (.int v0)])) _
    refine XS.iand X0.here hx rfl (hb hby at_27) rfl ?_
    show Steps p.tables e below (s₁.setTop (mkF m 28 #[.val (.int p0), .val (.int p1), .val (.int p2), .val (.int p3), .val (.int p4), .val (.int p5), .val (.int (5 : Int32)), .val (.int v0), .unset, .unset, .unset, .unset, .unset, .unset, .unset, .unset, .unset, .unset, .unset] [(.int (p1 &&& (65535 : Int32))), (.int v0)])) _
    refine XS.iadd X0.here hx rfl (hb hby at_28) rfl ?_
    show Steps p.tables e below (s₁.setTop (mkF m 29 #[.val (.int p0), .val (.int p1), .val (.int p2), .val (.int p3), .val (.int p4), .val (.int p5), .val (.int (5 : Int32)), .val (.int v0), .unset, .unset, .unset, .unset, .unset, .unset, .unset, .unset, .unset, .unset, .unset] [(.int (v0 + (p1 &&& (65535 : Int32))))])) _
    rw [hv1]
    show Steps p.tables e below (s₁.setTop (mkF m 29 #[.val (.int p0), .val (.int p1), .val (.int p2), .val (.int p3), .val (.int p4), .val (.int p5), .val (.int (5 : Int32)), .val (.int v0), .unset, .unset, .unset, .unset, .unset, .unset, .unset, .unset, .unset, .unset, .unset] [(.int v1)])) _
    refine XS.istore X0.here hx rfl (hb hby at_29) rfl (l' := #[.val (.int p0), .val (.int p1), .val (.int p2), .val (.int p3), .val (.int p4), .val (.int p5), .val (.int (5 : Int32)), .val (.int v0), .val (.int v1), .unset, .unset, .unset, .unset, .unset, .unset, .unset, .unset, .unset, .unset]) rfl ?_
    show Steps p.tables e below (s₁.setTop (mkF m 31 #[.val (.int p0), .val (.int p1), .val (.int p2), .val (.int p3), .val (.int p4), .val (.int p5), .val (.int (5 : Int32)), .val (.int v0), .val (.int v1), .unset, .unset, .unset, .unset, .unset, .unset, .unset, .unset, .unset, .unset] [])) _
    refine XS.iload X0.here hx rfl (hb hby at_31) rfl ?_
    show Steps p.tables e below (s₁.setTop (mkF m 33 #[.val (.int p0), .val (.int p1), .val (.int p2), .val (.int p3), .val (.int p4), .val (.int p5), .val (.int (5 : Int32)), .val (.int v0), .val (.int v1), .unset, .unset, .unset, .unset, .unset, .unset, .unset, .unset, .unset, .unset] [(.int v1)])) _
    refine XS.iloadN X0.here hx rfl (hb hby at_33) rfl ?_
    show Steps p.tables e below (s₁.setTop (mkF m 34 #[.val (.int p0), .val (.int p1), .val (.int p2), .val (.int p3), .val (.int p4), .val (.int p5), .val (.int (5 : Int32)), .val (.int v0), .val (.int v1), .unset, .unset, .unset, .unset, .unset, .unset, .unset, .unset, .unset, .unset] [(.int p2), (.int v1)])) _
    refine X0.ldcInt hx hown (mvT hZ (hw _ (List.mem_of_getElem? (i := 2) rfl))) (g := (mkF m 34 #[.val (.int p0), .val (.int p1), .val (.int p2), .val (.int p3), .val (.int p4), .val (.int p5), .val (.int (5 : Int32)), .val (.int v0), .val (.int v1), .unset, .unset, .unset, .unset, .unset, .unset, .unset, .unset, .unset, .unset] [(.int p2), (.int v1)])) rfl (hb hby at_34) _ ?_
    show Steps p.tables e below (s₁.setTop (mkF m 36 #[.val (.int p0), .val (.int p1), .val (.int p2), .val (.int p3), .val (.int p4), .val (.int p5), .val (.int (5 : Int32)), .val (.int v0), .val (.int v1), .unset, .unset, .unset, .unset, .unset, .unset, .unset, .unset, .unset, .unset] [(.int (65535 : Int32)), (.int p2), (.int v1)])) _
    refine XS.iand X0.here hx rfl (hb hby at_36) rfl ?_
    show Steps p.tables e below (s₁.setTop (mkF m 37 #[.val (.int p0), .val (.int p1), .val (.int p2), .val (.int p3), .val (.int p4), .val (.int p5), .val (.int (5 : Int32)), .val (.int v0), .val (.int v1), .unset, .unset, .unset, .unset, .unset, .unset, .unset, .unset, .unset, .unset] [(.int (p2 &&& (65535 : Int32))), (.int v1)])) _
    refine XS.iadd X0.here hx rfl (hb hby at_37) rfl ?_
    show Steps p.tables e below (s₁.setTop (mkF m 38 #[.val (.int p0), .val (.int p1), .val (.int p2), .val (.int p3), .val (.int p4), .val (.int p5), .val (.int (5 : Int32)), .val (.int v0), .val (.int v1), .unset, .unset, .unset, .unset, .unset, .unset, .unset, .unset, .unset, .unset] [(.int (v1 + (p2 &&& (65535 : Int32))))])) _
    rw [hv2]
    show Steps p.tables e below (s₁.setTop (mkF m 38 #[.val (.int p0), .val (.int p1), .val (.int p2), .val (.int p3), .val (.int p4), .val (.int p5), .val (.int (5 : Int32)), .val (.int v0), .val (.int v1), .unset, .unset, .unset, .unset, .unset, .unset, .unset, .unset, .unset, .unset] [(.int v2)])) _
    refine XS.istore X0.here hx rfl (hb hby at_38) rfl (l' := #[.val (.int p0), .val (.int p1), .val (.int p2), .val (.int p3), .val (.int p4), .val (.int p5), .val (.int (5 : Int32)), .val (.int v0), .val (.int v1), .val (.int v2), .unset, .unset, .unset, .unset, .unset, .unset, .unset, .unset, .unset]) rfl ?_
    show Steps p.tables e below (s₁.setTop (mkF m 40 #[.val (.int p0), .val (.int p1), .val (.int p2), .val (.int p3), .val (.int p4), .val (.int p5), .val (.int (5 : Int32)), .val (.int v0), .val (.int v1), .val (.int v2), .unset, .unset, .unset, .unset, .unset, .unset, .unset, .unset, .unset] [])) _
    refine XS.iload X0.here hx rfl (hb hby at_40) rfl ?_
    show Steps p.tables e below (s₁.setTop (mkF m 42 #[.val (.int p0), .val (.int p1), .val (.int p2), .val (.int p3), .val (.int p4), .val (.int p5), .val (.int (5 : Int32)), .val (.int v0), .val (.int v1), .val (.int v2), .unset, .unset, .unset, .unset, .unset, .unset, .unset, .unset, .unset] [(.int v2)])) _
    refine XS.iloadN X0.here hx rfl (hb hby at_42) rfl ?_
    show Steps p.tables e below (s₁.setTop (mkF m 43 #[.val (.int p0), .val (.int p1), .val (.int p2), .val (.int p3), .val (.int p4), .val (.int p5), .val (.int (5 : Int32)), .val (.int v0), .val (.int v1), .val (.int v2), .unset, .unset, .unset, .unset, .unset, .unset, .unset, .unset, .unset] [(.int p3), (.int v2)])) _
    refine X0.ldcInt hx hown (mvT hZ (hw _ (List.mem_of_getElem? (i := 2) rfl))) (g := (mkF m 43 #[.val (.int p0), .val (.int p1), .val (.int p2), .val (.int p3), .val (.int p4), .val (.int p5), .val (.int (5 : Int32)), .val (.int v0), .val (.int v1), .val (.int v2), .unset, .unset, .unset, .unset, .unset, .unset, .unset, .unset, .unset] [(.int p3), (.int v2)])) rfl (hb hby at_43) _ ?_
    show Steps p.tables e below (s₁.setTop (mkF m 45 #[.val (.int p0), .val (.int p1), .val (.int p2), .val (.int p3), .val (.int p4), .val (.int p5), .val (.int (5 : Int32)), .val (.int v0), .val (.int v1), .val (.int v2), .unset, .unset, .unset, .unset, .unset, .unset, .unset, .unset, .unset] [(.int (65535 : Int32)), (.int p3), (.int v2)])) _
    refine XS.iand X0.here hx rfl (hb hby at_45) rfl ?_
    show Steps p.tables e below (s₁.setTop (mkF m 46 #[.val (.int p0), .val (.int p1), .val (.int p2), .val (.int p3), .val (.int p4), .val (.int p5), .val (.int (5 : Int32)), .val (.int v0), .val (.int v1), .val (.int v2), .unset, .unset, .unset, .unset, .unset, .unset, .unset, .unset, .unset] [(.int (p3 &&& (65535 : Int32))), (.int v2)])) _
    refine XS.iadd X0.here hx rfl (hb hby at_46) rfl ?_
    show Steps p.tables e below (s₁.setTop (mkF m 47 #[.val (.int p0), .val (.int p1), .val (.int p2), .val (.int p3), .val (.int p4), .val (.int p5), .val (.int (5 : Int32)), .val (.int v0), .val (.int v1), .val (.int v2), .unset, .unset, .unset, .unset, .unset, .unset, .unset, .unset, .unset] [(.int (v2 + (p3 &&& (65535 : Int32))))])) _
    rw [hv3]
    show Steps p.tables e below (s₁.setTop (mkF m 47 #[.val (.int p0), .val (.int p1), .val (.int p2), .val (.int p3), .val (.int p4), .val (.int p5), .val (.int (5 : Int32)), .val (.int v0), .val (.int v1), .val (.int v2), .unset, .unset, .unset, .unset, .unset, .unset, .unset, .unset, .unset] [(.int v3)])) _
    refine XS.istore X0.here hx rfl (hb hby at_47) rfl (l' := #[.val (.int p0), .val (.int p1), .val (.int p2), .val (.int p3), .val (.int p4), .val (.int p5), .val (.int (5 : Int32)), .val (.int v0), .val (.int v1), .val (.int v2), .val (.int v3), .unset, .unset, .unset, .unset, .unset, .unset, .unset, .unset]) rfl ?_
    show Steps p.tables e below (s₁.setTop (mkF m 49 #[.val (.int p0), .val (.int p1), .val (.int p2), .val (.int p3), .val (.int p4), .val (.int p5), .val (.int (5 : Int32)), .val (.int v0), .val (.int v1), .val (.int v2), .val (.int v3), .unset, .unset, .unset, .unset, .unset, .unset, .unset, .unset] [])) _
    refine XS.iload X0.here hx rfl (hb hby at_49) rfl ?_
    show Steps p.tables e below (s₁.setTop (mkF m 51 #[.val (.int p0), .val (.int p1), .val (.int p2), .val (.int p3), .val (.int p4), .val (.int p5), .val (.int (5 : Int32)), .val (.int v0), .val (.int v1), .val (.int v2), .val (.int v3), .unset, .unset, .unset, .unset, .unset, .unset, .unset, .unset] [(.int v3)])) _
    refine XS.iload X0.here hx rfl (hb hby at_51) rfl ?_
    show Steps p.tables e below (s₁.setTop (mkF m 53 #[.val (.int p0), .val (.int p1), .val (.int p2), .val (.int p3), .val (.int p4), .val (.int p5), .val (.int (5 : Int32)), .val (.int v0), .val (.int v1), .val (.int v2), .val (.int v3), .unset, .unset, .unset, .unset, .unset, .unset, .unset, .unset] [(.int p4), (.int v3)])) _
    refine X0.ldcInt hx hown (mvT hZ (hw _ (List.mem_of_getElem? (i := 2) rfl))) (g := (mkF m 53 #[.val (.int p0), .val (.int p1), .val (.int p2), .val (.int p3), .val (.int p4), .val (.int p5), .val (.int (5 : Int32)), .val (.int v0), .val (.int v1), .val (.int v2), .val (.int v3), .unset, .unset, .unset, .unset, .unset, .unset, .unset, .unset] [(.int p4), (.int v3)])) rfl (hb hby at_53) _ ?_
    show Steps p.tables e below (s₁.setTop (mkF m 55 #[.val (.int p0), .val (.int p1), .val (.int p2), .val (.int p3), .val (.int p4), .val (.int p5), .val (.int (5 : Int32)), .val (.int v0), .val (.int v1), .val (.int v2), .val (.int v3), .unset, .unset, .unset, .unset, .unset, .unset, .unset, .unset] [(.int (65535 : Int32)), (.int p4), (.int v3)])) _
    refine XS.iand X0.here hx rfl (hb hby at_55) rfl ?_
    show Steps p.tables e below (s₁.setTop (mkF m 56 #[.val (.int p0), .val (.int p1), .val (.int p2), .val (.int p3), .val (.int p4), .val (.int p5), .val (.int (5 : Int32)), .val (.int v0), .val (.int v1), .val (.int v2), .val (.int v3), .unset, .unset, .unset, .unset, .unset, .unset, .unset, .unset] [(.int (p4 &&& (65535 : Int32))), (.int v3)])) _
    refine XS.iadd X0.here hx rfl (hb hby at_56) rfl ?_
    show Steps p.tables e below (s₁.setTop (mkF m 57 #[.val (.int p0), .val (.int p1), .val (.int p2), .val (.int p3), .val (.int p4), .val (.int p5), .val (.int (5 : Int32)), .val (.int v0), .val (.int v1), .val (.int v2), .val (.int v3), .unset, .unset, .unset, .unset, .unset, .unset, .unset, .unset] [(.int (v3 + (p4 &&& (65535 : Int32))))])) _
    rw [hv4]
    show Steps p.tables e below (s₁.setTop (mkF m 57 #[.val (.int p0), .val (.int p1), .val (.int p2), .val (.int p3), .val (.int p4), .val (.int p5), .val (.int (5 : Int32)), .val (.int v0), .val (.int v1), .val (.int v2), .val (.int v3), .unset, .unset, .unset, .unset, .unset, .unset, .unset, .unset] [(.int v4)])) _
    refine XS.istore X0.here hx rfl (hb hby at_57) rfl (l' := #[.val (.int p0), .val (.int p1), .val (.int p2), .val (.int p3), .val (.int p4), .val (.int p5), .val (.int (5 : Int32)), .val (.int v0), .val (.int v1), .val (.int v2), .val (.int v3), .val (.int v4), .unset, .unset, .unset, .unset, .unset, .unset, .unset]) rfl ?_
    show Steps p.tables e below (s₁.setTop (mkF m 59 #[.val (.int p0), .val (.int p1), .val (.int p2), .val (.int p3), .val (.int p4), .val (.int p5), .val (.int (5 : Int32)), .val (.int v0), .val (.int v1), .val (.int v2), .val (.int v3), .val (.int v4), .unset, .unset, .unset, .unset, .unset, .unset, .unset] [])) _
    refine XS.iload X0.here hx rfl (hb hby at_59) rfl ?_
    show Steps p.tables e below (s₁.setTop (mkF m 61 #[.val (.int p0), .val (.int p1), .val (.int p2), .val (.int p3), .val (.int p4), .val (.int p5), .val (.int (5 : Int32)), .val (.int v0), .val (.int v1), .val (.int v2), .val (.int v3), .val (.int v4), .unset, .unset, .unset, .unset, .unset, .unset, .unset] [(.int v4)])) _
    refine XS.iload X0.here hx rfl (hb hby at_61) rfl ?_
    show Steps p.tables e below (s₁.setTop (mkF m 63 #[.val (.int p0), .val (.int p1), .val (.int p2), .val (.int p3), .val (.int p4), .val (.int p5), .val (.int (5 : Int32)), .val (.int v0), .val (.int v1), .val (.int v2), .val (.int v3), .val (.int v4), .unset, .unset, .unset, .unset, .unset, .unset, .unset] [(.int p5), (.int v4)])) _
    refine X0.ldcInt hx hown (mvT hZ (hw _ (List.mem_of_getElem? (i := 2) rfl))) (g := (mkF m 63 #[.val (.int p0), .val (.int p1), .val (.int p2), .val (.int p3), .val (.int p4), .val (.int p5), .val (.int (5 : Int32)), .val (.int v0), .val (.int v1), .val (.int v2), .val (.int v3), .val (.int v4), .unset, .unset, .unset, .unset, .unset, .unset, .unset] [(.int p5), (.int v4)])) rfl (hb hby at_63) _ ?_
    show Steps p.tables e below (s₁.setTop (mkF m 65 #[.val (.int p0), .val (.int p1), .val (.int p2), .val (.int p3), .val (.int p4), .val (.int p5), .val (.int (5 : Int32)), .val (.int v0), .val (.int v1), .val (.int v2), .val (.int v3), .val (.int v4), .unset, .unset, .unset, .unset, .unset, .unset, .unset] [(.int (65535 : Int32)), (.int p5), (.int v4)])) _
    refine XS.iand X0.here hx rfl (hb hby at_65) rfl ?_
    show Steps p.tables e below (s₁.setTop (mkF m 66 #[.val (.int p0), .val (.int p1), .val (.int p2), .val (.int p3), .val (.int p4), .val (.int p5), .val (.int (5 : Int32)), .val (.int v0), .val (.int v1), .val (.int v2), .val (.int v3), .val (.int v4), .unset, .unset, .unset, .unset, .unset, .unset, .unset] [(.int (p5 &&& (65535 : Int32))), (.int v4)])) _
    refine XS.iadd X0.here hx rfl (hb hby at_66) rfl ?_
    show Steps p.tables e below (s₁.setTop (mkF m 67 #[.val (.int p0), .val (.int p1), .val (.int p2), .val (.int p3), .val (.int p4), .val (.int p5), .val (.int (5 : Int32)), .val (.int v0), .val (.int v1), .val (.int v2), .val (.int v3), .val (.int v4), .unset, .unset, .unset, .unset, .unset, .unset, .unset] [(.int (v4 + (p5 &&& (65535 : Int32))))])) _
    rw [hv5]
    show Steps p.tables e below (s₁.setTop (mkF m 67 #[.val (.int p0), .val (.int p1), .val (.int p2), .val (.int p3), .val (.int p4), .val (.int p5), .val (.int (5 : Int32)), .val (.int v0), .val (.int v1), .val (.int v2), .val (.int v3), .val (.int v4), .unset, .unset, .unset, .unset, .unset, .unset, .unset] [(.int v5)])) _
    refine XS.istore X0.here hx rfl (hb hby at_67) rfl (l' := #[.val (.int p0), .val (.int p1), .val (.int p2), .val (.int p3), .val (.int p4), .val (.int p5), .val (.int (5 : Int32)), .val (.int v0), .val (.int v1), .val (.int v2), .val (.int v3), .val (.int v4), .val (.int v5), .unset, .unset, .unset, .unset, .unset, .unset]) rfl ?_
    show Steps p.tables e below (s₁.setTop (mkF m 69 #[.val (.int p0), .val (.int p1), .val (.int p2), .val (.int p3), .val (.int p4), .val (.int p5), .val (.int (5 : Int32)), .val (.int v0), .val (.int v1), .val (.int v2), .val (.int v3), .val (.int v4), .val (.int v5), .unset, .unset, .unset, .unset, .unset, .unset] [])) _
    refine XS.bipush X0.here hx rfl (hb hby at_69) ?_
    show Steps p.tables e below (s₁.setTop (mkF m 71 #[.val (.int p0), .val (.int p1), .val (.int p2), .val (.int p3), .val (.int p4), .val (.int p5), .val (.int (5 : Int32)), .val (.int v0), .val (.int v1), .val (.int v2), .val (.int v3), .val (.int v4), .val (.int v5), .unset, .unset, .unset, .unset, .unset, .unset] [(.int (6 : Int32))])) _
    refine st1 _ ?_
    show Steps p.tables e below (T1.setTop (mkF m 73 #[.val (.int p0), .val (.int p1), .val (.int p2), .val (.int p3), .val (.int p4), .val (.int p5), .val (.int (5 : Int32)), .val (.int v0), .val (.int v1), .val (.int v2), .val (.int v3), .val (.int v4), .val (.int v5), .unset, .unset, .unset, .unset, .unset, .unset] [(.ref b1)])) _
    refine XS.dup X1.here hx rfl (hb hby at_73) rfl rfl ?_
    show Steps p.tables e below (T1.setTop (mkF m 74 #[.val (.int p0), .val (.int p1), .val (.int p2), .val (.int p3), .val (.int p4), .val (.int p5), .val (.int (5 : Int32)), .val (.int v0), .val (.int v1), .val (.int v2), .val (.int v3), .val (.int v4), .val (.int v5), .unset, .unset, .unset, .unset, .unset, .unset] [(.ref b1), (.ref b1)])) _
    refine XS.iconst X1.here hx rfl (hb hby at_74) ?_
    show Steps p.tables e below (T1.setTop (mkF m 75 #[.val (.int p0), .val (.int p1), .val (.int p2), .val (.int p3), .val (.int p4), .val (.int p5), .val (.int (5 : Int32)), .val (.int v0), .val (.int v1), .val (.int v2), .val (.int v3), .val (.int v4), .val (.int v5), .unset, .unset, .unset, .unset, .unset, .unset] [(.int (0 : Int32)), (.ref b1), (.ref b1)])) _
    refine XS.iload X1.here hx rfl (hb hby at_75) rfl ?_
    show Steps p.tables e below (T1.setTop (mkF m 77 #[.val (.int p0), .val (.int p1), .val (.int p2), .val (.int p3), .val (.int p4), .val (.int p5), .val (.int (5 : Int32)), .val (.int v0), .val (.int v1), .val (.int v2), .val (.int v3), .val (.int v4), .val (.int v5), .unset, .unset, .unset, .unset, .unset, .unset] [(.int v0), (.int (0 : Int32)), (.ref b1), (.ref b1)])) _
    refine st2 _ ?_
    show Steps p.tables e below (T2.setTop (mkF m 78 #[.val (.int p0), .val (.int p1), .val (.int p2), .val (.int p3), .val (.int p4), .val (.int p5), .val (.int (5 : Int32)), .val (.int v0), .val (.int v1), .val (.int v2), .val (.int v3), .val (.int v4), .val (.int v5), .unset, .unset, .unset, .unset, .unset, .unset] [(.ref b1)])) _
    refine XS.dup X2.here hx rfl (hb hby at_78) rfl rfl ?_
    show Steps p.tables e below (T2.setTop (mkF m 79 #[.val (.int p0), .val (.int p1), .val (.int p2), .val (.int p3), .val (.int p4), .val (.int p5), .val (.int (5 : Int32)), .val (.int v0), .val (.int v1), .val (.int v2), .val (.int v3), .val (.int v4), .val (.int v5), .unset, .unset, .unset, .unset, .unset, .unset] [(.ref b1), (.ref b1)])) _
    refine XS.iconst X2.here hx rfl (hb hby at_79) ?_
    show Steps p.tables e below (T2.setTop (mkF m 80 #[.val (.int p0), .val (.int p1), .val (.int p2), .val (.int p3), .val (.int p4), .val (.int p5), .val (.int (5 : Int32)), .val (.int v0), .val (.int v1), .val (.int v2), .val (.int v3), .val (.int v4), .val (.int v5), .unset, .unset, .unset, .unset, .unset, .unset] [(.int (1 : Int32)), (.ref b1), (.ref b1)])) _
    refine XS.iload X2.here hx rfl (hb hby at_80) rfl ?_
    show Steps p.tables e below (T2.setTop (mkF m 82 #[.val (.int p0), .val (.int p1), .val (.int p2), .val (.int p3), .val (.int p4), .val (.int p5), .val (.int (5 : Int32)), .val (.int v0), .val (.int v1), .val (.int v2), .val (.int v3), .val (.int v4), .val (.int v5), .unset, .unset, .unset, .unset, .unset, .unset] [(.int v1), (.int (1 : Int32)), (.ref b1), (.ref b1)])) _
    refine st3 _ ?_
    show Steps p.tables e below (T3.setTop (mkF m 83 #[.val (.int p0), .val (.int p1), .val (.int p2), .val (.int p3), .val (.int p4), .val (.int p5), .val (.int (5 : Int32)), .val (.int v0), .val (.int v1), .val (.int v2), .val (.int v3), .val (.int v4), .val (.int v5), .unset, .unset, .unset, .unset, .unset, .unset] [(.ref b1)])) _
    refine XS.dup X3.here hx rfl (hb hby at_83) rfl rfl ?_
    show Steps p.tables e below (T3.setTop (mkF m 84 #[.val (.int p0), .val (.int p1), .val (.int p2), .val (.int p3), .val (.int p4), .val (.int p5), .val (.int (5 : Int32)), .val (.int v0), .val (.int v1), .val (.int v2), .val (.int v3), .val (.int v4), .val (.int v5), .unset, .unset, .unset, .unset, .unset, .unset] [(.ref b1), (.ref b1)])) _
    refine XS.iconst X3.here hx rfl (hb hby at_84) ?_
    show Steps p.tables e below (T3.setTop (mkF m 85 #[.val (.int p0), .val (.int p1), .val (.int p2), .val (.int p3), .val (.int p4), .val (.int p5), .val (.int (5 : Int32)), .val (.int v0), .val (.int v1), .val (.int v2), .val (.int v3), .val (.int v4), .val (.int v5), .unset, .unset, .unset, .unset, .unset, .unset] [(.int (2 : Int32)), (.ref b1), (.ref b1)])) _
    refine XS.iload X3.here hx rfl (hb hby at_85) rfl ?_
    show Steps p.tables e below (T3.setTop (mkF m 87 #[.val (.int p0), .val (.int p1), .val (.int p2), .val (.int p3), .val (.int p4), .val (.int p5), .val (.int (5 : Int32)), .val (.int v0), .val (.int v1), .val (.int v2), .val (.int v3), .val (.int v4), .val (.int v5), .unset, .unset, .unset, .unset, .unset, .unset] [(.int v2), (.int (2 : Int32)), (.ref b1), (.ref b1)])) _
    refine st4 _ ?_
    show Steps p.tables e below (T4.setTop (mkF m 88 #[.val (.int p0), .val (.int p1), .val (.int p2), .val (.int p3), .val (.int p4), .val (.int p5), .val (.int (5 : Int32)), .val (.int v0), .val (.int v1), .val (.int v2), .val (.int v3), .val (.int v4), .val (.int v5), .unset, .unset, .unset, .unset, .unset, .unset] [(.ref b1)])) _
    refine XS.dup X4.here hx rfl (hb hby at_88) rfl rfl ?_
    show Steps p.tables e below (T4.setTop (mkF m 89 #[.val (.int p0), .val (.int p1), .val (.int p2), .val (.int p3), .val (.int p4), .val (.int p5), .val (.int (5 : Int32)), .val (.int v0), .val (.int v1), .val (.int v2), .val (.int v3), .val (.int v4), .val (.int v5), .unset, .unset, .unset, .unset, .unset, .unset] [(.ref b1), (.ref b1)])) _
    refine XS.iconst X4.here hx rfl (hb hby at_89) ?_
    show Steps p.tables e below (T4.setTop (mkF m 90 #[.val (.int p0), .val (.int p1), .val (.int p2), .val (.int p3), .val (.int p4), .val (.int p5), .val (.int (5 : Int32)), .val (.int v0), .val (.int v1), .val (.int v2), .val (.int v3), .val (.int v4), .val (.int v5), .unset, .unset, .unset, .unset, .unset, .unset] [(.int (3 : Int32)), (.ref b1), (.ref b1)])) _
    refine XS.iload X4.here hx rfl (hb hby at_90) rfl ?_
    show Steps p.tables e below (T4.setTop (mkF m 92 #[.val (.int p0), .val (.int p1), .val (.int p2), .val (.int p3), .val (.int p4), .val (.int p5), .val (.int (5 : Int32)), .val (.int v0), .val (.int v1), .val (.int v2), .val (.int v3), .val (.int v4), .val (.int v5), .unset, .unset, .unset, .unset, .unset, .unset] [(.int v3), (.int (3 : Int32)), (.ref b1), (.ref b1)])) _
    refine st5 _ ?_
    show Steps p.tables e below (T5.setTop (mkF m 93 #[.val (.int p0), .val (.int p1), .val (.int p2), .val (.int p3), .val (.int p4), .val (.int p5), .val (.int (5 : Int32)), .val (.int v0), .val (.int v1), .val (.int v2), .val (.int v3), .val (.int v4), .val (.int v5), .unset, .unset, .unset, .unset, .unset, .unset] [(.ref b1)])) _
    refine XS.dup X5.here hx rfl (hb hby at_93) rfl rfl ?_
    show Steps p.tables e below (T5.setTop (mkF m 94 #[.val (.int p0), .val (.int p1), .val (.int p2), .val (.int p3), .val (.int p4), .val (.int p5), .val (.int (5 : Int32)), .val (.int v0), .val (.int v1), .val (.int v2), .val (.int v3), .val (.int v4), .val (.int v5), .unset, .unset, .unset, .unset, .unset, .unset] [(.ref b1), (.ref b1)])) _
    refine XS.iconst X5.here hx rfl (hb hby at_94) ?_
    show Steps p.tables e below (T5.setTop (mkF m 95 #[.val (.int p0), .val (.int p1), .val (.int p2), .val (.int p3), .val (.int p4), .val (.int p5), .val (.int (5 : Int32)), .val (.int v0), .val (.int v1), .val (.int v2), .val (.int v3), .val (.int v4), .val (.int v5), .unset, .unset, .unset, .unset, .unset, .unset] [(.int (4 : Int32)), (.ref b1), (.ref b1)])) _
    refine XS.iload X5.here hx rfl (hb hby at_95) rfl ?_
    show Steps p.tables e below (T5.setTop (mkF m 97 #[.val (.int p0), .val (.int p1), .val (.int p2), .val (.int p3), .val (.int p4), .val (.int p5), .val (.int (5 : Int32)), .val (.int v0), .val (.int v1), .val (.int v2), .val (.int v3), .val (.int v4), .val (.int v5), .unset, .unset, .unset, .unset, .unset, .unset] [(.int v4), (.int (4 : Int32)), (.ref b1), (.ref b1)])) _
    refine st6 _ ?_
    show Steps p.tables e below (T6.setTop (mkF m 98 #[.val (.int p0), .val (.int p1), .val (.int p2), .val (.int p3), .val (.int p4), .val (.int p5), .val (.int (5 : Int32)), .val (.int v0), .val (.int v1), .val (.int v2), .val (.int v3), .val (.int v4), .val (.int v5), .unset, .unset, .unset, .unset, .unset, .unset] [(.ref b1)])) _
    refine XS.dup X6.here hx rfl (hb hby at_98) rfl rfl ?_
    show Steps p.tables e below (T6.setTop (mkF m 99 #[.val (.int p0), .val (.int p1), .val (.int p2), .val (.int p3), .val (.int p4), .val (.int p5), .val (.int (5 : Int32)), .val (.int v0), .val (.int v1), .val (.int v2), .val (.int v3), .val (.int v4), .val (.int v5), .unset, .unset, .unset, .unset, .unset, .unset] [(.ref b1), (.ref b1)])) _
    refine XS.iconst X6.here hx rfl (hb hby at_99) ?_
    show Steps p.tables e below (T6.setTop (mkF m 100 #[.val (.int p0), .val (.int p1), .val (.int p2), .val (.int p3), .val (.int p4), .val (.int p5), .val (.int (5 : Int32)), .val (.int v0), .val (.int v1), .val (.int v2), .val (.int v3), .val (.int v4), .val (.int v5), .unset, .unset, .unset, .unset, .unset, .unset] [(.int (5 : Int32)), (.ref b1), (.ref b1)])) _
    refine XS.iload X6.here hx rfl (hb hby at_100) rfl ?_
    show Steps p.tables e below (T6.setTop (mkF m 102 #[.val (.int p0), .val (.int p1), .val (.int p2), .val (.int p3), .val (.int p4), .val (.int p5), .val (.int (5 : Int32)), .val (.int v0), .val (.int v1), .val (.int v2), .val (.int v3), .val (.int v4), .val (.int v5), .unset, .unset, .unset, .unset, .unset, .unset] [(.int v5), (.int (5 : Int32)), (.ref b1), (.ref b1)])) _
    refine st7 _ ?_
    show Steps p.tables e below (T7.setTop (mkF m 103 #[.val (.int p0), .val (.int p1), .val (.int p2), .val (.int p3), .val (.int p4), .val (.int p5), .val (.int (5 : Int32)), .val (.int v0), .val (.int v1), .val (.int v2), .val (.int v3), .val (.int v4), .val (.int v5), .unset, .unset, .unset, .unset, .unset, .unset] [(.ref b1)])) _
    refine XS.astore X7.here hx rfl (hb hby at_103) rfl rfl (l' := #[.val (.int p0), .val (.int p1), .val (.int p2), .val (.int p3), .val (.int p4), .val (.int p5), .val (.int (5 : Int32)), .val (.int v0), .val (.int v1), .val (.int v2), .val (.int v3), .val (.int v4), .val (.int v5), .val (.ref b1), .unset, .unset, .unset, .unset, .unset]) rfl ?_
    show Steps p.tables e below (T7.setTop (mkF m 105 #[.val (.int p0), .val (.int p1), .val (.int p2), .val (.int p3), .val (.int p4), .val (.int p5), .val (.int (5 : Int32)), .val (.int v0), .val (.int v1), .val (.int v2), .val (.int v3), .val (.int v4), .val (.int v5), .val (.ref b1), .unset, .unset, .unset, .unset, .unset] [])) _
    refine XS.iload X7.here hx rfl (hb hby at_105) rfl ?_
    show Steps p.tables e below (T7.setTop (mkF m 107 #[.val (.int p0), .val (.int p1), .val (.int p2), .val (.int p3), .val (.int p4), .val (.int p5), .val (.int (5 : Int32)), .val (.int v0), .val (.int v1), .val (.int v2), .val (.int v3), .val (.int v4), .val (.int v5), .val (.ref b1), .unset, .unset, .unset, .unset, .unset] [(.int (5 : Int32))])) _
    refine st8 _ ?_
    show Steps p.tables e below (T8.setTop (mkF m 109 #[.val (.int p0), .val (.int p1), .val (.int p2), .val (.int p3), .val (.int p4), .val (.int p5), .val (.int (5 : Int32)), .val (.int v0), .val (.int v1), .val (.int v2), .val (.int v3), .val (.int v4), .val (.int v5), .val (.ref b1), .unset, .unset, .unset, .unset, .unset] [(.ref b8)])) _
    refine XS.astore X8.here hx rfl (hb hby at_109) rfl rfl (l' := #[.val (.int p0), .val (.int p1), .val (.int p2), .val (.int p3), .val (.int p4), .val (.int p5), .val (.int (5 : Int32)), .val (.int v0), .val (.int v1), .val (.int v2), .val (.int v3), .val (.int v4), .val (.int v5), .val (.ref b1), .val (.ref b8), .unset, .unset, .unset, .unset]) rfl ?_
    show Steps p.tables e below (T8.setTop (mkF m 111 #[.val (.int p0), .val (.int p1), .val (.int p2), .val (.int p3), .val (.int p4), .val (.int p5), .val (.int (5 : Int32)), .val (.int v0), .val (.int v1), .val (.int v2), .val (.int v3), .val (.int v4), .val (.int v5), .val (.ref b1), .val (.ref b8), .unset, .unset, .unset, .unset] [])) _
    refine XS.aload X8.here hx rfl (hb hby at_111) rfl rfl ?_
    show Steps p.tables e below (T8.setTop (mkF m 113 #[.val (.int p0), .val (.int p1), .val (.int p2), .val (.int p3), .val (.int p4), .val (.int p5), .val (.int (5 : Int32)), .val (.int v0), .val (.int v1), .val (.int v2), .val (.int v3), .val (.int v4), .val (.int v5), .val (.ref b1), .val (.ref b8), .unset, .unset, .unset, .unset] [(.ref b8)])) _
    refine XS.iconst X8.here hx rfl (hb hby at_113) ?_
    show Steps p.tables e below (T8.setTop (mkF m 114 #[.val (.int p0), .val (.int p1), .val (.int p2), .val (.int p3), .val (.int p4), .val (.int p5), .val (.int (5 : Int32)), .val (.int v0), .val (.int v1), .val (.int v2), .val (.int v3), .val (.int v4), .val (.int v5), .val (.ref b1), .val (.ref b8), .unset, .unset, .unset, .unset] [(.int (0 : Int32)), (.ref b8)])) _
    refine XS.iload X8.here hx rfl (hb hby at_114) rfl ?_
    show Steps p.tables e below (T8.setTop (mkF m 116 #[.val (.int p0), .val (.int p1), .val (.int p2), .val (.int p3), .val (.int p4), .val (.int p5), .val (.int (5 : Int32)), .val (.int v0), .val (.int v1), .val (.int v2), .val (.int v3), .val (.int v4), .val (.int v5), .val (.ref b1), .val (.ref b8), .unset, .unset, .unset, .unset] [(.int v0), (.int (0 : Int32)), (.ref b8)])) _
    refine XS.i2dS X8.here hx rfl (hb hby at_116) rfl rfl ?_
    show Steps p.tables e below (T8.setTop (mkF m 117 #[.val (.int p0), .val (.int p1), .val (.int p2), .val (.int p3), .val (.int p4), .val (.int p5), .val (.int (5 : Int32)), .val (.int v0), .val (.int v1), .val (.int v2), .val (.int v3), .val (.int v4), .val (.int v5), .val (.ref b1), .val (.ref b8), .unset, .unset, .unset, .unset] [(.double (FP.i2d v0)), (.int (0 : Int32)), (.ref b8)])) _
    refine st9 _ ?_
    show Steps p.tables e below (T9.setTop (mkF m 118 #[.val (.int p0), .val (.int p1), .val (.int p2), .val (.int p3), .val (.int p4), .val (.int p5), .val (.int (5 : Int32)), .val (.int v0), .val (.int v1), .val (.int v2), .val (.int v3), .val (.int v4), .val (.int v5), .val (.ref b1), .val (.ref b8), .unset, .unset, .unset, .unset] [])) _
    refine XS.iload X9.here hx rfl (hb hby at_118) rfl ?_
    show Steps p.tables e below (T9.setTop (mkF m 120 #[.val (.int p0), .val (.int p1), .val (.int p2), .val (.int p3), .val (.int p4), .val (.int p5), .val (.int (5 : Int32)), .val (.int v0), .val (.int v1), .val (.int v2), .val (.int v3), .val (.int v4), .val (.int v5), .val (.ref b1), .val (.ref b8), .unset, .unset, .unset, .unset] [(.int (5 : Int32))])) _
    refine XS.iconst X9.here hx rfl (hb hby at_120) ?_
    show Steps p.tables e below (T9.setTop (mkF m 121 #[.val (.int p0), .val (.int p1), .val (.int p2), .val (.int p3), .val (.int p4), .val (.int p5), .val (.int (5 : Int32)), .val (.int v0), .val (.int v1), .val (.int v2), .val (.int v3), .val (.int v4), .val (.int v5), .val (.ref b1), .val (.ref b8), .unset, .unset, .unset, .unset] [(.int (1 : Int32)), (.int (5 : Int32))])) _
    refine XS.icmpNo X9.here hx rfl (hb hby at_121) rfl (tlt (by decide : (1 : Int32) < (5 : Int32))).2.2.2 ?_
    show Steps p.tables e below (T9.setTop (mkF m 124 #[.val (.int p0), .val (.int p1), .val (.int p2), .val (.int p3), .val (.int p4), .val (.int p5), .val (.int (5 : Int32)), .val (.int v0), .val (.int v1), .val (.int v2), .val (.int v3), .val (.int v4), .val (.int v5), .val (.ref b1), .val (.ref b8), .unset, .unset, .unset, .unset] [])) _
    refine XS.aload X9.here hx rfl (hb hby at_124) rfl rfl ?_
    show Steps p.tables e below (T9.setTop (mkF m 126 #[.val (.int p0), .val (.int p1), .val (.int p2), .val (.int p3), .val (.int p4), .val (.int p5), .val (.int (5 : Int32)), .val (.int v0), .val (.int v1), .val (.int v2), .val (.int v3), .val (.int v4), .val (.int v5), .val (.ref b1), .val (.ref b8), .unset, .unset, .unset, .unset] [(.ref b8)])) _
    refine XS.iconst X9.here hx rfl (hb hby at_126) ?_
    show Steps p.tables e below (T9.setTop (mkF m 127 #[.val (.int p0), .val (.int p1), .val (.int p2), .val (.int p3), .val (.int p4), .val (.int p5), .val (.int (5 : Int32)), .val (.int v0), .val (.int v1), .val (.int v2), .val (.int v3), .val (.int v4), .val (.int v5), .val (.ref b1), .val (.ref b8), .unset, .unset, .unset, .unset] [(.int (1 : Int32)), (.ref b8)])) _
    refine XS.iload X9.here hx rfl (hb hby at_127) rfl ?_
    show Steps p.tables e below (T9.setTop (mkF m 129 #[.val (.int p0), .val (.int p1), .val (.int p2), .val (.int p3), .val (.int p4), .val (.int p5), .val (.int (5 : Int32)), .val (.int v0), .val (.int v1), .val (.int v2), .val (.int v3), .val (.int v4), .val (.int v5), .val (.ref b1), .val (.ref b8), .unset, .unset, .unset, .unset] [(.int v1), (.int (1 : Int32)), (.ref b8)])) _
    refine XS.i2dS X9.here hx rfl (hb hby at_129) rfl rfl ?_
    show Steps p.tables e below (T9.setTop (mkF m 130 #[.val (.int p0), .val (.int p1), .val (.int p2), .val (.int p3), .val (.int p4), .val (.int p5), .val (.int (5 : Int32)), .val (.int v0), .val (.int v1), .val (.int v2), .val (.int v3), .val (.int v4), .val (.int v5), .val (.ref b1), .val (.ref b8), .unset, .unset, .unset, .unset] [(.double (FP.i2d v1)), (.int (1 : Int32)), (.ref b8)])) _
    refine st10 _ ?_
    show Steps p.tables e below (T10.setTop (mkF m 131 #[.val (.int p0), .val (.int p1), .val (.int p2), .val (.int p3), .val (.int p4), .val (.int p5), .val (.int (5 : Int32)), .val (.int v0), .val (.int v1), .val (.int v2), .val (.int v3), .val (.int v4), .val (.int v5), .val (.ref b1), .val (.ref b8), .unset, .unset, .unset, .unset] [])) _
    refine XS.iload X10.here hx rfl (hb hby at_131) rfl ?_
    show Steps p.tables e below (T10.setTop (mkF m 133 #[.val (.int p0), .val (.int p1), .val (.int p2), .val (.int p3), .val (.int p4), .val (.int p5), .val (.int (5 : Int32)), .val (.int v0), .val (.int v1), .val (.int v2), .val (.int v3), .val (.int v4), .val (.int v5), .val (.ref b1), .val (.ref b8), .unset, .unset, .unset, .unset] [(.int (5 : Int32))])) _
    refine XS.iconst X10.here hx rfl (hb hby at_133) ?_
    show Steps p.tables e below (T10.setTop (mkF m 134 #[.val (.int p0), .val (.int p1), .val (.int p2), .val (.int p3), .val (.int p4), .val (.int p5), .val (.int (5 : Int32)), .val (.int v0), .val (.int v1), .val (.int v2), .val (.int v3), .val (.int v4), .val (.int v5), .val (.ref b1), .val (.ref b8), .unset, .unset, .unset, .unset] [(.int (2 : Int32)), (.int (5 : Int32))])) _
    refine XS.icmpNo X10.here hx rfl (hb hby at_134) rfl (tlt (by decide : (2 : Int32) < (5 : Int32))).2.2.2 ?_
    show Steps p.tables e below (T10.setTop (mkF m 137 #[.val (.int p0), .val (.int p1), .val (.int p2), .val (.int p3), .val (.int p4), .val (.int p5), .val (.int (5 : Int32)), .val (.int v0), .val (.int v1), .val (.int v2), .val (.int v3), .val (.int v4), .val (.int v5), .val (.ref b1), .val (.ref b8), .unset, .unset, .unset, .unset] [])) _
    refine XS.aload X10.here hx rfl (hb hby at_137) rfl rfl ?_
    show Steps p.tables e below (T10.setTop (mkF m 139 #[.val (.int p0), .val (.int p1), .val (.int p2), .val (.int p3), .val (.int p4), .val (.int p5), .val (.int (5 : Int32)), .val (.int v0), .val (.int v1), .val (.int v2), .val (.int v3), .val (.int v4), .val (.int v5), .val (.ref b1), .val (.ref b8), .unset, .unset, .unset, .unset] [(.ref b8)])) _
    refine XS.iconst X10.here hx rfl (hb hby at_139) ?_
    show Steps p.tables e below (T10.setTop (mkF m 140 #[.val (.int p0), .val (.int p1), .val (.int p2), .val (.int p3), .val (.int p4), .val (.int p5), .val (.int (5 : Int32)), .val (.int v0), .val (.int v1), .val (.int v2), .val (.int v3), .val (.int v4), .val (.int v5), .val (.ref b1), .val (.ref b8), .unset, .unset, .unset, .unset] [(.int (2 : Int32)), (.ref b8)])) _
    refine XS.iload X10.here hx rfl (hb hby at_140) rfl ?_
    show Steps p.tables e below (T10.setTop (mkF m 142 #[.val (.int p0), .val (.int p1), .val (.int p2), .val (.int p3), .val (.int p4), .val (.int p5), .val (.int (5 : Int32)), .val (.int v0), .val (.int v1), .val (.int v2), .val (.int v3), .val (.int v4), .val (.int v5), .val (.ref b1), .val (.ref b8), .unset, .unset, .unset, .unset] [(.int v2), (.int (2 : Int32)), (.ref b8)])) _
    refine XS.i2dS X10.here hx rfl (hb hby at_142) rfl rfl ?_
    show Steps p.tables e below (T10.setTop (mkF m 143 #[.val (.int p0), .val (.int p1), .val (.int p2), .val (.int p3), .val (.int p4), .val (.int p5), .val (.int (5 : Int32)), .val (.int v0), .val (.int v1), .val (.int v2), .val (.int v3), .val (.int v4), .val (.int v5), .val (.ref b1), .val (.ref b8), .unset, .unset, .unset, .unset] [(.double (FP.i2d v2)), (.int (2 : Int32)), (.ref b8)])) _
    refine st11 _ ?_
    show Steps p.tables e below (T11.setTop (mkF m 144 #[.val (.int p0), .val (.int p1), .val (.int p2), .val (.int p3), .val (.int p4), .val (.int p5), .val (.int (5 : Int32)), .val (.int v0), .val (.int v1), .val (.int v2), .val (.int v3), .val (.int v4), .val (.int v5), .val (.ref b1), .val (.ref b8), .unset, .unset, .unset, .unset] [])) _
    refine XS.iload X11.here hx rfl (hb hby at_144) rfl ?_
    show Steps p.tables e below (T11.setTop (mkF m 146 #[.val (.int p0), .val (.int p1), .val (.int p2), .val (.int p3), .val (.int p4), .val (.int p5), .val (.int (5 : Int32)), .val (.int v0), .val (.int v1), .val (.int v2), .val (.int v3), .val (.int v4), .val (.int v5), .val (.ref b1), .val (.ref b8), .unset, .unset, .unset, .unset] [(.int (5 : Int32))])) _
    refine XS.iconst X11.here hx rfl (hb hby at_146) ?_
    show Steps p.tables e below (T11.setTop (mkF m 147 #[.val (.int p0), .val (.int p1), .val (.int p2), .val (.int p3), .val (.int p4), .val (.int p5), .val (.int (5 : Int32)), .val (.int v0), .val (.int v1), .val (.int v2), .val (.int v3), .val (.int v4), .val (.int v5), .val (.ref b1), .val (.ref b8), .unset, .unset, .unset, .unset] [(.int (3 : Int32)), (.int (5 : Int32))])) _
    refine XS.icmpNo X11.here hx rfl (hb hby at_147) rfl (tlt (by decide : (3 : Int32) < (5 : Int32))).2.2.2 ?_
    show Steps p.tables e below (T11.setTop (mkF m 150 #[.val (.int p0), .val (.int p1), .val (.int p2), .val (.int p3), .val (.int p4), .val (.int p5), .val (.int (5 : Int32)), .val (.int v0), .val (.int v1), .val (.int v2), .val (.int v3), .val (.int v4), .val (.int v5), .val (.ref b1), .val (.ref b8), .unset, .unset, .unset, .unset] [])) _
    refine XS.aload X11.here hx rfl (hb hby at_150) rfl rfl ?_
    show Steps p.tables e below (T11.setTop (mkF m 152 #[.val (.int p0), .val (.int p1), .val (.int p2), .val (.int p3), .val (.int p4), .val (.int p5), .val (.int (5 : Int32)), .val (.int v0), .val (.int v1), .val (.int v2), .val (.int v3), .val (.int v4), .val (.int v5), .val (.ref b1), .val (.ref b8), .unset, .unset, .unset, .unset] [(.ref b8)])) _
    refine XS.iconst X11.here hx rfl (hb hby at_152) ?_
    show Steps p.tables e below (T11.setTop (mkF m 153 #[.val (.int p0), .val (.int p1), .val (.int p2), .val (.int p3), .val (.int p4), .val (.int p5), .val (.int (5 : Int32)), .val (.int v0), .val (.int v1), .val (.int v2), .val (.int v3), .val (.int v4), .val (.int v5), .val (.ref b1), .val (.ref b8), .unset, .unset, .unset, .unset] [(.int (3 : Int32)), (.ref b8)])) _
    refine XS.iload X11.here hx rfl (hb hby at_153) rfl ?_
    show Steps p.tables e below (T11.setTop (mkF m 155 #[.val (.int p0), .val (.int p1), .val (.int p2), .val (.int p3), .val (.int p4), .val (.int p5), .val (.int (5 : Int32)), .val (.int v0), .val (.int v1), .val (.int v2), .val (.int v3), .val (.int v4), .val (.int v5), .val (.ref b1), .val (.ref b8), .unset, .unset, .unset, .unset] [(.int v3), (.int (3 : Int32)), (.ref b8)])) _
    refine XS.i2dS X11.here hx rfl (hb hby at_155) rfl rfl ?_
    show Steps p.tables e below (T11.setTop (mkF m 156 #[.val (.int p0), .val (.int p1), .val (.int p2), .val (.int p3), .val (.int p4), .val (.int p5), .val (.int (5 : Int32)), .val (.int v0), .val (.int v1), .val (.int v2), .val (.int v3), .val (.int v4), .val (.int v5), .val (.ref b1), .val (.ref b8), .unset, .unset, .unset, .unset] [(.double (FP.i2d v3)), (.int (3 : Int32)), (.ref b8)])) _
    refine st12 _ ?_
    show Steps p.tables e below (T12.setTop (mkF m 157 #[.val (.int p0), .val (.int p1), .val (.int p2), .val (.int p3), .val (.int p4), .val (.int p5), .val (.int (5 : Int32)), .val (.int v0), .val (.int v1), .val (.int v2), .val (.int v3), .val (.int v4), .val (.int v5), .val (.ref b1), .val (.ref b8), .unset, .unset, .unset, .unset] [])) _
    refine XS.iload X12.here hx rfl (hb hby at_157) rfl ?_
    show Steps p.tables e below (T12.setTop (mkF m 159 #[.val (.int p0), .val (.int p1), .val (.int p2), .val (.int p3), .val (.int p4), .val (.int p5), .val (.int (5 : Int32)), .val (.int v0), .val (.int v1), .val (.int v2), .val (.int v3), .val (.int v4), .val (.int v5), .val (.ref b1), .val (.ref b8), .unset, .unset, .unset, .unset] [(.int (5 : Int32))])) _
    refine XS.iconst X12.here hx rfl (hb hby at_159) ?_
    show Steps p.tables e below (T12.setTop (mkF m 160 #[.val (.int p0), .val (.int p1), .val (.int p2), .val (.int p3), .val (.int p4), .val (.int p5), .val (.int (5 : Int32)), .val (.int v0), .val (.int v1), .val (.int v2), .val (.int v3), .val (.int v4), .val (.int v5), .val (.ref b1), .val (.ref b8), .unset, .unset, .unset, .unset] [(.int (4 : Int32)), (.int (5 : Int32))])) _
    refine XS.icmpNo X12.here hx rfl (hb hby at_160) rfl (tlt (by decide : (4 : Int32) < (5 : Int32))).2.2.2 ?_
    show Steps p.tables e below (T12.setTop (mkF m 163 #[.val (.int p0), .val (.int p1), .val (.int p2), .val (.int p3), .val (.int p4), .val (.int p5), .val (.int (5 : Int32)), .val (.int v0), .val (.int v1), .val (.int v2), .val (.int v3), .val (.int v4), .val (.int v5), .val (.ref b1), .val (.ref b8), .unset, .unset, .unset, .unset] [])) _
    refine XS.aload X12.here hx rfl (hb hby at_163) rfl rfl ?_
    show Steps p.tables e below (T12.setTop (mkF m 165 #[.val (.int p0), .val (.int p1), .val (.int p2), .val (.int p3), .val (.int p4), .val (.int p5), .val (.int (5 : Int32)), .val (.int v0), .val (.int v1), .val (.int v2), .val (.int v3), .val (.int v4), .val (.int v5), .val (.ref b1), .val (.ref b8), .unset, .unset, .unset, .unset] [(.ref b8)])) _
    refine XS.iconst X12.here hx rfl (hb hby at_165) ?_
    show Steps p.tables e below (T12.setTop (mkF m 166 #[.val (.int p0), .val (.int p1), .val (.int p2), .val (.int p3), .val (.int p4), .val (.int p5), .val (.int (5 : Int32)), .val (.int v0), .val (.int v1), .val (.int v2), .val (.int v3), .val (.int v4), .val (.int v5), .val (.ref b1), .val (.ref b8), .unset, .unset, .unset, .unset] [(.int (4 : Int32)), (.ref b8)])) _
    refine XS.iload X12.here hx rfl (hb hby at_166) rfl ?_
    show Steps p.tables e below (T12.setTop (mkF m 168 #[.val (.int p0), .val (.int p1), .val (.int p2), .val (.int p3), .val (.int p4), .val (.int p5), .val (.int (5 : Int32)), .val (.int v0), .val (.int v1), .val (.int v2), .val (.int v3), .val (.int v4), .val (.int v5), .val (.ref b1), .val (.ref b8), .unset, .unset, .unset, .unset] [(.int v4), (.int (4 : Int32)), (.ref b8)])) _
    refine XS.i2dS X12.here hx rfl (hb hby at_168) rfl rfl ?_
    show Steps p.tables e below (T12.setTop (mkF m 169 #[.val (.int p0), .val (.int p1), .val (.int p2), .val (.int p3), .val (.int p4), .val (.int p5), .val (.int (5 : Int32)), .val (.int v0), .val (.int v1), .val (.int v2), .val (.int v3), .val (.int v4), .val (.int v5), .val (.ref b1), .val (.ref b8), .unset, .unset, .unset, .unset] [(.double (FP.i2d v4)), (.int (4 : Int32)), (.ref b8)])) _
    refine st13 _ ?_
    show Steps p.tables e below (T13.setTop (mkF m 170 #[.val (.int p0), .val (.int p1), .val (.int p2), .val (.int p3), .val (.int p4), .val (.int p5), .val (.int (5 : Int32)), .val (.int v0), .val (.int v1), .val (.int v2), .val (.int v3), .val (.int v4), .val (.int v5), .val (.ref b1), .val (.ref b8), .unset, .unset, .unset, .unset] [])) _
    refine XS.iload X13.here hx rfl (hb hby at_170) rfl ?_
    show Steps p.tables e below (T13.setTop (mkF m 172 #[.val (.int p0), .val (.int p1), .val (.int p2), .val (.int p3), .val (.int p4), .val (.int p5), .val (.int (5 : Int32)), .val (.int v0), .val (.int v1), .val (.int v2), .val (.int v3), .val (.int v4), .val (.int v5), .val (.ref b1), .val (.ref b8), .unset, .unset, .unset, .unset] [(.int (5 : Int32))])) _
    refine XS.iconst X13.here hx rfl (hb hby at_172) ?_
    show Steps p.tables e below (T13.setTop (mkF m 173 #[.val (.int p0), .val (.int p1), .val (.int p2), .val (.int p3), .val (.int p4), .val (.int p5), .val (.int (5 : Int32)), .val (.int v0), .val (.int v1), .val (.int v2), .val (.int v3), .val (.int v4), .val (.int v5), .val (.ref b1), .val (.ref b8), .unset, .unset, .unset, .unset] [(.int (5 : Int32)), (.int (5 : Int32))])) _
    refine XS.icmpYes X13.here hx rfl (pc0 := 173) (pc' := 183) rfl (hb hby at_173) rfl (flt (by decide : ¬ ((5 : Int32) < (5 : Int32)))).2.2.2 (by decide) (by decide) ?_
    show Steps p.tables e below (T13.setTop (mkF m 183 #[.val (.int p0), .val (.int p1), .val (.int p2), .val (.int p3), .val (.int p4), .val (.int p5), .val (.int (5 : Int32)), .val (.int v0), .val (.int v1), .val (.int v2), .val (.int v3), .val (.int v4), .val (.int v5), .val (.ref b1), .val (.ref b8), .unset, .unset, .unset, .unset] [])) _
    refine XS.aload X13.here hx rfl (hb hby at_183) rfl rfl ?_
    show Steps p.tables e below (T13.setTop (mkF m 185 #[.val (.int p0), .val (.int p1), .val (.int p2), .val (.int p3), .val (.int p4), .val (.int p5), .val (.int (5 : Int32)), .val (.int v0), .val (.int v1), .val (.int v2), .val (.int v3), .val (.int v4), .val (.int v5), .val (.ref b1), .val (.ref b8), .unset, .unset, .unset, .unset] [(.ref b8)])) _
    refine st14 _ ?_
    show Steps p.tables e below (T14.setTop (mkF m 188 #[.val (.int p0), .val (.int p1), .val (.int p2), .val (.int p3), .val (.int p4), .val (.int p5), .val (.int (5 : Int32)), .val (.int v0), .val (.int v1), .val (.int v2), .val (.int v3), .val (.int v4), .val (.int v5), .val (.ref b1), .val (.ref b8), .unset, .unset, .unset, .unset] [(.double (FP.i2d v2))])) _
    refine XS.dstore X14.here hx rfl (hb hby at_188) rfl (l' := #[.val (.int p0), .val (.int p1), .val (.int p2), .val (.int p3), .val (.int p4), .val (.int p5), .val (.int (5 : Int32)), .val (.int v0), .val (.int v1), .val (.int v2), .val (.int v3), .val (.int v4), .val (.int v5), .val (.ref b1), .val (.ref b8), .val (.double (FP.i2d v2)), .second, .unset, .unset]) rfl ?_
    show Steps p.tables e below (T14.setTop (mkF m 190 #[.val (.int p0), .val (.int p1), .val (.int p2), .val (.int p3), .val (.int p4), .val (.int p5), .val (.int (5 : Int32)), .val (.int v0), .val (.int v1), .val (.int v2), .val (.int v3), .val (.int v4), .val (.int v5), .val (.ref b1), .val (.ref b8), .val (.double (FP.i2d v2)), .second, .unset, .unset] [])) _
    refine XS.iload X14.here hx rfl (hb hby at_190) rfl ?_
    show Steps p.tables e below (T14.setTop (mkF m 192 #[.val (.int p0), .val (.int p1), .val (.int p2), .val (.int p3), .val (.int p4), .val (.int p5), .val (.int (5 : Int32)), .val (.int v0), .val (.int v1), .val (.int v2), .val (.int v3), .val (.int v4), .val (.int v5), .val (.ref b1), .val (.ref b8), .val (.double (FP.i2d v2)), .second, .unset, .unset] [(.int (5 : Int32))])) _
    refine XS.iconst X14.here hx rfl (hb hby at_192) ?_
    show Steps p.tables e below (T14.setTop (mkF m 193 #[.val (.int p0), .val (.int p1), .val (.int p2), .val (.int p3), .val (.int p4), .val (.int p5), .val (.int (5 : Int32)), .val (.int v0), .val (.int v1), .val (.int v2), .val (.int v3), .val (.int v4), .val (.int v5), .val (.ref b1), .val (.ref b8), .val (.double (FP.i2d v2)), .second, .unset, .unset] [(.int (1 : Int32)), (.int (5 : Int32))])) _
    refine XS.isub X14.here hx rfl (hb hby at_193) rfl ?_
    show Steps p.tables e below (T14.setTop (mkF m 194 #[.val (.int p0), .val (.int p1), .val (.int p2), .val (.int p3), .val (.int p4), .val (.int p5), .val (.int (5 : Int32)), .val (.int v0), .val (.int v1), .val (.int v2), .val (.int v3), .val (.int v4), .val (.int v5), .val (.ref b1), .val (.ref b8), .val (.double (FP.i2d v2)), .second, .unset, .unset] [(.int ((5 : Int32) - (1 : Int32)))])) _
    rw [show ((5 : Int32) - (1 : Int32)) = (4 : Int32) from by decide]
    show Steps p.tables e below (T14.setTop (mkF m 194 #[.val (.int p0), .val (.int p1), .val (.int p2), .val (.int p3), .val (.int p4), .val (.int p5), .val (.int (5 : Int32)), .val (.int v0), .val (.int v1), .val (.int v2), .val (.int v3), .val (.int v4), .val (.int v5), .val (.ref b1), .val (.ref b8), .val (.double (FP.i2d v2)), .second, .unset, .unset] [(.int (4 : Int32))])) _
    refine XS.iconst X14.here hx rfl (hb hby at_194) ?_
    show Steps p.tables e below (T14.setTop (mkF m 195 #[.val (.int p0), .val (.int p1), .val (.int p2), .val (.int p3), .val (.int p4), .val (.int p5), .val (.int (5 : Int32)), .val (.int v0), .val (.int v1), .val (.int v2), .val (.int v3), .val (.int v4), .val (.int v5), .val (.ref b1), .val (.ref b8), .val (.double (FP.i2d v2)), .second, .unset, .unset] [(.int (2 : Int32)), (.int (4 : Int32))])) _
    refine XS.idiv X14.here hx rfl (hb hby at_195) rfl (by decide) ?_
    show Steps p.tables e below (T14.setTop (mkF m 196 #[.val (.int p0), .val (.int p1), .val (.int p2), .val (.int p3), .val (.int p4), .val (.int p5), .val (.int (5 : Int32)), .val (.int v0), .val (.int v1), .val (.int v2), .val (.int v3), .val (.int v4), .val (.int v5), .val (.ref b1), .val (.ref b8), .val (.double (FP.i2d v2)), .second, .unset, .unset] [(.int ((4 : Int32) / (2 : Int32)))])) _
    rw [show ((4 : Int32) / (2 : Int32)) = (2 : Int32) from by decide]
    show Steps p.tables e below (T14.setTop (mkF m 196 #[.val (.int p0), .val (.int p1), .val (.int p2), .val (.int p3), .val (.int p4), .val (.int p5), .val (.int (5 : Int32)), .val (.int v0), .val (.int v1), .val (.int v2), .val (.int v3), .val (.int v4), .val (.int v5), .val (.ref b1), .val (.ref b8), .val (.double (FP.i2d v2)), .second, .unset, .unset] [(.int (2 : Int32))])) _
    refine XS.istore X14.here hx rfl (hb hby at_196) rfl (l' := #[.val (.int p0), .val (.int p1), .val (.int p2), .val (.int p3), .val (.int p4), .val (.int p5), .val (.int (5 : Int32)), .val (.int v0), .val (.int v1), .val (.int v2), .val (.int v3), .val (.int v4), .val (.int v5), .val (.ref b1), .val (.ref b8), .val (.double (FP.i2d v2)), .second, .val (.int (2 : Int32)), .unset]) rfl ?_
    show Steps p.tables e below (T14.setTop (mkF m 198 #[.val (.int p0), .val (.int p1), .val (.int p2), .val (.int p3), .val (.int p4), .val (.int p5), .val (.int (5 : Int32)), .val (.int v0), .val (.int v1), .val (.int v2), .val (.int v3), .val (.int v4), .val (.int v5), .val (.ref b1), .val (.ref b8), .val (.double (FP.i2d v2)), .second, .val (.int (2 : Int32)), .unset] [])) _
    refine XS.iload X14.here hx rfl (hb hby at_198) rfl ?_
    show Steps p.tables e below (T14.setTop (mkF m 200 #[.val (.int p0), .val (.int p1), .val (.int p2), .val (.int p3), .val (.int p4), .val (.int p5), .val (.int (5 : Int32)), .val (.int v0), .val (.int v1), .val (.int v2), .val (.int v3), .val (.int v4), .val (.int v5), .val (.ref b1), .val (.ref b8), .val (.double (FP.i2d v2)), .second, .val (.int (2 : Int32)), .unset] [(.int (5 : Int32))])) _
    refine XS.iconst X14.here hx rfl (hb hby at_200) ?_
    show Steps p.tables e below (T14.setTop (mkF m 201 #[.val (.int p0), .val (.int p1), .val (.int p2), .val (.int p3), .val (.int p4), .val (.int p5), .val (.int (5 : Int32)), .val (.int v0), .val (.int v1), .val (.int v2), .val (.int v3), .val (.int v4), .val (.int v5), .val (.ref b1), .val (.ref b8), .val (.double (FP.i2d v2)), .second, .val (.int (2 : Int32)), .unset] [(.int (2 : Int32)), (.int (5 : Int32))])) _
    refine XS.idiv X14.here hx rfl (hb hby at_201) rfl (by decide) ?_
    show Steps p.tables e below (T14.setTop (mkF m 202 #[.val (.int p0), .val (.int p1), .val (.int p2), .val (.int p3), .val (.int p4), .val (.int p5), .val (.int (5 : Int32)), .val (.int v0), .val (.int v1), .val (.int v2), .val (.int v3), .val (.int v4), .val (.int v5), .val (.ref b1), .val (.ref b8), .val (.double (FP.i2d v2)), .second, .val (.int (2 : Int32)), .unset] [(.int ((5 : Int32) / (2 : Int32)))])) _
    rw [show ((5 : Int32) / (2 : Int32)) = (2 : Int32) from by decide]
    show Steps p.tables e below (T14.setTop (mkF m 202 #[.val (.int p0), .val (.int p1), .val (.int p2), .val (.int p3), .val (.int p4), .val (.int p5), .val (.int (5 : Int32)), .val (.int v0), .val (.int v1), .val (.int v2), .val (.int v3), .val (.int v4), .val (.int v5), .val (.ref b1), .val (.ref b8), .val (.double (FP.i2d v2)), .second, .val (.int (2 : Int32)), .unset] [(.int (2 : Int32))])) _
    refine XS.istore X14.here hx rfl (hb hby at_202) rfl (l' := #[.val (.int p0), .val (.int p1), .val (.int p2), .val (.int p3), .val (.int p4), .val (.int p5), .val (.int (5 : Int32)), .val (.int v0), .val (.int v1), .val (.int v2), .val (.int v3), .val (.int v4), .val (.int v5), .val (.ref b1), .val (.ref b8), .val (.double (FP.i2d v2)), .second, .val (.int (2 : Int32)), .val (.int (2 : Int32))]) rfl ?_
    show Steps p.tables e below (T14.setTop (mkF m 204 #[.val (.int p0), .val (.int p1), .val (.int p2), .val (.int p3), .val (.int p4), .val (.int p5), .val (.int (5 : Int32)), .val (.int v0), .val (.int v1), .val (.int v2), .val (.int v3), .val (.int v4), .val (.int v5), .val (.ref b1), .val (.ref b8), .val (.double (FP.i2d v2)), .second, .val (.int (2 : Int32)), .val (.int (2 : Int32))] [])) _
    refine XS.dload X14.here hx rfl (hb hby at_204) rfl ?_
    show Steps p.tables e below (T14.setTop (mkF m 206 #[.val (.int p0), .val (.int p1), .val (.int p2), .val (.int p3), .val (.int p4), .val (.int p5), .val (.int (5 : Int32)), .val (.int v0), .val (.int v1), .val (.int v2), .val (.int v3), .val (.int v4), .val (.int v5), .val (.ref b1), .val (.ref b8), .val (.double (FP.i2d v2)), .second, .val (.int (2 : Int32)), .val (.int (2 : Int32))] [(.double (FP.i2d v2))])) _
    refine X14.ldc2DoubleC hx hown (mvT hZ (hw _ (List.mem_of_getElem? (i := 9) rfl))) (g := (mkF m 206 #[.val (.int p0), .val (.int p1), .val (.int p2), .val (.int p3), .val (.int p4), .val (.int p5), .val (.int (5 : Int32)), .val (.int v0), .val (.int v1), .val (.int v2), .val (.int v3), .val (.int v4), .val (.int v5), .val (.ref b1), .val (.ref b8), .val (.double (FP.i2d v2)), .second, .val (.int (2 : Int32)), .val (.int (2 : Int32))] [(.double (FP.i2d v2))])) rfl (hb hby at_206) _ ?_
    show Steps p.tables e below (T14.setTop (mkF m 209 #[.val (.int p0), .val (.int p1), .val (.int p2), .val (.int p3), .val (.int p4), .val (.int p5), .val (.int (5 : Int32)), .val (.int v0), .val (.int v1), .val (.int v2), .val (.int v3), .val (.int v4), .val (.int v5), .val (.ref b1), .val (.ref b8), .val (.double (FP.i2d v2)), .second, .val (.int (2 : Int32)), .val (.int (2 : Int32))] [(.double 4611686018427387904), (.double (FP.i2d v2))])) _
    refine XS.dmulS X14.here hx rfl (hb hby at_209) rfl (own_n209o B2) rfl ?_
    show Steps p.tables e below (T14.setTop (mkF m 210 #[.val (.int p0), .val (.int p1), .val (.int p2), .val (.int p3), .val (.int p4), .val (.int p5), .val (.int (5 : Int32)), .val (.int v0), .val (.int v1), .val (.int v2), .val (.int v3), .val (.int v4), .val (.int v5), .val (.ref b1), .val (.ref b8), .val (.double (FP.i2d v2)), .second, .val (.int (2 : Int32)), .val (.int (2 : Int32))] [(.double (FP.dmul (FP.i2d v2) 4611686018427387904))])) _
    refine XS.aload X14.here hx rfl (hb hby at_210) rfl rfl ?_
    show Steps p.tables e below (T14.setTop (mkF m 212 #[.val (.int p0), .val (.int p1), .val (.int p2), .val (.int p3), .val (.int p4), .val (.int p5), .val (.int (5 : Int32)), .val (.int v0), .val (.int v1), .val (.int v2), .val (.int v3), .val (.int v4), .val (.int v5), .val (.ref b1), .val (.ref b8), .val (.double (FP.i2d v2)), .second, .val (.int (2 : Int32)), .val (.int (2 : Int32))] [(.ref b1), (.double (FP.dmul (FP.i2d v2) 4611686018427387904))])) _
    refine XS.iload X14.here hx rfl (hb hby at_212) rfl ?_
    show Steps p.tables e below (T14.setTop (mkF m 214 #[.val (.int p0), .val (.int p1), .val (.int p2), .val (.int p3), .val (.int p4), .val (.int p5), .val (.int (5 : Int32)), .val (.int v0), .val (.int v1), .val (.int v2), .val (.int v3), .val (.int v4), .val (.int v5), .val (.ref b1), .val (.ref b8), .val (.double (FP.i2d v2)), .second, .val (.int (2 : Int32)), .val (.int (2 : Int32))] [(.int (2 : Int32)), (.ref b1), (.double (FP.dmul (FP.i2d v2) 4611686018427387904))])) _
    refine X14.iaload hx (j := (2 : Int32)) (v := (.int v2)) (by rw [e14]; exact Ar16.1) (State.isArrayOf_alike hZ.alike Ar16.2.1) Ar16.2.2 hin16 hat16 (g := (mkF m 214 #[.val (.int p0), .val (.int p1), .val (.int p2), .val (.int p3), .val (.int p4), .val (.int p5), .val (.int (5 : Int32)), .val (.int v0), .val (.int v1), .val (.int v2), .val (.int v3), .val (.int v4), .val (.int v5), .val (.ref b1), .val (.ref b8), .val (.double (FP.i2d v2)), .second, .val (.int (2 : Int32)), .val (.int (2 : Int32))] [(.int (2 : Int32)), (.ref b1), (.double (FP.dmul (FP.i2d v2) 4611686018427387904))])) rfl rfl (hb hby at_214) _ ?_
    show Steps p.tables e below (T14.setTop (mkF m 215 #[.val (.int p0), .val (.int p1), .val (.int p2), .val (.int p3), .val (.int p4), .val (.int p5), .val (.int (5 : Int32)), .val (.int v0), .val (.int v1), .val (.int v2), .val (.int v3), .val (.int v4), .val (.int v5), .val (.ref b1), .val (.ref b8), .val (.double (FP.i2d v2)), .second, .val (.int (2 : Int32)), .val (.int (2 : Int32))] [(.int v2), (.double (FP.dmul (FP.i2d v2) 4611686018427387904))])) _
    refine XS.aload X14.here hx rfl (hb hby at_215) rfl rfl ?_
    show Steps p.tables e below (T14.setTop (mkF m 217 #[.val (.int p0), .val (.int p1), .val (.int p2), .val (.int p3), .val (.int p4), .val (.int p5), .val (.int (5 : Int32)), .val (.int v0), .val (.int v1), .val (.int v2), .val (.int v3), .val (.int v4), .val (.int v5), .val (.ref b1), .val (.ref b8), .val (.double (FP.i2d v2)), .second, .val (.int (2 : Int32)), .val (.int (2 : Int32))] [(.ref b1), (.int v2), (.double (FP.dmul (FP.i2d v2) 4611686018427387904))])) _
    refine XS.iload X14.here hx rfl (hb hby at_217) rfl ?_
    show Steps p.tables e below (T14.setTop (mkF m 219 #[.val (.int p0), .val (.int p1), .val (.int p2), .val (.int p3), .val (.int p4), .val (.int p5), .val (.int (5 : Int32)), .val (.int v0), .val (.int v1), .val (.int v2), .val (.int v3), .val (.int v4), .val (.int v5), .val (.ref b1), .val (.ref b8), .val (.double (FP.i2d v2)), .second, .val (.int (2 : Int32)), .val (.int (2 : Int32))] [(.int (2 : Int32)), (.ref b1), (.int v2), (.double (FP.dmul (FP.i2d v2) 4611686018427387904))])) _
    refine X14.iaload hx (j := (2 : Int32)) (v := (.int v2)) (by rw [e14]; exact Ar17.1) (State.isArrayOf_alike hZ.alike Ar17.2.1) Ar17.2.2 hin17 hat17 (g := (mkF m 219 #[.val (.int p0), .val (.int p1), .val (.int p2), .val (.int p3), .val (.int p4), .val (.int p5), .val (.int (5 : Int32)), .val (.int v0), .val (.int v1), .val (.int v2), .val (.int v3), .val (.int v4), .val (.int v5), .val (.ref b1), .val (.ref b8), .val (.double (FP.i2d v2)), .second, .val (.int (2 : Int32)), .val (.int (2 : Int32))] [(.int (2 : Int32)), (.ref b1), (.int v2), (.double (FP.dmul (FP.i2d v2) 4611686018427387904))])) rfl rfl (hb hby at_219) _ ?_
    show Steps p.tables e below (T14.setTop (mkF m 220 #[.val (.int p0), .val (.int p1), .val (.int p2), .val (.int p3), .val (.int p4), .val (.int p5), .val (.int (5 : Int32)), .val (.int v0), .val (.int v1), .val (.int v2), .val (.int v3), .val (.int v4), .val (.int v5), .val (.ref b1), .val (.ref b8), .val (.double (FP.i2d v2)), .second, .val (.int (2 : Int32)), .val (.int (2 : Int32))] [(.int v2), (.int v2), (.double (FP.dmul (FP.i2d v2) 4611686018427387904))])) _
    refine XS.iadd X14.here hx rfl (hb hby at_220) rfl ?_
    show Steps p.tables e below (T14.setTop (mkF m 221 #[.val (.int p0), .val (.int p1), .val (.int p2), .val (.int p3), .val (.int p4), .val (.int p5), .val (.int (5 : Int32)), .val (.int v0), .val (.int v1), .val (.int v2), .val (.int v3), .val (.int v4), .val (.int v5), .val (.ref b1), .val (.ref b8), .val (.double (FP.i2d v2)), .second, .val (.int (2 : Int32)), .val (.int (2 : Int32))] [(.int (v2 + v2)), (.double (FP.dmul (FP.i2d v2) 4611686018427387904))])) _
    refine XS.i2dS X14.here hx rfl (hb hby at_221) rfl rfl ?_
    show Steps p.tables e below (T14.setTop (mkF m 222 #[.val (.int p0), .val (.int p1), .val (.int p2), .val (.int p3), .val (.int p4), .val (.int p5), .val (.int (5 : Int32)), .val (.int v0), .val (.int v1), .val (.int v2), .val (.int v3), .val (.int v4), .val (.int v5), .val (.ref b1), .val (.ref b8), .val (.double (FP.i2d v2)), .second, .val (.int (2 : Int32)), .val (.int (2 : Int32))] [(.double (FP.i2d (v2 + v2))), (.double (FP.dmul (FP.i2d v2) 4611686018427387904))])) _
    refine XS.dcmpS X14.here hx rfl (hb hby at_222) rfl (v := (0 : Int32)) (own_odd B2) ?_
    show Steps p.tables e below (T14.setTop (mkF m 223 #[.val (.int p0), .val (.int p1), .val (.int p2), .val (.int p3), .val (.int p4), .val (.int p5), .val (.int (5 : Int32)), .val (.int v0), .val (.int v1), .val (.int v2), .val (.int v3), .val (.int v4), .val (.int v5), .val (.ref b1), .val (.ref b8), .val (.double (FP.i2d v2)), .second, .val (.int (2 : Int32)), .val (.int (2 : Int32))] [(.int (0 : Int32))])) _
    refine XS.ifNo X14.here hx rfl (hb hby at_223) rfl ((if0 _ _).trans (teq (rfl : (0 : Int32) = (0 : Int32))).2) ?_
    show Steps p.tables e below (T14.setTop (mkF m 226 #[.val (.int p0), .val (.int p1), .val (.int p2), .val (.int p3), .val (.int p4), .val (.int p5), .val (.int (5 : Int32)), .val (.int v0), .val (.int v1), .val (.int v2), .val (.int v3), .val (.int v4), .val (.int v5), .val (.ref b1), .val (.ref b8), .val (.double (FP.i2d v2)), .second, .val (.int (2 : Int32)), .val (.int (2 : Int32))] [])) _
    refine XS.iconst X14.here hx rfl (hb hby at_226) ?_
    show Steps p.tables e below (T14.setTop (mkF m 227 #[.val (.int p0), .val (.int p1), .val (.int p2), .val (.int p3), .val (.int p4), .val (.int p5), .val (.int (5 : Int32)), .val (.int v0), .val (.int v1), .val (.int v2), .val (.int v3), .val (.int v4), .val (.int v5), .val (.ref b1), .val (.ref b8), .val (.double (FP.i2d v2)), .second, .val (.int (2 : Int32)), .val (.int (2 : Int32))] [(.int (1 : Int32))])) _
    refine XS.goto X14.here hx rfl (pc0 := 227) (pc' := 231) rfl (hb hby at_227) (by decide) (by decide) ?_
    show Steps p.tables e below (T14.setTop (mkF m 231 #[.val (.int p0), .val (.int p1), .val (.int p2), .val (.int p3), .val (.int p4), .val (.int p5), .val (.int (5 : Int32)), .val (.int v0), .val (.int v1), .val (.int v2), .val (.int v3), .val (.int v4), .val (.int v5), .val (.ref b1), .val (.ref b8), .val (.double (FP.i2d v2)), .second, .val (.int (2 : Int32)), .val (.int (2 : Int32))] [(.int (1 : Int32))])) _
    exact retN X14 hx (t := .boolean) Bd.returns (by simp) (hb hby at_231) hr
  · show Q_rm0_5 Z p0 p1 p2 p3 p4 p5 v0 v1 v2 v3 v4 v5 h0 n0 _ T14.heap _
    rw [e14]
    exact ⟨rfl, N14⟩
def Q_rm0_6 (Z : State) (p0 : Int32) (p1 : Int32) (p2 : Int32) (p3 : Int32) (p4 : Int32) (p5 : Int32) (v0 : Int32) (v1 : Int32) (v2 : Int32) (v3 : Int32) (v4 : Int32) (v5 : Int32) (h0 : Heap) (n0 : Nat) (v : Option Value) (h : Heap) (L : List Loc) : Prop := v = some (.int (1 : Int32)) ∧ Fr n0 L
theorem ef_rm0_6 (m : MethodId) (p0 : Int32) (p1 : Int32) (p2 : Int32) (p3 : Int32) (p4 : Int32) (p5 : Int32) : entryFrame m #[(.int p0), (.int p1), (.int p2), (.int p3), (.int p4), (.int p5)] maxLocals = mkF m 0 #[.val (.int p0), .val (.int p1), .val (.int p2), .val (.int p3), .val (.int p4), .val (.int p5), .unset, .unset, .unset, .unset, .unset, .unset, .unset, .unset, .unset, .unset, .unset, .unset, .unset] [] := by first | (simp [entryFrame, mkF, argsToLocals, Value.category, maxLocals]; done) | rfl
set_option maxRecDepth 65536 in
set_option maxHeartbeats 40000000 in
theorem rm0_6 (l : Launch) (Z : State) (a0 : Array Value) (hw : ∀ d ∈ tables_1, d.before a0 Z = true) (ws : List Jvm.Cond) (p0 : Int32) (p1 : Int32) (p2 : Int32) (p3 : Int32) (p4 : Int32) (p5 : Int32) (v0 : Int32) (v1 : Int32) (v2 : Int32) (v3 : Int32) (v4 : Int32) (v5 : Int32) (h0 : Heap) (n0 : Nat) (Z0 : n0 ≤ h0.size) (hn : (((p0 &&& (7 : Int32)) % (6 : Int32)) + (1 : Int32)) = (6 : Int32)) (hv0 : (((p0 >>> ((3 : Int32) &&& 31)) &&& (1048575 : Int32)) - (524288 : Int32)) = v0) (hv1 : (v0 + (p1 &&& (65535 : Int32))) = v1) (hv2 : (v1 + (p2 &&& (65535 : Int32))) = v2) (hv3 : (v2 + (p3 &&& (65535 : Int32))) = v3) (hv4 : (v3 + (p4 &&& (65535 : Int32))) = v4) (hv5 : (v4 + (p5 &&& (65535 : Int32))) = v5) :
    MetFree l x (head1 (Jvm.Cond.code x code maxLocals ret :: ws) room_1) (fun a U => a = #[(.int p0), (.int p1), (.int p2), (.int p3), (.int p4), (.int p5)] ∧ Z.Warmed39 U.vm ∧ U.heap = h0) (fun _ _ _ _ _ => True) (fun _ U o U' => ∃ v L, o = .returned v ∧ Q_rm0_6 Z p0 p1 p2 p3 p4 p5 v0 v1 v2 v3 v4 v5 h0 n0 v U'.heap L ∧ FrameEnd U o U' L room_1.cells room_1.slots) := by
  refine MetFree.of_bodySF (plainFor_of_name pn_1) hisR ?_
  intro p e s m args below meth c s₁ Bd hml0 hP hK
  obtain ⟨rfl, hZ, hh⟩ := hP
  have hx := Bd.exec
  have hby := Bd.bytes
  have hml : c.maxLocals = 19 := hml0
  have hown : s.vm.findClass "parkline/scenario/BenchMedianPinLaw" = some m.cls := findClass_of_methodNamed Bd.named
  have hnm := (name_of_methodNamed Bd.named Bd.method).1
  have X0 : Stand p l e room_1 s m #[(.int p0), (.int p1), (.int p2), (.int p3), (.int p4), (.int p5)] below meth c s₁ [] 0 0 := Stand.of_body Bd
  have e0 : s₁.heap = h0 := by rw [← hh, Bd.state]; rfl
  have N0 := Fr.nil n0
  have pre0 : ∀ t, Steps p.tables e below (s₁.setTop (mkF m 0 #[.val (.int p0), .val (.int p1), .val (.int p2), .val (.int p3), .val (.int p4), .val (.int p5), .unset, .unset, .unset, .unset, .unset, .unset, .unset, .unset, .unset, .unset, .unset, .unset, .unset] [])) t → Steps p.tables e below (s₁.setTop (entryFrame m #[(.int p0), (.int p1), (.int p2), (.int p3), (.int p4), (.int p5)] maxLocals)) t := fun t k => castTop (ef_rm0_6 m p0 p1 p2 p3 p4 p5) k
  obtain ⟨B0, B1, B2, B3, B4, B5⟩ := own_b p0 p1 p2 p3 p4 p5 v0 v1 v2 v3 v4 v5 hv0 hv1 hv2 hv3 hv4 hv5
  obtain ⟨T1, h1, k1, X1, e1, E1, A1, st1⟩ := newP X0 hx hZ (hw _ (List.mem_of_getElem? (i := 3) rfl)) e0 (g := (mkF m 71 #[.val (.int p0), .val (.int p1), .val (.int p2), .val (.int p3), .val (.int p4), .val (.int p5), .val (.int (6 : Int32)), .val (.int v0), .val (.int v1), .val (.int v2), .val (.int v3), .val (.int v4), .val (.int v5), .unset, .unset, .unset, .unset, .unset, .unset] [(.int (6 : Int32))])) rfl (hb hby at_71) rfl (by decide) (cap := 6) (by decide) (by decide) (by decide) (by decide)
  obtain ⟨b1, g1⟩ : ∃ z, z = h0.size := ⟨_, rfl⟩
  rw [← g1] at A1 st1
  have V1 : Arv Z h1 b1 k1 .int (6 : Int32) [(.int (0 : Int32)), (.int (0 : Int32)), (.int (0 : Int32)), (.int (0 : Int32)), (.int (0 : Int32)), (.int (0 : Int32))] (.int (0 : Int32)) := (Arv.new A1 (by decide)).pad (pad_rep [] (.int (0 : Int32)) 6)
  have Vc2 := V1
  obtain ⟨cl2, Ar2, q2, S2, M2, H2, G2⟩ := Vc2
  have hin2 : ¬ ((0 : Int32) < 0 ∨ cl2.slots.size ≤ ((0 : Int32)).toNatClampNeg) := inb_of S2 ⟨by decide, by decide⟩
  obtain ⟨T2, h2, X2, e2, W2, st2⟩ := stI X1 hx hZ e1 Ar2 (j := (0 : Int32)) hin2 (g := (mkF m 77 #[.val (.int p0), .val (.int p1), .val (.int p2), .val (.int p3), .val (.int p4), .val (.int p5), .val (.int (6 : Int32)), .val (.int v0), .val (.int v1), .val (.int v2), .val (.int v3), .val (.int v4), .val (.int v5), .unset, .unset, .unset, .unset, .unset, .unset] [(.int v0), (.int (0 : Int32)), (.ref b1), (.ref b1)])) rfl rfl (hb hby at_77)
  have V2 : Arv Z h2 b1 k1 .int (6 : Int32) [(.int v0), (.int (0 : Int32)), (.int (0 : Int32)), (.int (0 : Int32)), (.int (0 : Int32)), (.int (0 : Int32))] (.int (0 : Int32)) := Arv.set Ar2 q2 S2 M2 H2 G2 rfl W2 0 rfl (Nat.le_of_ble_eq_true rfl)
  have N2 := Fr.snoc X2 N0 (Nat.le_trans Z0 (Nat.le_of_eq g1.symm))
  have Vc3 := V2
  obtain ⟨cl3, Ar3, q3, S3, M3, H3, G3⟩ := Vc3
  have hin3 : ¬ ((1 : Int32) < 0 ∨ cl3.slots.size ≤ ((1 : Int32)).toNatClampNeg) := inb_of S3 ⟨by decide, by decide⟩
  obtain ⟨T3, h3, X3, e3, W3, st3⟩ := stI X2 hx hZ e2 Ar3 (j := (1 : Int32)) hin3 (g := (mkF m 82 #[.val (.int p0), .val (.int p1), .val (.int p2), .val (.int p3), .val (.int p4), .val (.int p5), .val (.int (6 : Int32)), .val (.int v0), .val (.int v1), .val (.int v2), .val (.int v3), .val (.int v4), .val (.int v5), .unset, .unset, .unset, .unset, .unset, .unset] [(.int v1), (.int (1 : Int32)), (.ref b1), (.ref b1)])) rfl rfl (hb hby at_82)
  have V3 : Arv Z h3 b1 k1 .int (6 : Int32) [(.int v0), (.int v1), (.int (0 : Int32)), (.int (0 : Int32)), (.int (0 : Int32)), (.int (0 : Int32))] (.int (0 : Int32)) := Arv.set Ar3 q3 S3 M3 H3 G3 rfl W3 1 rfl (Nat.le_of_ble_eq_true rfl)
  have N3 := Fr.snoc X3 N2 (Nat.le_trans Z0 (Nat.le_of_eq g1.symm))
  have Vc4 := V3
  obtain ⟨cl4, Ar4, q4, S4, M4, H4, G4⟩ := Vc4
  have hin4 : ¬ ((2 : Int32) < 0 ∨ cl4.slots.size ≤ ((2 : Int32)).toNatClampNeg) := inb_of S4 ⟨by decide, by decide⟩
  obtain ⟨T4, h4, X4, e4, W4, st4⟩ := stI X3 hx hZ e3 Ar4 (j := (2 : Int32)) hin4 (g := (mkF m 87 #[.val (.int p0), .val (.int p1), .val (.int p2), .val (.int p3), .val (.int p4), .val (.int p5), .val (.int (6 : Int32)), .val (.int v0), .val (.int v1), .val (.int v2), .val (.int v3), .val (.int v4), .val (.int v5), .unset, .unset, .unset, .unset, .unset, .unset] [(.int v2), (.int (2 : Int32)), (.ref b1), (.ref b1)])) rfl rfl (hb hby at_87)
  have V4 : Arv Z h4 b1 k1 .int (6 : Int32) [(.int v0), (.int v1), (.int v2), (.int (0 : Int32)), (.int (0 : Int32)), (.int (0 : Int32))] (.int (0 : Int32)) := Arv.set Ar4 q4 S4 M4 H4 G4 rfl W4 2 rfl (Nat.le_of_ble_eq_true rfl)
  have N4 := Fr.snoc X4 N3 (Nat.le_trans Z0 (Nat.le_of_eq g1.symm))
  have Vc5 := V4
  obtain ⟨cl5, Ar5, q5, S5, M5, H5, G5⟩ := Vc5
  have hin5 : ¬ ((3 : Int32) < 0 ∨ cl5.slots.size ≤ ((3 : Int32)).toNatClampNeg) := inb_of S5 ⟨by decide, by decide⟩
  obtain ⟨T5, h5, X5, e5, W5, st5⟩ := stI X4 hx hZ e4 Ar5 (j := (3 : Int32)) hin5 (g := (mkF m 92 #[.val (.int p0), .val (.int p1), .val (.int p2), .val (.int p3), .val (.int p4), .val (.int p5), .val (.int (6 : Int32)), .val (.int v0), .val (.int v1), .val (.int v2), .val (.int v3), .val (.int v4), .val (.int v5), .unset, .unset, .unset, .unset, .unset, .unset] [(.int v3), (.int (3 : Int32)), (.ref b1), (.ref b1)])) rfl rfl (hb hby at_92)
  have V5 : Arv Z h5 b1 k1 .int (6 : Int32) [(.int v0), (.int v1), (.int v2), (.int v3), (.int (0 : Int32)), (.int (0 : Int32))] (.int (0 : Int32)) := Arv.set Ar5 q5 S5 M5 H5 G5 rfl W5 3 rfl (Nat.le_of_ble_eq_true rfl)
  have N5 := Fr.snoc X5 N4 (Nat.le_trans Z0 (Nat.le_of_eq g1.symm))
  have Vc6 := V5
  obtain ⟨cl6, Ar6, q6, S6, M6, H6, G6⟩ := Vc6
  have hin6 : ¬ ((4 : Int32) < 0 ∨ cl6.slots.size ≤ ((4 : Int32)).toNatClampNeg) := inb_of S6 ⟨by decide, by decide⟩
  obtain ⟨T6, h6, X6, e6, W6, st6⟩ := stI X5 hx hZ e5 Ar6 (j := (4 : Int32)) hin6 (g := (mkF m 97 #[.val (.int p0), .val (.int p1), .val (.int p2), .val (.int p3), .val (.int p4), .val (.int p5), .val (.int (6 : Int32)), .val (.int v0), .val (.int v1), .val (.int v2), .val (.int v3), .val (.int v4), .val (.int v5), .unset, .unset, .unset, .unset, .unset, .unset] [(.int v4), (.int (4 : Int32)), (.ref b1), (.ref b1)])) rfl rfl (hb hby at_97)
  have V6 : Arv Z h6 b1 k1 .int (6 : Int32) [(.int v0), (.int v1), (.int v2), (.int v3), (.int v4), (.int (0 : Int32))] (.int (0 : Int32)) := Arv.set Ar6 q6 S6 M6 H6 G6 rfl W6 4 rfl (Nat.le_of_ble_eq_true rfl)
  have N6 := Fr.snoc X6 N5 (Nat.le_trans Z0 (Nat.le_of_eq g1.symm))
  have Vc7 := V6
  obtain ⟨cl7, Ar7, q7, S7, M7, H7, G7⟩ := Vc7
  have hin7 : ¬ ((5 : Int32) < 0 ∨ cl7.slots.size ≤ ((5 : Int32)).toNatClampNeg) := inb_of S7 ⟨by decide, by decide⟩
  obtain ⟨T7, h7, X7, e7, W7, st7⟩ := stI X6 hx hZ e6 Ar7 (j := (5 : Int32)) hin7 (g := (mkF m 102 #[.val (.int p0), .val (.int p1), .val (.int p2), .val (.int p3), .val (.int p4), .val (.int p5), .val (.int (6 : Int32)), .val (.int v0), .val (.int v1), .val (.int v2), .val (.int v3), .val (.int v4), .val (.int v5), .unset, .unset, .unset, .unset, .unset, .unset] [(.int v5), (.int (5 : Int32)), (.ref b1), (.ref b1)])) rfl rfl (hb hby at_102)
  have V7 : Arv Z h7 b1 k1 .int (6 : Int32) [(.int v0), (.int v1), (.int v2), (.int v3), (.int v4), (.int v5)] (.int (0 : Int32)) := Arv.set Ar7 q7 S7 M7 H7 G7 rfl W7 5 rfl (Nat.le_of_ble_eq_true rfl)
  have N7 := Fr.snoc X7 N6 (Nat.le_trans Z0 (Nat.le_of_eq g1.symm))
  obtain ⟨T8, h8, k8, X8, e8, E8, A8, st8⟩ := newP X7 hx hZ (hw _ (List.mem_of_getElem? (i := 4) rfl)) e7 (g := (mkF m 107 #[.val (.int p0), .val (.int p1), .val (.int p2), .val (.int p3), .val (.int p4), .val (.int p5), .val (.int (6 : Int32)), .val (.int v0), .val (.int v1), .val (.int v2), .val (.int v3), .val (.int v4), .val (.int v5), .val (.ref b1), .unset, .unset, .unset, .unset, .unset] [(.int (6 : Int32))])) rfl (hb hby at_107) rfl (by decide) (cap := 6) (by decide) (by decide) (by decide) (by decide)
  obtain ⟨b8, g8⟩ : ∃ z, z = h7.size := ⟨_, rfl⟩
  rw [← g8] at A8 st8
  have V8 : Arv Z h8 b8 k8 .double (6 : Int32) [(.double 0), (.double 0), (.double 0), (.double 0), (.double 0), (.double 0)] (.double 0) := (Arv.new A8 (by decide)).pad (pad_rep [] (.double 0) 6)
  have Vc9 := V8
  obtain ⟨cl9, Ar9, q9, S9, M9, H9, G9⟩ := Vc9
  have hin9 : ¬ ((0 : Int32) < 0 ∨ cl9.slots.size ≤ ((0 : Int32)).toNatClampNeg) := inb_of S9 ⟨by decide, by decide⟩
  obtain ⟨T9, h9, X9, e9, W9, st9⟩ := stD X8 hx hZ e8 Ar9 (j := (0 : Int32)) hin9 (g := (mkF m 117 #[.val (.int p0), .val (.int p1), .val (.int p2), .val (.int p3), .val (.int p4), .val (.int p5), .val (.int (6 : Int32)), .val (.int v0), .val (.int v1), .val (.int v2), .val (.int v3), .val (.int v4), .val (.int v5), .val (.ref b1), .val (.ref b8), .unset, .unset, .unset, .unset] [(.double (FP.i2d v0)), (.int (0 : Int32)), (.ref b8)])) rfl rfl (hb hby at_117)
  have V9 : Arv Z h9 b8 k8 .double (6 : Int32) [(.double (FP.i2d v0)), (.double 0), (.double 0), (.double 0), (.double 0), (.double 0)] (.double 0) := Arv.set Ar9 q9 S9 M9 H9 G9 rfl W9 0 rfl (Nat.le_of_ble_eq_true rfl)
  have N9 := Fr.snoc X9 N7 (Nat.le_trans (Nat.le_trans (Nat.le_trans (Nat.le_trans (Nat.le_trans (Nat.le_trans (Nat.le_trans (Nat.le_trans Z0 E1.1) (Keep.of_wr W2).1) (Keep.of_wr W3).1) (Keep.of_wr W4).1) (Keep.of_wr W5).1) (Keep.of_wr W6).1) (Keep.of_wr W7).1) (Nat.le_of_eq g8.symm))
  have Vc10 := V9
  obtain ⟨cl10, Ar10, q10, S10, M10, H10, G10⟩ := Vc10
  have hin10 : ¬ ((1 : Int32) < 0 ∨ cl10.slots.size ≤ ((1 : Int32)).toNatClampNeg) := inb_of S10 ⟨by decide, by decide⟩
  obtain ⟨T10, h10, X10, e10, W10, st10⟩ := stD X9 hx hZ e9 Ar10 (j := (1 : Int32)) hin10 (g := (mkF m 130 #[.val (.int p0), .val (.int p1), .val (.int p2), .val (.int p3), .val (.int p4), .val (.int p5), .val (.int (6 : Int32)), .val (.int v0), .val (.int v1), .val (.int v2), .val (.int v3), .val (.int v4), .val (.int v5), .val (.ref b1), .val (.ref b8), .unset, .unset, .unset, .unset] [(.double (FP.i2d v1)), (.int (1 : Int32)), (.ref b8)])) rfl rfl (hb hby at_130)
  have V10 : Arv Z h10 b8 k8 .double (6 : Int32) [(.double (FP.i2d v0)), (.double (FP.i2d v1)), (.double 0), (.double 0), (.double 0), (.double 0)] (.double 0) := Arv.set Ar10 q10 S10 M10 H10 G10 rfl W10 1 rfl (Nat.le_of_ble_eq_true rfl)
  have N10 := Fr.snoc X10 N9 (Nat.le_trans (Nat.le_trans (Nat.le_trans (Nat.le_trans (Nat.le_trans (Nat.le_trans (Nat.le_trans (Nat.le_trans Z0 E1.1) (Keep.of_wr W2).1) (Keep.of_wr W3).1) (Keep.of_wr W4).1) (Keep.of_wr W5).1) (Keep.of_wr W6).1) (Keep.of_wr W7).1) (Nat.le_of_eq g8.symm))
  have Vc11 := V10
  obtain ⟨cl11, Ar11, q11, S11, M11, H11, G11⟩ := Vc11
  have hin11 : ¬ ((2 : Int32) < 0 ∨ cl11.slots.size ≤ ((2 : Int32)).toNatClampNeg) := inb_of S11 ⟨by decide, by decide⟩
  obtain ⟨T11, h11, X11, e11, W11, st11⟩ := stD X10 hx hZ e10 Ar11 (j := (2 : Int32)) hin11 (g := (mkF m 143 #[.val (.int p0), .val (.int p1), .val (.int p2), .val (.int p3), .val (.int p4), .val (.int p5), .val (.int (6 : Int32)), .val (.int v0), .val (.int v1), .val (.int v2), .val (.int v3), .val (.int v4), .val (.int v5), .val (.ref b1), .val (.ref b8), .unset, .unset, .unset, .unset] [(.double (FP.i2d v2)), (.int (2 : Int32)), (.ref b8)])) rfl rfl (hb hby at_143)
  have V11 : Arv Z h11 b8 k8 .double (6 : Int32) [(.double (FP.i2d v0)), (.double (FP.i2d v1)), (.double (FP.i2d v2)), (.double 0), (.double 0), (.double 0)] (.double 0) := Arv.set Ar11 q11 S11 M11 H11 G11 rfl W11 2 rfl (Nat.le_of_ble_eq_true rfl)
  have N11 := Fr.snoc X11 N10 (Nat.le_trans (Nat.le_trans (Nat.le_trans (Nat.le_trans (Nat.le_trans (Nat.le_trans (Nat.le_trans (Nat.le_trans Z0 E1.1) (Keep.of_wr W2).1) (Keep.of_wr W3).1) (Keep.of_wr W4).1) (Keep.of_wr W5).1) (Keep.of_wr W6).1) (Keep.of_wr W7).1) (Nat.le_of_eq g8.symm))
  have Vc12 := V11
  obtain ⟨cl12, Ar12, q12, S12, M12, H12, G12⟩ := Vc12
  have hin12 : ¬ ((3 : Int32) < 0 ∨ cl12.slots.size ≤ ((3 : Int32)).toNatClampNeg) := inb_of S12 ⟨by decide, by decide⟩
  obtain ⟨T12, h12, X12, e12, W12, st12⟩ := stD X11 hx hZ e11 Ar12 (j := (3 : Int32)) hin12 (g := (mkF m 156 #[.val (.int p0), .val (.int p1), .val (.int p2), .val (.int p3), .val (.int p4), .val (.int p5), .val (.int (6 : Int32)), .val (.int v0), .val (.int v1), .val (.int v2), .val (.int v3), .val (.int v4), .val (.int v5), .val (.ref b1), .val (.ref b8), .unset, .unset, .unset, .unset] [(.double (FP.i2d v3)), (.int (3 : Int32)), (.ref b8)])) rfl rfl (hb hby at_156)
  have V12 : Arv Z h12 b8 k8 .double (6 : Int32) [(.double (FP.i2d v0)), (.double (FP.i2d v1)), (.double (FP.i2d v2)), (.double (FP.i2d v3)), (.double 0), (.double 0)] (.double 0) := Arv.set Ar12 q12 S12 M12 H12 G12 rfl W12 3 rfl (Nat.le_of_ble_eq_true rfl)
  have N12 := Fr.snoc X12 N11 (Nat.le_trans (Nat.le_trans (Nat.le_trans (Nat.le_trans (Nat.le_trans (Nat.le_trans (Nat.le_trans (Nat.le_trans Z0 E1.1) (Keep.of_wr W2).1) (Keep.of_wr W3).1) (Keep.of_wr W4).1) (Keep.of_wr W5).1) (Keep.of_wr W6).1) (Keep.of_wr W7).1) (Nat.le_of_eq g8.symm))
  have Vc13 := V12
  obtain ⟨cl13, Ar13, q13, S13, M13, H13, G13⟩ := Vc13
  have hin13 : ¬ ((4 : Int32) < 0 ∨ cl13.slots.size ≤ ((4 : Int32)).toNatClampNeg) := inb_of S13 ⟨by decide, by decide⟩
  obtain ⟨T13, h13, X13, e13, W13, st13⟩ := stD X12 hx hZ e12 Ar13 (j := (4 : Int32)) hin13 (g := (mkF m 169 #[.val (.int p0), .val (.int p1), .val (.int p2), .val (.int p3), .val (.int p4), .val (.int p5), .val (.int (6 : Int32)), .val (.int v0), .val (.int v1), .val (.int v2), .val (.int v3), .val (.int v4), .val (.int v5), .val (.ref b1), .val (.ref b8), .unset, .unset, .unset, .unset] [(.double (FP.i2d v4)), (.int (4 : Int32)), (.ref b8)])) rfl rfl (hb hby at_169)
  have V13 : Arv Z h13 b8 k8 .double (6 : Int32) [(.double (FP.i2d v0)), (.double (FP.i2d v1)), (.double (FP.i2d v2)), (.double (FP.i2d v3)), (.double (FP.i2d v4)), (.double 0)] (.double 0) := Arv.set Ar13 q13 S13 M13 H13 G13 rfl W13 4 rfl (Nat.le_of_ble_eq_true rfl)
  have N13 := Fr.snoc X13 N12 (Nat.le_trans (Nat.le_trans (Nat.le_trans (Nat.le_trans (Nat.le_trans (Nat.le_trans (Nat.le_trans (Nat.le_trans Z0 E1.1) (Keep.of_wr W2).1) (Keep.of_wr W3).1) (Keep.of_wr W4).1) (Keep.of_wr W5).1) (Keep.of_wr W6).1) (Keep.of_wr W7).1) (Nat.le_of_eq g8.symm))
  have Vc14 := V13
  obtain ⟨cl14, Ar14, q14, S14, M14, H14, G14⟩ := Vc14
  have hin14 : ¬ ((5 : Int32) < 0 ∨ cl14.slots.size ≤ ((5 : Int32)).toNatClampNeg) := inb_of S14 ⟨by decide, by decide⟩
  obtain ⟨T14, h14, X14, e14, W14, st14⟩ := stD X13 hx hZ e13 Ar14 (j := (5 : Int32)) hin14 (g := (mkF m 182 #[.val (.int p0), .val (.int p1), .val (.int p2), .val (.int p3), .val (.int p4), .val (.int p5), .val (.int (6 : Int32)), .val (.int v0), .val (.int v1), .val (.int v2), .val (.int v3), .val (.int v4), .val (.int v5), .val (.ref b1), .val (.ref b8), .unset, .unset, .unset, .unset] [(.double (FP.i2d v5)), (.int (5 : Int32)), (.ref b8)])) rfl rfl (hb hby at_182)
  have V14 : Arv Z h14 b8 k8 .double (6 : Int32) [(.double (FP.i2d v0)), (.double (FP.i2d v1)), (.double (FP.i2d v2)), (.double (FP.i2d v3)), (.double (FP.i2d v4)), (.double (FP.i2d v5))] (.double 0) := Arv.set Ar14 q14 S14 M14 H14 G14 rfl W14 5 rfl (Nat.le_of_ble_eq_true rfl)
  have N14 := Fr.snoc X14 N13 (Nat.le_trans (Nat.le_trans (Nat.le_trans (Nat.le_trans (Nat.le_trans (Nat.le_trans (Nat.le_trans (Nat.le_trans Z0 E1.1) (Keep.of_wr W2).1) (Keep.of_wr W3).1) (Keep.of_wr W4).1) (Keep.of_wr W5).1) (Keep.of_wr W6).1) (Keep.of_wr W7).1) (Nat.le_of_eq g8.symm))
  obtain ⟨_, _, ⟨T15, L15, k15, n15⟩, -, X15, ⟨Lc15, hQ15, l15, y15, z15⟩, st15⟩ := Jvm.LawKit.callS X14 hx (y := (⟨"parkline/scenario/Bench", "median", "([D)D"⟩ : MethodName)) hown (mvT hZ (hw _ (List.mem_of_getElem? (i := 5) rfl))) (mvT hZ (hw _ (List.mem_of_getElem? (i := 6) rfl))) (mvT hZ (hw _ (List.mem_of_getElem? (i := 7) rfl))) (mvT hZ (hw _ (List.mem_of_getElem? (i := 8) rfl))) (by decide) (backOf (W := 0) (rmMed6 l Z a0 hw [] b8 k8 (FP.i2d v0) (FP.i2d v1) (FP.i2d v2) (FP.i2d v3) (FP.i2d v4) (FP.i2d v5) h14 n0 (Nat.le_trans (Nat.le_trans (Nat.le_trans (Nat.le_trans (Nat.le_trans (Nat.le_trans (Nat.le_trans (Nat.le_trans (Nat.le_trans (Nat.le_trans (Nat.le_trans (Nat.le_trans (Nat.le_trans (Nat.le_trans Z0 E1.1) (Keep.of_wr W2).1) (Keep.of_wr W3).1) (Keep.of_wr W4).1) (Keep.of_wr W5).1) (Keep.of_wr W6).1) (Keep.of_wr W7).1) E8.1) (Keep.of_wr W9).1) (Keep.of_wr W10).1) (Keep.of_wr W11).1) (Keep.of_wr W12).1) (Keep.of_wr W13).1) (Keep.of_wr W14).1) V14 (own_n27 B2 B3) (own_n31 B2 B3)) hZ (hw _ (List.mem_of_getElem? (i := 8) rfl)) (hw _ (List.mem_of_getElem? (i := 7) rfl)) (by decide) (by decide)) (g := (mkF m 185 #[.val (.int p0), .val (.int p1), .val (.int p2), .val (.int p3), .val (.int p4), .val (.int p5), .val (.int (6 : Int32)), .val (.int v0), .val (.int v1), .val (.int v2), .val (.int v3), .val (.int v4), .val (.int v5), .val (.ref b1), .val (.ref b8), .unset, .unset, .unset, .unset] [(.ref b8)])) rfl (by rw [hml]; rfl) (argsL := [(.ref b8)]) (rest := []) (lenOf pd_0 rfl) rfl (by show 2 * 0 + _ ≤ _; exact Nat.le_of_eq rfl) (hb hby at_185) (fun _ _ => ⟨rfl, e14, (by decide : 2 + 0 ≤ _), (by decide : 12 + 0 ≤ _)⟩)
  dsimp only [Pt.U, Pt.locs, Pt.cells, Pt.slots] at X15 l15 y15 z15 st15 hQ15
  subst l15 y15 z15
  obtain ⟨rfl, Nq15, e15⟩ := hQ15
  have N15 := Fr.app N14 Nq15
  have f16 : Arv Z h14 b1 k1 .int (6 : Int32) [(.int v0), (.int v1), (.int v2), (.int v3), (.int v4), (.int v5)] (.int (0 : Int32)) := (((((((V7.ext E8).other W9 (Nat.ne_of_lt (Nat.lt_of_lt_of_le V7.lt (Nat.le_of_eq g8.symm)))).other W10 (Nat.ne_of_lt (Nat.lt_of_lt_of_le V7.lt (Nat.le_of_eq g8.symm)))).other W11 (Nat.ne_of_lt (Nat.lt_of_lt_of_le V7.lt (Nat.le_of_eq g8.symm)))).other W12 (Nat.ne_of_lt (Nat.lt_of_lt_of_le V7.lt (Nat.le_of_eq g8.symm)))).other W13 (Nat.ne_of_lt (Nat.lt_of_lt_of_le V7.lt (Nat.le_of_eq g8.symm)))).other W14 (Nat.ne_of_lt (Nat.lt_of_lt_of_le V7.lt (Nat.le_of_eq g8.symm))))
  have Vc17 := f16
  obtain ⟨cl17, Ar17, q17, S17, M17, H17, G17⟩ := Vc17
  have hin17 : ¬ ((2 : Int32) < 0 ∨ cl17.slots.size ≤ ((2 : Int32)).toNatClampNeg) := inb_of S17 ⟨by decide, by decide⟩
  have hat17 : cl17.slots[((2 : Int32)).toNatClampNeg]? = some (.int v2) := Has.at H17 hin17 rfl
  have Vc18 := f16
  obtain ⟨cl18, Ar18, q18, S18, M18, H18, G18⟩ := Vc18
  have hin18 : ¬ ((3 : Int32) < 0 ∨ cl18.slots.size ≤ ((3 : Int32)).toNatClampNeg) := inb_of S18 ⟨by decide, by decide⟩
  have hat18 : cl18.slots[((3 : Int32)).toNatClampNeg]? = some (.int v3) := Has.at H18 hin18 rfl
  obtain ⟨fs, hr, hrun, hended, hW, hsame⟩ := X15.leave (v := some (.int (1 : Int32))) (fun h => by rw [Bd.returns] at h; cases h)
  refine ⟨_, _, pre0 _ ?_, hrun, hended, _, _, rfl, ?_, ⟨_, rfl⟩, hW, hsame.mono (by decide) (by decide)⟩
  · show Steps p.tables e below (s₁.setTop (mkF m 0 #[.val (.int p0), .val (.int p1), .val (.int p2), .val (.int p3), .val (.int p4), .val (.int p5), .unset, .unset, .unset, .unset, .unset, .unset, .unset, .unset, .unset, .unset, .unset, .unset, .unset] [])) _
    refine XS.iloadN X0.here hx rfl (hb hby at_0) rfl ?_
    show Steps p.tables e below (s₁.setTop (mkF m 1 #[.val (.int p0), .val (.int p1), .val (.int p2), .val (.int p3), .val (.int p4), .val (.int p5), .unset, .unset, .unset, .unset, .unset, .unset, .unset, .unset, .unset, .unset, .unset, .unset, .unset] [(.int p0)])) _
    refine XS.bipush X0.here hx rfl (hb hby at_1) ?_
    show Steps p.tables e below (s₁.setTop (mkF m 3 #[.val (.int p0), .val (.int p1), .val (.int p2), .val (.int p3), .val (.int p4), .val (.int p5), .unset, .unset, .unset, .unset, .unset, .unset, .unset, .unset, .unset, .unset, .unset, .unset, .unset] [(.int (7 : Int32)), (.int p0)])) _
    refine XS.iand X0.here hx rfl (hb hby at_3) rfl ?_
    show Steps p.tables e below (s₁.setTop (mkF m 4 #[.val (.int p0), .val (.int p1), .val (.int p2), .val (.int p3), .val (.int p4), .val (.int p5), .unset, .unset, .unset, .unset, .unset, .unset, .unset, .unset, .unset, .unset, .unset, .unset, .unset] [(.int (p0 &&& (7 : Int32)))])) _
    refine XS.bipush X0.here hx rfl (hb hby at_4) ?_
    show Steps p.tables e below (s₁.setTop (mkF m 6 #[.val (.int p0), .val (.int p1), .val (.int p2), .val (.int p3), .val (.int p4), .val (.int p5), .unset, .unset, .unset, .unset, .unset, .unset, .unset, .unset, .unset, .unset, .unset, .unset, .unset] [(.int (6 : Int32)), (.int (p0 &&& (7 : Int32)))])) _
    refine iremM X0 hx (g := (mkF m 6 #[.val (.int p0), .val (.int p1), .val (.int p2), .val (.int p3), .val (.int p4), .val (.int p5), .unset, .unset, .unset, .unset, .unset, .unset, .unset, .unset, .unset, .unset, .unset, .unset, .unset] [(.int (6 : Int32)), (.int (p0 &&& (7 : Int32)))])) rfl (hb hby at_6) rfl (by decide) ?_
    show Steps p.tables e below (s₁.setTop (mkF m 7 #[.val (.int p0), .val (.int p1), .val (.int p2), .val (.int p3), .val (.int p4), .val (.int p5), .unset, .unset, .unset, .unset, .unset, .unset, .unset, .unset, .unset, .unset, .unset, .unset, .unset] [(.int ((p0 &&& (7 : Int32)) % (6 : Int32)))])) _
    refine XS.iconst X0.here hx rfl (hb hby at_7) ?_
    show Steps p.tables e below (s₁.setTop (mkF m 8 #[.val (.int p0), .val (.int p1), .val (.int p2), .val (.int p3), .val (.int p4), .val (.int p5), .unset, .unset, .unset, .unset, .unset, .unset, .unset, .unset, .unset, .unset, .unset, .unset, .unset] [(.int (1 : Int32)), (.int ((p0 &&& (7 : Int32)) % (6 : Int32)))])) _
    refine XS.iadd X0.here hx rfl (hb hby at_8) rfl ?_
    show Steps p.tables e below (s₁.setTop (mkF m 9 #[.val (.int p0), .val (.int p1), .val (.int p2), .val (.int p3), .val (.int p4), .val (.int p5), .unset, .unset, .unset, .unset, .unset, .unset, .unset, .unset, .unset, .unset, .unset, .unset, .unset] [(.int (((p0 &&& (7 : Int32)) % (6 : Int32)) + (1 : Int32)))])) _
    rw [hn]
    show Steps p.tables e below (s₁.setTop (mkF m 9 #[.val (.int p0), .val (.int p1), .val (.int p2), .val (.int p3), .val (.int p4), .val (.int p5), .unset, .unset, .unset, .unset, .unset, .unset, .unset, .unset, .unset, .unset, .unset, .unset, .unset] [(.int (6 : Int32))])) _
    refine XS.istore X0.here hx rfl (hb hby at_9) rfl (l' := #[.val (.int p0), .val (.int p1), .val (.int p2), .val (.int p3), .val (.int p4), .val (.int p5), .val (.int (6 : Int32)), .unset, .unset, .unset, .unset, .unset, .unset, .unset, .unset, .unset, .unset, .unset, .unset]) rfl ?_
    show Steps p.tables e below (s₁.setTop (mkF m 11 #[.val (.int p0), .val (.int p1), .val (.int p2), .val (.int p3), .val (.int p4), .val (.int p5), .val (.int (6 : Int32)), .unset, .unset, .unset, .unset, .unset, .unset, .unset, .unset, .unset, .unset, .unset, .unset] [])) _
    refine XS.iloadN X0.here hx rfl (hb hby at_11) rfl ?_
    show Steps p.tables e below (s₁.setTop (mkF m 12 #[.val (.int p0), .val (.int p1), .val (.int p2), .val (.int p3), .val (.int p4), .val (.int p5), .val (.int (6 : Int32)), .unset, .unset, .unset, .unset, .unset, .unset, .unset, .unset, .unset, .unset, .unset, .unset] [(.int p0)])) _
    refine XS.iconst X0.here hx rfl (hb hby at_12) ?_
    show Steps p.tables e below (s₁.setTop (mkF m 13 #[.val (.int p0), .val (.int p1), .val (.int p2), .val (.int p3), .val (.int p4), .val (.int p5), .val (.int (6 : Int32)), .unset, .unset, .unset, .unset, .unset, .unset, .unset, .unset, .unset, .unset, .unset, .unset] [(.int (3 : Int32)), (.int p0)])) _
    refine XS.ishr X0.here hx rfl (hb hby at_13) rfl ?_
    show Steps p.tables e below (s₁.setTop (mkF m 14 #[.val (.int p0), .val (.int p1), .val (.int p2), .val (.int p3), .val (.int p4), .val (.int p5), .val (.int (6 : Int32)), .unset, .unset, .unset, .unset, .unset, .unset, .unset, .unset, .unset, .unset, .unset, .unset] [(.int (p0 >>> ((3 : Int32) &&& 31)))])) _
    refine X0.ldcInt hx hown (mvT hZ (hw _ (List.mem_of_getElem? (i := 0) rfl))) (g := (mkF m 14 #[.val (.int p0), .val (.int p1), .val (.int p2), .val (.int p3), .val (.int p4), .val (.int p5), .val (.int (6 : Int32)), .unset, .unset, .unset, .unset, .unset, .unset, .unset, .unset, .unset, .unset, .unset, .unset] [(.int (p0 >>> ((3 : Int32) &&& 31)))])) rfl (hb hby at_14) _ ?_
    show Steps p.tables e below (s₁.setTop (mkF m 16 #[.val (.int p0), .val (.int p1), .val (.int p2), .val (.int p3), .val (.int p4), .val (.int p5), .val (.int (6 : Int32)), .unset, .unset, .unset, .unset, .unset, .unset, .unset, .unset, .unset, .unset, .unset, .unset] [(.int (1048575 : Int32)), (.int (p0 >>> ((3 : Int32) &&& 31)))])) _
    refine XS.iand X0.here hx rfl (hb hby at_16) rfl ?_
    show Steps p.tables e below (s₁.setTop (mkF m 17 #[.val (.int p0), .val (.int p1), .val (.int p2), .val (.int p3), .val (.int p4), .val (.int p5), .val (.int (6 : Int32)), .unset, .unset, .unset, .unset, .unset, .unset, .unset, .unset, .unset, .unset, .unset, .unset] [(.int ((p0 >>> ((3 : Int32) &&& 31)) &&& (1048575 : Int32)))])) _
    refine X0.ldcInt hx hown (mvT hZ (hw _ (List.mem_of_getElem? (i := 1) rfl))) (g := (mkF m 17 #[.val (.int p0), .val (.int p1), .val (.int p2), .val (.int p3), .val (.int p4), .val (.int p5), .val (.int (6 : Int32)), .unset, .unset, .unset, .unset, .unset, .unset, .unset, .unset, .unset, .unset, .unset, .unset] [(.int ((p0 >>> ((3 : Int32) &&& 31)) &&& (1048575 : Int32)))])) rfl (hb hby at_17) _ ?_
    show Steps p.tables e below (s₁.setTop (mkF m 19 #[.val (.int p0), .val (.int p1), .val (.int p2), .val (.int p3), .val (.int p4), .val (.int p5), .val (.int (6 : Int32)), .unset, .unset, .unset, .unset, .unset, .unset, .unset, .unset, .unset, .unset, .unset, .unset] [(.int (524288 : Int32)), (.int ((p0 >>> ((3 : Int32) &&& 31)) &&& (1048575 : Int32)))])) _
    refine XS.isub X0.here hx rfl (hb hby at_19) rfl ?_
    show Steps p.tables e below (s₁.setTop (mkF m 20 #[.val (.int p0), .val (.int p1), .val (.int p2), .val (.int p3), .val (.int p4), .val (.int p5), .val (.int (6 : Int32)), .unset, .unset, .unset, .unset, .unset, .unset, .unset, .unset, .unset, .unset, .unset, .unset] [(.int (((p0 >>> ((3 : Int32) &&& 31)) &&& (1048575 : Int32)) - (524288 : Int32)))])) _
    rw [hv0]
    show Steps p.tables e below (s₁.setTop (mkF m 20 #[.val (.int p0), .val (.int p1), .val (.int p2), .val (.int p3), .val (.int p4), .val (.int p5), .val (.int (6 : Int32)), .unset, .unset, .unset, .unset, .unset, .unset, .unset, .unset, .unset, .unset, .unset, .unset] [(.int v0)])) _
    refine XS.istore X0.here hx rfl (hb hby at_20) rfl (l' := #[.val (.int p0), .val (.int p1), .val (.int p2), .val (.int p3), .val (.int p4), .val (.int p5), .val (.int (6 : Int32)), .val (.int v0), .unset, .unset, .unset, .unset, .unset, .unset, .unset, .unset, .unset, .unset, .unset]) rfl ?_
    show Steps p.tables e below (s₁.setTop (mkF m 22 #[.val (.int p0), .val (.int p1), .val (.int p2), .val (.int p3), .val (.int p4), .val (.int p5), .val (.int (6 : Int32)), .val (.int v0), .unset, .unset, .unset, .unset, .unset, .unset, .unset, .unset, .unset, .unset, .unset] [])) _
    refine XS.iload X0.here hx rfl (hb hby at_22) rfl ?_
    show Steps p.tables e below (s₁.setTop (mkF m 24 #[.val (.int p0), .val (.int p1), .val (.int p2), .val (.int p3), .val (.int p4), .val (.int p5), .val (.int (6 : Int32)), .val (.int v0), .unset, .unset, .unset, .unset, .unset, .unset, .unset, .unset, .unset, .unset, .unset] [(.int v0)])) _
    refine XS.iloadN X0.here hx rfl (hb hby at_24) rfl ?_
    show Steps p.tables e below (s₁.setTop (mkF m 25 #[.val (.int p0), .val (.int p1), .val (.int p2), .val (.int p3), .val (.int p4), .val (.int p5), .val (.int (6 : Int32)), .val (.int v0), .unset, .unset, .unset, .unset, .unset, .unset, .unset, .unset, .unset, .unset, .unset] [(.int p1), (.int v0)])) _
    refine X0.ldcInt hx hown (mvT hZ (hw _ (List.mem_of_getElem? (i := 2) rfl))) (g := (mkF m 25 #[.val (.int p0), .val (.int p1), .val (.int p2), .val (.int p3), .val (.int p4), .val (.int p5), .val (.int (6 : Int32)), .val (.int v0), .unset, .unset, .unset, .unset, .unset, .unset, .unset, .unset, .unset, .unset, .unset] [(.int p1), (.int v0)])) rfl (hb hby at_25) _ ?_
    show Steps p.tables e below (s₁.setTop (mkF m 27 #[.val (.int p0), .val (.int p1), .val (.int p2), .val (.int p3), .val (.int p4), .val (.int p5), .val (.int (6 : Int32)), .val (.int v0), .unset, .unset, .unset, .unset, .unset, .unset, .unset, .unset, .unset, .unset, .unset] [(.int (65535 : Int32)), (.int p1), (.int v0)])) _
    refine XS.iand X0.here hx rfl (hb hby at_27) rfl ?_
    show Steps p.tables e below (s₁.setTop (mkF m 28 #[.val (.int p0), .val (.int p1), .val (.int p2), .val (.int p3), .val (.int p4), .val (.int p5), .val (.int (6 : Int32)), .val (.int v0), .unset, .unset, .unset, .unset, .unset, .unset, .unset, .unset, .unset, .unset, .unset] [(.int (p1 &&& (65535 : Int32))), (.int v0)])) _
    refine XS.iadd X0.here hx rfl (hb hby at_28) rfl ?_
    show Steps p.tables e below (s₁.setTop (mkF m 29 #[.val (.int p0), .val (.int p1), .val (.int p2), .val (.int p3), .val (.int p4), .val (.int p5), .val (.int (6 : Int32)), .val (.int v0), .unset, .unset, .unset, .unset, .unset, .unset, .unset, .unset, .unset, .unset, .unset] [(.int (v0 + (p1 &&& (65535 : Int32))))])) _
    rw [hv1]
    show Steps p.tables e below (s₁.setTop (mkF m 29 #[.val (.int p0), .val (.int p1), .val (.int p2), .val (.int p3), .val (.int p4), .val (.int p5), .val (.int (6 : Int32)), .val (.int v0), .unset, .unset, .unset, .unset, .unset, .unset, .unset, .unset, .unset, .unset, .unset] [(.int v1)])) _
    refine XS.istore X0.here hx rfl (hb hby at_29) rfl (l' := #[.val (.int p0), .val (.int p1), .val (.int p2), .val (.int p3), .val (.int p4), .val (.int p5), .val (.int (6 : Int32)), .val (.int v0), .val (.int v1), .unset, .unset, .unset, .unset, .unset, .unset, .unset, .unset, .unset, .unset]) rfl ?_
    show Steps p.tables e below (s₁.setTop (mkF m 31 #[.val (.int p0), .val (.int p1), .val (.int p2), .val (.int p3), .val (.int p4), .val (.int p5), .val (.int (6 : Int32)), .val (.int v0), .val (.int v1), .unset, .unset, .unset, .unset, .unset, .unset, .unset, .unset, .unset, .unset] [])) _
    refine XS.iload X0.here hx rfl (hb hby at_31) rfl ?_
    show Steps p.tables e below (s₁.setTop (mkF m 33 #[.val (.int p0), .val (.int p1), .val (.int p2), .val (.int p3), .val (.int p4), .val (.int p5), .val (.int (6 : Int32)), .val (.int v0), .val (.int v1), .unset, .unset, .unset, .unset, .unset, .unset, .unset, .unset, .unset, .unset] [(.int v1)])) _
    refine XS.iloadN X0.here hx rfl (hb hby at_33) rfl ?_
    show Steps p.tables e below (s₁.setTop (mkF m 34 #[.val (.int p0), .val (.int p1), .val (.int p2), .val (.int p3), .val (.int p4), .val (.int p5), .val (.int (6 : Int32)), .val (.int v0), .val (.int v1), .unset, .unset, .unset, .unset, .unset, .unset, .unset, .unset, .unset, .unset] [(.int p2), (.int v1)])) _
    refine X0.ldcInt hx hown (mvT hZ (hw _ (List.mem_of_getElem? (i := 2) rfl))) (g := (mkF m 34 #[.val (.int p0), .val (.int p1), .val (.int p2), .val (.int p3), .val (.int p4), .val (.int p5), .val (.int (6 : Int32)), .val (.int v0), .val (.int v1), .unset, .unset, .unset, .unset, .unset, .unset, .unset, .unset, .unset, .unset] [(.int p2), (.int v1)])) rfl (hb hby at_34) _ ?_
    show Steps p.tables e below (s₁.setTop (mkF m 36 #[.val (.int p0), .val (.int p1), .val (.int p2), .val (.int p3), .val (.int p4), .val (.int p5), .val (.int (6 : Int32)), .val (.int v0), .val (.int v1), .unset, .unset, .unset, .unset, .unset, .unset, .unset, .unset, .unset, .unset] [(.int (65535 : Int32)), (.int p2), (.int v1)])) _
    refine XS.iand X0.here hx rfl (hb hby at_36) rfl ?_
    show Steps p.tables e below (s₁.setTop (mkF m 37 #[.val (.int p0), .val (.int p1), .val (.int p2), .val (.int p3), .val (.int p4), .val (.int p5), .val (.int (6 : Int32)), .val (.int v0), .val (.int v1), .unset, .unset, .unset, .unset, .unset, .unset, .unset, .unset, .unset, .unset] [(.int (p2 &&& (65535 : Int32))), (.int v1)])) _
    refine XS.iadd X0.here hx rfl (hb hby at_37) rfl ?_
    show Steps p.tables e below (s₁.setTop (mkF m 38 #[.val (.int p0), .val (.int p1), .val (.int p2), .val (.int p3), .val (.int p4), .val (.int p5), .val (.int (6 : Int32)), .val (.int v0), .val (.int v1), .unset, .unset, .unset, .unset, .unset, .unset, .unset, .unset, .unset, .unset] [(.int (v1 + (p2 &&& (65535 : Int32))))])) _
    rw [hv2]
    show Steps p.tables e below (s₁.setTop (mkF m 38 #[.val (.int p0), .val (.int p1), .val (.int p2), .val (.int p3), .val (.int p4), .val (.int p5), .val (.int (6 : Int32)), .val (.int v0), .val (.int v1), .unset, .unset, .unset, .unset, .unset, .unset, .unset, .unset, .unset, .unset] [(.int v2)])) _
    refine XS.istore X0.here hx rfl (hb hby at_38) rfl (l' := #[.val (.int p0), .val (.int p1), .val (.int p2), .val (.int p3), .val (.int p4), .val (.int p5), .val (.int (6 : Int32)), .val (.int v0), .val (.int v1), .val (.int v2), .unset, .unset, .unset, .unset, .unset, .unset, .unset, .unset, .unset]) rfl ?_
    show Steps p.tables e below (s₁.setTop (mkF m 40 #[.val (.int p0), .val (.int p1), .val (.int p2), .val (.int p3), .val (.int p4), .val (.int p5), .val (.int (6 : Int32)), .val (.int v0), .val (.int v1), .val (.int v2), .unset, .unset, .unset, .unset, .unset, .unset, .unset, .unset, .unset] [])) _
    refine XS.iload X0.here hx rfl (hb hby at_40) rfl ?_
    show Steps p.tables e below (s₁.setTop (mkF m 42 #[.val (.int p0), .val (.int p1), .val (.int p2), .val (.int p3), .val (.int p4), .val (.int p5), .val (.int (6 : Int32)), .val (.int v0), .val (.int v1), .val (.int v2), .unset, .unset, .unset, .unset, .unset, .unset, .unset, .unset, .unset] [(.int v2)])) _
    refine XS.iloadN X0.here hx rfl (hb hby at_42) rfl ?_
    show Steps p.tables e below (s₁.setTop (mkF m 43 #[.val (.int p0), .val (.int p1), .val (.int p2), .val (.int p3), .val (.int p4), .val (.int p5), .val (.int (6 : Int32)), .val (.int v0), .val (.int v1), .val (.int v2), .unset, .unset, .unset, .unset, .unset, .unset, .unset, .unset, .unset] [(.int p3), (.int v2)])) _
    refine X0.ldcInt hx hown (mvT hZ (hw _ (List.mem_of_getElem? (i := 2) rfl))) (g := (mkF m 43 #[.val (.int p0), .val (.int p1), .val (.int p2), .val (.int p3), .val (.int p4), .val (.int p5), .val (.int (6 : Int32)), .val (.int v0), .val (.int v1), .val (.int v2), .unset, .unset, .unset, .unset, .unset, .unset, .unset, .unset, .unset] [(.int p3), (.int v2)])) rfl (hb hby at_43) _ ?_
    show Steps p.tables e below (s₁.setTop (mkF m 45 #[.val (.int p0), .val (.int p1), .val (.int p2), .val (.int p3), .val (.int p4), .val (.int p5), .val (.int (6 : Int32)), .val (.int v0), .val (.int v1), .val (.int v2), .unset, .unset, .unset, .unset, .unset, .unset, .unset, .unset, .unset] [(.int (65535 : Int32)), (.int p3), (.int v2)])) _
    refine XS.iand X0.here hx rfl (hb hby at_45) rfl ?_
    show Steps p.tables e below (s₁.setTop (mkF m 46 #[.val (.int p0), .val (.int p1), .val (.int p2), .val (.int p3), .val (.int p4), .val (.int p5), .val (.int (6 : Int32)), .val (.int v0), .val (.int v1), .val (.int v2), .unset, .unset, .unset, .unset, .unset, .unset, .unset, .unset, .unset] [(.int (p3 &&& (65535 : Int32))), (.int v2)])) _
    refine XS.iadd X0.here hx rfl (hb hby at_46) rfl ?_
    show Steps p.tables e below (s₁.setTop (mkF m 47 #[.val (.int p0), .val (.int p1), .val (.int p2), .val (.int p3), .val (.int p4), .val (.int p5), .val (.int (6 : Int32)), .val (.int v0), .val (.int v1), .val (.int v2), .unset, .unset, .unset, .unset, .unset, .unset, .unset, .unset, .unset] [(.int (v2 + (p3 &&& (65535 : Int32))))])) _
    rw [hv3]
    show Steps p.tables e below (s₁.setTop (mkF m 47 #[.val (.int p0), .val (.int p1), .val (.int p2), .val (.int p3), .val (.int p4), .val (.int p5), .val (.int (6 : Int32)), .val (.int v0), .val (.int v1), .val (.int v2), .unset, .unset, .unset, .unset, .unset, .unset, .unset, .unset, .unset] [(.int v3)])) _
    refine XS.istore X0.here hx rfl (hb hby at_47) rfl (l' := #[.val (.int p0), .val (.int p1), .val (.int p2), .val (.int p3), .val (.int p4), .val (.int p5), .val (.int (6 : Int32)), .val (.int v0), .val (.int v1), .val (.int v2), .val (.int v3), .unset, .unset, .unset, .unset, .unset, .unset, .unset, .unset]) rfl ?_
    show Steps p.tables e below (s₁.setTop (mkF m 49 #[.val (.int p0), .val (.int p1), .val (.int p2), .val (.int p3), .val (.int p4), .val (.int p5), .val (.int (6 : Int32)), .val (.int v0), .val (.int v1), .val (.int v2), .val (.int v3), .unset, .unset, .unset, .unset, .unset, .unset, .unset, .unset] [])) _
    refine XS.iload X0.here hx rfl (hb hby at_49) rfl ?_
    show Steps p.tables e below (s₁.setTop (mkF m 51 #[.val (.int p0), .val (.int p1), .val (.int p2), .val (.int p3), .val (.int p4), .val (.int p5), .val (.int (6 : Int32)), .val (.int v0), .val (.int v1), .val (.int v2), .val (.int v3), .unset, .unset, .unset, .unset, .unset, .unset, .unset, .unset] [(.int v3)])) _
    refine XS.iload X0.here hx rfl (hb hby at_51) rfl ?_
    show Steps p.tables e below (s₁.setTop (mkF m 53 #[.val (.int p0), .val (.int p1), .val (.int p2), .val (.int p3), .val (.int p4), .val (.int p5), .val (.int (6 : Int32)), .val (.int v0), .val (.int v1), .val (.int v2), .val (.int v3), .unset, .unset, .unset, .unset, .unset, .unset, .unset, .unset] [(.int p4), (.int v3)])) _
    refine X0.ldcInt hx hown (mvT hZ (hw _ (List.mem_of_getElem? (i := 2) rfl))) (g := (mkF m 53 #[.val (.int p0), .val (.int p1), .val (.int p2), .val (.int p3), .val (.int p4), .val (.int p5), .val (.int (6 : Int32)), .val (.int v0), .val (.int v1), .val (.int v2), .val (.int v3), .unset, .unset, .unset, .unset, .unset, .unset, .unset, .unset] [(.int p4), (.int v3)])) rfl (hb hby at_53) _ ?_
    show Steps p.tables e below (s₁.setTop (mkF m 55 #[.val (.int p0), .val (.int p1), .val (.int p2), .val (.int p3), .val (.int p4), .val (.int p5), .val (.int (6 : Int32)), .val (.int v0), .val (.int v1), .val (.int v2), .val (.int v3), .unset, .unset, .unset, .unset, .unset, .unset, .unset, .unset] [(.int (65535 : Int32)), (.int p4), (.int v3)])) _
    refine XS.iand X0.here hx rfl (hb hby at_55) rfl ?_
    show Steps p.tables e below (s₁.setTop (mkF m 56 #[.val (.int p0), .val (.int p1), .val (.int p2), .val (.int p3), .val (.int p4), .val (.int p5), .val (.int (6 : Int32)), .val (.int v0), .val (.int v1), .val (.int v2), .val (.int v3), .unset, .unset, .unset, .unset, .unset, .unset, .unset, .unset] [(.int (p4 &&& (65535 : Int32))), (.int v3)])) _
    refine XS.iadd X0.here hx rfl (hb hby at_56) rfl ?_
    show Steps p.tables e below (s₁.setTop (mkF m 57 #[.val (.int p0), .val (.int p1), .val (.int p2), .val (.int p3), .val (.int p4), .val (.int p5), .val (.int (6 : Int32)), .val (.int v0), .val (.int v1), .val (.int v2), .val (.int v3), .unset, .unset, .unset, .unset, .unset, .unset, .unset, .unset] [(.int (v3 + (p4 &&& (65535 : Int32))))])) _
    rw [hv4]
    show Steps p.tables e below (s₁.setTop (mkF m 57 #[.val (.int p0), .val (.int p1), .val (.int p2), .val (.int p3), .val (.int p4), .val (.int p5), .val (.int (6 : Int32)), .val (.int v0), .val (.int v1), .val (.int v2), .val (.int v3), .unset, .unset, .unset, .unset, .unset, .unset, .unset, .unset] [(.int v4)])) _
    refine XS.istore X0.here hx rfl (hb hby at_57) rfl (l' := #[.val (.int p0), .val (.int p1), .val (.int p2), .val (.int p3), .val (.int p4), .val (.int p5), .val (.int (6 : Int32)), .val (.int v0), .val (.int v1), .val (.int v2), .val (.int v3), .val (.int v4), .unset, .unset, .unset, .unset, .unset, .unset, .unset]) rfl ?_
    show Steps p.tables e below (s₁.setTop (mkF m 59 #[.val (.int p0), .val (.int p1), .val (.int p2), .val (.int p3), .val (.int p4), .val (.int p5), .val (.int (6 : Int32)), .val (.int v0), .val (.int v1), .val (.int v2), .val (.int v3), .val (.int v4), .unset, .unset, .unset, .unset, .unset, .unset, .unset] [])) _
    refine XS.iload X0.here hx rfl (hb hby at_59) rfl ?_
    show Steps p.tables e below (s₁.setTop (mkF m 61 #[.val (.int p0), .val (.int p1), .val (.int p2), .val (.int p3), .val (.int p4), .val (.int p5), .val (.int (6 : Int32)), .val (.int v0), .val (.int v1), .val (.int v2), .val (.int v3), .val (.int v4), .unset, .unset, .unset, .unset, .unset, .unset, .unset] [(.int v4)])) _
    refine XS.iload X0.here hx rfl (hb hby at_61) rfl ?_
    show Steps p.tables e below (s₁.setTop (mkF m 63 #[.val (.int p0), .val (.int p1), .val (.int p2), .val (.int p3), .val (.int p4), .val (.int p5), .val (.int (6 : Int32)), .val (.int v0), .val (.int v1), .val (.int v2), .val (.int v3), .val (.int v4), .unset, .unset, .unset, .unset, .unset, .unset, .unset] [(.int p5), (.int v4)])) _
    refine X0.ldcInt hx hown (mvT hZ (hw _ (List.mem_of_getElem? (i := 2) rfl))) (g := (mkF m 63 #[.val (.int p0), .val (.int p1), .val (.int p2), .val (.int p3), .val (.int p4), .val (.int p5), .val (.int (6 : Int32)), .val (.int v0), .val (.int v1), .val (.int v2), .val (.int v3), .val (.int v4), .unset, .unset, .unset, .unset, .unset, .unset, .unset] [(.int p5), (.int v4)])) rfl (hb hby at_63) _ ?_
    show Steps p.tables e below (s₁.setTop (mkF m 65 #[.val (.int p0), .val (.int p1), .val (.int p2), .val (.int p3), .val (.int p4), .val (.int p5), .val (.int (6 : Int32)), .val (.int v0), .val (.int v1), .val (.int v2), .val (.int v3), .val (.int v4), .unset, .unset, .unset, .unset, .unset, .unset, .unset] [(.int (65535 : Int32)), (.int p5), (.int v4)])) _
    refine XS.iand X0.here hx rfl (hb hby at_65) rfl ?_
    show Steps p.tables e below (s₁.setTop (mkF m 66 #[.val (.int p0), .val (.int p1), .val (.int p2), .val (.int p3), .val (.int p4), .val (.int p5), .val (.int (6 : Int32)), .val (.int v0), .val (.int v1), .val (.int v2), .val (.int v3), .val (.int v4), .unset, .unset, .unset, .unset, .unset, .unset, .unset] [(.int (p5 &&& (65535 : Int32))), (.int v4)])) _
    refine XS.iadd X0.here hx rfl (hb hby at_66) rfl ?_
    show Steps p.tables e below (s₁.setTop (mkF m 67 #[.val (.int p0), .val (.int p1), .val (.int p2), .val (.int p3), .val (.int p4), .val (.int p5), .val (.int (6 : Int32)), .val (.int v0), .val (.int v1), .val (.int v2), .val (.int v3), .val (.int v4), .unset, .unset, .unset, .unset, .unset, .unset, .unset] [(.int (v4 + (p5 &&& (65535 : Int32))))])) _
    rw [hv5]
    show Steps p.tables e below (s₁.setTop (mkF m 67 #[.val (.int p0), .val (.int p1), .val (.int p2), .val (.int p3), .val (.int p4), .val (.int p5), .val (.int (6 : Int32)), .val (.int v0), .val (.int v1), .val (.int v2), .val (.int v3), .val (.int v4), .unset, .unset, .unset, .unset, .unset, .unset, .unset] [(.int v5)])) _
    refine XS.istore X0.here hx rfl (hb hby at_67) rfl (l' := #[.val (.int p0), .val (.int p1), .val (.int p2), .val (.int p3), .val (.int p4), .val (.int p5), .val (.int (6 : Int32)), .val (.int v0), .val (.int v1), .val (.int v2), .val (.int v3), .val (.int v4), .val (.int v5), .unset, .unset, .unset, .unset, .unset, .unset]) rfl ?_
    show Steps p.tables e below (s₁.setTop (mkF m 69 #[.val (.int p0), .val (.int p1), .val (.int p2), .val (.int p3), .val (.int p4), .val (.int p5), .val (.int (6 : Int32)), .val (.int v0), .val (.int v1), .val (.int v2), .val (.int v3), .val (.int v4), .val (.int v5), .unset, .unset, .unset, .unset, .unset, .unset] [])) _
    refine XS.bipush X0.here hx rfl (hb hby at_69) ?_
    show Steps p.tables e below (s₁.setTop (mkF m 71 #[.val (.int p0), .val (.int p1), .val (.int p2), .val (.int p3), .val (.int p4), .val (.int p5), .val (.int (6 : Int32)), .val (.int v0), .val (.int v1), .val (.int v2), .val (.int v3), .val (.int v4), .val (.int v5), .unset, .unset, .unset, .unset, .unset, .unset] [(.int (6 : Int32))])) _
    refine st1 _ ?_
    show Steps p.tables e below (T1.setTop (mkF m 73 #[.val (.int p0), .val (.int p1), .val (.int p2), .val (.int p3), .val (.int p4), .val (.int p5), .val (.int (6 : Int32)), .val (.int v0), .val (.int v1), .val (.int v2), .val (.int v3), .val (.int v4), .val (.int v5), .unset, .unset, .unset, .unset, .unset, .unset] [(.ref b1)])) _
    refine XS.dup X1.here hx rfl (hb hby at_73) rfl rfl ?_
    show Steps p.tables e below (T1.setTop (mkF m 74 #[.val (.int p0), .val (.int p1), .val (.int p2), .val (.int p3), .val (.int p4), .val (.int p5), .val (.int (6 : Int32)), .val (.int v0), .val (.int v1), .val (.int v2), .val (.int v3), .val (.int v4), .val (.int v5), .unset, .unset, .unset, .unset, .unset, .unset] [(.ref b1), (.ref b1)])) _
    refine XS.iconst X1.here hx rfl (hb hby at_74) ?_
    show Steps p.tables e below (T1.setTop (mkF m 75 #[.val (.int p0), .val (.int p1), .val (.int p2), .val (.int p3), .val (.int p4), .val (.int p5), .val (.int (6 : Int32)), .val (.int v0), .val (.int v1), .val (.int v2), .val (.int v3), .val (.int v4), .val (.int v5), .unset, .unset, .unset, .unset, .unset, .unset] [(.int (0 : Int32)), (.ref b1), (.ref b1)])) _
    refine XS.iload X1.here hx rfl (hb hby at_75) rfl ?_
    show Steps p.tables e below (T1.setTop (mkF m 77 #[.val (.int p0), .val (.int p1), .val (.int p2), .val (.int p3), .val (.int p4), .val (.int p5), .val (.int (6 : Int32)), .val (.int v0), .val (.int v1), .val (.int v2), .val (.int v3), .val (.int v4), .val (.int v5), .unset, .unset, .unset, .unset, .unset, .unset] [(.int v0), (.int (0 : Int32)), (.ref b1), (.ref b1)])) _
    refine st2 _ ?_
    show Steps p.tables e below (T2.setTop (mkF m 78 #[.val (.int p0), .val (.int p1), .val (.int p2), .val (.int p3), .val (.int p4), .val (.int p5), .val (.int (6 : Int32)), .val (.int v0), .val (.int v1), .val (.int v2), .val (.int v3), .val (.int v4), .val (.int v5), .unset, .unset, .unset, .unset, .unset, .unset] [(.ref b1)])) _
    refine XS.dup X2.here hx rfl (hb hby at_78) rfl rfl ?_
    show Steps p.tables e below (T2.setTop (mkF m 79 #[.val (.int p0), .val (.int p1), .val (.int p2), .val (.int p3), .val (.int p4), .val (.int p5), .val (.int (6 : Int32)), .val (.int v0), .val (.int v1), .val (.int v2), .val (.int v3), .val (.int v4), .val (.int v5), .unset, .unset, .unset, .unset, .unset, .unset] [(.ref b1), (.ref b1)])) _
    refine XS.iconst X2.here hx rfl (hb hby at_79) ?_
    show Steps p.tables e below (T2.setTop (mkF m 80 #[.val (.int p0), .val (.int p1), .val (.int p2), .val (.int p3), .val (.int p4), .val (.int p5), .val (.int (6 : Int32)), .val (.int v0), .val (.int v1), .val (.int v2), .val (.int v3), .val (.int v4), .val (.int v5), .unset, .unset, .unset, .unset, .unset, .unset] [(.int (1 : Int32)), (.ref b1), (.ref b1)])) _
    refine XS.iload X2.here hx rfl (hb hby at_80) rfl ?_
    show Steps p.tables e below (T2.setTop (mkF m 82 #[.val (.int p0), .val (.int p1), .val (.int p2), .val (.int p3), .val (.int p4), .val (.int p5), .val (.int (6 : Int32)), .val (.int v0), .val (.int v1), .val (.int v2), .val (.int v3), .val (.int v4), .val (.int v5), .unset, .unset, .unset, .unset, .unset, .unset] [(.int v1), (.int (1 : Int32)), (.ref b1), (.ref b1)])) _
    refine st3 _ ?_
    show Steps p.tables e below (T3.setTop (mkF m 83 #[.val (.int p0), .val (.int p1), .val (.int p2), .val (.int p3), .val (.int p4), .val (.int p5), .val (.int (6 : Int32)), .val (.int v0), .val (.int v1), .val (.int v2), .val (.int v3), .val (.int v4), .val (.int v5), .unset, .unset, .unset, .unset, .unset, .unset] [(.ref b1)])) _
    refine XS.dup X3.here hx rfl (hb hby at_83) rfl rfl ?_
    show Steps p.tables e below (T3.setTop (mkF m 84 #[.val (.int p0), .val (.int p1), .val (.int p2), .val (.int p3), .val (.int p4), .val (.int p5), .val (.int (6 : Int32)), .val (.int v0), .val (.int v1), .val (.int v2), .val (.int v3), .val (.int v4), .val (.int v5), .unset, .unset, .unset, .unset, .unset, .unset] [(.ref b1), (.ref b1)])) _
    refine XS.iconst X3.here hx rfl (hb hby at_84) ?_
    show Steps p.tables e below (T3.setTop (mkF m 85 #[.val (.int p0), .val (.int p1), .val (.int p2), .val (.int p3), .val (.int p4), .val (.int p5), .val (.int (6 : Int32)), .val (.int v0), .val (.int v1), .val (.int v2), .val (.int v3), .val (.int v4), .val (.int v5), .unset, .unset, .unset, .unset, .unset, .unset] [(.int (2 : Int32)), (.ref b1), (.ref b1)])) _
    refine XS.iload X3.here hx rfl (hb hby at_85) rfl ?_
    show Steps p.tables e below (T3.setTop (mkF m 87 #[.val (.int p0), .val (.int p1), .val (.int p2), .val (.int p3), .val (.int p4), .val (.int p5), .val (.int (6 : Int32)), .val (.int v0), .val (.int v1), .val (.int v2), .val (.int v3), .val (.int v4), .val (.int v5), .unset, .unset, .unset, .unset, .unset, .unset] [(.int v2), (.int (2 : Int32)), (.ref b1), (.ref b1)])) _
    refine st4 _ ?_
    show Steps p.tables e below (T4.setTop (mkF m 88 #[.val (.int p0), .val (.int p1), .val (.int p2), .val (.int p3), .val (.int p4), .val (.int p5), .val (.int (6 : Int32)), .val (.int v0), .val (.int v1), .val (.int v2), .val (.int v3), .val (.int v4), .val (.int v5), .unset, .unset, .unset, .unset, .unset, .unset] [(.ref b1)])) _
    refine XS.dup X4.here hx rfl (hb hby at_88) rfl rfl ?_
    show Steps p.tables e below (T4.setTop (mkF m 89 #[.val (.int p0), .val (.int p1), .val (.int p2), .val (.int p3), .val (.int p4), .val (.int p5), .val (.int (6 : Int32)), .val (.int v0), .val (.int v1), .val (.int v2), .val (.int v3), .val (.int v4), .val (.int v5), .unset, .unset, .unset, .unset, .unset, .unset] [(.ref b1), (.ref b1)])) _
    refine XS.iconst X4.here hx rfl (hb hby at_89) ?_
    show Steps p.tables e below (T4.setTop (mkF m 90 #[.val (.int p0), .val (.int p1), .val (.int p2), .val (.int p3), .val (.int p4), .val (.int p5), .val (.int (6 : Int32)), .val (.int v0), .val (.int v1), .val (.int v2), .val (.int v3), .val (.int v4), .val (.int v5), .unset, .unset, .unset, .unset, .unset, .unset] [(.int (3 : Int32)), (.ref b1), (.ref b1)])) _
    refine XS.iload X4.here hx rfl (hb hby at_90) rfl ?_
    show Steps p.tables e below (T4.setTop (mkF m 92 #[.val (.int p0), .val (.int p1), .val (.int p2), .val (.int p3), .val (.int p4), .val (.int p5), .val (.int (6 : Int32)), .val (.int v0), .val (.int v1), .val (.int v2), .val (.int v3), .val (.int v4), .val (.int v5), .unset, .unset, .unset, .unset, .unset, .unset] [(.int v3), (.int (3 : Int32)), (.ref b1), (.ref b1)])) _
    refine st5 _ ?_
    show Steps p.tables e below (T5.setTop (mkF m 93 #[.val (.int p0), .val (.int p1), .val (.int p2), .val (.int p3), .val (.int p4), .val (.int p5), .val (.int (6 : Int32)), .val (.int v0), .val (.int v1), .val (.int v2), .val (.int v3), .val (.int v4), .val (.int v5), .unset, .unset, .unset, .unset, .unset, .unset] [(.ref b1)])) _
    refine XS.dup X5.here hx rfl (hb hby at_93) rfl rfl ?_
    show Steps p.tables e below (T5.setTop (mkF m 94 #[.val (.int p0), .val (.int p1), .val (.int p2), .val (.int p3), .val (.int p4), .val (.int p5), .val (.int (6 : Int32)), .val (.int v0), .val (.int v1), .val (.int v2), .val (.int v3), .val (.int v4), .val (.int v5), .unset, .unset, .unset, .unset, .unset, .unset] [(.ref b1), (.ref b1)])) _
    refine XS.iconst X5.here hx rfl (hb hby at_94) ?_
    show Steps p.tables e below (T5.setTop (mkF m 95 #[.val (.int p0), .val (.int p1), .val (.int p2), .val (.int p3), .val (.int p4), .val (.int p5), .val (.int (6 : Int32)), .val (.int v0), .val (.int v1), .val (.int v2), .val (.int v3), .val (.int v4), .val (.int v5), .unset, .unset, .unset, .unset, .unset, .unset] [(.int (4 : Int32)), (.ref b1), (.ref b1)])) _
    refine XS.iload X5.here hx rfl (hb hby at_95) rfl ?_
    show Steps p.tables e below (T5.setTop (mkF m 97 #[.val (.int p0), .val (.int p1), .val (.int p2), .val (.int p3), .val (.int p4), .val (.int p5), .val (.int (6 : Int32)), .val (.int v0), .val (.int v1), .val (.int v2), .val (.int v3), .val (.int v4), .val (.int v5), .unset, .unset, .unset, .unset, .unset, .unset] [(.int v4), (.int (4 : Int32)), (.ref b1), (.ref b1)])) _
    refine st6 _ ?_
    show Steps p.tables e below (T6.setTop (mkF m 98 #[.val (.int p0), .val (.int p1), .val (.int p2), .val (.int p3), .val (.int p4), .val (.int p5), .val (.int (6 : Int32)), .val (.int v0), .val (.int v1), .val (.int v2), .val (.int v3), .val (.int v4), .val (.int v5), .unset, .unset, .unset, .unset, .unset, .unset] [(.ref b1)])) _
    refine XS.dup X6.here hx rfl (hb hby at_98) rfl rfl ?_
    show Steps p.tables e below (T6.setTop (mkF m 99 #[.val (.int p0), .val (.int p1), .val (.int p2), .val (.int p3), .val (.int p4), .val (.int p5), .val (.int (6 : Int32)), .val (.int v0), .val (.int v1), .val (.int v2), .val (.int v3), .val (.int v4), .val (.int v5), .unset, .unset, .unset, .unset, .unset, .unset] [(.ref b1), (.ref b1)])) _
    refine XS.iconst X6.here hx rfl (hb hby at_99) ?_
    show Steps p.tables e below (T6.setTop (mkF m 100 #[.val (.int p0), .val (.int p1), .val (.int p2), .val (.int p3), .val (.int p4), .val (.int p5), .val (.int (6 : Int32)), .val (.int v0), .val (.int v1), .val (.int v2), .val (.int v3), .val (.int v4), .val (.int v5), .unset, .unset, .unset, .unset, .unset, .unset] [(.int (5 : Int32)), (.ref b1), (.ref b1)])) _
    refine XS.iload X6.here hx rfl (hb hby at_100) rfl ?_
    show Steps p.tables e below (T6.setTop (mkF m 102 #[.val (.int p0), .val (.int p1), .val (.int p2), .val (.int p3), .val (.int p4), .val (.int p5), .val (.int (6 : Int32)), .val (.int v0), .val (.int v1), .val (.int v2), .val (.int v3), .val (.int v4), .val (.int v5), .unset, .unset, .unset, .unset, .unset, .unset] [(.int v5), (.int (5 : Int32)), (.ref b1), (.ref b1)])) _
    refine st7 _ ?_
    show Steps p.tables e below (T7.setTop (mkF m 103 #[.val (.int p0), .val (.int p1), .val (.int p2), .val (.int p3), .val (.int p4), .val (.int p5), .val (.int (6 : Int32)), .val (.int v0), .val (.int v1), .val (.int v2), .val (.int v3), .val (.int v4), .val (.int v5), .unset, .unset, .unset, .unset, .unset, .unset] [(.ref b1)])) _
    refine XS.astore X7.here hx rfl (hb hby at_103) rfl rfl (l' := #[.val (.int p0), .val (.int p1), .val (.int p2), .val (.int p3), .val (.int p4), .val (.int p5), .val (.int (6 : Int32)), .val (.int v0), .val (.int v1), .val (.int v2), .val (.int v3), .val (.int v4), .val (.int v5), .val (.ref b1), .unset, .unset, .unset, .unset, .unset]) rfl ?_
    show Steps p.tables e below (T7.setTop (mkF m 105 #[.val (.int p0), .val (.int p1), .val (.int p2), .val (.int p3), .val (.int p4), .val (.int p5), .val (.int (6 : Int32)), .val (.int v0), .val (.int v1), .val (.int v2), .val (.int v3), .val (.int v4), .val (.int v5), .val (.ref b1), .unset, .unset, .unset, .unset, .unset] [])) _
    refine XS.iload X7.here hx rfl (hb hby at_105) rfl ?_
    show Steps p.tables e below (T7.setTop (mkF m 107 #[.val (.int p0), .val (.int p1), .val (.int p2), .val (.int p3), .val (.int p4), .val (.int p5), .val (.int (6 : Int32)), .val (.int v0), .val (.int v1), .val (.int v2), .val (.int v3), .val (.int v4), .val (.int v5), .val (.ref b1), .unset, .unset, .unset, .unset, .unset] [(.int (6 : Int32))])) _
    refine st8 _ ?_
    show Steps p.tables e below (T8.setTop (mkF m 109 #[.val (.int p0), .val (.int p1), .val (.int p2), .val (.int p3), .val (.int p4), .val (.int p5), .val (.int (6 : Int32)), .val (.int v0), .val (.int v1), .val (.int v2), .val (.int v3), .val (.int v4), .val (.int v5), .val (.ref b1), .unset, .unset, .unset, .unset, .unset] [(.ref b8)])) _
    refine XS.astore X8.here hx rfl (hb hby at_109) rfl rfl (l' := #[.val (.int p0), .val (.int p1), .val (.int p2), .val (.int p3), .val (.int p4), .val (.int p5), .val (.int (6 : Int32)), .val (.int v0), .val (.int v1), .val (.int v2), .val (.int v3), .val (.int v4), .val (.int v5), .val (.ref b1), .val (.ref b8), .unset, .unset, .unset, .unset]) rfl ?_
    show Steps p.tables e below (T8.setTop (mkF m 111 #[.val (.int p0), .val (.int p1), .val (.int p2), .val (.int p3), .val (.int p4), .val (.int p5), .val (.int (6 : Int32)), .val (.int v0), .val (.int v1), .val (.int v2), .val (.int v3), .val (.int v4), .val (.int v5), .val (.ref b1), .val (.ref b8), .unset, .unset, .unset, .unset] [])) _
    refine XS.aload X8.here hx rfl (hb hby at_111) rfl rfl ?_
    show Steps p.tables e below (T8.setTop (mkF m 113 #[.val (.int p0), .val (.int p1), .val (.int p2), .val (.int p3), .val (.int p4), .val (.int p5), .val (.int (6 : Int32)), .val (.int v0), .val (.int v1), .val (.int v2), .val (.int v3), .val (.int v4), .val (.int v5), .val (.ref b1), .val (.ref b8), .unset, .unset, .unset, .unset] [(.ref b8)])) _
    refine XS.iconst X8.here hx rfl (hb hby at_113) ?_
    show Steps p.tables e below (T8.setTop (mkF m 114 #[.val (.int p0), .val (.int p1), .val (.int p2), .val (.int p3), .val (.int p4), .val (.int p5), .val (.int (6 : Int32)), .val (.int v0), .val (.int v1), .val (.int v2), .val (.int v3), .val (.int v4), .val (.int v5), .val (.ref b1), .val (.ref b8), .unset, .unset, .unset, .unset] [(.int (0 : Int32)), (.ref b8)])) _
    refine XS.iload X8.here hx rfl (hb hby at_114) rfl ?_
    show Steps p.tables e below (T8.setTop (mkF m 116 #[.val (.int p0), .val (.int p1), .val (.int p2), .val (.int p3), .val (.int p4), .val (.int p5), .val (.int (6 : Int32)), .val (.int v0), .val (.int v1), .val (.int v2), .val (.int v3), .val (.int v4), .val (.int v5), .val (.ref b1), .val (.ref b8), .unset, .unset, .unset, .unset] [(.int v0), (.int (0 : Int32)), (.ref b8)])) _
    refine XS.i2dS X8.here hx rfl (hb hby at_116) rfl rfl ?_
    show Steps p.tables e below (T8.setTop (mkF m 117 #[.val (.int p0), .val (.int p1), .val (.int p2), .val (.int p3), .val (.int p4), .val (.int p5), .val (.int (6 : Int32)), .val (.int v0), .val (.int v1), .val (.int v2), .val (.int v3), .val (.int v4), .val (.int v5), .val (.ref b1), .val (.ref b8), .unset, .unset, .unset, .unset] [(.double (FP.i2d v0)), (.int (0 : Int32)), (.ref b8)])) _
    refine st9 _ ?_
    show Steps p.tables e below (T9.setTop (mkF m 118 #[.val (.int p0), .val (.int p1), .val (.int p2), .val (.int p3), .val (.int p4), .val (.int p5), .val (.int (6 : Int32)), .val (.int v0), .val (.int v1), .val (.int v2), .val (.int v3), .val (.int v4), .val (.int v5), .val (.ref b1), .val (.ref b8), .unset, .unset, .unset, .unset] [])) _
    refine XS.iload X9.here hx rfl (hb hby at_118) rfl ?_
    show Steps p.tables e below (T9.setTop (mkF m 120 #[.val (.int p0), .val (.int p1), .val (.int p2), .val (.int p3), .val (.int p4), .val (.int p5), .val (.int (6 : Int32)), .val (.int v0), .val (.int v1), .val (.int v2), .val (.int v3), .val (.int v4), .val (.int v5), .val (.ref b1), .val (.ref b8), .unset, .unset, .unset, .unset] [(.int (6 : Int32))])) _
    refine XS.iconst X9.here hx rfl (hb hby at_120) ?_
    show Steps p.tables e below (T9.setTop (mkF m 121 #[.val (.int p0), .val (.int p1), .val (.int p2), .val (.int p3), .val (.int p4), .val (.int p5), .val (.int (6 : Int32)), .val (.int v0), .val (.int v1), .val (.int v2), .val (.int v3), .val (.int v4), .val (.int v5), .val (.ref b1), .val (.ref b8), .unset, .unset, .unset, .unset] [(.int (1 : Int32)), (.int (6 : Int32))])) _
    refine XS.icmpNo X9.here hx rfl (hb hby at_121) rfl (tlt (by decide : (1 : Int32) < (6 : Int32))).2.2.2 ?_
    show Steps p.tables e below (T9.setTop (mkF m 124 #[.val (.int p0), .val (.int p1), .val (.int p2), .val (.int p3), .val (.int p4), .val (.int p5), .val (.int (6 : Int32)), .val (.int v0), .val (.int v1), .val (.int v2), .val (.int v3), .val (.int v4), .val (.int v5), .val (.ref b1), .val (.ref b8), .unset, .unset, .unset, .unset] [])) _
    refine XS.aload X9.here hx rfl (hb hby at_124) rfl rfl ?_
    show Steps p.tables e below (T9.setTop (mkF m 126 #[.val (.int p0), .val (.int p1), .val (.int p2), .val (.int p3), .val (.int p4), .val (.int p5), .val (.int (6 : Int32)), .val (.int v0), .val (.int v1), .val (.int v2), .val (.int v3), .val (.int v4), .val (.int v5), .val (.ref b1), .val (.ref b8), .unset, .unset, .unset, .unset] [(.ref b8)])) _
    refine XS.iconst X9.here hx rfl (hb hby at_126) ?_
    show Steps p.tables e below (T9.setTop (mkF m 127 #[.val (.int p0), .val (.int p1), .val (.int p2), .val (.int p3), .val (.int p4), .val (.int p5), .val (.int (6 : Int32)), .val (.int v0), .val (.int v1), .val (.int v2), .val (.int v3), .val (.int v4), .val (.int v5), .val (.ref b1), .val (.ref b8), .unset, .unset, .unset, .unset] [(.int (1 : Int32)), (.ref b8)])) _
    refine XS.iload X9.here hx rfl (hb hby at_127) rfl ?_
    show Steps p.tables e below (T9.setTop (mkF m 129 #[.val (.int p0), .val (.int p1), .val (.int p2), .val (.int p3), .val (.int p4), .val (.int p5), .val (.int (6 : Int32)), .val (.int v0), .val (.int v1), .val (.int v2), .val (.int v3), .val (.int v4), .val (.int v5), .val (.ref b1), .val (.ref b8), .unset, .unset, .unset, .unset] [(.int v1), (.int (1 : Int32)), (.ref b8)])) _
    refine XS.i2dS X9.here hx rfl (hb hby at_129) rfl rfl ?_
    show Steps p.tables e below (T9.setTop (mkF m 130 #[.val (.int p0), .val (.int p1), .val (.int p2), .val (.int p3), .val (.int p4), .val (.int p5), .val (.int (6 : Int32)), .val (.int v0), .val (.int v1), .val (.int v2), .val (.int v3), .val (.int v4), .val (.int v5), .val (.ref b1), .val (.ref b8), .unset, .unset, .unset, .unset] [(.double (FP.i2d v1)), (.int (1 : Int32)), (.ref b8)])) _
    refine st10 _ ?_
    show Steps p.tables e below (T10.setTop (mkF m 131 #[.val (.int p0), .val (.int p1), .val (.int p2), .val (.int p3), .val (.int p4), .val (.int p5), .val (.int (6 : Int32)), .val (.int v0), .val (.int v1), .val (.int v2), .val (.int v3), .val (.int v4), .val (.int v5), .val (.ref b1), .val (.ref b8), .unset, .unset, .unset, .unset] [])) _
    refine XS.iload X10.here hx rfl (hb hby at_131) rfl ?_
    show Steps p.tables e below (T10.setTop (mkF m 133 #[.val (.int p0), .val (.int p1), .val (.int p2), .val (.int p3), .val (.int p4), .val (.int p5), .val (.int (6 : Int32)), .val (.int v0), .val (.int v1), .val (.int v2), .val (.int v3), .val (.int v4), .val (.int v5), .val (.ref b1), .val (.ref b8), .unset, .unset, .unset, .unset] [(.int (6 : Int32))])) _
    refine XS.iconst X10.here hx rfl (hb hby at_133) ?_
    show Steps p.tables e below (T10.setTop (mkF m 134 #[.val (.int p0), .val (.int p1), .val (.int p2), .val (.int p3), .val (.int p4), .val (.int p5), .val (.int (6 : Int32)), .val (.int v0), .val (.int v1), .val (.int v2), .val (.int v3), .val (.int v4), .val (.int v5), .val (.ref b1), .val (.ref b8), .unset, .unset, .unset, .unset] [(.int (2 : Int32)), (.int (6 : Int32))])) _
    refine XS.icmpNo X10.here hx rfl (hb hby at_134) rfl (tlt (by decide : (2 : Int32) < (6 : Int32))).2.2.2 ?_
    show Steps p.tables e below (T10.setTop (mkF m 137 #[.val (.int p0), .val (.int p1), .val (.int p2), .val (.int p3), .val (.int p4), .val (.int p5), .val (.int (6 : Int32)), .val (.int v0), .val (.int v1), .val (.int v2), .val (.int v3), .val (.int v4), .val (.int v5), .val (.ref b1), .val (.ref b8), .unset, .unset, .unset, .unset] [])) _
    refine XS.aload X10.here hx rfl (hb hby at_137) rfl rfl ?_
    show Steps p.tables e below (T10.setTop (mkF m 139 #[.val (.int p0), .val (.int p1), .val (.int p2), .val (.int p3), .val (.int p4), .val (.int p5), .val (.int (6 : Int32)), .val (.int v0), .val (.int v1), .val (.int v2), .val (.int v3), .val (.int v4), .val (.int v5), .val (.ref b1), .val (.ref b8), .unset, .unset, .unset, .unset] [(.ref b8)])) _
    refine XS.iconst X10.here hx rfl (hb hby at_139) ?_
    show Steps p.tables e below (T10.setTop (mkF m 140 #[.val (.int p0), .val (.int p1), .val (.int p2), .val (.int p3), .val (.int p4), .val (.int p5), .val (.int (6 : Int32)), .val (.int v0), .val (.int v1), .val (.int v2), .val (.int v3), .val (.int v4), .val (.int v5), .val (.ref b1), .val (.ref b8), .unset, .unset, .unset, .unset] [(.int (2 : Int32)), (.ref b8)])) _
    refine XS.iload X10.here hx rfl (hb hby at_140) rfl ?_
    show Steps p.tables e below (T10.setTop (mkF m 142 #[.val (.int p0), .val (.int p1), .val (.int p2), .val (.int p3), .val (.int p4), .val (.int p5), .val (.int (6 : Int32)), .val (.int v0), .val (.int v1), .val (.int v2), .val (.int v3), .val (.int v4), .val (.int v5), .val (.ref b1), .val (.ref b8), .unset, .unset, .unset, .unset] [(.int v2), (.int (2 : Int32)), (.ref b8)])) _
    refine XS.i2dS X10.here hx rfl (hb hby at_142) rfl rfl ?_
    show Steps p.tables e below (T10.setTop (mkF m 143 #[.val (.int p0), .val (.int p1), .val (.int p2), .val (.int p3), .val (.int p4), .val (.int p5), .val (.int (6 : Int32)), .val (.int v0), .val (.int v1), .val (.int v2), .val (.int v3), .val (.int v4), .val (.int v5), .val (.ref b1), .val (.ref b8), .unset, .unset, .unset, .unset] [(.double (FP.i2d v2)), (.int (2 : Int32)), (.ref b8)])) _
    refine st11 _ ?_
    show Steps p.tables e below (T11.setTop (mkF m 144 #[.val (.int p0), .val (.int p1), .val (.int p2), .val (.int p3), .val (.int p4), .val (.int p5), .val (.int (6 : Int32)), .val (.int v0), .val (.int v1), .val (.int v2), .val (.int v3), .val (.int v4), .val (.int v5), .val (.ref b1), .val (.ref b8), .unset, .unset, .unset, .unset] [])) _
    refine XS.iload X11.here hx rfl (hb hby at_144) rfl ?_
    show Steps p.tables e below (T11.setTop (mkF m 146 #[.val (.int p0), .val (.int p1), .val (.int p2), .val (.int p3), .val (.int p4), .val (.int p5), .val (.int (6 : Int32)), .val (.int v0), .val (.int v1), .val (.int v2), .val (.int v3), .val (.int v4), .val (.int v5), .val (.ref b1), .val (.ref b8), .unset, .unset, .unset, .unset] [(.int (6 : Int32))])) _
    refine XS.iconst X11.here hx rfl (hb hby at_146) ?_
    show Steps p.tables e below (T11.setTop (mkF m 147 #[.val (.int p0), .val (.int p1), .val (.int p2), .val (.int p3), .val (.int p4), .val (.int p5), .val (.int (6 : Int32)), .val (.int v0), .val (.int v1), .val (.int v2), .val (.int v3), .val (.int v4), .val (.int v5), .val (.ref b1), .val (.ref b8), .unset, .unset, .unset, .unset] [(.int (3 : Int32)), (.int (6 : Int32))])) _
    refine XS.icmpNo X11.here hx rfl (hb hby at_147) rfl (tlt (by decide : (3 : Int32) < (6 : Int32))).2.2.2 ?_
    show Steps p.tables e below (T11.setTop (mkF m 150 #[.val (.int p0), .val (.int p1), .val (.int p2), .val (.int p3), .val (.int p4), .val (.int p5), .val (.int (6 : Int32)), .val (.int v0), .val (.int v1), .val (.int v2), .val (.int v3), .val (.int v4), .val (.int v5), .val (.ref b1), .val (.ref b8), .unset, .unset, .unset, .unset] [])) _
    refine XS.aload X11.here hx rfl (hb hby at_150) rfl rfl ?_
    show Steps p.tables e below (T11.setTop (mkF m 152 #[.val (.int p0), .val (.int p1), .val (.int p2), .val (.int p3), .val (.int p4), .val (.int p5), .val (.int (6 : Int32)), .val (.int v0), .val (.int v1), .val (.int v2), .val (.int v3), .val (.int v4), .val (.int v5), .val (.ref b1), .val (.ref b8), .unset, .unset, .unset, .unset] [(.ref b8)])) _
    refine XS.iconst X11.here hx rfl (hb hby at_152) ?_
    show Steps p.tables e below (T11.setTop (mkF m 153 #[.val (.int p0), .val (.int p1), .val (.int p2), .val (.int p3), .val (.int p4), .val (.int p5), .val (.int (6 : Int32)), .val (.int v0), .val (.int v1), .val (.int v2), .val (.int v3), .val (.int v4), .val (.int v5), .val (.ref b1), .val (.ref b8), .unset, .unset, .unset, .unset] [(.int (3 : Int32)), (.ref b8)])) _
    refine XS.iload X11.here hx rfl (hb hby at_153) rfl ?_
    show Steps p.tables e below (T11.setTop (mkF m 155 #[.val (.int p0), .val (.int p1), .val (.int p2), .val (.int p3), .val (.int p4), .val (.int p5), .val (.int (6 : Int32)), .val (.int v0), .val (.int v1), .val (.int v2), .val (.int v3), .val (.int v4), .val (.int v5), .val (.ref b1), .val (.ref b8), .unset, .unset, .unset, .unset] [(.int v3), (.int (3 : Int32)), (.ref b8)])) _
    refine XS.i2dS X11.here hx rfl (hb hby at_155) rfl rfl ?_
    show Steps p.tables e below (T11.setTop (mkF m 156 #[.val (.int p0), .val (.int p1), .val (.int p2), .val (.int p3), .val (.int p4), .val (.int p5), .val (.int (6 : Int32)), .val (.int v0), .val (.int v1), .val (.int v2), .val (.int v3), .val (.int v4), .val (.int v5), .val (.ref b1), .val (.ref b8), .unset, .unset, .unset, .unset] [(.double (FP.i2d v3)), (.int (3 : Int32)), (.ref b8)])) _
    refine st12 _ ?_
    show Steps p.tables e below (T12.setTop (mkF m 157 #[.val (.int p0), .val (.int p1), .val (.int p2), .val (.int p3), .val (.int p4), .val (.int p5), .val (.int (6 : Int32)), .val (.int v0), .val (.int v1), .val (.int v2), .val (.int v3), .val (.int v4), .val (.int v5), .val (.ref b1), .val (.ref b8), .unset, .unset, .unset, .unset] [])) _
    refine XS.iload X12.here hx rfl (hb hby at_157) rfl ?_
    show Steps p.tables e below (T12.setTop (mkF m 159 #[.val (.int p0), .val (.int p1), .val (.int p2), .val (.int p3), .val (.int p4), .val (.int p5), .val (.int (6 : Int32)), .val (.int v0), .val (.int v1), .val (.int v2), .val (.int v3), .val (.int v4), .val (.int v5), .val (.ref b1), .val (.ref b8), .unset, .unset, .unset, .unset] [(.int (6 : Int32))])) _
    refine XS.iconst X12.here hx rfl (hb hby at_159) ?_
    show Steps p.tables e below (T12.setTop (mkF m 160 #[.val (.int p0), .val (.int p1), .val (.int p2), .val (.int p3), .val (.int p4), .val (.int p5), .val (.int (6 : Int32)), .val (.int v0), .val (.int v1), .val (.int v2), .val (.int v3), .val (.int v4), .val (.int v5), .val (.ref b1), .val (.ref b8), .unset, .unset, .unset, .unset] [(.int (4 : Int32)), (.int (6 : Int32))])) _
    refine XS.icmpNo X12.here hx rfl (hb hby at_160) rfl (tlt (by decide : (4 : Int32) < (6 : Int32))).2.2.2 ?_
    show Steps p.tables e below (T12.setTop (mkF m 163 #[.val (.int p0), .val (.int p1), .val (.int p2), .val (.int p3), .val (.int p4), .val (.int p5), .val (.int (6 : Int32)), .val (.int v0), .val (.int v1), .val (.int v2), .val (.int v3), .val (.int v4), .val (.int v5), .val (.ref b1), .val (.ref b8), .unset, .unset, .unset, .unset] [])) _
    refine XS.aload X12.here hx rfl (hb hby at_163) rfl rfl ?_
    show Steps p.tables e below (T12.setTop (mkF m 165 #[.val (.int p0), .val (.int p1), .val (.int p2), .val (.int p3), .val (.int p4), .val (.int p5), .val (.int (6 : Int32)), .val (.int v0), .val (.int v1), .val (.int v2), .val (.int v3), .val (.int v4), .val (.int v5), .val (.ref b1), .val (.ref b8), .unset, .unset, .unset, .unset] [(.ref b8)])) _
    refine XS.iconst X12.here hx rfl (hb hby at_165) ?_
    show Steps p.tables e below (T12.setTop (mkF m 166 #[.val (.int p0), .val (.int p1), .val (.int p2), .val (.int p3), .val (.int p4), .val (.int p5), .val (.int (6 : Int32)), .val (.int v0), .val (.int v1), .val (.int v2), .val (.int v3), .val (.int v4), .val (.int v5), .val (.ref b1), .val (.ref b8), .unset, .unset, .unset, .unset] [(.int (4 : Int32)), (.ref b8)])) _
    refine XS.iload X12.here hx rfl (hb hby at_166) rfl ?_
    show Steps p.tables e below (T12.setTop (mkF m 168 #[.val (.int p0), .val (.int p1), .val (.int p2), .val (.int p3), .val (.int p4), .val (.int p5), .val (.int (6 : Int32)), .val (.int v0), .val (.int v1), .val (.int v2), .val (.int v3), .val (.int v4), .val (.int v5), .val (.ref b1), .val (.ref b8), .unset, .unset, .unset, .unset] [(.int v4), (.int (4 : Int32)), (.ref b8)])) _
    refine XS.i2dS X12.here hx rfl (hb hby at_168) rfl rfl ?_
    show Steps p.tables e below (T12.setTop (mkF m 169 #[.val (.int p0), .val (.int p1), .val (.int p2), .val (.int p3), .val (.int p4), .val (.int p5), .val (.int (6 : Int32)), .val (.int v0), .val (.int v1), .val (.int v2), .val (.int v3), .val (.int v4), .val (.int v5), .val (.ref b1), .val (.ref b8), .unset, .unset, .unset, .unset] [(.double (FP.i2d v4)), (.int (4 : Int32)), (.ref b8)])) _
    refine st13 _ ?_
    show Steps p.tables e below (T13.setTop (mkF m 170 #[.val (.int p0), .val (.int p1), .val (.int p2), .val (.int p3), .val (.int p4), .val (.int p5), .val (.int (6 : Int32)), .val (.int v0), .val (.int v1), .val (.int v2), .val (.int v3), .val (.int v4), .val (.int v5), .val (.ref b1), .val (.ref b8), .unset, .unset, .unset, .unset] [])) _
    refine XS.iload X13.here hx rfl (hb hby at_170) rfl ?_
    show Steps p.tables e below (T13.setTop (mkF m 172 #[.val (.int p0), .val (.int p1), .val (.int p2), .val (.int p3), .val (.int p4), .val (.int p5), .val (.int (6 : Int32)), .val (.int v0), .val (.int v1), .val (.int v2), .val (.int v3), .val (.int v4), .val (.int v5), .val (.ref b1), .val (.ref b8), .unset, .unset, .unset, .unset] [(.int (6 : Int32))])) _
    refine XS.iconst X13.here hx rfl (hb hby at_172) ?_
    show Steps p.tables e below (T13.setTop (mkF m 173 #[.val (.int p0), .val (.int p1), .val (.int p2), .val (.int p3), .val (.int p4), .val (.int p5), .val (.int (6 : Int32)), .val (.int v0), .val (.int v1), .val (.int v2), .val (.int v3), .val (.int v4), .val (.int v5), .val (.ref b1), .val (.ref b8), .unset, .unset, .unset, .unset] [(.int (5 : Int32)), (.int (6 : Int32))])) _
    refine XS.icmpNo X13.here hx rfl (hb hby at_173) rfl (tlt (by decide : (5 : Int32) < (6 : Int32))).2.2.2 ?_
    show Steps p.tables e below (T13.setTop (mkF m 176 #[.val (.int p0), .val (.int p1), .val (.int p2), .val (.int p3), .val (.int p4), .val (.int p5), .val (.int (6 : Int32)), .val (.int v0), .val (.int v1), .val (.int v2), .val (.int v3), .val (.int v4), .val (.int v5), .val (.ref b1), .val (.ref b8), .unset, .unset, .unset, .unset] [])) _
    refine XS.aload X13.here hx rfl (hb hby at_176) rfl rfl ?_
    show Steps p.tables e below (T13.setTop (mkF m 178 #[.val (.int p0), .val (.int p1), .val (.int p2), .val (.int p3), .val (.int p4), .val (.int p5), .val (.int (6 : Int32)), .val (.int v0), .val (.int v1), .val (.int v2), .val (.int v3), .val (.int v4), .val (.int v5), .val (.ref b1), .val (.ref b8), .unset, .unset, .unset, .unset] [(.ref b8)])) _
    refine XS.iconst X13.here hx rfl (hb hby at_178) ?_
    show Steps p.tables e below (T13.setTop (mkF m 179 #[.val (.int p0), .val (.int p1), .val (.int p2), .val (.int p3), .val (.int p4), .val (.int p5), .val (.int (6 : Int32)), .val (.int v0), .val (.int v1), .val (.int v2), .val (.int v3), .val (.int v4), .val (.int v5), .val (.ref b1), .val (.ref b8), .unset, .unset, .unset, .unset] [(.int (5 : Int32)), (.ref b8)])) _
    refine XS.iload X13.here hx rfl (hb hby at_179) rfl ?_
    show Steps p.tables e below (T13.setTop (mkF m 181 #[.val (.int p0), .val (.int p1), .val (.int p2), .val (.int p3), .val (.int p4), .val (.int p5), .val (.int (6 : Int32)), .val (.int v0), .val (.int v1), .val (.int v2), .val (.int v3), .val (.int v4), .val (.int v5), .val (.ref b1), .val (.ref b8), .unset, .unset, .unset, .unset] [(.int v5), (.int (5 : Int32)), (.ref b8)])) _
    refine XS.i2dS X13.here hx rfl (hb hby at_181) rfl rfl ?_
    show Steps p.tables e below (T13.setTop (mkF m 182 #[.val (.int p0), .val (.int p1), .val (.int p2), .val (.int p3), .val (.int p4), .val (.int p5), .val (.int (6 : Int32)), .val (.int v0), .val (.int v1), .val (.int v2), .val (.int v3), .val (.int v4), .val (.int v5), .val (.ref b1), .val (.ref b8), .unset, .unset, .unset, .unset] [(.double (FP.i2d v5)), (.int (5 : Int32)), (.ref b8)])) _
    refine st14 _ ?_
    show Steps p.tables e below (T14.setTop (mkF m 183 #[.val (.int p0), .val (.int p1), .val (.int p2), .val (.int p3), .val (.int p4), .val (.int p5), .val (.int (6 : Int32)), .val (.int v0), .val (.int v1), .val (.int v2), .val (.int v3), .val (.int v4), .val (.int v5), .val (.ref b1), .val (.ref b8), .unset, .unset, .unset, .unset] [])) _
    refine XS.aload X14.here hx rfl (hb hby at_183) rfl rfl ?_
    show Steps p.tables e below (T14.setTop (mkF m 185 #[.val (.int p0), .val (.int p1), .val (.int p2), .val (.int p3), .val (.int p4), .val (.int p5), .val (.int (6 : Int32)), .val (.int v0), .val (.int v1), .val (.int v2), .val (.int v3), .val (.int v4), .val (.int v5), .val (.ref b1), .val (.ref b8), .unset, .unset, .unset, .unset] [(.ref b8)])) _
    refine st15 _ ?_
    show Steps p.tables e below (T15.setTop (mkF m 188 #[.val (.int p0), .val (.int p1), .val (.int p2), .val (.int p3), .val (.int p4), .val (.int p5), .val (.int (6 : Int32)), .val (.int v0), .val (.int v1), .val (.int v2), .val (.int v3), .val (.int v4), .val (.int v5), .val (.ref b1), .val (.ref b8), .unset, .unset, .unset, .unset] [(.double (FP.ddiv (FP.dadd (FP.i2d v2) (FP.i2d v3)) 4611686018427387904))])) _
    refine XS.dstore X15.here hx rfl (hb hby at_188) rfl (l' := #[.val (.int p0), .val (.int p1), .val (.int p2), .val (.int p3), .val (.int p4), .val (.int p5), .val (.int (6 : Int32)), .val (.int v0), .val (.int v1), .val (.int v2), .val (.int v3), .val (.int v4), .val (.int v5), .val (.ref b1), .val (.ref b8), .val (.double (FP.ddiv (FP.dadd (FP.i2d v2) (FP.i2d v3)) 4611686018427387904)), .second, .unset, .unset]) rfl ?_
    show Steps p.tables e below (T15.setTop (mkF m 190 #[.val (.int p0), .val (.int p1), .val (.int p2), .val (.int p3), .val (.int p4), .val (.int p5), .val (.int (6 : Int32)), .val (.int v0), .val (.int v1), .val (.int v2), .val (.int v3), .val (.int v4), .val (.int v5), .val (.ref b1), .val (.ref b8), .val (.double (FP.ddiv (FP.dadd (FP.i2d v2) (FP.i2d v3)) 4611686018427387904)), .second, .unset, .unset] [])) _
    refine XS.iload X15.here hx rfl (hb hby at_190) rfl ?_
    show Steps p.tables e below (T15.setTop (mkF m 192 #[.val (.int p0), .val (.int p1), .val (.int p2), .val (.int p3), .val (.int p4), .val (.int p5), .val (.int (6 : Int32)), .val (.int v0), .val (.int v1), .val (.int v2), .val (.int v3), .val (.int v4), .val (.int v5), .val (.ref b1), .val (.ref b8), .val (.double (FP.ddiv (FP.dadd (FP.i2d v2) (FP.i2d v3)) 4611686018427387904)), .second, .unset, .unset] [(.int (6 : Int32))])) _
    refine XS.iconst X15.here hx rfl (hb hby at_192) ?_
    show Steps p.tables e below (T15.setTop (mkF m 193 #[.val (.int p0), .val (.int p1), .val (.int p2), .val (.int p3), .val (.int p4), .val (.int p5), .val (.int (6 : Int32)), .val (.int v0), .val (.int v1), .val (.int v2), .val (.int v3), .val (.int v4), .val (.int v5), .val (.ref b1), .val (.ref b8), .val (.double (FP.ddiv (FP.dadd (FP.i2d v2) (FP.i2d v3)) 4611686018427387904)), .second, .unset, .unset] [(.int (1 : Int32)), (.int (6 : Int32))])) _
    refine XS.isub X15.here hx rfl (hb hby at_193) rfl ?_
    show Steps p.tables e below (T15.setTop (mkF m 194 #[.val (.int p0), .val (.int p1), .val (.int p2), .val (.int p3), .val (.int p4), .val (.int p5), .val (.int (6 : Int32)), .val (.int v0), .val (.int v1), .val (.int v2), .val (.int v3), .val (.int v4), .val (.int v5), .val (.ref b1), .val (.ref b8), .val (.double (FP.ddiv (FP.dadd (FP.i2d v2) (FP.i2d v3)) 4611686018427387904)), .second, .unset, .unset] [(.int ((6 : Int32) - (1 : Int32)))])) _
    rw [show ((6 : Int32) - (1 : Int32)) = (5 : Int32) from by decide]
    show Steps p.tables e below (T15.setTop (mkF m 194 #[.val (.int p0), .val (.int p1), .val (.int p2), .val (.int p3), .val (.int p4), .val (.int p5), .val (.int (6 : Int32)), .val (.int v0), .val (.int v1), .val (.int v2), .val (.int v3), .val (.int v4), .val (.int v5), .val (.ref b1), .val (.ref b8), .val (.double (FP.ddiv (FP.dadd (FP.i2d v2) (FP.i2d v3)) 4611686018427387904)), .second, .unset, .unset] [(.int (5 : Int32))])) _
    refine XS.iconst X15.here hx rfl (hb hby at_194) ?_
    show Steps p.tables e below (T15.setTop (mkF m 195 #[.val (.int p0), .val (.int p1), .val (.int p2), .val (.int p3), .val (.int p4), .val (.int p5), .val (.int (6 : Int32)), .val (.int v0), .val (.int v1), .val (.int v2), .val (.int v3), .val (.int v4), .val (.int v5), .val (.ref b1), .val (.ref b8), .val (.double (FP.ddiv (FP.dadd (FP.i2d v2) (FP.i2d v3)) 4611686018427387904)), .second, .unset, .unset] [(.int (2 : Int32)), (.int (5 : Int32))])) _
    refine XS.idiv X15.here hx rfl (hb hby at_195) rfl (by decide) ?_
    show Steps p.tables e below (T15.setTop (mkF m 196 #[.val (.int p0), .val (.int p1), .val (.int p2), .val (.int p3), .val (.int p4), .val (.int p5), .val (.int (6 : Int32)), .val (.int v0), .val (.int v1), .val (.int v2), .val (.int v3), .val (.int v4), .val (.int v5), .val (.ref b1), .val (.ref b8), .val (.double (FP.ddiv (FP.dadd (FP.i2d v2) (FP.i2d v3)) 4611686018427387904)), .second, .unset, .unset] [(.int ((5 : Int32) / (2 : Int32)))])) _
    rw [show ((5 : Int32) / (2 : Int32)) = (2 : Int32) from by decide]
    show Steps p.tables e below (T15.setTop (mkF m 196 #[.val (.int p0), .val (.int p1), .val (.int p2), .val (.int p3), .val (.int p4), .val (.int p5), .val (.int (6 : Int32)), .val (.int v0), .val (.int v1), .val (.int v2), .val (.int v3), .val (.int v4), .val (.int v5), .val (.ref b1), .val (.ref b8), .val (.double (FP.ddiv (FP.dadd (FP.i2d v2) (FP.i2d v3)) 4611686018427387904)), .second, .unset, .unset] [(.int (2 : Int32))])) _
    refine XS.istore X15.here hx rfl (hb hby at_196) rfl (l' := #[.val (.int p0), .val (.int p1), .val (.int p2), .val (.int p3), .val (.int p4), .val (.int p5), .val (.int (6 : Int32)), .val (.int v0), .val (.int v1), .val (.int v2), .val (.int v3), .val (.int v4), .val (.int v5), .val (.ref b1), .val (.ref b8), .val (.double (FP.ddiv (FP.dadd (FP.i2d v2) (FP.i2d v3)) 4611686018427387904)), .second, .val (.int (2 : Int32)), .unset]) rfl ?_
    show Steps p.tables e below (T15.setTop (mkF m 198 #[.val (.int p0), .val (.int p1), .val (.int p2), .val (.int p3), .val (.int p4), .val (.int p5), .val (.int (6 : Int32)), .val (.int v0), .val (.int v1), .val (.int v2), .val (.int v3), .val (.int v4), .val (.int v5), .val (.ref b1), .val (.ref b8), .val (.double (FP.ddiv (FP.dadd (FP.i2d v2) (FP.i2d v3)) 4611686018427387904)), .second, .val (.int (2 : Int32)), .unset] [])) _
    refine XS.iload X15.here hx rfl (hb hby at_198) rfl ?_
    show Steps p.tables e below (T15.setTop (mkF m 200 #[.val (.int p0), .val (.int p1), .val (.int p2), .val (.int p3), .val (.int p4), .val (.int p5), .val (.int (6 : Int32)), .val (.int v0), .val (.int v1), .val (.int v2), .val (.int v3), .val (.int v4), .val (.int v5), .val (.ref b1), .val (.ref b8), .val (.double (FP.ddiv (FP.dadd (FP.i2d v2) (FP.i2d v3)) 4611686018427387904)), .second, .val (.int (2 : Int32)), .unset] [(.int (6 : Int32))])) _
    refine XS.iconst X15.here hx rfl (hb hby at_200) ?_
    show Steps p.tables e below (T15.setTop (mkF m 201 #[.val (.int p0), .val (.int p1), .val (.int p2), .val (.int p3), .val (.int p4), .val (.int p5), .val (.int (6 : Int32)), .val (.int v0), .val (.int v1), .val (.int v2), .val (.int v3), .val (.int v4), .val (.int v5), .val (.ref b1), .val (.ref b8), .val (.double (FP.ddiv (FP.dadd (FP.i2d v2) (FP.i2d v3)) 4611686018427387904)), .second, .val (.int (2 : Int32)), .unset] [(.int (2 : Int32)), (.int (6 : Int32))])) _
    refine XS.idiv X15.here hx rfl (hb hby at_201) rfl (by decide) ?_
    show Steps p.tables e below (T15.setTop (mkF m 202 #[.val (.int p0), .val (.int p1), .val (.int p2), .val (.int p3), .val (.int p4), .val (.int p5), .val (.int (6 : Int32)), .val (.int v0), .val (.int v1), .val (.int v2), .val (.int v3), .val (.int v4), .val (.int v5), .val (.ref b1), .val (.ref b8), .val (.double (FP.ddiv (FP.dadd (FP.i2d v2) (FP.i2d v3)) 4611686018427387904)), .second, .val (.int (2 : Int32)), .unset] [(.int ((6 : Int32) / (2 : Int32)))])) _
    rw [show ((6 : Int32) / (2 : Int32)) = (3 : Int32) from by decide]
    show Steps p.tables e below (T15.setTop (mkF m 202 #[.val (.int p0), .val (.int p1), .val (.int p2), .val (.int p3), .val (.int p4), .val (.int p5), .val (.int (6 : Int32)), .val (.int v0), .val (.int v1), .val (.int v2), .val (.int v3), .val (.int v4), .val (.int v5), .val (.ref b1), .val (.ref b8), .val (.double (FP.ddiv (FP.dadd (FP.i2d v2) (FP.i2d v3)) 4611686018427387904)), .second, .val (.int (2 : Int32)), .unset] [(.int (3 : Int32))])) _
    refine XS.istore X15.here hx rfl (hb hby at_202) rfl (l' := #[.val (.int p0), .val (.int p1), .val (.int p2), .val (.int p3), .val (.int p4), .val (.int p5), .val (.int (6 : Int32)), .val (.int v0), .val (.int v1), .val (.int v2), .val (.int v3), .val (.int v4), .val (.int v5), .val (.ref b1), .val (.ref b8), .val (.double (FP.ddiv (FP.dadd (FP.i2d v2) (FP.i2d v3)) 4611686018427387904)), .second, .val (.int (2 : Int32)), .val (.int (3 : Int32))]) rfl ?_
    show Steps p.tables e below (T15.setTop (mkF m 204 #[.val (.int p0), .val (.int p1), .val (.int p2), .val (.int p3), .val (.int p4), .val (.int p5), .val (.int (6 : Int32)), .val (.int v0), .val (.int v1), .val (.int v2), .val (.int v3), .val (.int v4), .val (.int v5), .val (.ref b1), .val (.ref b8), .val (.double (FP.ddiv (FP.dadd (FP.i2d v2) (FP.i2d v3)) 4611686018427387904)), .second, .val (.int (2 : Int32)), .val (.int (3 : Int32))] [])) _
    refine XS.dload X15.here hx rfl (hb hby at_204) rfl ?_
    show Steps p.tables e below (T15.setTop (mkF m 206 #[.val (.int p0), .val (.int p1), .val (.int p2), .val (.int p3), .val (.int p4), .val (.int p5), .val (.int (6 : Int32)), .val (.int v0), .val (.int v1), .val (.int v2), .val (.int v3), .val (.int v4), .val (.int v5), .val (.ref b1), .val (.ref b8), .val (.double (FP.ddiv (FP.dadd (FP.i2d v2) (FP.i2d v3)) 4611686018427387904)), .second, .val (.int (2 : Int32)), .val (.int (3 : Int32))] [(.double (FP.ddiv (FP.dadd (FP.i2d v2) (FP.i2d v3)) 4611686018427387904))])) _
    refine X15.ldc2DoubleC hx hown (mvT hZ (hw _ (List.mem_of_getElem? (i := 9) rfl))) (g := (mkF m 206 #[.val (.int p0), .val (.int p1), .val (.int p2), .val (.int p3), .val (.int p4), .val (.int p5), .val (.int (6 : Int32)), .val (.int v0), .val (.int v1), .val (.int v2), .val (.int v3), .val (.int v4), .val (.int v5), .val (.ref b1), .val (.ref b8), .val (.double (FP.ddiv (FP.dadd (FP.i2d v2) (FP.i2d v3)) 4611686018427387904)), .second, .val (.int (2 : Int32)), .val (.int (3 : Int32))] [(.double (FP.ddiv (FP.dadd (FP.i2d v2) (FP.i2d v3)) 4611686018427387904))])) rfl (hb hby at_206) _ ?_
    show Steps p.tables e below (T15.setTop (mkF m 209 #[.val (.int p0), .val (.int p1), .val (.int p2), .val (.int p3), .val (.int p4), .val (.int p5), .val (.int (6 : Int32)), .val (.int v0), .val (.int v1), .val (.int v2), .val (.int v3), .val (.int v4), .val (.int v5), .val (.ref b1), .val (.ref b8), .val (.double (FP.ddiv (FP.dadd (FP.i2d v2) (FP.i2d v3)) 4611686018427387904)), .second, .val (.int (2 : Int32)), .val (.int (3 : Int32))] [(.double 4611686018427387904), (.double (FP.ddiv (FP.dadd (FP.i2d v2) (FP.i2d v3)) 4611686018427387904))])) _
    refine XS.dmulS X15.here hx rfl (hb hby at_209) rfl (own_n209e B2 B3) rfl ?_
    show Steps p.tables e below (T15.setTop (mkF m 210 #[.val (.int p0), .val (.int p1), .val (.int p2), .val (.int p3), .val (.int p4), .val (.int p5), .val (.int (6 : Int32)), .val (.int v0), .val (.int v1), .val (.int v2), .val (.int v3), .val (.int v4), .val (.int v5), .val (.ref b1), .val (.ref b8), .val (.double (FP.ddiv (FP.dadd (FP.i2d v2) (FP.i2d v3)) 4611686018427387904)), .second, .val (.int (2 : Int32)), .val (.int (3 : Int32))] [(.double (FP.dmul (FP.ddiv (FP.dadd (FP.i2d v2) (FP.i2d v3)) 4611686018427387904) 4611686018427387904))])) _
    refine XS.aload X15.here hx rfl (hb hby at_210) rfl rfl ?_
    show Steps p.tables e below (T15.setTop (mkF m 212 #[.val (.int p0), .val (.int p1), .val (.int p2), .val (.int p3), .val (.int p4), .val (.int p5), .val (.int (6 : Int32)), .val (.int v0), .val (.int v1), .val (.int v2), .val (.int v3), .val (.int v4), .val (.int v5), .val (.ref b1), .val (.ref b8), .val (.double (FP.ddiv (FP.dadd (FP.i2d v2) (FP.i2d v3)) 4611686018427387904)), .second, .val (.int (2 : Int32)), .val (.int (3 : Int32))] [(.ref b1), (.double (FP.dmul (FP.ddiv (FP.dadd (FP.i2d v2) (FP.i2d v3)) 4611686018427387904) 4611686018427387904))])) _
    refine XS.iload X15.here hx rfl (hb hby at_212) rfl ?_
    show Steps p.tables e below (T15.setTop (mkF m 214 #[.val (.int p0), .val (.int p1), .val (.int p2), .val (.int p3), .val (.int p4), .val (.int p5), .val (.int (6 : Int32)), .val (.int v0), .val (.int v1), .val (.int v2), .val (.int v3), .val (.int v4), .val (.int v5), .val (.ref b1), .val (.ref b8), .val (.double (FP.ddiv (FP.dadd (FP.i2d v2) (FP.i2d v3)) 4611686018427387904)), .second, .val (.int (2 : Int32)), .val (.int (3 : Int32))] [(.int (2 : Int32)), (.ref b1), (.double (FP.dmul (FP.ddiv (FP.dadd (FP.i2d v2) (FP.i2d v3)) 4611686018427387904) 4611686018427387904))])) _
    refine X15.iaload hx (j := (2 : Int32)) (v := (.int v2)) (by rw [e15]; exact Ar17.1) (State.isArrayOf_alike hZ.alike Ar17.2.1) Ar17.2.2 hin17 hat17 (g := (mkF m 214 #[.val (.int p0), .val (.int p1), .val (.int p2), .val (.int p3), .val (.int p4), .val (.int p5), .val (.int (6 : Int32)), .val (.int v0), .val (.int v1), .val (.int v2), .val (.int v3), .val (.int v4), .val (.int v5), .val (.ref b1), .val (.ref b8), .val (.double (FP.ddiv (FP.dadd (FP.i2d v2) (FP.i2d v3)) 4611686018427387904)), .second, .val (.int (2 : Int32)), .val (.int (3 : Int32))] [(.int (2 : Int32)), (.ref b1), (.double (FP.dmul (FP.ddiv (FP.dadd (FP.i2d v2) (FP.i2d v3)) 4611686018427387904) 4611686018427387904))])) rfl rfl (hb hby at_214) _ ?_
    show Steps p.tables e below (T15.setTop (mkF m 215 #[.val (.int p0), .val (.int p1), .val (.int p2), .val (.int p3), .val (.int p4), .val (.int p5), .val (.int (6 : Int32)), .val (.int v0), .val (.int v1), .val (.int v2), .val (.int v3), .val (.int v4), .val (.int v5), .val (.ref b1), .val (.ref b8), .val (.double (FP.ddiv (FP.dadd (FP.i2d v2) (FP.i2d v3)) 4611686018427387904)), .second, .val (.int (2 : Int32)), .val (.int (3 : Int32))] [(.int v2), (.double (FP.dmul (FP.ddiv (FP.dadd (FP.i2d v2) (FP.i2d v3)) 4611686018427387904) 4611686018427387904))])) _
    refine XS.aload X15.here hx rfl (hb hby at_215) rfl rfl ?_
    show Steps p.tables e below (T15.setTop (mkF m 217 #[.val (.int p0), .val (.int p1), .val (.int p2), .val (.int p3), .val (.int p4), .val (.int p5), .val (.int (6 : Int32)), .val (.int v0), .val (.int v1), .val (.int v2), .val (.int v3), .val (.int v4), .val (.int v5), .val (.ref b1), .val (.ref b8), .val (.double (FP.ddiv (FP.dadd (FP.i2d v2) (FP.i2d v3)) 4611686018427387904)), .second, .val (.int (2 : Int32)), .val (.int (3 : Int32))] [(.ref b1), (.int v2), (.double (FP.dmul (FP.ddiv (FP.dadd (FP.i2d v2) (FP.i2d v3)) 4611686018427387904) 4611686018427387904))])) _
    refine XS.iload X15.here hx rfl (hb hby at_217) rfl ?_
    show Steps p.tables e below (T15.setTop (mkF m 219 #[.val (.int p0), .val (.int p1), .val (.int p2), .val (.int p3), .val (.int p4), .val (.int p5), .val (.int (6 : Int32)), .val (.int v0), .val (.int v1), .val (.int v2), .val (.int v3), .val (.int v4), .val (.int v5), .val (.ref b1), .val (.ref b8), .val (.double (FP.ddiv (FP.dadd (FP.i2d v2) (FP.i2d v3)) 4611686018427387904)), .second, .val (.int (2 : Int32)), .val (.int (3 : Int32))] [(.int (3 : Int32)), (.ref b1), (.int v2), (.double (FP.dmul (FP.ddiv (FP.dadd (FP.i2d v2) (FP.i2d v3)) 4611686018427387904) 4611686018427387904))])) _
    refine X15.iaload hx (j := (3 : Int32)) (v := (.int v3)) (by rw [e15]; exact Ar18.1) (State.isArrayOf_alike hZ.alike Ar18.2.1) Ar18.2.2 hin18 hat18 (g := (mkF m 219 #[.val (.int p0), .val (.int p1), .val (.int p2), .val (.int p3), .val (.int p4), .val (.int p5), .val (.int (6 : Int32)), .val (.int v0), .val (.int v1), .val (.int v2), .val (.int v3), .val (.int v4), .val (.int v5), .val (.ref b1), .val (.ref b8), .val (.double (FP.ddiv (FP.dadd (FP.i2d v2) (FP.i2d v3)) 4611686018427387904)), .second, .val (.int (2 : Int32)), .val (.int (3 : Int32))] [(.int (3 : Int32)), (.ref b1), (.int v2), (.double (FP.dmul (FP.ddiv (FP.dadd (FP.i2d v2) (FP.i2d v3)) 4611686018427387904) 4611686018427387904))])) rfl rfl (hb hby at_219) _ ?_
    show Steps p.tables e below (T15.setTop (mkF m 220 #[.val (.int p0), .val (.int p1), .val (.int p2), .val (.int p3), .val (.int p4), .val (.int p5), .val (.int (6 : Int32)), .val (.int v0), .val (.int v1), .val (.int v2), .val (.int v3), .val (.int v4), .val (.int v5), .val (.ref b1), .val (.ref b8), .val (.double (FP.ddiv (FP.dadd (FP.i2d v2) (FP.i2d v3)) 4611686018427387904)), .second, .val (.int (2 : Int32)), .val (.int (3 : Int32))] [(.int v3), (.int v2), (.double (FP.dmul (FP.ddiv (FP.dadd (FP.i2d v2) (FP.i2d v3)) 4611686018427387904) 4611686018427387904))])) _
    refine XS.iadd X15.here hx rfl (hb hby at_220) rfl ?_
    show Steps p.tables e below (T15.setTop (mkF m 221 #[.val (.int p0), .val (.int p1), .val (.int p2), .val (.int p3), .val (.int p4), .val (.int p5), .val (.int (6 : Int32)), .val (.int v0), .val (.int v1), .val (.int v2), .val (.int v3), .val (.int v4), .val (.int v5), .val (.ref b1), .val (.ref b8), .val (.double (FP.ddiv (FP.dadd (FP.i2d v2) (FP.i2d v3)) 4611686018427387904)), .second, .val (.int (2 : Int32)), .val (.int (3 : Int32))] [(.int (v2 + v3)), (.double (FP.dmul (FP.ddiv (FP.dadd (FP.i2d v2) (FP.i2d v3)) 4611686018427387904) 4611686018427387904))])) _
    refine XS.i2dS X15.here hx rfl (hb hby at_221) rfl rfl ?_
    show Steps p.tables e below (T15.setTop (mkF m 222 #[.val (.int p0), .val (.int p1), .val (.int p2), .val (.int p3), .val (.int p4), .val (.int p5), .val (.int (6 : Int32)), .val (.int v0), .val (.int v1), .val (.int v2), .val (.int v3), .val (.int v4), .val (.int v5), .val (.ref b1), .val (.ref b8), .val (.double (FP.ddiv (FP.dadd (FP.i2d v2) (FP.i2d v3)) 4611686018427387904)), .second, .val (.int (2 : Int32)), .val (.int (3 : Int32))] [(.double (FP.i2d (v2 + v3))), (.double (FP.dmul (FP.ddiv (FP.dadd (FP.i2d v2) (FP.i2d v3)) 4611686018427387904) 4611686018427387904))])) _
    refine XS.dcmpS X15.here hx rfl (hb hby at_222) rfl (v := (0 : Int32)) (own_even B2 B3) ?_
    show Steps p.tables e below (T15.setTop (mkF m 223 #[.val (.int p0), .val (.int p1), .val (.int p2), .val (.int p3), .val (.int p4), .val (.int p5), .val (.int (6 : Int32)), .val (.int v0), .val (.int v1), .val (.int v2), .val (.int v3), .val (.int v4), .val (.int v5), .val (.ref b1), .val (.ref b8), .val (.double (FP.ddiv (FP.dadd (FP.i2d v2) (FP.i2d v3)) 4611686018427387904)), .second, .val (.int (2 : Int32)), .val (.int (3 : Int32))] [(.int (0 : Int32))])) _
    refine XS.ifNo X15.here hx rfl (hb hby at_223) rfl ((if0 _ _).trans (teq (rfl : (0 : Int32) = (0 : Int32))).2) ?_
    show Steps p.tables e below (T15.setTop (mkF m 226 #[.val (.int p0), .val (.int p1), .val (.int p2), .val (.int p3), .val (.int p4), .val (.int p5), .val (.int (6 : Int32)), .val (.int v0), .val (.int v1), .val (.int v2), .val (.int v3), .val (.int v4), .val (.int v5), .val (.ref b1), .val (.ref b8), .val (.double (FP.ddiv (FP.dadd (FP.i2d v2) (FP.i2d v3)) 4611686018427387904)), .second, .val (.int (2 : Int32)), .val (.int (3 : Int32))] [])) _
    refine XS.iconst X15.here hx rfl (hb hby at_226) ?_
    show Steps p.tables e below (T15.setTop (mkF m 227 #[.val (.int p0), .val (.int p1), .val (.int p2), .val (.int p3), .val (.int p4), .val (.int p5), .val (.int (6 : Int32)), .val (.int v0), .val (.int v1), .val (.int v2), .val (.int v3), .val (.int v4), .val (.int v5), .val (.ref b1), .val (.ref b8), .val (.double (FP.ddiv (FP.dadd (FP.i2d v2) (FP.i2d v3)) 4611686018427387904)), .second, .val (.int (2 : Int32)), .val (.int (3 : Int32))] [(.int (1 : Int32))])) _
    refine XS.goto X15.here hx rfl (pc0 := 227) (pc' := 231) rfl (hb hby at_227) (by decide) (by decide) ?_
    show Steps p.tables e below (T15.setTop (mkF m 231 #[.val (.int p0), .val (.int p1), .val (.int p2), .val (.int p3), .val (.int p4), .val (.int p5), .val (.int (6 : Int32)), .val (.int v0), .val (.int v1), .val (.int v2), .val (.int v3), .val (.int v4), .val (.int v5), .val (.ref b1), .val (.ref b8), .val (.double (FP.ddiv (FP.dadd (FP.i2d v2) (FP.i2d v3)) 4611686018427387904)), .second, .val (.int (2 : Int32)), .val (.int (3 : Int32))] [(.int (1 : Int32))])) _
    exact retN X15 hx (t := .boolean) Bd.returns (by simp) (hb hby at_231) hr
  · show Q_rm0_6 Z p0 p1 p2 p3 p4 p5 v0 v1 v2 v3 v4 v5 h0 n0 _ T15.heap _
    rw [e15]
    exact ⟨rfl, N15⟩
set_option maxRecDepth 65536 in
set_option maxHeartbeats 40000000 in
theorem rm0 (l : Launch) (Z : State) (a0 : Array Value) (hw : ∀ d ∈ tables_1, d.before a0 Z = true) (ws : List Jvm.Cond) (p0 : Int32) (p1 : Int32) (p2 : Int32) (p3 : Int32) (p4 : Int32) (p5 : Int32) (h0 : Heap) (n0 : Nat) (Z0 : n0 ≤ h0.size) :
    MetFree l x (head1 (Jvm.Cond.code x code maxLocals ret :: ws) room_1) (fun a U => a = #[(.int p0), (.int p1), (.int p2), (.int p3), (.int p4), (.int p5)] ∧ Z.Warmed39 U.vm ∧ U.heap = h0) (fun _ _ _ _ _ => True) (fun _ U o U' => ∃ v L, o = .returned v ∧ (v = some (.int (1 : Int32)) ∧ Fr n0 L) ∧ FrameEnd U o U' L room_1.cells room_1.slots) := by
  rcases own_n p0 with hn | hn | hn | hn | hn | hn
  · exact rm0_1 l Z a0 hw ws p0 p1 p2 p3 p4 p5 _ _ _ _ _ _ h0 n0 Z0 hn rfl rfl rfl rfl rfl rfl
  · exact rm0_2 l Z a0 hw ws p0 p1 p2 p3 p4 p5 _ _ _ _ _ _ h0 n0 Z0 hn rfl rfl rfl rfl rfl rfl
  · exact rm0_3 l Z a0 hw ws p0 p1 p2 p3 p4 p5 _ _ _ _ _ _ h0 n0 Z0 hn rfl rfl rfl rfl rfl rfl
  · exact rm0_4 l Z a0 hw ws p0 p1 p2 p3 p4 p5 _ _ _ _ _ _ h0 n0 Z0 hn rfl rfl rfl rfl rfl rfl
  · exact rm0_5 l Z a0 hw ws p0 p1 p2 p3 p4 p5 _ _ _ _ _ _ h0 n0 Z0 hn rfl rfl rfl rfl rfl rfl
  · exact rm0_6 l Z a0 hw ws p0 p1 p2 p3 p4 p5 _ _ _ _ _ _ h0 n0 Z0 hn rfl rfl rfl rfl rfl rfl
set_option maxRecDepth 65536 in
set_option maxHeartbeats 40000000 in
theorem comes_1 {Post : Tables → Env → Array Value → State → Outcome → State → Prop} (hpost : ∀ tb e args s v u, (limb_1_1.after args s (.returned v) u = true ∧ limb_1_2.after args s (.returned v) u = true ∧ True) → FrameEnd s (.returned v) u (Jvm.fieldLocs frame_1_writes args s ++ Jvm.arrayLocs frame_1_arrays args s ++ Jvm.staticLocs frame_1_statics s) 16 128 → Post tb e args s (.returned v) u) :
    ArmFor flags0 classFile x code maxLocals ret World_1 tables_1 room_1 Calls_1 rest_1 Pre_1 Post := by
  intro l hfl _ _ p e ha hc hk s m args below hf hA hF happ hP
  obtain ⟨hcalls, hrest, hpre⟩ := hP
  obtain ⟨-, -, -, hnamed, -, -, -, hat⟩ := (Spec.applies_iff hf).mp happ
  obtain ⟨hg, hn⟩ := and_e (Cond.before_iff.mp (show (Jvm.Cond.and given_1 narrow_1).before args s = true from hpre))
  obtain ⟨hc0, hr0⟩ := and_e hg
  obtain ⟨hv0, hr1⟩ := and_e hr0
  obtain ⟨hv1, hr2⟩ := and_e hr1
  obtain ⟨hv2, hr3⟩ := and_e hr2
  obtain ⟨hv3, hr4⟩ := and_e hr3
  obtain ⟨hv4, hr5⟩ := and_e hr4
  have hv5 := hr5
  obtain ⟨w0, w1, w2, w3, w4, w5, rfl⟩ : ∃ w0 w1 w2 w3 w4 w5 : Value, args = #[w0, w1, w2, w3, w4, w5] := by
    have hs : args.size = 6 := by simpa [Cond.value, given_1] using hc0
    obtain ⟨L⟩ := args
    match L, hs with
    | [w0, w1, w2, w3, w4, w5], _ => exact ⟨w0, w1, w2, w3, w4, w5, rfl⟩
  have hw := fun d (hd : d ∈ tables_1) => atoms_spec (ws := Jvm.Cond.code x code maxLocals ret :: tables_1) hat d (List.mem_cons_of_mem _ hd)
  obtain ⟨i0, ei0⟩ := is_v hv0
  obtain rfl : w0 = (.int i0) := Option.some.inj ei0
  obtain ⟨i1, ei1⟩ := is_v hv1
  obtain rfl : w1 = (.int i1) := Option.some.inj ei1
  obtain ⟨i2, ei2⟩ := is_v hv2
  obtain rfl : w2 = (.int i2) := Option.some.inj ei2
  obtain ⟨i3, ei3⟩ := is_v hv3
  obtain rfl : w3 = (.int i3) := Option.some.inj ei3
  obtain ⟨i4, ei4⟩ := is_v hv4
  obtain rfl : w4 = (.int i4) := Option.some.inj ei4
  obtain ⟨i5, ei5⟩ := is_v hv5
  obtain rfl : w5 = (.int i5) := Option.some.inj ei5
  obtain ⟨n, o, h1, h2, h3, _, L, rfl, ⟨rfl, N⟩, hq⟩ := rm0 l s _ hw tables_1 i0 i1 i2 i3 i4 i5 s.heap s.heap.size (Nat.le_refl _) p e ha hc hk s m _ below hf ((Spec.applies_iff_loose hf).mp happ).1 ⟨rfl, State.Warmed39.refl s, rfl⟩ trivial
  refine ⟨n, _, h1, h2, h3, hpost _ _ _ _ _ _ ⟨Cond.after_iff.mpr rfl, Cond.after_iff.mpr (eq_i res_at (Term.int_eval (1)) rfl), trivial⟩ ⟨hq.1, hq.2.1, (hq.2.2.sift fun y hy => Or.inr (N y hy)).mono (by decide) (by decide)⟩⟩
theorem main_1_1 : Claimed_1_1 := comes_1 fun _ _ _ _ _ _ h hF => ⟨h.1, hF⟩
theorem main_1_2 : Claimed_1_2 := comes_1 fun _ _ _ _ _ _ h hF => ⟨h.2.1, hF⟩
end Jvm.Pilot.@@N@@
namespace Jvm.Pilot.@@N@@
open Jvm Jvm.ClassFile Sem Op Lib Jvm.Free Jvm.Stand Jvm.Pilot.@@N@@.Jvm.D
/-! MADE BY PROGRAM (witnessworld.py) out of the Statement's table words and the real class files: 12 classes; the members and pool entries that the words name. The judged class is class 1, her method 1. -/
namespace start1
open Jvm.ClassFile
def u (s : String) : CpInfo := .utf8 (stringToUtf16 s)
/-- a pool by its gaps: so many unusable entries, then the entry; so many at the end -/
def gap : Nat → List CpInfo → List CpInfo
  | 0, r => r
  | n + 1, r => .unusable :: gap n r
def poolList (es : List (Nat × CpInfo)) (last : Nat) : List CpInfo := es.foldr (fun e r => gap e.1 (e.2 :: r)) (gap last [])
def pool (es : List (Nat × CpInfo)) (last : Nat) : Array CpInfo := ⟨poolList es last⟩
def fileOf (pool : Array CpInfo) (this : Nat) (attrs : Array Attribute := #[]) (ms : Array MethodInfo := #[]) (fl : Nat := 33) (sup : Nat := 0) (ifs : Array Nat := #[]) (fds : Array FieldInfo := #[]) : ClassFile where
  minorVersion := 0
  majorVersion := 65
  constantPool := pool
  accessFlags := fl
  thisClass := this
  superClass := sup
  interfaces := ifs
  fields := fds
  methods := ms
  attributes := attrs
def plain (name : String) (sup : Option ClassId) : Class where
  name := name
  kind := .ordinary
  loader := none
  accessFlags := 33
  super := sup
  interfaces := #[]
  cf := none
  fields := #[]
  methods := #[]
  instanceTypes := #[]
  staticTypes := #[]
  resolved := #[]
  callSites := []
  init := .initialized
  statics := none
  mirror := none

def pool0 : Array CpInfo := pool [(5, u "<init>"), (0, u "()V"), (1, .class_ 10), (1, u "java/lang/Object")] 113

def k0m0 : Method := { name := "<init>", desc := "()V", sig := { parameters := [], returnType := none }, accessFlags := 1, code := none }
/-- java/lang/Object -/
def k0 : Class := { plain "java/lang/Object" none with
  accessFlags := 33
  interfaces := #[]
  cf := some (fileOf pool0 8 #[] #[{ accessFlags := 1, nameIndex := 5, descriptorIndex := 6, attributes := #[] }] 33 0 #[] #[])
  fields := #[]
  methods := #[k0m0]
  instanceTypes := #[]
  staticTypes := #[]
  resolved := Array.replicate 124 none
  statics := none }

def pool1 : Array CpInfo := pool [(2, .class_ 4), (1, u "java/lang/Object"), (0, u "<init>"), (0, u "()V"), (0, .integer 1048575), (0, .integer 524288), (0, .integer 65535), (0, .methodref 11 12), (0, .class_ 13), (0, .nameAndType 14 15), (0, u "parkline/scenario/Bench"), (0, u "median"), (0, u "([D)D"), (0, .double 4611686018427387904), (1, .class_ 19), (0, u "parkline/scenario/BenchMedianPinLaw"), (2, u "law"), (0, u "(IIIIII)Z")] 7

def k1m0 : Method := { name := "<init>", desc := "()V", sig := { parameters := [], returnType := none }, accessFlags := 1, code := none }
def k1c1 : Code := { maxStack := 5, maxLocals := 19, code := code, exceptionTable := #[], attributes := #[] }
def k1m1 : Method := { name := "law", desc := "(IIIIII)Z", sig := { parameters := [.int, .int, .int, .int, .int, .int], returnType := some .boolean }, accessFlags := 9, code := some k1c1 }
/-- parkline/scenario/BenchMedianPinLaw -/
def k1 : Class := { plain "parkline/scenario/BenchMedianPinLaw" (some 0) with
  accessFlags := 49
  interfaces := #[]
  cf := some (fileOf pool1 18 #[] #[{ accessFlags := 1, nameIndex := 5, descriptorIndex := 6, attributes := #[] }, { accessFlags := 9, nameIndex := 22, descriptorIndex := 23, attributes := #[] }] 49 2 #[] #[])
  fields := #[]
  methods := #[k1m0, k1m1]
  instanceTypes := #[]
  staticTypes := #[]
  resolved := Array.replicate 31 none
  statics := none }

def pool2 : Array CpInfo := pool [(1, .class_ 2), (0, u "parkline/scenario/Scenario"), (0, .class_ 4), (0, u "java/lang/Object"), (11, .class_ 17), (0, u "parkline/scenario/Scenario$Trial")] 2

/-- parkline/scenario/Scenario -/
def k2 : Class := { plain "parkline/scenario/Scenario" (some 0) with
  accessFlags := 1536
  interfaces := #[]
  cf := some (fileOf pool2 1 #[.nestMembers #[16]] #[] 1536 3 #[] #[])
  fields := #[]
  methods := #[]
  instanceTypes := #[]
  staticTypes := #[]
  resolved := Array.replicate 20 none
  statics := none }

def pool3 : Array CpInfo := pool [(2, .class_ 4), (1, u "java/lang/Object"), (0, u "<init>"), (0, u "()V"), (35, .class_ 44), (1, u "parkline/scenario/Bench"), (0, u "median"), (0, u "([D)D"), (32, .double 4611686018427387904), (10, .class_ 91), (0, u "parkline/scenario/Bench$Stopwatch"), (22, .class_ 115), (0, u "parkline/scenario/Bench$Pass"), (1, .class_ 119), (1, u "parkline/scenario/Bench$Section"), (49, .class_ 171), (1, u "parkline/scenario/Bench$Mode"), (68, .class_ 241), (0, u "parkline/scenario/Scenario"), (0, u "BARE_DIGITS"), (0, u "I"), (30, .class_ 275), (0, u "parkline/scenario/Bench$MonitorSection"), (0, .class_ 277), (0, u "parkline/scenario/Bench$MutexSection")] 50

def k3m0 : Method := { name := "<init>", desc := "()V", sig := { parameters := [], returnType := none }, accessFlags := 0, code := none }
def k3c1 : Code := { maxStack := 4, maxLocals := 2, code := prog_17_method_6_code, exceptionTable := #[], attributes := #[] }
def k3m1 : Method := { name := "median", desc := "([D)D", sig := { parameters := [(.array .double)], returnType := some .double }, accessFlags := 8, code := some k3c1 }
/-- parkline/scenario/Bench -/
def k3 : Class := { plain "parkline/scenario/Bench" (some 0) with
  accessFlags := 48
  interfaces := #[2]
  cf := some (fileOf pool3 42 #[.nestMembers #[90, 274, 276, 117, 169, 114]] #[{ accessFlags := 0, nameIndex := 5, descriptorIndex := 6, attributes := #[] }, { accessFlags := 8, nameIndex := 45, descriptorIndex := 46, attributes := #[] }] 48 2 #[240] #[{ accessFlags := 26, nameIndex := 242, descriptorIndex := 243, attributes := #[] }])
  fields := #[{ name := "BARE_DIGITS", type := .int, accessFlags := 26, slot := 0, constantValue := 0 }]
  methods := #[k3m0, k3m1]
  instanceTypes := #[]
  staticTypes := #[.int]
  resolved := Array.replicate 328 none
  statics := none }

def pool4 : Array CpInfo := pool [(1, u "java/lang/Cloneable"), (0, .class_ 1), (0, u "java/lang/Object"), (0, .class_ 3)] 3

/-- java/lang/Cloneable -/
def k4 : Class := { plain "java/lang/Cloneable" (some 0) with
  accessFlags := 1537
  interfaces := #[]
  cf := some (fileOf pool4 2 #[] #[] 1537 4 #[] #[])
  fields := #[]
  methods := #[]
  instanceTypes := #[]
  staticTypes := #[]
  resolved := Array.replicate 8 none
  statics := none }

def pool5 : Array CpInfo := pool [(1, u "java/io/Serializable"), (0, .class_ 1), (0, u "java/lang/Object"), (0, .class_ 3)] 3

/-- java/io/Serializable -/
def k5 : Class := { plain "java/io/Serializable" (some 0) with
  accessFlags := 1537
  interfaces := #[]
  cf := some (fileOf pool5 2 #[] #[] 1537 4 #[] #[])
  fields := #[]
  methods := #[]
  instanceTypes := #[]
  staticTypes := #[]
  resolved := Array.replicate 8 none
  statics := none }

/-- the primitive byte -/
def k6 : Class := { plain "byte" none with kind := .primitive 'B', accessFlags := 0x411 }
/-- [B -/
def k7 : Class := { plain "[B" (some 0) with kind := .array 6 .byte, interfaces := #[4, 5], accessFlags := 1041 }

/-- the primitive double -/
def k8 : Class := { plain "double" none with kind := .primitive 'D', accessFlags := 0x411 }
/-- [D -/
def k9 : Class := { plain "[D" (some 0) with kind := .array 8 .double, interfaces := #[4, 5], accessFlags := 1041 }

/-- the primitive int -/
def k10 : Class := { plain "int" none with kind := .primitive 'I', accessFlags := 0x411 }
/-- [I -/
def k11 : Class := { plain "[I" (some 0) with kind := .array 10 .int, interfaces := #[4, 5], accessFlags := 1041 }

def heap : Heap := #[]
def classes : Array Class := #[k0, k1, k2, k3, k4, k5, k6, k7, k8, k9, k10, k11]
def interned : List (Array UInt16 × Addr) := []
def slotsUsed : Nat := 0
def theMethod : MethodId := ⟨1, 1⟩
def args0 : Array Value := #[.int 5, .int 7, .int 9, .int 1, .int 0, .int 3]
def aboutOver (below : List Frame) : State where
  vm := { classes := classes, interned := interned.toArray }
  heap := heap
  slotsUsed := slotsUsed
  threads := #[{ frames := .invoking theMethod args0 :: below }]
def below0 : List Frame := [.native { method := ⟨0, 0⟩, args := #[] }]
def about1 : State := aboutOver below0
def p0 : Program := .bare "" "" ""
def e0 : Env := launch0.env 0 0 0
theorem w_frames : about1.frames = Frame.invoking theMethod args0 :: below0 := rfl
set_option maxRecDepth 65536 in
theorem w_args : argsFit about1.vm theMethod args0 = true := by decide +kernel
set_option maxRecDepth 65536 in
theorem w_heap : heapFits about1 = true := by decide +kernel
set_option maxRecDepth 65536 in
theorem w_runnable : about1.curStatus? = some .runnable := by decide +kernel
set_option maxRecDepth 65536 in
theorem w_alone : about1.alone = true := by decide +kernel
set_option maxRecDepth 65536 in
theorem w_named : about1.methodNamed? x = some theMethod := by decide +kernel
set_option maxRecDepth 65536 in
theorem w_hears : about1.hears theMethod below0 = true := by decide +kernel
set_option maxRecDepth 65536 in
theorem w_ripe : about1.ripe theMethod args0 below0 = true := by decide +kernel
theorem w_running : about1.status = .running := rfl
set_option maxRecDepth 65536 in
theorem w_room : about1.hasRoom e0.platform room_1 = true :=
  launch0.hasRoom_least _ room_1 (by decide +kernel) (by decide +kernel) (by decide +kernel) (by decide +kernel) (by decide +kernel) (by decide +kernel)
theorem allAtoms_all (ts : List Jvm.Cond) (a : Array Jvm.Value) (st : Jvm.State) : (allAtoms ts).before a st = ts.all (fun c => c.before a st) := by
  induction ts with
  | nil => rfl
  | cons c t ih =>
    show (Jvm.Cond.and c (allAtoms t)).before a st = _
    rw [Jvm.Cond.before_and, ih, List.all_cons]
def words1 : List Jvm.Cond := Jvm.Cond.code x code maxLocals ret :: tables_1
/-- a 'code' word, met by the world's own term for the bytes: nothing is compared byte by byte -/
theorem code_word {y : MethodName} {bytes : ByteArray} {mx : Nat} {rt : Option FieldType} {a : Array Value} {s : State} {m : MethodId} {meth : Method} {c : Code} (h1 : s.methodNamed? y = some m) (h2 : s.vm.method? m = some meth) (h3 : meth.code = some c) (h4 : c.code = bytes)
    (h5 : (c.maxLocals == mx && c.exceptionTable.isEmpty && decide (c.maxStack ≤ mostOperands) && decide (meth.sig.returnType = rt) && !meth.locks && decide (parseMethodDescriptor y.desc = some meth.sig)) = true) : (Jvm.Cond.code y bytes mx rt).before a s = true := by
  simp only [Bool.and_eq_true, beq_iff_eq, Bool.not_eq_true', decide_eq_true_eq] at h5
  obtain ⟨⟨⟨⟨⟨g1, g2⟩, g3⟩, g4⟩, g5⟩, g6⟩ := h5
  simp [Cond.before, Cond.holds, Cond.value, h1, h2, h3, h4, g1, g2, g3, g4, g5, g6]
def isCode : Jvm.Cond → Bool
  | .code _ _ _ _ => true
  | _ => false
theorem all_split {L : List Jvm.Cond} {P : Jvm.Cond → Bool} (h1 : L.all (fun c => isCode c || P c) = true) (h2 : ∀ c ∈ L.filter isCode, P c = true) : L.all P = true := by
  refine List.all_eq_true.mpr fun c hc => ?_
  have h := List.all_eq_true.mp h1 c hc
  rcases Bool.eq_false_or_eq_true (isCode c) with hi | hi
  · exact h2 c (List.mem_filter.mpr ⟨hc, hi⟩)
  · simpa [hi] using h
set_option maxRecDepth 65536 in
theorem w_c0 : (Jvm.Cond.code x code maxLocals ret).before args0 about1 = true := code_word (m := ⟨1, 1⟩) (meth := k1m1) (c := k1c1) (by decide +kernel) rfl rfl rfl (by decide +kernel)
set_option maxRecDepth 65536 in
theorem w_c1 : (Jvm.Cond.code ({ cls := "parkline/scenario/Bench", name := "median", desc := "([D)D" } : Jvm.MethodName) prog_17_method_6_code (2 : Nat) (Option.some Jvm.ClassFile.FieldType.double)).before args0 about1 = true := code_word (m := ⟨3, 1⟩) (meth := k3m1) (c := k3c1) (by decide +kernel) rfl rfl rfl (by decide +kernel)
def codes1 : List Jvm.Cond := [Jvm.Cond.code x code maxLocals ret, Jvm.Cond.code ({ cls := "parkline/scenario/Bench", name := "median", desc := "([D)D" } : Jvm.MethodName) prog_17_method_6_code (2 : Nat) (Option.some Jvm.ClassFile.FieldType.double)]
set_option maxRecDepth 65536 in
theorem codes_eq : words1.filter isCode = codes1 := rfl
theorem w_codes : ∀ c ∈ words1.filter isCode, c.before args0 about1 = true := by
  rw [codes_eq]
  intro c hc
  simp only [codes1, List.mem_cons, List.not_mem_nil, or_false] at hc
  rcases hc with rfl | rfl
  · exact w_c0
  · exact w_c1
set_option maxRecDepth 65536 in
theorem w_t1 : words1.all (fun c => isCode c || c.before args0 about1) = true := by decide +kernel
theorem w_tables : (allAtoms (Jvm.Cond.code x code maxLocals ret :: tables_1)).before args0 about1 = true := by
  rw [allAtoms_all]
  show words1.all (fun c => c.before args0 about1) = true
  refine all_split ?_ w_codes
  rw [w_t1]
set_option maxRecDepth 65536 in
theorem w_case : (Jvm.Cond.and given_1 narrow_1).before args0 about1 = true := by decide +kernel
theorem w_applies : (headSpec (Jvm.Cond.code x code maxLocals ret :: tables_1) room_1).applies x e0.platform about1 = true :=
  (Spec.applies_iff w_frames).mpr ⟨w_running, w_runnable, w_alone, w_named, w_hears, w_ripe, w_room, w_tables⟩
theorem atStart : AtStart classFile x code maxLocals ret World_1 tables_1 room_1 Calls_1 rest_1 Pre_1 launch0 p0 e0 about1 theMethod args0 below0 :=
  ⟨lists_1, trivial, launch0.admits_env _ _ _, launch0.least_env, fairChoices_fair.cas, fairChoices_fair.clock, w_frames, w_args, w_heap, w_applies, trivial, trivial, w_case⟩
end start1
theorem witness_1 : WitnessClaimed_1 := ⟨start1.p0, start1.e0, start1.about1, start1.theMethod, start1.args0, start1.below0, start1.atStart⟩
end Jvm.Pilot.@@N@@
