import JvmDerived
import JvmDerived.Pilot.@@N@@Statement
import JvmDerived.Pilot.@@N@@Code
set_option linter.unusedVariables false
set_option linter.unusedSimpArgs false
namespace Jvm.RoadKit
open Sem ClassFile Op Lib Jvm.Stand Jvm.Free Jvm.LawKit
section New
variable {p : Program} {l : Launch} {e : Env} {R : Room} {s : State} {m : MethodId} {args : Array Value} {below : List Frame} {meth : Method} {c : Code} {T : State} {locs : List Loc} {cells slots : Nat}
theorem retI (X : Stand p l e R s m args below meth c T locs cells slots) (hx : p.tables.exec = Jvm.exec) {pc : Nat} {Ls : Array Slot} {z : Int32} {rest : List Value} (hret : meth.sig.returnType = some .int) (hd : decode c.code pc = .ok (.ireturn, 1)) {fs : List Frame}
    (hl : ∀ (f : JFrame) (acts : List Action), f.method = m → f.locked = none → f.entered = [] → (doReturn e (T.setTop f) acts (some (.int z))).1 = T.setFrames fs) : Steps p.tables e below (T.setTop (mkF m pc Ls (.int z :: rest))) (T.setFrames fs) := by
  have hm' : T.vm.method? m = some meth := X.method'
  have hn : narrow .int (.int z) = .int z := rfl
  show Steps p.tables e below (T.setTop { method := m, pc := pc, locals := Ls, stack := _ :: rest, locked := none }) _
  jvm_step X.here [X.here.top, hx, hd, hm', hret, hn]
  first | (intro acts; rw [hl _ acts rfl rfl rfl]) | rw [hl _ _ rfl rfl rfl]
  exact Steps.refl _
end New
end Jvm.RoadKit
namespace Jvm.RoadKit
open Sem ClassFile Op Lib Jvm.Stand Jvm.Free Jvm.LawKit
section Own
variable {p : Program} {l : Launch} {e : Env} {R : Room} {s : State} {m : MethodId} {args : Array Value} {below : List Frame} {meth : Method} {c : Code} {T : State} {locs : List Loc} {cells slots : Nat} {Z : State} {h h' : Heap}
theorem Sta_keep {C n d : String} {w : Value} {ws : List Addr} (F : Sta Z h C n d w) (K : Keep h h' ws) (q : ∀ x ∈ ws, ∀ cell : Cell, h[x]? = some cell → cell.vm.isStatics = false) : Sta Z h' C n d w := by
  obtain ⟨cf, i, k, f, st, cell, h1, h2, h3, h4, h5, h6, h7⟩ := F
  exact ⟨cf, i, k, f, st, cell, h1, h2, h3, h4, K.2.1 st cell h5 (fun z => by rw [q st z cell h5] at h6; cases h6), h6, h7⟩
theorem own_bits (X : Stand p l e R s m args below meth c T locs cells slots) (hx : p.tables.exec = Jvm.exec) (hZ : Z.Warmed39 s.vm) {a0 : Array Value} {own : String} {index : Nat} (hown : s.vm.findClass own = some m.cls)
    (w1 : (Cond.methodLink own index Jvm.Free.NT.doubleBitsN).before a0 Z = true) (w2 : (Cond.static Jvm.Free.NT.doubleBitsN).before a0 Z = true) (w3 : (Cond.initialized "java/lang/Double").before a0 Z = true) (w4 : (Cond.native Jvm.Free.NT.doubleBitsN).before a0 Z = true)
    (eT : T.heap = h) {g : JFrame} (hg : g.method = m) (hsize : g.locals.size = c.maxLocals) {b : UInt64} {rest : List Value} (hst : g.stack = .double b :: rest) {W : Nat} (hW : 2 * g.monitorRoom + (rest.map fun v => v.category).sum ≤ W)
    (hd : decode c.code g.pc = .ok (.invokestatic index, 3)) (hf : 1 ≤ R.frames) (hlo : W + 15 ≤ R.locals) :
    ∃ T', Stand p l e R s m args below meth c T' locs cells slots ∧ T'.heap = h ∧ ∀ target, Steps p.tables e below (T'.setTop { g with pc := g.pc + 3, stack := .long b.toInt64 :: rest }) target → Steps p.tables e below (T.setTop g) target := by
  have c4 : (Cond.native Jvm.Free.NT.doubleBitsN).before args s = true := mvT hZ w4
  obtain ⟨mk, methM, hnamed, hmethM, -, -, -, hsigM⟩ := Cond.native_spec c4
  obtain ⟨v, vm1, B, hW1, X', ⟨hB, hv1⟩, st⟩ := Stand.staticBack (args := args) X hx hown (mvT hZ w1) (mvT hZ w2) (mvT hZ w3) hnamed hmethM hsigM (by decide) (Jvm.Free.NT.DoubleBits.pays (W := W) c4 (mvT hZ w2) hf hlo) hg hsize (Steps.refl _) (argsL := [.double b]) (rest := rest) (fun sig hs => by rw [show parseMethodDescriptor Jvm.Free.NT.doubleBitsN.desc = some ⟨[.double], some .long⟩ by decide +kernel] at hs; cases hs; rfl) hst hW hd (fun vm1 _ => ⟨b, rfl⟩)
  have hv2 := hv1 b rfl
  subst hv2 hB
  exact ⟨_, X', eT, fun target k => st.trans k⟩
end Own
end Jvm.RoadKit

namespace Jvm.RoadKit
open Sem ClassFile Op Lib Bundle Jvm.Stand Jvm.Free Jvm.LawKit Jvm.Free.SB Jvm.Free.SBG
/-- a String whose bytes aren't laid yet is no booked one's -/
theorem own_safe {Z : State} {EL : List (String × Nat)} {vm : Vm} {h : Heap} {x : Addr} (hal : Z.vm.Alike vm) (E : Exa Z h x "java/lang/String") (F : Fld Z h x "java/lang/String" "value" "[B" .null) : Safe Z EL vm h x := by
  rintro ⟨p, -, u, a, -, q, -, S, e | e⟩
  · obtain ⟨cS, ⟨⟨s1, s2, s3, ⟨cv, kv, iv, s4, s5⟩, -, s6, -, s8, -⟩, -⟩, -⟩ := S
    obtain ⟨kz, z4⟩ := ff_back (U := Wst Z vm h) hal s4
    have G : Fld Z h q.sa "java/lang/String" "value" "[B" (.ref q.sd) := ⟨q.sC, cv, kz, iv, q.fSV, s1, z4, s6, s2, s3, by rw [← hal.assignable]; exact s5, s8⟩
    exact F.ne G nofun e
  · have hd : h[q.sd]? = some q.SA := S.hd
    obtain ⟨cS, -, -, hB, -⟩ := S
    have hB : vm.findClass "[B" = some q.SA.cls := hB
    obtain ⟨cell, k, e1, e2, -⟩ := E
    rw [e, hd] at e1
    rw [hal.findClass, show q.SA = cell from Option.some.inj e1] at hB
    obtain ⟨k1, q1, q2⟩ := Vm.findClass_spec hB
    obtain ⟨k2, q3, q4⟩ := Vm.findClass_spec e2
    have ek : k1 = k2 := Option.some.inj (q1.symm.trans q3)
    rw [ek] at q2
    exact absurd (q2.symm.trans q4) (by decide)
end Jvm.RoadKit
namespace Jvm.Pilot.@@N@@
open Jvm Jvm.ClassFile Sem Op Lib Jvm.Free Jvm.Stand Jvm.LawKit Jvm.RoadKit Bundle Jvm.Free.Fl Jvm.Pilot.@@N@@.Jvm.D
theorem ow {Z : State} {a0 : Array Value} (hw : ∀ d ∈ tables_1, d.before a0 Z = true) (i : Nat) {d : Jvm.Cond} (q : tables_1[i]? = some d) : d.before a0 Z = true := hw _ (List.mem_of_getElem? q)
theorem sh {T : State} {tb : Tables} {e : Env} {below : List Frame} (g : JFrame) {t : State} (k : Steps tb e below (T.setTop g) t) : Steps tb e below (T.setTop g) t := k
theorem own_hwS {Z : State} {a0 : Array Value} (hw : ∀ d ∈ tables_1, d.before a0 Z = true) : ∀ a ∈ Bundle.stringAtoms, a.before a0 Z = true := by
  intro a ha
  simp only [Bundle.stringAtoms, List.mem_cons, List.not_mem_nil, or_false] at ha
  rcases ha with rfl | rfl | rfl | rfl | rfl | rfl | rfl
  · exact (ow hw 6 rfl)
  · exact (ow hw 5 rfl)
  · exact (ow hw 23 rfl)
  · exact (ow hw 33 rfl)
  · exact (ow hw 31 rfl)
  · exact (ow hw 93 rfl)
  · exact (ow hw 94 rfl)
theorem d0_0 : decode jdk_43_method_3_code 0 = .ok (.iload_n 0, 1) := by decide +kernel
theorem d0_1 : decode jdk_43_method_3_code 1 = .ok (.sipush 255, 3) := by decide +kernel
theorem d0_4 : decode jdk_43_method_3_code 4 = .ok (.if_icmp .gt 7, 3) := by decide +kernel
theorem d0_7 : decode jdk_43_method_3_code 7 = .ok (.iconst 1, 1) := by decide +kernel
theorem d0_8 : decode jdk_43_method_3_code 8 = .ok (.goto 4, 3) := by decide +kernel
theorem d0_12 : decode jdk_43_method_3_code 12 = .ok (.ireturn, 1) := by decide +kernel
theorem pn_0 : plainName "java/lang/StringLatin1" = true := by first | (simp [plainName, overriddenIn]; done) | decide +kernel
def Q_rmCE (Z : State) (p0 : Int32) (h0 : Heap) (n0 : Nat) (v : Option Value) (h : Heap) (L : List Loc) : Prop := v = some (.int (1 : Int32)) ∧ Fr n0 L ∧ h = h0
theorem ef_rmCE (m : MethodId) (p0 : Int32) : entryFrame m #[(.int p0)] 1 = mkF m 0 #[.val (.int p0)] [] := by first | (simp [entryFrame, mkF, argsToLocals, Value.category]; done) | rfl
set_option maxRecDepth 65536 in
set_option maxHeartbeats 40000000 in
theorem rmCE (l : Launch) (Z : State) (a0 : Array Value) (hw : ∀ d ∈ tables_1, d.before a0 Z = true) (ws : List Jvm.Cond) (p0 : Int32) (h0 : Heap) (n0 : Nat) (Z0 : n0 ≤ h0.size) (hc4 : ¬ ((255 : Int32) < p0)) :
    MetFree l (⟨"java/lang/StringLatin1", "canEncode", "(C)Z"⟩ : MethodName) (head1 (Jvm.Cond.code (⟨"java/lang/StringLatin1", "canEncode", "(C)Z"⟩ : MethodName) jdk_43_method_3_code 1 (some .boolean) :: ws) ({ frames := 0, cells := 0, slots := 0, locals := 0 } : Room)) (fun a U => a = #[(.int p0)] ∧ Z.Warmed39 U.vm ∧ U.heap = h0) (fun _ _ _ _ _ => True) (fun _ U o U' => ∃ v L, o = .returned v ∧ Q_rmCE Z p0 h0 n0 v U'.heap L ∧ FrameEnd U o U' L ({ frames := 0, cells := 0, slots := 0, locals := 0 } : Room).cells ({ frames := 0, cells := 0, slots := 0, locals := 0 } : Room).slots) := by
  refine MetFree.of_bodySF (plainFor_of_name pn_0) hisR ?_
  intro p e s m args below meth c s₁ Bd hml0 hP hK
  obtain ⟨rfl, hZ, hh⟩ := hP
  have hx := Bd.exec
  have hby := Bd.bytes
  have hml : c.maxLocals = 1 := hml0
  have hown : s.vm.findClass "java/lang/StringLatin1" = some m.cls := findClass_of_methodNamed Bd.named
  have hnm := (name_of_methodNamed Bd.named Bd.method).1
  have X0 : Stand p l e ({ frames := 0, cells := 0, slots := 0, locals := 0 } : Room) s m #[(.int p0)] below meth c s₁ [] 0 0 := Stand.of_body Bd
  have e0 : s₁.heap = h0 := by rw [← hh, Bd.state]; rfl
  have N0 := Fr.nil n0
  have pre0 : ∀ t, Steps p.tables e below (s₁.setTop (mkF m 0 #[.val (.int p0)] [])) t → Steps p.tables e below (s₁.setTop (entryFrame m #[(.int p0)] 1)) t := fun t k => castTop (ef_rmCE m p0) k
  obtain ⟨fs, hr, hrun, hended, hW, hsame⟩ := X0.leave (v := some (.int (1 : Int32))) (fun h => by rw [Bd.returns] at h; cases h)
  refine ⟨_, _, pre0 _ ?_, hrun, hended, _, _, rfl, ?_, ⟨_, rfl⟩, hW, hsame.mono (by decide) (by decide)⟩
  · refine sh (mkF m 0 #[.val (.int p0)] []) ?_
    refine XS.iloadN X0.here hx rfl (hb hby d0_0) rfl ?_
    refine sh (mkF m 1 #[.val (.int p0)] [(.int p0)]) ?_
    refine XS.sipush X0.here hx rfl (hb hby d0_1) ?_
    refine sh (mkF m 4 #[.val (.int p0)] [(.int (255 : Int32)), (.int p0)]) ?_
    refine XS.icmpNo X0.here hx rfl (hb hby d0_4) rfl (flt hc4).2.2.1 ?_
    refine sh (mkF m 7 #[.val (.int p0)] []) ?_
    refine XS.iconst X0.here hx rfl (hb hby d0_7) ?_
    refine sh (mkF m 8 #[.val (.int p0)] [(.int (1 : Int32))]) ?_
    refine XS.goto X0.here hx rfl (pc0 := 8) (pc' := 12) rfl (hb hby d0_8) (by decide) (by decide) ?_
    refine sh (mkF m 12 #[.val (.int p0)] [(.int (1 : Int32))]) ?_
    exact retN X0 hx (t := .boolean) Bd.returns (by simp) (hb hby d0_12) hr
  · show Q_rmCE Z p0 h0 n0 _ s₁.heap _
    rw [e0]
    exact ⟨rfl, N0, rfl⟩
theorem d1_0 : decode jdk_43_method_46_code 0 = .ok (.iconst 1, 1) := by decide +kernel
theorem d1_1 : decode jdk_43_method_46_code 1 = .ok (.newarray .byte, 2) := by decide +kernel
theorem d1_3 : decode jdk_43_method_46_code 3 = .ok (.dup, 1) := by decide +kernel
theorem d1_4 : decode jdk_43_method_46_code 4 = .ok (.iconst 0, 1) := by decide +kernel
theorem d1_5 : decode jdk_43_method_46_code 5 = .ok (.iload_n 0, 1) := by decide +kernel
theorem d1_6 : decode jdk_43_method_46_code 6 = .ok (.i2b, 1) := by decide +kernel
theorem d1_7 : decode jdk_43_method_46_code 7 = .ok (.bastore, 1) := by decide +kernel
theorem d1_8 : decode jdk_43_method_46_code 8 = .ok (.areturn, 1) := by decide +kernel
def Q_rmTB (Z : State) (p0 : Int32) (h0 : Heap) (n0 : Nat) (v : Option Value) (h : Heap) (L : List Loc) : Prop := ∃ nb : Addr, ∃ kb : ClassId, v = some (.ref nb) ∧ Fr n0 L ∧ h0.size ≤ nb ∧ Keep h0 h [] ∧ Arv Z h nb kb .byte (1 : Int32) [(.int (nar .byte (p0.toInt8.toInt32)))] (.int (0 : Int32))
theorem ef_rmTB (m : MethodId) (p0 : Int32) : entryFrame m #[(.int p0)] 1 = mkF m 0 #[.val (.int p0)] [] := by first | (simp [entryFrame, mkF, argsToLocals, Value.category]; done) | rfl
set_option maxRecDepth 65536 in
set_option maxHeartbeats 40000000 in
theorem rmTB (l : Launch) (Z : State) (a0 : Array Value) (hw : ∀ d ∈ tables_1, d.before a0 Z = true) (ws : List Jvm.Cond) (p0 : Int32) (h0 : Heap) (n0 : Nat) (Z0 : n0 ≤ h0.size) :
    MetFree l (⟨"java/lang/StringLatin1", "toBytes", "(C)[B"⟩ : MethodName) (head1 (Jvm.Cond.code (⟨"java/lang/StringLatin1", "toBytes", "(C)[B"⟩ : MethodName) jdk_43_method_46_code 1 (some (.array .byte)) :: ws) ({ frames := 0, cells := 1, slots := 1, locals := 0 } : Room)) (fun a U => a = #[(.int p0)] ∧ Z.Warmed39 U.vm ∧ U.heap = h0) (fun _ _ _ _ _ => True) (fun _ U o U' => ∃ v L, o = .returned v ∧ Q_rmTB Z p0 h0 n0 v U'.heap L ∧ FrameEnd U o U' L ({ frames := 0, cells := 1, slots := 1, locals := 0 } : Room).cells ({ frames := 0, cells := 1, slots := 1, locals := 0 } : Room).slots) := by
  refine MetFree.of_bodySF (plainFor_of_name pn_0) hisR ?_
  intro p e s m args below meth c s₁ Bd hml0 hP hK
  obtain ⟨rfl, hZ, hh⟩ := hP
  have hx := Bd.exec
  have hby := Bd.bytes
  have hml : c.maxLocals = 1 := hml0
  have hown : s.vm.findClass "java/lang/StringLatin1" = some m.cls := findClass_of_methodNamed Bd.named
  have hnm := (name_of_methodNamed Bd.named Bd.method).1
  have X0 : Stand p l e ({ frames := 0, cells := 1, slots := 1, locals := 0 } : Room) s m #[(.int p0)] below meth c s₁ [] 0 0 := Stand.of_body Bd
  have e0 : s₁.heap = h0 := by rw [← hh, Bd.state]; rfl
  have N0 := Fr.nil n0
  have pre0 : ∀ t, Steps p.tables e below (s₁.setTop (mkF m 0 #[.val (.int p0)] [])) t → Steps p.tables e below (s₁.setTop (entryFrame m #[(.int p0)] 1)) t := fun t k => castTop (ef_rmTB m p0) k
  obtain ⟨T1, h1, k1, X1, e1, E1, A1, st1⟩ := newP X0 hx hZ (ow hw 23 rfl) e0 (g := (mkF m 1 #[.val (.int p0)] [(.int (1 : Int32))])) rfl (hb hby d1_1) rfl (by decide) (cap := 1) (by decide) (by decide) (by decide) (by decide)
  obtain ⟨b1, g1⟩ : ∃ z, z = h0.size := ⟨_, rfl⟩
  rw [← g1] at A1 st1
  have V1 : Arv Z h1 b1 k1 .byte (1 : Int32) [(.int (0 : Int32))] (.int (0 : Int32)) := (Arv.new A1 (by decide)).pad (pad_rep [] (.int (0 : Int32)) 1)
  have Vc2 := V1
  obtain ⟨cl2, Ar2, q2, S2, M2, H2, G2⟩ := Vc2
  have hin2 : ¬ ((0 : Int32) < 0 ∨ cl2.slots.size ≤ ((0 : Int32)).toNatClampNeg) := inb_of S2 ⟨by decide, by decide⟩
  obtain ⟨T2, h2, X2, e2, W2, st2⟩ := stB X1 hx hZ e1 Ar2 (j := (0 : Int32)) hin2 (g := (mkF m 7 #[.val (.int p0)] [(.int (p0.toInt8.toInt32)), (.int (0 : Int32)), (.ref b1), (.ref b1)])) rfl rfl (hb hby d1_7)
  have V2 : Arv Z h2 b1 k1 .byte (1 : Int32) [(.int (nar .byte (p0.toInt8.toInt32)))] (.int (0 : Int32)) := Arv.set Ar2 q2 S2 M2 H2 G2 (fits_nar_byte _) W2 0 rfl (Nat.le_of_ble_eq_true rfl)
  have N2 := Fr.snoc X2 N0 (Nat.le_trans Z0 (Nat.le_of_eq g1.symm))
  obtain ⟨fs, hr, hrun, hended, hW, hsame⟩ := X2.leave (v := some (.ref b1)) (fun h => by rw [Bd.returns] at h; cases h)
  refine ⟨_, _, pre0 _ ?_, hrun, hended, _, _, rfl, ?_, ⟨_, rfl⟩, hW, hsame.mono (by decide) (by decide)⟩
  · refine sh (mkF m 0 #[.val (.int p0)] []) ?_
    refine XS.iconst X0.here hx rfl (hb hby d1_0) ?_
    refine sh (mkF m 1 #[.val (.int p0)] [(.int (1 : Int32))]) ?_
    refine st1 _ ?_
    refine sh (mkF m 3 #[.val (.int p0)] [(.ref b1)]) ?_
    refine XS.dup X1.here hx rfl (hb hby d1_3) rfl rfl ?_
    refine sh (mkF m 4 #[.val (.int p0)] [(.ref b1), (.ref b1)]) ?_
    refine XS.iconst X1.here hx rfl (hb hby d1_4) ?_
    refine sh (mkF m 5 #[.val (.int p0)] [(.int (0 : Int32)), (.ref b1), (.ref b1)]) ?_
    refine XS.iloadN X1.here hx rfl (hb hby d1_5) rfl ?_
    refine sh (mkF m 6 #[.val (.int p0)] [(.int p0), (.int (0 : Int32)), (.ref b1), (.ref b1)]) ?_
    refine XS.i2b X1.here hx rfl (hb hby d1_6) rfl ?_
    refine sh (mkF m 7 #[.val (.int p0)] [(.int (p0.toInt8.toInt32)), (.int (0 : Int32)), (.ref b1), (.ref b1)]) ?_
    refine st2 _ ?_
    refine sh (mkF m 8 #[.val (.int p0)] [(.ref b1)]) ?_
    exact retOut X2 hx Bd.returns rfl (Or.inr (Or.inr (Or.inr (Or.inr ⟨rfl, rfl, rfl⟩)))) (hb hby d1_8) hr
  · show Q_rmTB Z p0 h0 n0 _ T2.heap _
    rw [e2]
    exact ⟨b1, k1, rfl, N2, (Nat.le_trans (Nat.le_refl h0.size) (Nat.le_of_eq g1.symm)), (((Keep.refl h0 []).ext E1).wr W2 (Or.inr (Nat.le_trans (Nat.le_refl h0.size) (Nat.le_of_eq g1.symm)))), V2⟩
theorem d2_0 : decode jdk_42_method_151_code 0 = .ok (.aload_n 0, 1) := by decide +kernel
theorem d2_1 : decode jdk_42_method_151_code 1 = .ok (.invokespecial 1, 3) := by decide +kernel
theorem d2_4 : decode jdk_42_method_151_code 4 = .ok (.aload_n 0, 1) := by decide +kernel
theorem d2_5 : decode jdk_42_method_151_code 5 = .ok (.aload_n 1, 1) := by decide +kernel
theorem d2_6 : decode jdk_42_method_151_code 6 = .ok (.putfield 9, 3) := by decide +kernel
theorem d2_9 : decode jdk_42_method_151_code 9 = .ok (.aload_n 0, 1) := by decide +kernel
theorem d2_10 : decode jdk_42_method_151_code 10 = .ok (.iload_n 2, 1) := by decide +kernel
theorem d2_11 : decode jdk_42_method_151_code 11 = .ok (.putfield 15, 3) := by decide +kernel
theorem d2_14 : decode jdk_42_method_151_code 14 = .ok (.return_, 1) := by decide +kernel
theorem pn_1 : plainName "java/lang/String" = true := by first | (simp [plainName, overriddenIn]; done) | decide +kernel
def Q_rmSI (Z : State) (ob : Addr) (ar : Addr) (p2 : Int32) (u_value_ob : Value) (u_coder_ob : Value) (h0 : Heap) (n0 : Nat) (v : Option Value) (h : Heap) (L : List Loc) : Prop := v = none ∧ Fr n0 L ∧ Keep h0 h [ob] ∧ Exa Z h ob "java/lang/String" ∧ Fld Z h ob "java/lang/String" "value" "[B" (.ref ar) ∧ Fld Z h ob "java/lang/String" "coder" "B" (.int (nar .byte p2))
theorem ef_rmSI (m : MethodId) (ob : Addr) (ar : Addr) (p2 : Int32) : entryFrame m #[(.ref ob), (.ref ar), (.int p2)] 3 = mkF m 0 #[.val (.ref ob), .val (.ref ar), .val (.int p2)] [] := by first | (simp [entryFrame, mkF, argsToLocals, Value.category]; done) | rfl
set_option maxRecDepth 65536 in
set_option maxHeartbeats 40000000 in
theorem rmSI (l : Launch) (Z : State) (a0 : Array Value) (hw : ∀ d ∈ tables_1, d.before a0 Z = true) (ws : List Jvm.Cond) (ob : Addr) (ar : Addr) (p2 : Int32) (u_value_ob : Value) (u_coder_ob : Value) (h0 : Heap) (n0 : Nat) (Z0 : n0 ≤ h0.size) (F_value_ob : Fld Z h0 ob "java/lang/String" "value" "[B" u_value_ob) (E_ob : Exa Z h0 ob "java/lang/String") (g_ob : n0 ≤ ob) (F_coder_ob : Fld Z h0 ob "java/lang/String" "coder" "B" u_coder_ob) :
    MetFree l (⟨"java/lang/String", "<init>", "([BB)V"⟩ : MethodName) (head1 (Jvm.Cond.code (⟨"java/lang/String", "<init>", "([BB)V"⟩ : MethodName) jdk_42_method_151_code 3 none :: ws) ({ frames := 1, cells := 0, slots := 0, locals := 12 } : Room)) (fun a U => a = #[(.ref ob), (.ref ar), (.int p2)] ∧ Z.Warmed39 U.vm ∧ U.heap = h0) (fun _ _ _ _ _ => True) (fun _ U o U' => ∃ v L, o = .returned v ∧ Q_rmSI Z ob ar p2 u_value_ob u_coder_ob h0 n0 v U'.heap L ∧ FrameEnd U o U' L ({ frames := 1, cells := 0, slots := 0, locals := 12 } : Room).cells ({ frames := 1, cells := 0, slots := 0, locals := 12 } : Room).slots) := by
  refine MetFree.of_bodySF (plainFor_of_name pn_1) hisR ?_
  intro p e s m args below meth c s₁ Bd hml0 hP hK
  obtain ⟨rfl, hZ, hh⟩ := hP
  have hx := Bd.exec
  have hby := Bd.bytes
  have hml : c.maxLocals = 3 := hml0
  have hown : s.vm.findClass "java/lang/String" = some m.cls := findClass_of_methodNamed Bd.named
  have hnm := (name_of_methodNamed Bd.named Bd.method).1
  have X0 : Stand p l e ({ frames := 1, cells := 0, slots := 0, locals := 12 } : Room) s m #[(.ref ob), (.ref ar), (.int p2)] below meth c s₁ [] 0 0 := Stand.of_body Bd
  have e0 : s₁.heap = h0 := by rw [← hh, Bd.state]; rfl
  have N0 := Fr.nil n0
  have pre0 : ∀ t, Steps p.tables e below (s₁.setTop (mkF m 0 #[.val (.ref ob), .val (.ref ar), .val (.int p2)] [])) t → Steps p.tables e below (s₁.setTop (entryFrame m #[(.ref ob), (.ref ar), (.int p2)] 3)) t := fun t k => castTop (ef_rmSI m ob ar p2) k
  obtain ⟨T1, X1, e1, st1⟩ := initO X0 hx hZ hown (ow hw 15 rfl) (ow hw 16 rfl) (ow hw 17 rfl) e0 (g := (mkF m 1 #[.val (.ref ob), .val (.ref ar), .val (.int p2)] [(.ref ob)])) rfl (by rw [hml]; rfl) rfl (hb hby d2_1) (by decide) (W := 0) (by show 2 * 0 + _ ≤ _; exact Nat.le_of_eq rfl) (by decide)
  obtain ⟨T2, h2, X2, e2, W2, st2⟩ := putF X1 hx hZ hown (host := "") (Or.inl (ow hw 32 rfl)) Via.refl e1 F_value_ob E_ob (Or.inr ⟨(ow hw 33 rfl), rfl, hnm⟩) (ow hw 5 rfl) (ty := (.array .byte)) (by decide) rfl rfl (g := (mkF m 6 #[.val (.ref ob), .val (.ref ar), .val (.int p2)] [(.ref ar), (.ref ob)])) rfl rfl (hb hby d2_6)
  have Fw2 := F_value_ob.same W2
  have N2 := Fr.snoc X2 N0 g_ob
  have f3 : Fld Z h2 ob "java/lang/String" "coder" "B" u_coder_ob := (F_coder_ob.other W2 (Or.inr (slot_ne (Or.inr (ow hw 31 rfl)) (Or.inr (ow hw 33 rfl)) (by decide) (t := .byte) (t' := (.array .byte)) (by decide) (by decide))))
  have f4 : Exa Z h2 ob "java/lang/String" := (E_ob.wr W2)
  obtain ⟨T5, h5, X5, e5, W5, st5⟩ := putFN X2 hx hZ hown (ow hw 30 rfl) Via.refl e2 f3 f4 (Or.inr ⟨(ow hw 31 rfl), rfl, hnm⟩) (ow hw 5 rfl) (ty := .byte) (v' := (.int (nar .byte p2))) (by decide) rfl (fits_nar_byte _) (g := (mkF m 11 #[.val (.ref ob), .val (.ref ar), .val (.int p2)] [(.int p2), (.ref ob)])) rfl rfl (hb hby d2_11)
  have Fw5 := f3.same W5
  have N5 := Fr.snoc X5 N2 g_ob
  have f6 : Exa Z h5 ob "java/lang/String" := (f4.wr W5)
  have f7 : Fld Z h5 ob "java/lang/String" "value" "[B" (.ref ar) := (Fw2.other W5 (Or.inr (slot_ne (Or.inr (ow hw 33 rfl)) (Or.inr (ow hw 31 rfl)) (by decide) (t := (.array .byte)) (t' := .byte) (by decide) (by decide))))
  obtain ⟨fs, hr, hrun, hended, hW, hsame⟩ := X5.leave (v := none) (fun _ => rfl)
  refine ⟨_, _, pre0 _ ?_, hrun, hended, _, _, rfl, ?_, ⟨_, rfl⟩, hW, hsame.mono (by decide) (by decide)⟩
  · refine sh (mkF m 0 #[.val (.ref ob), .val (.ref ar), .val (.int p2)] []) ?_
    refine XS.aloadN X0.here hx rfl (hb hby d2_0) rfl rfl ?_
    refine sh (mkF m 1 #[.val (.ref ob), .val (.ref ar), .val (.int p2)] [(.ref ob)]) ?_
    refine st1 _ ?_
    refine sh (mkF m 4 #[.val (.ref ob), .val (.ref ar), .val (.int p2)] []) ?_
    refine XS.aloadN X1.here hx rfl (hb hby d2_4) rfl rfl ?_
    refine sh (mkF m 5 #[.val (.ref ob), .val (.ref ar), .val (.int p2)] [(.ref ob)]) ?_
    refine XS.aloadN X1.here hx rfl (hb hby d2_5) rfl rfl ?_
    refine sh (mkF m 6 #[.val (.ref ob), .val (.ref ar), .val (.int p2)] [(.ref ar), (.ref ob)]) ?_
    refine st2 _ ?_
    refine sh (mkF m 9 #[.val (.ref ob), .val (.ref ar), .val (.int p2)] []) ?_
    refine XS.aloadN X2.here hx rfl (hb hby d2_9) rfl rfl ?_
    refine sh (mkF m 10 #[.val (.ref ob), .val (.ref ar), .val (.int p2)] [(.ref ob)]) ?_
    refine XS.iloadN X2.here hx rfl (hb hby d2_10) rfl ?_
    refine sh (mkF m 11 #[.val (.ref ob), .val (.ref ar), .val (.int p2)] [(.int p2), (.ref ob)]) ?_
    refine st5 _ ?_
    refine sh (mkF m 14 #[.val (.ref ob), .val (.ref ar), .val (.int p2)] []) ?_
    exact X5.returnOut hx Bd.returns (hb hby d2_14) hr
  · show Q_rmSI Z ob ar p2 u_value_ob u_coder_ob h0 n0 _ T5.heap _
    rw [e5]
    exact ⟨rfl, N5, (((Keep.refl h0 [ob]).wr W2 (Or.inl (List.mem_of_getElem? (i := 0) rfl))).wr W5 (Or.inl (List.mem_of_getElem? (i := 0) rfl))), f6, f7, Fw5⟩
theorem d3_0 : decode jdk_42_method_139_code 0 = .ok (.getstatic 38, 3) := by decide +kernel
theorem d3_3 : decode jdk_42_method_139_code 3 = .ok (.ifCond .eq 23, 3) := by decide +kernel
theorem d3_6 : decode jdk_42_method_139_code 6 = .ok (.iload_n 0, 1) := by decide +kernel
theorem d3_7 : decode jdk_42_method_139_code 7 = .ok (.invokestatic 1015, 3) := by decide +kernel
theorem pd_0 : parseMethodDescriptor "(C)Z" = some ⟨[.char], some .boolean⟩ := by decide +kernel
theorem d3_10 : decode jdk_42_method_139_code 10 = .ok (.ifCond .eq 16, 3) := by decide +kernel
theorem d3_13 : decode jdk_42_method_139_code 13 = .ok (.new 10, 3) := by decide +kernel
theorem d3_16 : decode jdk_42_method_139_code 16 = .ok (.dup, 1) := by decide +kernel
theorem d3_17 : decode jdk_42_method_139_code 17 = .ok (.iload_n 0, 1) := by decide +kernel
theorem d3_18 : decode jdk_42_method_139_code 18 = .ok (.invokestatic 1018, 3) := by decide +kernel
theorem pd_1 : parseMethodDescriptor "(C)[B" = some ⟨[.char], some (.array .byte)⟩ := by decide +kernel
theorem d3_21 : decode jdk_42_method_139_code 21 = .ok (.iconst 0, 1) := by decide +kernel
theorem d3_22 : decode jdk_42_method_139_code 22 = .ok (.invokespecial 209, 3) := by decide +kernel
theorem pd_2 : parseMethodDescriptor "([BB)V" = some ⟨[(.array .byte), .byte], none⟩ := by decide +kernel
theorem d3_25 : decode jdk_42_method_139_code 25 = .ok (.areturn, 1) := by decide +kernel
def Q_rmVO (Z : State) (p0 : Int32) (s_COMPACT_STRINGS : Int32) (h0 : Heap) (n0 : Nat) (v : Option Value) (h : Heap) (L : List Loc) : Prop := ∃ nb : Addr, ∃ ab : Addr, ∃ kb : ClassId, v = some (.ref nb) ∧ Fr n0 L ∧ h0.size ≤ nb ∧ h0.size ≤ ab ∧ Keep h0 h [] ∧ Exa Z h nb "java/lang/String" ∧ Fld Z h nb "java/lang/String" "value" "[B" (.ref ab) ∧ Arv Z h ab kb .byte (1 : Int32) [(.int (nar .byte (p0.toInt8.toInt32)))] (.int (0 : Int32))
theorem ef_rmVO (m : MethodId) (p0 : Int32) : entryFrame m #[(.int p0)] 1 = mkF m 0 #[.val (.int p0)] [] := by first | (simp [entryFrame, mkF, argsToLocals, Value.category]; done) | rfl
set_option maxRecDepth 65536 in
set_option maxHeartbeats 40000000 in
theorem rmVO (l : Launch) (Z : State) (a0 : Array Value) (hw : ∀ d ∈ tables_1, d.before a0 Z = true) (ws : List Jvm.Cond) (p0 : Int32) (s_COMPACT_STRINGS : Int32) (h0 : Heap) (n0 : Nat) (Z0 : n0 ≤ h0.size) (h255 : ¬ ((255 : Int32) < p0)) (S_COMPACT_STRINGS : Sta Z h0 "java/lang/String" "COMPACT_STRINGS" "Z" (.int s_COMPACT_STRINGS)) (hc3 : ¬ (s_COMPACT_STRINGS = (0 : Int32))) :
    MetFree l (⟨"java/lang/String", "valueOf", "(C)Ljava/lang/String;"⟩ : MethodName) (head1 (Jvm.Cond.code (⟨"java/lang/String", "valueOf", "(C)Ljava/lang/String;"⟩ : MethodName) jdk_42_method_139_code 1 (some (.object "java/lang/String")) :: ws) ({ frames := 2, cells := 2, slots := 5, locals := 27 } : Room)) (fun a U => a = #[(.int p0)] ∧ Z.Warmed39 U.vm ∧ U.heap = h0) (fun _ _ _ _ _ => True) (fun _ U o U' => ∃ v L, o = .returned v ∧ Q_rmVO Z p0 s_COMPACT_STRINGS h0 n0 v U'.heap L ∧ FrameEnd U o U' L ({ frames := 2, cells := 2, slots := 5, locals := 27 } : Room).cells ({ frames := 2, cells := 2, slots := 5, locals := 27 } : Room).slots) := by
  refine MetFree.of_bodySF (plainFor_of_name pn_1) hisR ?_
  intro p e s m args below meth c s₁ Bd hml0 hP hK
  obtain ⟨rfl, hZ, hh⟩ := hP
  have hx := Bd.exec
  have hby := Bd.bytes
  have hml : c.maxLocals = 1 := hml0
  have hown : s.vm.findClass "java/lang/String" = some m.cls := findClass_of_methodNamed Bd.named
  have hnm := (name_of_methodNamed Bd.named Bd.method).1
  have X0 : Stand p l e ({ frames := 2, cells := 2, slots := 5, locals := 27 } : Room) s m #[(.int p0)] below meth c s₁ [] 0 0 := Stand.of_body Bd
  have e0 : s₁.heap = h0 := by rw [← hh, Bd.state]; rfl
  have N0 := Fr.nil n0
  have pre0 : ∀ t, Steps p.tables e below (s₁.setTop (mkF m 0 #[.val (.int p0)] [])) t → Steps p.tables e below (s₁.setTop (entryFrame m #[(.int p0)] 1)) t := fun t k => castTop (ef_rmVO m p0) k
  obtain ⟨T1, X1, e1, st1⟩ := getS2 X0 hx hZ hown (host := "") (Or.inl (ow hw 18 rfl)) Via.refl e0 S_COMPACT_STRINGS (g := (mkF m 0 #[.val (.int p0)] [])) rfl (hb hby d3_0)
  obtain ⟨_, _, ⟨T2, L2, k2, n2⟩, -, X2, ⟨Lc2, hQ2, l2, y2, z2⟩, st2⟩ := Jvm.LawKit.callS X1 hx (y := (⟨"java/lang/StringLatin1", "canEncode", "(C)Z"⟩ : MethodName)) hown (mvT hZ (ow hw 37 rfl)) (mvT hZ (ow hw 38 rfl)) (mvT hZ (ow hw 39 rfl)) (mvT hZ (ow hw 40 rfl)) (by decide) (backOf (W := 0) (rmCE l Z a0 hw [] p0 h0 n0 Z0 h255) hZ (ow hw 40 rfl) (ow hw 39 rfl) (by decide) (by decide)) (g := (mkF m 7 #[.val (.int p0)] [(.int p0)])) rfl (by rw [hml]; rfl) (argsL := [(.int p0)]) (rest := []) (lenOf pd_0 rfl) rfl (by show 2 * 0 + _ ≤ _; exact Nat.le_of_eq rfl) (hb hby d3_7) (fun _ _ => ⟨rfl, e1, (by decide : 0 + 0 ≤ _), (by decide : 0 + 0 ≤ _)⟩)
  dsimp only [Pt.U, Pt.locs, Pt.cells, Pt.slots] at X2 l2 y2 z2 st2 hQ2
  subst l2 y2 z2
  obtain ⟨rfl, Nq2, e2⟩ := hQ2
  have N2 := Fr.app N0 Nq2
  obtain ⟨T3, h3, X3, e3, E3, A3, D3, -, st3⟩ := newO X2 hx hZ hown (ow hw 41 rfl) (ow hw 5 rfl) (ow hw 6 rfl) e2 (g := (mkF m 13 #[.val (.int p0)] [])) rfl (hb hby d3_13) (by decide) (by decide)
  obtain ⟨b3, g3⟩ : ∃ z, z = h0.size := ⟨_, rfl⟩
  rw [← g3] at A3 D3 st3
  have F3_2 : Fld Z h3 b3 "java/lang/String" "coder" "B" (.int (0 : Int32)) := D3 (Or.inr (ow hw 31 rfl)) (ty := .byte) (by decide)
  have F3_3 : Fld Z h3 b3 "java/lang/String" "value" "[B" .null := D3 (Or.inr (ow hw 33 rfl)) (ty := (.array .byte)) (by decide)
  obtain ⟨_, _, ⟨T4, L4, k4, n4⟩, -, X4, ⟨Lc4, hQ4, l4, y4, z4⟩, st4⟩ := Jvm.LawKit.callS X3 hx (y := (⟨"java/lang/StringLatin1", "toBytes", "(C)[B"⟩ : MethodName)) hown (mvT hZ (ow hw 42 rfl)) (mvT hZ (ow hw 43 rfl)) (mvT hZ (ow hw 39 rfl)) (mvT hZ (ow hw 44 rfl)) (by decide) (backOf (W := 2) (rmTB l Z a0 hw [] p0 h3 n0 (Nat.le_trans Z0 E3.1)) hZ (ow hw 44 rfl) (ow hw 39 rfl) (by decide) (by decide)) (g := (mkF m 18 #[.val (.int p0)] [(.int p0), (.ref b3), (.ref b3)])) rfl (by rw [hml]; rfl) (argsL := [(.int p0)]) (rest := [(.ref b3), (.ref b3)]) (lenOf pd_1 rfl) rfl (by show 2 * 0 + _ ≤ _; exact Nat.le_of_eq rfl) (hb hby d3_18) (fun _ _ => ⟨rfl, e3, (by decide : 1 + 1 ≤ _), (by decide : 4 + 1 ≤ _)⟩)
  dsimp only [Pt.U, Pt.locs, Pt.cells, Pt.slots] at X4 l4 y4 z4 st4 hQ4
  subst l4 y4 z4
  obtain ⟨nb_4, kb_4, rfl, Nq4, gb4_0, Kp4, Fq4_0⟩ := hQ4
  have N4 := Fr.app N2 Nq4
  have f6 : Fld Z T4.heap b3 "java/lang/String" "value" "[B" .null := (F3_3.keep Kp4 nin0)
  have f7 : Exa Z T4.heap b3 "java/lang/String" := (A3.keep Kp4)
  have f8 : Fld Z T4.heap b3 "java/lang/String" "coder" "B" (.int (0 : Int32)) := (F3_2.keep Kp4 nin0)
  obtain ⟨_, _, ⟨T5, L5, k5, n5⟩, -, X5, ⟨Lc5, hQ5, l5, y5, z5⟩, st5⟩ := X4.specialBack hx (y := (⟨"java/lang/String", "<init>", "([BB)V"⟩ : MethodName)) rfl hown (mvT hZ (ow hw 45 rfl)) (mvT hZ (ow hw 46 rfl)) (mvT hZ (ow hw 47 rfl)) (by decide) (backOf (W := 1) (rmSI l Z a0 hw [] b3 nb_4 (0 : Int32) .null (.int (0 : Int32)) T4.heap n0 (Nat.le_trans (Nat.le_trans Z0 E3.1) Kp4.1) f6 f7 (Nat.le_trans Z0 (Nat.le_of_eq g3.symm)) f8) hZ (ow hw 47 rfl) (ow hw 6 rfl) (by decide) (by decide)) (g := (mkF m 22 #[.val (.int p0)] [(.int (0 : Int32)), (.ref nb_4), (.ref b3), (.ref b3)])) rfl (by rw [hml]; rfl) (Steps.refl _) (a := b3) (argsL := [(.ref nb_4), (.int (0 : Int32))]) (rest := [(.ref b3)]) (lenOf pd_2 rfl) rfl (by show 2 * 0 + _ ≤ _; exact Nat.le_of_eq rfl) (hb hby d3_22) (fun _ _ => ⟨rfl, rfl, (by decide : 2 + 0 ≤ _), (by decide : 5 + 0 ≤ _)⟩)
  dsimp only [Pt.U, Pt.locs, Pt.cells, Pt.slots] at X5 l5 y5 z5 st5 hQ5
  subst l5 y5 z5
  obtain ⟨rfl, Nq5, Kp5, Fq5_0, Fq5_1, Fq5_2⟩ := hQ5
  have N5 := Fr.app N4 Nq5
  have f9 : Arv Z T5.heap nb_4 kb_4 .byte (1 : Int32) [(.int (nar .byte (p0.toInt8.toInt32)))] (.int (0 : Int32)) := (Fq4_0.keep Kp5 (ninS (Ne.symm (Nat.ne_of_lt (Nat.lt_of_lt_of_le A3.lt gb4_0))) nin0))
  obtain ⟨fs, hr, hrun, hended, hW, hsame⟩ := X5.leave (v := some (.ref b3)) (fun h => by rw [Bd.returns] at h; cases h)
  refine ⟨_, _, pre0 _ ?_, hrun, hended, _, _, rfl, ?_, ⟨_, rfl⟩, hW, hsame.mono (by decide) (by decide)⟩
  · refine sh (mkF m 0 #[.val (.int p0)] []) ?_
    refine st1 _ ?_
    refine sh (mkF m 3 #[.val (.int p0)] [(.int s_COMPACT_STRINGS)]) ?_
    refine XS.ifNo X1.here hx rfl (hb hby d3_3) rfl ((if0 _ _).trans (feq hc3).1) ?_
    refine sh (mkF m 6 #[.val (.int p0)] []) ?_
    refine XS.iloadN X1.here hx rfl (hb hby d3_6) rfl ?_
    refine sh (mkF m 7 #[.val (.int p0)] [(.int p0)]) ?_
    refine st2 _ ?_
    refine sh (mkF m 10 #[.val (.int p0)] [(.int (1 : Int32))]) ?_
    refine XS.ifNo X2.here hx rfl (hb hby d3_10) rfl ((if0 _ _).trans (feq (by decide : ¬ ((1 : Int32) = (0 : Int32)))).1) ?_
    refine sh (mkF m 13 #[.val (.int p0)] []) ?_
    refine st3 _ ?_
    refine sh (mkF m 16 #[.val (.int p0)] [(.ref b3)]) ?_
    refine XS.dup X3.here hx rfl (hb hby d3_16) rfl rfl ?_
    refine sh (mkF m 17 #[.val (.int p0)] [(.ref b3), (.ref b3)]) ?_
    refine XS.iloadN X3.here hx rfl (hb hby d3_17) rfl ?_
    refine sh (mkF m 18 #[.val (.int p0)] [(.int p0), (.ref b3), (.ref b3)]) ?_
    refine st4 _ ?_
    refine sh (mkF m 21 #[.val (.int p0)] [(.ref nb_4), (.ref b3), (.ref b3)]) ?_
    refine XS.iconst X4.here hx rfl (hb hby d3_21) ?_
    refine sh (mkF m 22 #[.val (.int p0)] [(.int (0 : Int32)), (.ref nb_4), (.ref b3), (.ref b3)]) ?_
    refine st5.trans ?_
    refine sh (mkF m 25 #[.val (.int p0)] [(.ref b3)]) ?_
    exact retOut X5 hx Bd.returns rfl (Or.inr (Or.inr (Or.inr (Or.inr ⟨rfl, rfl, rfl⟩)))) (hb hby d3_25) hr
  · show Q_rmVO Z p0 s_COMPACT_STRINGS h0 n0 _ T5.heap _
    exact ⟨b3, nb_4, kb_4, rfl, N5, (Nat.le_trans (Nat.le_refl h0.size) (Nat.le_of_eq g3.symm)), (Nat.le_trans (Nat.le_trans (Nat.le_refl h0.size) E3.1) gb4_0), ((((Keep.refl h0 []).ext E3).trans Kp4 all0).trans Kp5 (allS (Or.inr (Nat.le_trans (Nat.le_refl h0.size) (Nat.le_of_eq g3.symm))) all0)), Fq5_0, Fq5_1, f9⟩
def own_EL : List (String × Nat) := [("java/lang/String", 7)]
theorem own_EW {Z : State} {a0 : Array Value} (hw : ∀ d ∈ tables_1, d.before a0 Z = true) : EW Z a0 own_EL := EW.cons (ow hw 92 rfl) (by decide) EW.nil
def own_b (x : Int32) (k : Int32) : Int32 := nar .byte ((nar .char (((x.toUInt32 >>> (k &&& 31).toUInt32).toInt32) &&& (255 : Int32)).toUInt32.toUInt16.toUInt32.toInt32).toInt8.toInt32)
theorem own_255 (j : Int32) : ¬ (255 : Int32) < (j &&& (255 : Int32)) := by
  have h1 := c_mask j (255 : Int32) 8 (by decide) (by decide)
  intro q
  have := Int32.lt_iff_toInt_lt.mp q
  rw [show (255 : Int32).toInt = 255 by decide] at this
  omega
theorem own_g (x : Int32) : ¬ (255 : Int32) < nar .char ((x &&& (255 : Int32)).toUInt32.toUInt16.toUInt32.toInt32) := by
  show ¬ (255 : Int32) < (((x &&& (255 : Int32)).toUInt32.toUInt16.toUInt32.toInt32).toUInt32.toUInt16.toUInt32.toInt32)
  rw [i2c_mask x, i2c_mask x]
  exact own_255 x
def own_ch (x : Int32) : Int32 := nar .char (nar .char ((x &&& (255 : Int32)).toUInt32.toUInt16.toUInt32.toInt32))
theorem own_shr0 (z : Int32) : (z >>> ((0 : Int32) &&& 31)) = z := by
  rw [show ((0 : Int32) &&& 31) = 0 by decide]
  exact Int32.shiftRight_zero
theorem own_chb {a c : Int32} (h : own_ch (nar .byte a) = own_ch (nar .byte c)) : nar .byte a = nar .byte c := by
  have e (x : Int32) : own_ch x = (x &&& (255 : Int32)) := by
    show ((((x &&& (255 : Int32)).toUInt32.toUInt16.toUInt32.toInt32).toUInt32.toUInt16.toUInt32.toInt32).toUInt32.toUInt16.toUInt32.toInt32) = _
    rw [i2c_mask x, i2c_mask x, i2c_mask x]
  rw [e, e] at h
  have b (x : Int32) : -128 ≤ (nar .byte x).toInt ∧ (nar .byte x).toInt ≤ 127 := by
    show -128 ≤ (x.toInt8.toInt32).toInt ∧ (x.toInt8.toInt32).toInt ≤ 127
    rw [Int8.toInt_toInt32]
    have h1 := Int8.le_toInt x.toInt8
    have h2 := Int8.toInt_lt x.toInt8
    omega
  have h1 := c_mask (nar .byte a) (255 : Int32) 8 (by decide) (by decide)
  have h2 := c_mask (nar .byte c) (255 : Int32) 8 (by decide) (by decide)
  have b1 := b a
  have b2 := b c
  rw [h] at h1
  rw [← Int32.toInt_inj]
  omega
theorem own_cases (a : Int32) : (a &&& (3 : Int32)) = 0 ∨ (a &&& (3 : Int32)) = 1 ∨ (a &&& (3 : Int32)) = 2 ∨ (a &&& (3 : Int32)) = 3 := by
  have h1 := c_mask a (3 : Int32) 2 (by decide) (by decide)
  simp only [← Int32.toInt_inj]
  rw [show (0 : Int32).toInt = 0 by decide, show (1 : Int32).toInt = 1 by decide, show (2 : Int32).toInt = 2 by decide, show (3 : Int32).toInt = 3 by decide]
  omega
def own_vs (t : Int32) : List Value := if (t &&& (3 : Int32)) = 0 then [] else if (t &&& (3 : Int32)) = 1 then [(.int (own_b t 2))] else if (t &&& (3 : Int32)) = 2 then [(.int (own_b t 2)), (.int (own_b t 10))] else [(.int (own_b t 2)), (.int (own_b t 10)), (.int (own_b t 18))]
theorem own_vs_0 {t : Int32} (h : (t &&& (3 : Int32)) = 0) : own_vs t = [] := by unfold own_vs; rw [if_pos h]
theorem own_vs_1 {t : Int32} (h : (t &&& (3 : Int32)) = 1) : own_vs t = [(.int (own_b t 2))] := by unfold own_vs; rw [if_neg (by rw [h]; decide), if_pos h]
theorem own_vs_2 {t : Int32} (h : (t &&& (3 : Int32)) = 2) : own_vs t = [(.int (own_b t 2)), (.int (own_b t 10))] := by unfold own_vs; rw [if_neg (by rw [h]; decide), if_neg (by rw [h]; decide), if_pos h]
theorem own_vs_3 {t : Int32} (h : (t &&& (3 : Int32)) = 3) : own_vs t = [(.int (own_b t 2)), (.int (own_b t 10)), (.int (own_b t 18))] := by unfold own_vs; rw [if_neg (by rw [h]; decide), if_neg (by rw [h]; decide), if_neg (by rw [h]; decide)]
theorem own_len {t u : Int32} (h : own_vs t = own_vs u) : (t &&& (3 : Int32)) = (u &&& (3 : Int32)) := by
  have hl := congrArg List.length h
  rcases own_cases t with h1 | h1 | h1 | h1 <;> rcases own_cases u with h2 | h2 | h2 | h2 <;> simp only [h1, h2, own_vs_0, own_vs_1, own_vs_2, own_vs_3, List.length_cons, List.length_nil] at hl ⊢ <;> omega
theorem d4_0 : decode jdk_42_method_149_code 0 = .ok (.aload_n 0, 1) := by decide +kernel
theorem d4_1 : decode jdk_42_method_149_code 1 = .ok (.invokespecial 1, 3) := by decide +kernel
theorem d4_4 : decode jdk_42_method_149_code 4 = .ok (.iload_n 3, 1) := by decide +kernel
theorem d4_5 : decode jdk_42_method_149_code 5 = .ok (.ifCond .ne 22, 3) := by decide +kernel
theorem d4_8 : decode jdk_42_method_149_code 8 = .ok (.aload_n 0, 1) := by decide +kernel
theorem d4_9 : decode jdk_42_method_149_code 9 = .ok (.ldc 7, 2) := by decide +kernel
theorem d4_11 : decode jdk_42_method_149_code 11 = .ok (.getfield 9, 3) := by decide +kernel
theorem d4_14 : decode jdk_42_method_149_code 14 = .ok (.putfield 9, 3) := by decide +kernel
theorem d4_17 : decode jdk_42_method_149_code 17 = .ok (.aload_n 0, 1) := by decide +kernel
theorem d4_18 : decode jdk_42_method_149_code 18 = .ok (.ldc 7, 2) := by decide +kernel
theorem d4_20 : decode jdk_42_method_149_code 20 = .ok (.getfield 15, 3) := by decide +kernel
theorem d4_23 : decode jdk_42_method_149_code 23 = .ok (.putfield 15, 3) := by decide +kernel
theorem d4_26 : decode jdk_42_method_149_code 26 = .ok (.return_, 1) := by decide +kernel
def Q_rmCI0 (Z : State) (ob : Addr) (ar : Addr) (u_coder_ob : Value) (h0 : Heap) (n0 : Nat) (v : Option Value) (h : Heap) (L : List Loc) : Prop := ∃ vb : Addr, ∃ kb : ClassId, v = none ∧ Fr n0 L ∧ Keep h0 h [ob] ∧ Exa Z h ob "java/lang/String" ∧ Fld Z h ob "java/lang/String" "value" "[B" (.ref vb) ∧ Fld Z h ob "java/lang/String" "coder" "B" (.int (0 : Int32)) ∧ Arv Z h vb kb .byte (0 : Int32) [] (.int (0 : Int32))
theorem ef_rmCI0 (m : MethodId) (ob : Addr) (ar : Addr) : entryFrame m #[(.ref ob), (.ref ar), (.int (0 : Int32)), (.int (0 : Int32)), .null] 6 = mkF m 0 #[.val (.ref ob), .val (.ref ar), .val (.int (0 : Int32)), .val (.int (0 : Int32)), .val .null, .unset] [] := by first | (simp [entryFrame, mkF, argsToLocals, Value.category]; done) | rfl
set_option maxRecDepth 65536 in
set_option maxHeartbeats 40000000 in
theorem rmCI0 (l : Launch) (Z : State) (a0 : Array Value) (hw : ∀ d ∈ tables_1, d.before a0 Z = true) (ws : List Jvm.Cond) (ob : Addr) (ar : Addr) (u_coder_ob : Value) (h0 : Heap) (n0 : Nat) (Z0 : n0 ≤ h0.size) (hwS : ∀ a ∈ Bundle.stringAtoms, a.before a0 Z = true) (E_ob : Exa Z h0 ob "java/lang/String") (F_value_ob : Fld Z h0 ob "java/lang/String" "value" "[B" .null) (g_ob : n0 ≤ ob) (F_coder_ob : Fld Z h0 ob "java/lang/String" "coder" "B" u_coder_ob) :
    MetFree l (⟨"java/lang/String", "<init>", "([CIILjava/lang/Void;)V"⟩ : MethodName) (head1 (Jvm.Cond.code (⟨"java/lang/String", "<init>", "([CIILjava/lang/Void;)V"⟩ : MethodName) jdk_42_method_149_code 6 none :: ws) ({ frames := 1, cells := 4, slots := 8, locals := 12 } : Room)) (fun a U => a = #[(.ref ob), (.ref ar), (.int (0 : Int32)), (.int (0 : Int32)), .null] ∧ Z.Warmed39 U.vm ∧ U.heap = h0 ∧ CHv Z own_EL U.vm h0) (fun _ _ _ _ _ => True) (fun _ U o U' => ∃ v L, o = .returned v ∧ Q_rmCI0 Z ob ar u_coder_ob h0 n0 v U'.heap L ∧ CHr Z own_EL U.vm U.heap U'.vm U'.heap ∧ ReturnedEndW U o U' L ({ frames := 1, cells := 4, slots := 8, locals := 12 } : Room).cells ({ frames := 1, cells := 4, slots := 8, locals := 12 } : Room).slots) := by
  refine MetFree.of_bodySF (plainFor_of_name pn_1) hisR ?_
  intro p e s m args below meth c s₁ Bd hml0 hP hK
  obtain ⟨rfl, hZ, hh, hCH⟩ := hP
  have hx := Bd.exec
  have hby := Bd.bytes
  have hml : c.maxLocals = 6 := hml0
  have hown : s.vm.findClass "java/lang/String" = some m.cls := findClass_of_methodNamed Bd.named
  have hnm := (name_of_methodNamed Bd.named Bd.method).1
  have X0 : Stand p l e ({ frames := 1, cells := 4, slots := 8, locals := 12 } : Room) s m #[(.ref ob), (.ref ar), (.int (0 : Int32)), (.int (0 : Int32)), .null] below meth c s₁ [] 0 0 := Stand.of_body Bd
  have e0 : s₁.heap = h0 := by rw [← hh, Bd.state]; rfl
  have N0 := Fr.nil n0
  have hS0 := (State.WarmedH.refl s).since 0
  have pre0 : ∀ t, Steps p.tables e below (s₁.setTop (mkF m 0 #[.val (.ref ob), .val (.ref ar), .val (.int (0 : Int32)), .val (.int (0 : Int32)), .val .null, .unset] [])) t → Steps p.tables e below (s₁.setTop (entryFrame m #[(.ref ob), (.ref ar), (.int (0 : Int32)), (.int (0 : Int32)), .null] 6)) t := fun t k => castTop (ef_rmCI0 m ob ar) k
  have hSf_ob : Safe Z own_EL s.vm h0 ob := own_safe hZ.alike E_ob F_value_ob
  obtain ⟨T1, X1, e1, st1⟩ := initO X0 hx hZ hown (ow hw 15 rfl) (ow hw 16 rfl) (ow hw 17 rfl) e0 (g := (mkF m 1 #[.val (.ref ob), .val (.ref ar), .val (.int (0 : Int32)), .val (.int (0 : Int32)), .val .null, .unset] [(.ref ob)])) rfl (by rw [hml]; rfl) rfl (hb hby d4_1) (by decide) (W := 0) (by show 2 * 0 + _ ≤ _; exact Nat.le_of_eq rfl) (by decide)
  obtain ⟨a2, T2, h2, k2, b2, kc2, X2, e2, E2, hS2, hk2, hZ2, hown2, A2, Fc2, Fv2, V2, -, -, hC2, -, hne2, st2⟩ := ldcCH (s := s) (vm0 := s.vm) X1 hx hZ hown (ow hw 92 rfl) hwS e1 hS0 (Nat.zero_le _) (own_EW hw) (List.mem_cons_self ..) hCH (vs := []) (z := (0 : Int32)) ⟨by decide, by decide⟩ (by decide) rfl (g := (mkF m 9 #[.val (.ref ob), .val (.ref ar), .val (.int (0 : Int32)), .val (.int (0 : Int32)), .val .null, .unset] [(.ref ob)])) rfl (hb hby d4_9) (n := 0) (by decide) (by decide) (by decide) (by decide)
  have SL3 := hC2.safe E_ob.lt hSf_ob
  have CR2 := CHr.trans (CHr.refl hCH) hC2
  obtain ⟨T4, X4, e4, st4⟩ := getF X2 hx hZ2 hown2 (host := "") (Or.inl (ow hw 32 rfl)) Via.refl e2 Fv2 (g := (mkF m 11 #[.val (.ref ob), .val (.ref ar), .val (.int (0 : Int32)), .val (.int (0 : Int32)), .val .null, .unset] [(.ref a2), (.ref ob)])) rfl rfl (hb hby d4_11)
  have f5 : Fld Z h2 ob "java/lang/String" "value" "[B" .null := (F_value_ob.ext E2)
  have f6 : Exa Z h2 ob "java/lang/String" := (E_ob.ext E2)
  obtain ⟨T7, h7, X7, e7, W7, st7⟩ := putF X4 hx hZ2 hown2 (host := "") (Or.inl (ow hw 32 rfl)) Via.refl e4 f5 f6 (Or.inr ⟨(ow hw 33 rfl), rfl, hnm⟩) (ow hw 5 rfl) (ty := (.array .byte)) (by decide) rfl rfl (g := (mkF m 14 #[.val (.ref ob), .val (.ref ar), .val (.int (0 : Int32)), .val (.int (0 : Int32)), .val .null, .unset] [(.ref b2), (.ref ob)])) rfl rfl (hb hby d4_14)
  have Fw7 := f5.same W7
  have N7 := Fr.snoc X7 N0 g_ob
  have CR1_7 := CHr.trans CR2 (CHr.wr W7 SL3 hC2.1)
  have SF1_7_ob := Safe.wr W7 SL3 hC2.1 SL3
  have CV1_7 := CHv.wr W7 SL3 hC2.1
  obtain ⟨a8, T8, h8, k8, b8, kc8, X8, e8, E8, hS8, hk8, hZ8, hown8, A8, Fc8, Fv8, V8, -, -, hC8, -, hne8, st8⟩ := ldcCH (s := s) (vm0 := T2.vm) X7 hx hZ2 hown2 (ow hw 92 rfl) hwS e7 hS2 (Nat.le_trans hk2 (Keep.of_wr W7).1) (own_EW hw) (List.mem_cons_self ..) CV1_7 (vs := []) (z := (0 : Int32)) ⟨by decide, by decide⟩ (by decide) rfl (g := (mkF m 18 #[.val (.ref ob), .val (.ref ar), .val (.int (0 : Int32)), .val (.int (0 : Int32)), .val .null, .unset] [(.ref ob)])) rfl (hb hby d4_18) (n := 0) (by decide) (by decide) (by decide) (by decide)
  have f10 : Exa Z h7 ob "java/lang/String" := (f6.wr W7)
  have SL9 := hC8.safe f10.lt SF1_7_ob
  have CR8 := CHr.trans CR1_7 hC8
  obtain ⟨T11, X11, e11, st11⟩ := getF X8 hx hZ8 hown8 (host := "") (Or.inl (ow hw 30 rfl)) Via.refl e8 Fc8 (g := (mkF m 20 #[.val (.ref ob), .val (.ref ar), .val (.int (0 : Int32)), .val (.int (0 : Int32)), .val .null, .unset] [(.ref a8), (.ref ob)])) rfl rfl (hb hby d4_20)
  have f12 : Fld Z h8 ob "java/lang/String" "coder" "B" u_coder_ob := (((F_coder_ob.ext E2).other W7 (Or.inr (slot_ne (Or.inr (ow hw 31 rfl)) (Or.inr (ow hw 33 rfl)) (by decide) (t := .byte) (t' := (.array .byte)) (by decide) (by decide)))).ext E8)
  have f13 : Exa Z h8 ob "java/lang/String" := (f10.ext E8)
  obtain ⟨T14, h14, X14, e14, W14, st14⟩ := putFN X11 hx hZ8 hown8 (ow hw 30 rfl) Via.refl e11 f12 f13 (Or.inr ⟨(ow hw 31 rfl), rfl, hnm⟩) (ow hw 5 rfl) (ty := .byte) (v' := (.int (0 : Int32))) (by decide) rfl (by decide) (g := (mkF m 23 #[.val (.ref ob), .val (.ref ar), .val (.int (0 : Int32)), .val (.int (0 : Int32)), .val .null, .unset] [(.int (0 : Int32)), (.ref ob)])) rfl rfl (hb hby d4_23)
  have Fw14 := f12.same W14
  have N14 := Fr.snoc X14 N7 g_ob
  have CR3_14 := CHr.trans CR8 (CHr.wr W14 SL9 hC8.1)
  have SF3_14_ob := Safe.wr W14 SL9 hC8.1 SL9
  have CV3_14 := CHv.wr W14 SL9 hC8.1
  have f15 : Exa Z h14 ob "java/lang/String" := (f13.wr W14)
  have f16 : Fld Z h14 ob "java/lang/String" "value" "[B" (.ref b2) := ((Fw7.ext E8).other W14 (Or.inr (slot_ne (Or.inr (ow hw 33 rfl)) (Or.inr (ow hw 31 rfl)) (by decide) (t := (.array .byte)) (t' := .byte) (by decide) (by decide))))
  have f17 : Arv Z h14 b2 kc2 .byte (0 : Int32) [] (.int (0 : Int32)) := (((V2.other W7 (Ne.symm (hne2 _ SL3).2)).ext E8).other W14 (Ne.symm (hne2 _ SL3).2))
  obtain ⟨fs, hr, hrun, hended, hRW⟩ := X14.leaveW (s := s) hS8 (by rw [e14]; exact (Nat.le_trans hk8 (Keep.of_wr W14).1)) (v := none) (fun _ => rfl)
  refine ⟨_, _, pre0 _ ?_, hrun, hended, _, _, rfl, ?_, (by show CHr Z own_EL s.vm s.heap T14.vm T14.heap; rw [hh, e14]; exact CHr.trans CR3_14 (CHv.at (s := s) (vm0 := T8.vm) X14 hZ8 (own_EW hw) CV3_14)), hRW.1, hRW.2.1, hRW.2.2.1, hRW.2.2.2.mono (by decide) (by decide)⟩
  · refine sh (mkF m 0 #[.val (.ref ob), .val (.ref ar), .val (.int (0 : Int32)), .val (.int (0 : Int32)), .val .null, .unset] []) ?_
    refine XS.aloadN X0.here hx rfl (hb hby d4_0) rfl rfl ?_
    refine sh (mkF m 1 #[.val (.ref ob), .val (.ref ar), .val (.int (0 : Int32)), .val (.int (0 : Int32)), .val .null, .unset] [(.ref ob)]) ?_
    refine st1 _ ?_
    refine sh (mkF m 4 #[.val (.ref ob), .val (.ref ar), .val (.int (0 : Int32)), .val (.int (0 : Int32)), .val .null, .unset] []) ?_
    refine XS.iloadN X1.here hx rfl (hb hby d4_4) rfl ?_
    refine sh (mkF m 5 #[.val (.ref ob), .val (.ref ar), .val (.int (0 : Int32)), .val (.int (0 : Int32)), .val .null, .unset] [(.int (0 : Int32))]) ?_
    refine XS.ifNo X1.here hx rfl (hb hby d4_5) rfl ((if0 _ _).trans (teq (rfl : (0 : Int32) = (0 : Int32))).2) ?_
    refine sh (mkF m 8 #[.val (.ref ob), .val (.ref ar), .val (.int (0 : Int32)), .val (.int (0 : Int32)), .val .null, .unset] []) ?_
    refine XS.aloadN X1.here hx rfl (hb hby d4_8) rfl rfl ?_
    refine sh (mkF m 9 #[.val (.ref ob), .val (.ref ar), .val (.int (0 : Int32)), .val (.int (0 : Int32)), .val .null, .unset] [(.ref ob)]) ?_
    refine st2 _ ?_
    refine sh (mkF m 11 #[.val (.ref ob), .val (.ref ar), .val (.int (0 : Int32)), .val (.int (0 : Int32)), .val .null, .unset] [(.ref a2), (.ref ob)]) ?_
    refine st4 _ ?_
    refine sh (mkF m 14 #[.val (.ref ob), .val (.ref ar), .val (.int (0 : Int32)), .val (.int (0 : Int32)), .val .null, .unset] [(.ref b2), (.ref ob)]) ?_
    refine st7 _ ?_
    refine sh (mkF m 17 #[.val (.ref ob), .val (.ref ar), .val (.int (0 : Int32)), .val (.int (0 : Int32)), .val .null, .unset] []) ?_
    refine XS.aloadN X7.here hx rfl (hb hby d4_17) rfl rfl ?_
    refine sh (mkF m 18 #[.val (.ref ob), .val (.ref ar), .val (.int (0 : Int32)), .val (.int (0 : Int32)), .val .null, .unset] [(.ref ob)]) ?_
    refine st8 _ ?_
    refine sh (mkF m 20 #[.val (.ref ob), .val (.ref ar), .val (.int (0 : Int32)), .val (.int (0 : Int32)), .val .null, .unset] [(.ref a8), (.ref ob)]) ?_
    refine st11 _ ?_
    refine sh (mkF m 23 #[.val (.ref ob), .val (.ref ar), .val (.int (0 : Int32)), .val (.int (0 : Int32)), .val .null, .unset] [(.int (0 : Int32)), (.ref ob)]) ?_
    refine st14 _ ?_
    refine sh (mkF m 26 #[.val (.ref ob), .val (.ref ar), .val (.int (0 : Int32)), .val (.int (0 : Int32)), .val .null, .unset] []) ?_
    exact X14.returnOut hx Bd.returns (hb hby d4_26) hr
  · show Q_rmCI0 Z ob ar u_coder_ob h0 n0 _ T14.heap _
    rw [e14]
    exact ⟨b2, kc2, rfl, N14, (((((Keep.refl h0 [ob]).ext E2).wr W7 (Or.inl (List.mem_of_getElem? (i := 0) rfl))).ext E8).wr W14 (Or.inl (List.mem_of_getElem? (i := 0) rfl))), f15, f16, Fw14, f17⟩
theorem d5_0 : decode jdk_42_method_3_code 0 = .ok (.aload_n 0, 1) := by decide +kernel
theorem d5_1 : decode jdk_42_method_3_code 1 = .ok (.aload_n 1, 1) := by decide +kernel
theorem d5_2 : decode jdk_42_method_3_code 2 = .ok (.iconst 0, 1) := by decide +kernel
theorem d5_3 : decode jdk_42_method_3_code 3 = .ok (.aload_n 1, 1) := by decide +kernel
theorem d5_4 : decode jdk_42_method_3_code 4 = .ok (.arraylength, 1) := by decide +kernel
theorem d5_5 : decode jdk_42_method_3_code 5 = .ok (.aconst_null, 1) := by decide +kernel
theorem d5_6 : decode jdk_42_method_3_code 6 = .ok (.invokespecial 27, 3) := by decide +kernel
theorem pd_3 : parseMethodDescriptor "([CIILjava/lang/Void;)V" = some ⟨[(.array .char), .int, .int, (.object "java/lang/Void")], none⟩ := by decide +kernel
theorem d5_9 : decode jdk_42_method_3_code 9 = .ok (.return_, 1) := by decide +kernel
def Q_rmCA0 (Z : State) (ob : Addr) (ar : Addr) (ka : ClassId) (u_c : Value) (h0 : Heap) (n0 : Nat) (v : Option Value) (h : Heap) (L : List Loc) : Prop := ∃ vb : Addr, ∃ kb : ClassId, v = none ∧ Fr n0 L ∧ Keep h0 h [ob] ∧ Exa Z h ob "java/lang/String" ∧ Fld Z h ob "java/lang/String" "value" "[B" (.ref vb) ∧ Fld Z h ob "java/lang/String" "coder" "B" (.int (0 : Int32)) ∧ Arv Z h vb kb .byte (0 : Int32) [] (.int (0 : Int32))
theorem ef_rmCA0 (m : MethodId) (ob : Addr) (ar : Addr) : entryFrame m #[(.ref ob), (.ref ar)] 2 = mkF m 0 #[.val (.ref ob), .val (.ref ar)] [] := by first | (simp [entryFrame, mkF, argsToLocals, Value.category]; done) | rfl
set_option maxRecDepth 65536 in
set_option maxHeartbeats 40000000 in
theorem rmCA0 (l : Launch) (Z : State) (a0 : Array Value) (hw : ∀ d ∈ tables_1, d.before a0 Z = true) (ws : List Jvm.Cond) (ob : Addr) (ar : Addr) (ka : ClassId) (u_c : Value) (h0 : Heap) (n0 : Nat) (Z0 : n0 ≤ h0.size) (hwS : ∀ a ∈ Bundle.stringAtoms, a.before a0 Z = true) (E_ob : Exa Z h0 ob "java/lang/String") (V_ar : Arv Z h0 ar ka .char (0 : Int32) [] (.int (0 : Int32))) (F_value_ob : Fld Z h0 ob "java/lang/String" "value" "[B" .null) (F_coder_ob : Fld Z h0 ob "java/lang/String" "coder" "B" u_c) (g_ob : n0 ≤ ob) :
    MetFree l (⟨"java/lang/String", "<init>", "([C)V"⟩ : MethodName) (head1 (Jvm.Cond.code (⟨"java/lang/String", "<init>", "([C)V"⟩ : MethodName) jdk_42_method_3_code 2 none :: ws) ({ frames := 2, cells := 4, slots := 8, locals := 29 } : Room)) (fun a U => a = #[(.ref ob), (.ref ar)] ∧ Z.Warmed39 U.vm ∧ U.heap = h0 ∧ CHv Z own_EL U.vm h0) (fun _ _ _ _ _ => True) (fun _ U o U' => ∃ v L, o = .returned v ∧ Q_rmCA0 Z ob ar ka u_c h0 n0 v U'.heap L ∧ CHr Z own_EL U.vm U.heap U'.vm U'.heap ∧ ReturnedEndW U o U' L ({ frames := 2, cells := 4, slots := 8, locals := 29 } : Room).cells ({ frames := 2, cells := 4, slots := 8, locals := 29 } : Room).slots) := by
  refine MetFree.of_bodySF (plainFor_of_name pn_1) hisR ?_
  intro p e s m args below meth c s₁ Bd hml0 hP hK
  obtain ⟨rfl, hZ, hh, hCH⟩ := hP
  have hx := Bd.exec
  have hby := Bd.bytes
  have hml : c.maxLocals = 2 := hml0
  have hown : s.vm.findClass "java/lang/String" = some m.cls := findClass_of_methodNamed Bd.named
  have hnm := (name_of_methodNamed Bd.named Bd.method).1
  have X0 : Stand p l e ({ frames := 2, cells := 4, slots := 8, locals := 29 } : Room) s m #[(.ref ob), (.ref ar)] below meth c s₁ [] 0 0 := Stand.of_body Bd
  have e0 : s₁.heap = h0 := by rw [← hh, Bd.state]; rfl
  have N0 := Fr.nil n0
  have hS0 := (State.WarmedH.refl s).since 0
  have pre0 : ∀ t, Steps p.tables e below (s₁.setTop (mkF m 0 #[.val (.ref ob), .val (.ref ar)] [])) t → Steps p.tables e below (s₁.setTop (entryFrame m #[(.ref ob), (.ref ar)] 2)) t := fun t k => castTop (ef_rmCA0 m ob ar) k
  have Vc1 := V_ar
  obtain ⟨cl1, Ar1, -, S1, M1, -, -⟩ := Vc1
  obtain ⟨_, _, ⟨T2, L2, k2, n2⟩, -, X2, hSq2, hgq2, ⟨Lc2, hQ2, l2, y2, z2, hC2⟩, st2⟩ := X0.specialBackS hx (y := (⟨"java/lang/String", "<init>", "([CIILjava/lang/Void;)V"⟩ : MethodName)) rfl hown (mvT hZ (ow hw 11 rfl)) (mvT hZ (ow hw 12 rfl)) (mvT hZ (ow hw 14 rfl)) (by decide) (backOfSH (s := s) (vm0 := s.vm) (W := 0) (rmCI0 l Z a0 hw [] ob ar u_c h0 n0 Z0 hwS E_ob F_value_ob g_ob F_coder_ob) hZ (ow hw 14 rfl) (ow hw 6 rfl) (by decide) (by decide) (own_EW hw) hCH) (g := (mkF m 6 #[.val (.ref ob), .val (.ref ar)] [.null, (.int (0 : Int32)), (.int (0 : Int32)), (.ref ar), (.ref ob)])) rfl (by rw [hml]; rfl) (Steps.refl _) (a := ob) (argsL := [(.ref ar), (.int (0 : Int32)), (.int (0 : Int32)), .null]) (rest := []) (lenOf pd_3 rfl) rfl (by show 2 * 0 + _ ≤ _; exact Nat.le_of_eq rfl) (hb hby d5_6) (fun _ _ => ⟨rfl, e0, (by decide : 0 + 4 ≤ _), (by decide : 0 + 8 ≤ _)⟩)
  dsimp only [Pt.U, Pt.locs, Pt.cells, Pt.slots] at X2 l2 y2 z2 st2 hQ2 hSq2 hgq2 hC2
  subst l2 y2 z2
  obtain ⟨X2, hS2, hZ2, hown2⟩ := rebS (s := s) (vm0 := s.vm) hS0 (by rw [e0]; exact (Nat.zero_le _)) X2 hSq2 hgq2 hZ hown
  obtain ⟨vb_2, kb_2, rfl, Nq2, Kp2, Fq2_0, Fq2_1, Fq2_2, Fq2_3⟩ := hQ2
  have N2 := Fr.app N0 Nq2
  have CR2 := CHr.trans (CHr.refl hCH) hC2
  obtain ⟨fs, hr, hrun, hended, hRW⟩ := X2.leaveW (s := s) hS2 (Nat.le_refl _) (v := none) (fun _ => rfl)
  refine ⟨_, _, pre0 _ ?_, hrun, hended, _, _, rfl, ?_, (by show CHr Z own_EL s.vm s.heap T2.vm T2.heap; rw [hh]; exact CHr.trans CR2 (CHv.at (s := s) (vm0 := T2.vm) X2 hZ2 (own_EW hw) hC2.1)), hRW.1, hRW.2.1, hRW.2.2.1, hRW.2.2.2.mono (by decide) (by decide)⟩
  · refine sh (mkF m 0 #[.val (.ref ob), .val (.ref ar)] []) ?_
    refine XS.aloadN X0.here hx rfl (hb hby d5_0) rfl rfl ?_
    refine sh (mkF m 1 #[.val (.ref ob), .val (.ref ar)] [(.ref ob)]) ?_
    refine XS.aloadN X0.here hx rfl (hb hby d5_1) rfl rfl ?_
    refine sh (mkF m 2 #[.val (.ref ob), .val (.ref ar)] [(.ref ar), (.ref ob)]) ?_
    refine XS.iconst X0.here hx rfl (hb hby d5_2) ?_
    refine sh (mkF m 3 #[.val (.ref ob), .val (.ref ar)] [(.int (0 : Int32)), (.ref ar), (.ref ob)]) ?_
    refine XS.aloadN X0.here hx rfl (hb hby d5_3) rfl rfl ?_
    refine sh (mkF m 4 #[.val (.ref ob), .val (.ref ar)] [(.ref ar), (.int (0 : Int32)), (.ref ar), (.ref ob)]) ?_
    refine X0.arraylength hx (cell := cl1) (by rw [e0]; exact Ar1.1) (State.isArrayOf_alike hZ.alike Ar1.2.1) (g := (mkF m 4 #[.val (.ref ob), .val (.ref ar)] [(.ref ar), (.int (0 : Int32)), (.ref ar), (.ref ob)])) rfl (rest := [(.int (0 : Int32)), (.ref ar), (.ref ob)]) rfl (hb hby d5_4) _ ?_
    rw [len_of S1 M1]
    refine sh (mkF m 5 #[.val (.ref ob), .val (.ref ar)] [(.int (0 : Int32)), (.int (0 : Int32)), (.ref ar), (.ref ob)]) ?_
    refine XS.aconstNull X0.here hx rfl (hb hby d5_5) ?_
    refine sh (mkF m 6 #[.val (.ref ob), .val (.ref ar)] [.null, (.int (0 : Int32)), (.int (0 : Int32)), (.ref ar), (.ref ob)]) ?_
    refine st2.trans ?_
    refine sh (mkF m 9 #[.val (.ref ob), .val (.ref ar)] []) ?_
    exact X2.returnOut hx Bd.returns (hb hby d5_9) hr
  · show Q_rmCA0 Z ob ar ka u_c h0 n0 _ T2.heap _
    exact ⟨vb_2, kb_2, rfl, N2, ((Keep.refl h0 [ob]).trans Kp2 (allS (Or.inl (List.mem_of_getElem? (i := 0) rfl)) all0)), Fq2_0, Fq2_1, Fq2_2, Fq2_3⟩
theorem d6_0 : decode method_2_code 0 = .ok (.iload_n 0, 1) := by decide +kernel
theorem d6_1 : decode method_2_code 1 = .ok (.iconst 3, 1) := by decide +kernel
theorem d6_2 : decode method_2_code 2 = .ok (.iand, 1) := by decide +kernel
theorem d6_3 : decode method_2_code 3 = .ok (.istore_n 1, 1) := by decide +kernel
theorem d6_4 : decode method_2_code 4 = .ok (.iload_n 0, 1) := by decide +kernel
theorem d6_5 : decode method_2_code 5 = .ok (.iconst 2, 1) := by decide +kernel
theorem d6_6 : decode method_2_code 6 = .ok (.iushr, 1) := by decide +kernel
theorem d6_7 : decode method_2_code 7 = .ok (.sipush 255, 3) := by decide +kernel
theorem d6_10 : decode method_2_code 10 = .ok (.iand, 1) := by decide +kernel
theorem d6_11 : decode method_2_code 11 = .ok (.i2c, 1) := by decide +kernel
theorem d6_12 : decode method_2_code 12 = .ok (.istore_n 2, 1) := by decide +kernel
theorem d6_13 : decode method_2_code 13 = .ok (.iload_n 0, 1) := by decide +kernel
theorem d6_14 : decode method_2_code 14 = .ok (.bipush 10, 2) := by decide +kernel
theorem d6_16 : decode method_2_code 16 = .ok (.iushr, 1) := by decide +kernel
theorem d6_17 : decode method_2_code 17 = .ok (.sipush 255, 3) := by decide +kernel
theorem d6_20 : decode method_2_code 20 = .ok (.iand, 1) := by decide +kernel
theorem d6_21 : decode method_2_code 21 = .ok (.i2c, 1) := by decide +kernel
theorem d6_22 : decode method_2_code 22 = .ok (.istore_n 3, 1) := by decide +kernel
theorem d6_23 : decode method_2_code 23 = .ok (.iload_n 0, 1) := by decide +kernel
theorem d6_24 : decode method_2_code 24 = .ok (.bipush 18, 2) := by decide +kernel
theorem d6_26 : decode method_2_code 26 = .ok (.iushr, 1) := by decide +kernel
theorem d6_27 : decode method_2_code 27 = .ok (.sipush 255, 3) := by decide +kernel
theorem d6_30 : decode method_2_code 30 = .ok (.iand, 1) := by decide +kernel
theorem d6_31 : decode method_2_code 31 = .ok (.i2c, 1) := by decide +kernel
theorem d6_32 : decode method_2_code 32 = .ok (.istore 4, 2) := by decide +kernel
theorem d6_34 : decode method_2_code 34 = .ok (.iload_n 1, 1) := by decide +kernel
theorem d6_35 : decode method_2_code 35 = .ok (.ifCond .ne 14, 3) := by decide +kernel
theorem d6_38 : decode method_2_code 38 = .ok (.new 7, 3) := by decide +kernel
theorem d6_41 : decode method_2_code 41 = .ok (.dup, 1) := by decide +kernel
theorem d6_42 : decode method_2_code 42 = .ok (.iconst 0, 1) := by decide +kernel
theorem d6_43 : decode method_2_code 43 = .ok (.newarray .char, 2) := by decide +kernel
theorem d6_45 : decode method_2_code 45 = .ok (.invokespecial 9, 3) := by decide +kernel
theorem pd_4 : parseMethodDescriptor "([C)V" = some ⟨[(.array .char)], none⟩ := by decide +kernel
theorem d6_48 : decode method_2_code 48 = .ok (.areturn, 1) := by decide +kernel
theorem d7_0 : decode jdk_52_method_21_code 0 = .ok (.iconst 0, 1) := by decide +kernel
theorem d7_1 : decode jdk_52_method_21_code 1 = .ok (.istore 5, 2) := by decide +kernel
theorem d7_3 : decode jdk_52_method_21_code 3 = .ok (.iload 5, 2) := by decide +kernel
theorem d7_5 : decode jdk_52_method_21_code 5 = .ok (.iload 4, 2) := by decide +kernel
theorem d7_7 : decode jdk_52_method_21_code 7 = .ok (.if_icmp .ge 37, 3) := by decide +kernel
theorem d7_10 : decode jdk_52_method_21_code 10 = .ok (.aload_n 0, 1) := by decide +kernel
theorem d7_11 : decode jdk_52_method_21_code 11 = .ok (.iload_n 1, 1) := by decide +kernel
theorem d7_12 : decode jdk_52_method_21_code 12 = .ok (.caload, 1) := by decide +kernel
theorem d7_13 : decode jdk_52_method_21_code 13 = .ok (.istore 6, 2) := by decide +kernel
theorem d7_15 : decode jdk_52_method_21_code 15 = .ok (.iload 6, 2) := by decide +kernel
theorem d7_17 : decode jdk_52_method_21_code 17 = .ok (.sipush 255, 3) := by decide +kernel
theorem d7_20 : decode jdk_52_method_21_code 20 = .ok (.if_icmp .le 6, 3) := by decide +kernel
theorem d7_26 : decode jdk_52_method_21_code 26 = .ok (.aload_n 2, 1) := by decide +kernel
theorem d7_27 : decode jdk_52_method_21_code 27 = .ok (.iload_n 3, 1) := by decide +kernel
theorem d7_28 : decode jdk_52_method_21_code 28 = .ok (.iload 6, 2) := by decide +kernel
theorem d7_30 : decode jdk_52_method_21_code 30 = .ok (.i2b, 1) := by decide +kernel
theorem d7_31 : decode jdk_52_method_21_code 31 = .ok (.bastore, 1) := by decide +kernel
theorem d7_32 : decode jdk_52_method_21_code 32 = .ok (.iinc 1 1, 3) := by decide +kernel
theorem d7_35 : decode jdk_52_method_21_code 35 = .ok (.iinc 3 1, 3) := by decide +kernel
theorem d7_38 : decode jdk_52_method_21_code 38 = .ok (.iinc 5 1, 3) := by decide +kernel
theorem d7_41 : decode jdk_52_method_21_code 41 = .ok (.goto (-38), 3) := by decide +kernel
theorem d7_44 : decode jdk_52_method_21_code 44 = .ok (.iload 4, 2) := by decide +kernel
theorem d7_46 : decode jdk_52_method_21_code 46 = .ok (.ireturn, 1) := by decide +kernel
theorem pn_2 : plainName "java/lang/StringUTF16" = true := by first | (simp [plainName, overriddenIn]; done) | decide +kernel
def Q_rmCP1 (Z : State) (ar : Addr) (br : Addr) (kb : ClassId) (d0 : Int32) (ka : ClassId) (h0 : Heap) (n0 : Nat) (v : Option Value) (h : Heap) (L : List Loc) : Prop := v = some (.int (1 : Int32)) ∧ Fr n0 L ∧ Keep h0 h [br] ∧ Arv Z h br kb .byte (1 : Int32) [(.int (nar .byte (d0.toInt8.toInt32)))] (.int (0 : Int32))
theorem ef_rmCP1 (m : MethodId) (ar : Addr) (br : Addr) : entryFrame m #[(.ref ar), (.int (0 : Int32)), (.ref br), (.int (0 : Int32)), (.int (1 : Int32))] 7 = mkF m 0 #[.val (.ref ar), .val (.int (0 : Int32)), .val (.ref br), .val (.int (0 : Int32)), .val (.int (1 : Int32)), .unset, .unset] [] := by first | (simp [entryFrame, mkF, argsToLocals, Value.category]; done) | rfl
set_option maxRecDepth 65536 in
set_option maxHeartbeats 40000000 in
theorem rmCP1 (l : Launch) (Z : State) (a0 : Array Value) (hw : ∀ d ∈ tables_1, d.before a0 Z = true) (ws : List Jvm.Cond) (ar : Addr) (br : Addr) (kb : ClassId) (d0 : Int32) (ka : ClassId) (h0 : Heap) (n0 : Nat) (Z0 : n0 ≤ h0.size) (V_ar : Arv Z h0 ar ka .char (1 : Int32) [(.int d0)] (.int (0 : Int32))) (gd0 : ¬ ((255 : Int32) < d0)) (V_br : Arv Z h0 br kb .byte (1 : Int32) [(.int (0 : Int32))] (.int (0 : Int32))) (g_br : n0 ≤ br) :
    MetFree l (⟨"java/lang/StringUTF16", "compress", "([CI[BII)I"⟩ : MethodName) (head1 (Jvm.Cond.code (⟨"java/lang/StringUTF16", "compress", "([CI[BII)I"⟩ : MethodName) jdk_52_method_21_code 7 (some .int) :: ws) ({ frames := 0, cells := 0, slots := 0, locals := 0 } : Room)) (fun a U => a = #[(.ref ar), (.int (0 : Int32)), (.ref br), (.int (0 : Int32)), (.int (1 : Int32))] ∧ Z.Warmed39 U.vm ∧ U.heap = h0) (fun _ _ _ _ _ => True) (fun _ U o U' => ∃ v L, o = .returned v ∧ Q_rmCP1 Z ar br kb d0 ka h0 n0 v U'.heap L ∧ FrameEnd U o U' L ({ frames := 0, cells := 0, slots := 0, locals := 0 } : Room).cells ({ frames := 0, cells := 0, slots := 0, locals := 0 } : Room).slots) := by
  refine MetFree.of_bodySF (plainFor_of_name pn_2) hisR ?_
  intro p e s m args below meth c s₁ Bd hml0 hP hK
  obtain ⟨rfl, hZ, hh⟩ := hP
  have hx := Bd.exec
  have hby := Bd.bytes
  have hml : c.maxLocals = 7 := hml0
  have hown : s.vm.findClass "java/lang/StringUTF16" = some m.cls := findClass_of_methodNamed Bd.named
  have hnm := (name_of_methodNamed Bd.named Bd.method).1
  have X0 : Stand p l e ({ frames := 0, cells := 0, slots := 0, locals := 0 } : Room) s m #[(.ref ar), (.int (0 : Int32)), (.ref br), (.int (0 : Int32)), (.int (1 : Int32))] below meth c s₁ [] 0 0 := Stand.of_body Bd
  have e0 : s₁.heap = h0 := by rw [← hh, Bd.state]; rfl
  have N0 := Fr.nil n0
  have pre0 : ∀ t, Steps p.tables e below (s₁.setTop (mkF m 0 #[.val (.ref ar), .val (.int (0 : Int32)), .val (.ref br), .val (.int (0 : Int32)), .val (.int (1 : Int32)), .unset, .unset] [])) t → Steps p.tables e below (s₁.setTop (entryFrame m #[(.ref ar), (.int (0 : Int32)), (.ref br), (.int (0 : Int32)), (.int (1 : Int32))] 7)) t := fun t k => castTop (ef_rmCP1 m ar br) k
  have Vc1 := V_ar
  obtain ⟨cl1, Ar1, q1, S1, M1, H1, G1⟩ := Vc1
  have hin1 : ¬ ((0 : Int32) < 0 ∨ cl1.slots.size ≤ ((0 : Int32)).toNatClampNeg) := inb_of S1 ⟨by decide, by decide⟩
  have hat1 : cl1.slots[((0 : Int32)).toNatClampNeg]? = some (.int d0) := Has.at H1 hin1 rfl
  have Vc2 := V_br
  obtain ⟨cl2, Ar2, q2, S2, M2, H2, G2⟩ := Vc2
  have hin2 : ¬ ((0 : Int32) < 0 ∨ cl2.slots.size ≤ ((0 : Int32)).toNatClampNeg) := inb_of S2 ⟨by decide, by decide⟩
  obtain ⟨T2, h2, X2, e2, W2, st2⟩ := stB X0 hx hZ e0 Ar2 (j := (0 : Int32)) hin2 (g := (mkF m 31 #[.val (.ref ar), .val (.int (0 : Int32)), .val (.ref br), .val (.int (0 : Int32)), .val (.int (1 : Int32)), .val (.int (0 : Int32)), .val (.int d0)] [(.int (d0.toInt8.toInt32)), (.int (0 : Int32)), (.ref br)])) rfl rfl (hb hby d7_31)
  have V2 : Arv Z h2 br kb .byte (1 : Int32) [(.int (nar .byte (d0.toInt8.toInt32)))] (.int (0 : Int32)) := Arv.set Ar2 q2 S2 M2 H2 G2 (fits_nar_byte _) W2 0 rfl (Nat.le_of_ble_eq_true rfl)
  have N2 := Fr.snoc X2 N0 g_br
  obtain ⟨fs, hr, hrun, hended, hW, hsame⟩ := X2.leave (v := some (.int (1 : Int32))) (fun h => by rw [Bd.returns] at h; cases h)
  refine ⟨_, _, pre0 _ ?_, hrun, hended, _, _, rfl, ?_, ⟨_, rfl⟩, hW, hsame.mono (by decide) (by decide)⟩
  · refine sh (mkF m 0 #[.val (.ref ar), .val (.int (0 : Int32)), .val (.ref br), .val (.int (0 : Int32)), .val (.int (1 : Int32)), .unset, .unset] []) ?_
    refine XS.iconst X0.here hx rfl (hb hby d7_0) ?_
    refine sh (mkF m 1 #[.val (.ref ar), .val (.int (0 : Int32)), .val (.ref br), .val (.int (0 : Int32)), .val (.int (1 : Int32)), .unset, .unset] [(.int (0 : Int32))]) ?_
    refine XS.istore X0.here hx rfl (hb hby d7_1) rfl (l' := #[.val (.ref ar), .val (.int (0 : Int32)), .val (.ref br), .val (.int (0 : Int32)), .val (.int (1 : Int32)), .val (.int (0 : Int32)), .unset]) rfl ?_
    refine sh (mkF m 3 #[.val (.ref ar), .val (.int (0 : Int32)), .val (.ref br), .val (.int (0 : Int32)), .val (.int (1 : Int32)), .val (.int (0 : Int32)), .unset] []) ?_
    refine XS.iload X0.here hx rfl (hb hby d7_3) rfl ?_
    refine sh (mkF m 5 #[.val (.ref ar), .val (.int (0 : Int32)), .val (.ref br), .val (.int (0 : Int32)), .val (.int (1 : Int32)), .val (.int (0 : Int32)), .unset] [(.int (0 : Int32))]) ?_
    refine XS.iload X0.here hx rfl (hb hby d7_5) rfl ?_
    refine sh (mkF m 7 #[.val (.ref ar), .val (.int (0 : Int32)), .val (.ref br), .val (.int (0 : Int32)), .val (.int (1 : Int32)), .val (.int (0 : Int32)), .unset] [(.int (1 : Int32)), (.int (0 : Int32))]) ?_
    refine XS.icmpNo X0.here hx rfl (hb hby d7_7) rfl (tlt (by decide : (0 : Int32) < (1 : Int32))).2.1 ?_
    refine sh (mkF m 10 #[.val (.ref ar), .val (.int (0 : Int32)), .val (.ref br), .val (.int (0 : Int32)), .val (.int (1 : Int32)), .val (.int (0 : Int32)), .unset] []) ?_
    refine XS.aloadN X0.here hx rfl (hb hby d7_10) rfl rfl ?_
    refine sh (mkF m 11 #[.val (.ref ar), .val (.int (0 : Int32)), .val (.ref br), .val (.int (0 : Int32)), .val (.int (1 : Int32)), .val (.int (0 : Int32)), .unset] [(.ref ar)]) ?_
    refine XS.iloadN X0.here hx rfl (hb hby d7_11) rfl ?_
    refine sh (mkF m 12 #[.val (.ref ar), .val (.int (0 : Int32)), .val (.ref br), .val (.int (0 : Int32)), .val (.int (1 : Int32)), .val (.int (0 : Int32)), .unset] [(.int (0 : Int32)), (.ref ar)]) ?_
    refine X0.caload hx (j := (0 : Int32)) (v := (.int d0)) (by rw [e0]; exact Ar1.1) (State.isArrayOf_alike hZ.alike Ar1.2.1) Ar1.2.2 hin1 hat1 (g := (mkF m 12 #[.val (.ref ar), .val (.int (0 : Int32)), .val (.ref br), .val (.int (0 : Int32)), .val (.int (1 : Int32)), .val (.int (0 : Int32)), .unset] [(.int (0 : Int32)), (.ref ar)])) rfl rfl (hb hby d7_12) _ ?_
    refine sh (mkF m 13 #[.val (.ref ar), .val (.int (0 : Int32)), .val (.ref br), .val (.int (0 : Int32)), .val (.int (1 : Int32)), .val (.int (0 : Int32)), .unset] [(.int d0)]) ?_
    refine XS.istore X0.here hx rfl (hb hby d7_13) rfl (l' := #[.val (.ref ar), .val (.int (0 : Int32)), .val (.ref br), .val (.int (0 : Int32)), .val (.int (1 : Int32)), .val (.int (0 : Int32)), .val (.int d0)]) rfl ?_
    refine sh (mkF m 15 #[.val (.ref ar), .val (.int (0 : Int32)), .val (.ref br), .val (.int (0 : Int32)), .val (.int (1 : Int32)), .val (.int (0 : Int32)), .val (.int d0)] []) ?_
    refine XS.iload X0.here hx rfl (hb hby d7_15) rfl ?_
    refine sh (mkF m 17 #[.val (.ref ar), .val (.int (0 : Int32)), .val (.ref br), .val (.int (0 : Int32)), .val (.int (1 : Int32)), .val (.int (0 : Int32)), .val (.int d0)] [(.int d0)]) ?_
    refine XS.sipush X0.here hx rfl (hb hby d7_17) ?_
    refine sh (mkF m 20 #[.val (.ref ar), .val (.int (0 : Int32)), .val (.ref br), .val (.int (0 : Int32)), .val (.int (1 : Int32)), .val (.int (0 : Int32)), .val (.int d0)] [(.int (255 : Int32)), (.int d0)]) ?_
    refine XS.icmpYes X0.here hx rfl (pc0 := 20) (pc' := 26) rfl (hb hby d7_20) rfl (flt gd0).2.2.2 (by decide) (by decide) ?_
    refine sh (mkF m 26 #[.val (.ref ar), .val (.int (0 : Int32)), .val (.ref br), .val (.int (0 : Int32)), .val (.int (1 : Int32)), .val (.int (0 : Int32)), .val (.int d0)] []) ?_
    refine XS.aloadN X0.here hx rfl (hb hby d7_26) rfl rfl ?_
    refine sh (mkF m 27 #[.val (.ref ar), .val (.int (0 : Int32)), .val (.ref br), .val (.int (0 : Int32)), .val (.int (1 : Int32)), .val (.int (0 : Int32)), .val (.int d0)] [(.ref br)]) ?_
    refine XS.iloadN X0.here hx rfl (hb hby d7_27) rfl ?_
    refine sh (mkF m 28 #[.val (.ref ar), .val (.int (0 : Int32)), .val (.ref br), .val (.int (0 : Int32)), .val (.int (1 : Int32)), .val (.int (0 : Int32)), .val (.int d0)] [(.int (0 : Int32)), (.ref br)]) ?_
    refine XS.iload X0.here hx rfl (hb hby d7_28) rfl ?_
    refine sh (mkF m 30 #[.val (.ref ar), .val (.int (0 : Int32)), .val (.ref br), .val (.int (0 : Int32)), .val (.int (1 : Int32)), .val (.int (0 : Int32)), .val (.int d0)] [(.int d0), (.int (0 : Int32)), (.ref br)]) ?_
    refine XS.i2b X0.here hx rfl (hb hby d7_30) rfl ?_
    refine sh (mkF m 31 #[.val (.ref ar), .val (.int (0 : Int32)), .val (.ref br), .val (.int (0 : Int32)), .val (.int (1 : Int32)), .val (.int (0 : Int32)), .val (.int d0)] [(.int (d0.toInt8.toInt32)), (.int (0 : Int32)), (.ref br)]) ?_
    refine st2 _ ?_
    refine sh (mkF m 32 #[.val (.ref ar), .val (.int (0 : Int32)), .val (.ref br), .val (.int (0 : Int32)), .val (.int (1 : Int32)), .val (.int (0 : Int32)), .val (.int d0)] []) ?_
    refine XS.iinc X2.here hx rfl (hb hby d7_32) rfl (l' := #[.val (.ref ar), .val (.int ((0 : Int32) + (1 : Int32))), .val (.ref br), .val (.int (0 : Int32)), .val (.int (1 : Int32)), .val (.int (0 : Int32)), .val (.int d0)]) rfl ?_
    refine sh (mkF m 35 #[.val (.ref ar), .val (.int ((0 : Int32) + (1 : Int32))), .val (.ref br), .val (.int (0 : Int32)), .val (.int (1 : Int32)), .val (.int (0 : Int32)), .val (.int d0)] []) ?_
    rw [show ((0 : Int32) + (1 : Int32)) = (1 : Int32) from by decide]
    refine sh (mkF m 35 #[.val (.ref ar), .val (.int (1 : Int32)), .val (.ref br), .val (.int (0 : Int32)), .val (.int (1 : Int32)), .val (.int (0 : Int32)), .val (.int d0)] []) ?_
    refine XS.iinc X2.here hx rfl (hb hby d7_35) rfl (l' := #[.val (.ref ar), .val (.int (1 : Int32)), .val (.ref br), .val (.int ((0 : Int32) + (1 : Int32))), .val (.int (1 : Int32)), .val (.int (0 : Int32)), .val (.int d0)]) rfl ?_
    refine sh (mkF m 38 #[.val (.ref ar), .val (.int (1 : Int32)), .val (.ref br), .val (.int ((0 : Int32) + (1 : Int32))), .val (.int (1 : Int32)), .val (.int (0 : Int32)), .val (.int d0)] []) ?_
    rw [show ((0 : Int32) + (1 : Int32)) = (1 : Int32) from by decide]
    refine sh (mkF m 38 #[.val (.ref ar), .val (.int (1 : Int32)), .val (.ref br), .val (.int (1 : Int32)), .val (.int (1 : Int32)), .val (.int (0 : Int32)), .val (.int d0)] []) ?_
    refine XS.iinc X2.here hx rfl (hb hby d7_38) rfl (l' := #[.val (.ref ar), .val (.int (1 : Int32)), .val (.ref br), .val (.int (1 : Int32)), .val (.int (1 : Int32)), .val (.int ((0 : Int32) + (1 : Int32))), .val (.int d0)]) rfl ?_
    refine sh (mkF m 41 #[.val (.ref ar), .val (.int (1 : Int32)), .val (.ref br), .val (.int (1 : Int32)), .val (.int (1 : Int32)), .val (.int ((0 : Int32) + (1 : Int32))), .val (.int d0)] []) ?_
    rw [show ((0 : Int32) + (1 : Int32)) = (1 : Int32) from by decide]
    refine sh (mkF m 41 #[.val (.ref ar), .val (.int (1 : Int32)), .val (.ref br), .val (.int (1 : Int32)), .val (.int (1 : Int32)), .val (.int (1 : Int32)), .val (.int d0)] []) ?_
    refine XS.goto X2.here hx rfl (pc0 := 41) (pc' := 3) rfl (hb hby d7_41) (by decide) (by decide) ?_
    refine sh (mkF m 3 #[.val (.ref ar), .val (.int (1 : Int32)), .val (.ref br), .val (.int (1 : Int32)), .val (.int (1 : Int32)), .val (.int (1 : Int32)), .val (.int d0)] []) ?_
    refine XS.iload X2.here hx rfl (hb hby d7_3) rfl ?_
    refine sh (mkF m 5 #[.val (.ref ar), .val (.int (1 : Int32)), .val (.ref br), .val (.int (1 : Int32)), .val (.int (1 : Int32)), .val (.int (1 : Int32)), .val (.int d0)] [(.int (1 : Int32))]) ?_
    refine XS.iload X2.here hx rfl (hb hby d7_5) rfl ?_
    refine sh (mkF m 7 #[.val (.ref ar), .val (.int (1 : Int32)), .val (.ref br), .val (.int (1 : Int32)), .val (.int (1 : Int32)), .val (.int (1 : Int32)), .val (.int d0)] [(.int (1 : Int32)), (.int (1 : Int32))]) ?_
    refine XS.icmpYes X2.here hx rfl (pc0 := 7) (pc' := 44) rfl (hb hby d7_7) rfl (flt (by decide : ¬ ((1 : Int32) < (1 : Int32)))).2.1 (by decide) (by decide) ?_
    refine sh (mkF m 44 #[.val (.ref ar), .val (.int (1 : Int32)), .val (.ref br), .val (.int (1 : Int32)), .val (.int (1 : Int32)), .val (.int (1 : Int32)), .val (.int d0)] []) ?_
    refine XS.iload X2.here hx rfl (hb hby d7_44) rfl ?_
    refine sh (mkF m 46 #[.val (.ref ar), .val (.int (1 : Int32)), .val (.ref br), .val (.int (1 : Int32)), .val (.int (1 : Int32)), .val (.int (1 : Int32)), .val (.int d0)] [(.int (1 : Int32))]) ?_
    exact retI X2 hx Bd.returns (hb hby d7_46) hr
  · show Q_rmCP1 Z ar br kb d0 ka h0 n0 _ T2.heap _
    rw [e2]
    exact ⟨rfl, N2, ((Keep.refl h0 [br]).wr W2 (Or.inl (List.mem_of_getElem? (i := 0) rfl))), V2⟩
theorem d8_0 : decode jdk_52_method_16_code 0 = .ok (.iload_n 2, 1) := by decide +kernel
theorem d8_1 : decode jdk_52_method_16_code 1 = .ok (.newarray .byte, 2) := by decide +kernel
theorem d8_3 : decode jdk_52_method_16_code 3 = .ok (.astore_n 3, 1) := by decide +kernel
theorem d8_4 : decode jdk_52_method_16_code 4 = .ok (.aload_n 0, 1) := by decide +kernel
theorem d8_5 : decode jdk_52_method_16_code 5 = .ok (.iload_n 1, 1) := by decide +kernel
theorem d8_6 : decode jdk_52_method_16_code 6 = .ok (.aload_n 3, 1) := by decide +kernel
theorem d8_7 : decode jdk_52_method_16_code 7 = .ok (.iconst 0, 1) := by decide +kernel
theorem d8_8 : decode jdk_52_method_16_code 8 = .ok (.iload_n 2, 1) := by decide +kernel
theorem d8_9 : decode jdk_52_method_16_code 9 = .ok (.invokestatic 115, 3) := by decide +kernel
theorem pd_5 : parseMethodDescriptor "([CI[BII)I" = some ⟨[(.array .char), .int, (.array .byte), .int, .int], some .int⟩ := by decide +kernel
theorem d8_12 : decode jdk_52_method_16_code 12 = .ok (.istore 4, 2) := by decide +kernel
theorem d8_14 : decode jdk_52_method_16_code 14 = .ok (.iload 4, 2) := by decide +kernel
theorem d8_16 : decode jdk_52_method_16_code 16 = .ok (.iload_n 2, 1) := by decide +kernel
theorem d8_17 : decode jdk_52_method_16_code 17 = .ok (.if_icmp .eq 40, 3) := by decide +kernel
theorem d8_57 : decode jdk_52_method_16_code 57 = .ok (.aload_n 3, 1) := by decide +kernel
theorem d8_58 : decode jdk_52_method_16_code 58 = .ok (.areturn, 1) := by decide +kernel
def Q_rmCQ1 (Z : State) (ar : Addr) (d0 : Int32) (ka : ClassId) (h0 : Heap) (n0 : Nat) (v : Option Value) (h : Heap) (L : List Loc) : Prop := ∃ nb : Addr, ∃ kb : ClassId, v = some (.ref nb) ∧ Fr n0 L ∧ h0.size ≤ nb ∧ Keep h0 h [] ∧ Arv Z h nb kb .byte (1 : Int32) [(.int (nar .byte (d0.toInt8.toInt32)))] (.int (0 : Int32))
theorem ef_rmCQ1 (m : MethodId) (ar : Addr) : entryFrame m #[(.ref ar), (.int (0 : Int32)), (.int (1 : Int32))] 6 = mkF m 0 #[.val (.ref ar), .val (.int (0 : Int32)), .val (.int (1 : Int32)), .unset, .unset, .unset] [] := by first | (simp [entryFrame, mkF, argsToLocals, Value.category]; done) | rfl
set_option maxRecDepth 65536 in
set_option maxHeartbeats 40000000 in
theorem rmCQ1 (l : Launch) (Z : State) (a0 : Array Value) (hw : ∀ d ∈ tables_1, d.before a0 Z = true) (ws : List Jvm.Cond) (ar : Addr) (d0 : Int32) (ka : ClassId) (h0 : Heap) (n0 : Nat) (Z0 : n0 ≤ h0.size) (V_ar : Arv Z h0 ar ka .char (1 : Int32) [(.int d0)] (.int (0 : Int32))) (gd0 : ¬ ((255 : Int32) < d0)) :
    MetFree l (⟨"java/lang/StringUTF16", "compress", "([CII)[B"⟩ : MethodName) (head1 (Jvm.Cond.code (⟨"java/lang/StringUTF16", "compress", "([CII)[B"⟩ : MethodName) jdk_52_method_16_code 6 (some (.array .byte)) :: ws) ({ frames := 1, cells := 1, slots := 1, locals := 18 } : Room)) (fun a U => a = #[(.ref ar), (.int (0 : Int32)), (.int (1 : Int32))] ∧ Z.Warmed39 U.vm ∧ U.heap = h0) (fun _ _ _ _ _ => True) (fun _ U o U' => ∃ v L, o = .returned v ∧ Q_rmCQ1 Z ar d0 ka h0 n0 v U'.heap L ∧ FrameEnd U o U' L ({ frames := 1, cells := 1, slots := 1, locals := 18 } : Room).cells ({ frames := 1, cells := 1, slots := 1, locals := 18 } : Room).slots) := by
  refine MetFree.of_bodySF (plainFor_of_name pn_2) hisR ?_
  intro p e s m args below meth c s₁ Bd hml0 hP hK
  obtain ⟨rfl, hZ, hh⟩ := hP
  have hx := Bd.exec
  have hby := Bd.bytes
  have hml : c.maxLocals = 6 := hml0
  have hown : s.vm.findClass "java/lang/StringUTF16" = some m.cls := findClass_of_methodNamed Bd.named
  have hnm := (name_of_methodNamed Bd.named Bd.method).1
  have X0 : Stand p l e ({ frames := 1, cells := 1, slots := 1, locals := 18 } : Room) s m #[(.ref ar), (.int (0 : Int32)), (.int (1 : Int32))] below meth c s₁ [] 0 0 := Stand.of_body Bd
  have e0 : s₁.heap = h0 := by rw [← hh, Bd.state]; rfl
  have N0 := Fr.nil n0
  have pre0 : ∀ t, Steps p.tables e below (s₁.setTop (mkF m 0 #[.val (.ref ar), .val (.int (0 : Int32)), .val (.int (1 : Int32)), .unset, .unset, .unset] [])) t → Steps p.tables e below (s₁.setTop (entryFrame m #[(.ref ar), (.int (0 : Int32)), (.int (1 : Int32))] 6)) t := fun t k => castTop (ef_rmCQ1 m ar) k
  obtain ⟨T1, h1, k1, X1, e1, E1, A1, st1⟩ := newP X0 hx hZ (ow hw 23 rfl) e0 (g := (mkF m 1 #[.val (.ref ar), .val (.int (0 : Int32)), .val (.int (1 : Int32)), .unset, .unset, .unset] [(.int (1 : Int32))])) rfl (hb hby d8_1) rfl (by decide) (cap := 1) (by decide) (by decide) (by decide) (by decide)
  obtain ⟨b1, g1⟩ : ∃ z, z = h0.size := ⟨_, rfl⟩
  rw [← g1] at A1 st1
  have V1 : Arv Z h1 b1 k1 .byte (1 : Int32) [(.int (0 : Int32))] (.int (0 : Int32)) := (Arv.new A1 (by decide)).pad (pad_rep [] (.int (0 : Int32)) 1)
  have f3 : Arv Z h1 ar ka .char (1 : Int32) [(.int d0)] (.int (0 : Int32)) := (V_ar.ext E1)
  obtain ⟨_, _, ⟨T2, L2, k2, n2⟩, -, X2, ⟨Lc2, hQ2, l2, y2, z2⟩, st2⟩ := Jvm.LawKit.callS X1 hx (y := (⟨"java/lang/StringUTF16", "compress", "([CI[BII)I"⟩ : MethodName)) hown (mvT hZ (ow hw 24 rfl)) (mvT hZ (ow hw 25 rfl)) (mvT hZ (ow hw 21 rfl)) (mvT hZ (ow hw 26 rfl)) (by decide) (backOf (W := 0) (rmCP1 l Z a0 hw [] ar b1 k1 d0 ka h1 n0 (Nat.le_trans Z0 E1.1) f3 gd0 V1 (Nat.le_trans Z0 (Nat.le_of_eq g1.symm))) hZ (ow hw 26 rfl) (ow hw 21 rfl) (by decide) (by decide)) (g := (mkF m 9 #[.val (.ref ar), .val (.int (0 : Int32)), .val (.int (1 : Int32)), .val (.ref b1), .unset, .unset] [(.int (1 : Int32)), (.int (0 : Int32)), (.ref b1), (.int (0 : Int32)), (.ref ar)])) rfl (by rw [hml]; rfl) (argsL := [(.ref ar), (.int (0 : Int32)), (.ref b1), (.int (0 : Int32)), (.int (1 : Int32))]) (rest := []) (lenOf pd_5 rfl) rfl (by show 2 * 0 + _ ≤ _; exact Nat.le_of_eq rfl) (hb hby d8_9) (fun _ _ => ⟨rfl, e1, (by decide : 1 + 0 ≤ _), (by decide : 1 + 0 ≤ _)⟩)
  dsimp only [Pt.U, Pt.locs, Pt.cells, Pt.slots] at X2 l2 y2 z2 st2 hQ2
  subst l2 y2 z2
  obtain ⟨rfl, Nq2, Kp2, Fq2_0⟩ := hQ2
  have N2 := Fr.app N0 Nq2
  obtain ⟨fs, hr, hrun, hended, hW, hsame⟩ := X2.leave (v := some (.ref b1)) (fun h => by rw [Bd.returns] at h; cases h)
  refine ⟨_, _, pre0 _ ?_, hrun, hended, _, _, rfl, ?_, ⟨_, rfl⟩, hW, hsame.mono (by decide) (by decide)⟩
  · refine sh (mkF m 0 #[.val (.ref ar), .val (.int (0 : Int32)), .val (.int (1 : Int32)), .unset, .unset, .unset] []) ?_
    refine XS.iloadN X0.here hx rfl (hb hby d8_0) rfl ?_
    refine sh (mkF m 1 #[.val (.ref ar), .val (.int (0 : Int32)), .val (.int (1 : Int32)), .unset, .unset, .unset] [(.int (1 : Int32))]) ?_
    refine st1 _ ?_
    refine sh (mkF m 3 #[.val (.ref ar), .val (.int (0 : Int32)), .val (.int (1 : Int32)), .unset, .unset, .unset] [(.ref b1)]) ?_
    refine XS.astoreN X1.here hx rfl (hb hby d8_3) rfl rfl (l' := #[.val (.ref ar), .val (.int (0 : Int32)), .val (.int (1 : Int32)), .val (.ref b1), .unset, .unset]) rfl ?_
    refine sh (mkF m 4 #[.val (.ref ar), .val (.int (0 : Int32)), .val (.int (1 : Int32)), .val (.ref b1), .unset, .unset] []) ?_
    refine XS.aloadN X1.here hx rfl (hb hby d8_4) rfl rfl ?_
    refine sh (mkF m 5 #[.val (.ref ar), .val (.int (0 : Int32)), .val (.int (1 : Int32)), .val (.ref b1), .unset, .unset] [(.ref ar)]) ?_
    refine XS.iloadN X1.here hx rfl (hb hby d8_5) rfl ?_
    refine sh (mkF m 6 #[.val (.ref ar), .val (.int (0 : Int32)), .val (.int (1 : Int32)), .val (.ref b1), .unset, .unset] [(.int (0 : Int32)), (.ref ar)]) ?_
    refine XS.aloadN X1.here hx rfl (hb hby d8_6) rfl rfl ?_
    refine sh (mkF m 7 #[.val (.ref ar), .val (.int (0 : Int32)), .val (.int (1 : Int32)), .val (.ref b1), .unset, .unset] [(.ref b1), (.int (0 : Int32)), (.ref ar)]) ?_
    refine XS.iconst X1.here hx rfl (hb hby d8_7) ?_
    refine sh (mkF m 8 #[.val (.ref ar), .val (.int (0 : Int32)), .val (.int (1 : Int32)), .val (.ref b1), .unset, .unset] [(.int (0 : Int32)), (.ref b1), (.int (0 : Int32)), (.ref ar)]) ?_
    refine XS.iloadN X1.here hx rfl (hb hby d8_8) rfl ?_
    refine sh (mkF m 9 #[.val (.ref ar), .val (.int (0 : Int32)), .val (.int (1 : Int32)), .val (.ref b1), .unset, .unset] [(.int (1 : Int32)), (.int (0 : Int32)), (.ref b1), (.int (0 : Int32)), (.ref ar)]) ?_
    refine st2 _ ?_
    refine sh (mkF m 12 #[.val (.ref ar), .val (.int (0 : Int32)), .val (.int (1 : Int32)), .val (.ref b1), .unset, .unset] [(.int (1 : Int32))]) ?_
    refine XS.istore X2.here hx rfl (hb hby d8_12) rfl (l' := #[.val (.ref ar), .val (.int (0 : Int32)), .val (.int (1 : Int32)), .val (.ref b1), .val (.int (1 : Int32)), .unset]) rfl ?_
    refine sh (mkF m 14 #[.val (.ref ar), .val (.int (0 : Int32)), .val (.int (1 : Int32)), .val (.ref b1), .val (.int (1 : Int32)), .unset] []) ?_
    refine XS.iload X2.here hx rfl (hb hby d8_14) rfl ?_
    refine sh (mkF m 16 #[.val (.ref ar), .val (.int (0 : Int32)), .val (.int (1 : Int32)), .val (.ref b1), .val (.int (1 : Int32)), .unset] [(.int (1 : Int32))]) ?_
    refine XS.iloadN X2.here hx rfl (hb hby d8_16) rfl ?_
    refine sh (mkF m 17 #[.val (.ref ar), .val (.int (0 : Int32)), .val (.int (1 : Int32)), .val (.ref b1), .val (.int (1 : Int32)), .unset] [(.int (1 : Int32)), (.int (1 : Int32))]) ?_
    refine XS.icmpYes X2.here hx rfl (pc0 := 17) (pc' := 57) rfl (hb hby d8_17) rfl (teq (rfl : (1 : Int32) = (1 : Int32))).1 (by decide) (by decide) ?_
    refine sh (mkF m 57 #[.val (.ref ar), .val (.int (0 : Int32)), .val (.int (1 : Int32)), .val (.ref b1), .val (.int (1 : Int32)), .unset] []) ?_
    refine XS.aloadN X2.here hx rfl (hb hby d8_57) rfl rfl ?_
    refine sh (mkF m 58 #[.val (.ref ar), .val (.int (0 : Int32)), .val (.int (1 : Int32)), .val (.ref b1), .val (.int (1 : Int32)), .unset] [(.ref b1)]) ?_
    exact retOut X2 hx Bd.returns rfl (Or.inr (Or.inr (Or.inr (Or.inr ⟨rfl, rfl, rfl⟩)))) (hb hby d8_58) hr
  · show Q_rmCQ1 Z ar d0 ka h0 n0 _ T2.heap _
    exact ⟨b1, k1, rfl, N2, (Nat.le_trans (Nat.le_refl h0.size) (Nat.le_of_eq g1.symm)), (((Keep.refl h0 []).ext E1).trans Kp2 (allS (Or.inr (Nat.le_trans (Nat.le_refl h0.size) (Nat.le_of_eq g1.symm))) all0)), Fq2_0⟩
theorem d9_0 : decode jdk_52_method_15_code 0 = .ok (.iload_n 1, 1) := by decide +kernel
theorem d9_1 : decode jdk_52_method_15_code 1 = .ok (.aload_n 0, 1) := by decide +kernel
theorem d9_2 : decode jdk_52_method_15_code 2 = .ok (.arraylength, 1) := by decide +kernel
theorem d9_3 : decode jdk_52_method_15_code 3 = .ok (.isub, 1) := by decide +kernel
theorem d9_4 : decode jdk_52_method_15_code 4 = .ok (.bipush 31, 2) := by decide +kernel
theorem d9_6 : decode jdk_52_method_15_code 6 = .ok (.iushr, 1) := by decide +kernel
theorem d9_7 : decode jdk_52_method_15_code 7 = .ok (.i2b, 1) := by decide +kernel
theorem d9_8 : decode jdk_52_method_15_code 8 = .ok (.ireturn, 1) := by decide +kernel
def Q_rmCF1 (Z : State) (br : Addr) (kb : ClassId) (vs : List Value) (h0 : Heap) (n0 : Nat) (v : Option Value) (h : Heap) (L : List Loc) : Prop := v = some (.int (0 : Int32)) ∧ Fr n0 L ∧ h = h0
theorem ef_rmCF1 (m : MethodId) (br : Addr) : entryFrame m #[(.ref br), (.int (1 : Int32))] 2 = mkF m 0 #[.val (.ref br), .val (.int (1 : Int32))] [] := by first | (simp [entryFrame, mkF, argsToLocals, Value.category]; done) | rfl
set_option maxRecDepth 65536 in
set_option maxHeartbeats 40000000 in
theorem rmCF1 (l : Launch) (Z : State) (a0 : Array Value) (hw : ∀ d ∈ tables_1, d.before a0 Z = true) (ws : List Jvm.Cond) (br : Addr) (kb : ClassId) (vs : List Value) (h0 : Heap) (n0 : Nat) (Z0 : n0 ≤ h0.size) (V_br : Arv Z h0 br kb .byte (1 : Int32) vs (.int (0 : Int32))) :
    MetFree l (⟨"java/lang/StringUTF16", "coderFromArrayLen", "([BI)B"⟩ : MethodName) (head1 (Jvm.Cond.code (⟨"java/lang/StringUTF16", "coderFromArrayLen", "([BI)B"⟩ : MethodName) jdk_52_method_15_code 2 (some .byte) :: ws) ({ frames := 0, cells := 0, slots := 0, locals := 0 } : Room)) (fun a U => a = #[(.ref br), (.int (1 : Int32))] ∧ Z.Warmed39 U.vm ∧ U.heap = h0) (fun _ _ _ _ _ => True) (fun _ U o U' => ∃ v L, o = .returned v ∧ Q_rmCF1 Z br kb vs h0 n0 v U'.heap L ∧ FrameEnd U o U' L ({ frames := 0, cells := 0, slots := 0, locals := 0 } : Room).cells ({ frames := 0, cells := 0, slots := 0, locals := 0 } : Room).slots) := by
  refine MetFree.of_bodySF (plainFor_of_name pn_2) hisR ?_
  intro p e s m args below meth c s₁ Bd hml0 hP hK
  obtain ⟨rfl, hZ, hh⟩ := hP
  have hx := Bd.exec
  have hby := Bd.bytes
  have hml : c.maxLocals = 2 := hml0
  have hown : s.vm.findClass "java/lang/StringUTF16" = some m.cls := findClass_of_methodNamed Bd.named
  have hnm := (name_of_methodNamed Bd.named Bd.method).1
  have X0 : Stand p l e ({ frames := 0, cells := 0, slots := 0, locals := 0 } : Room) s m #[(.ref br), (.int (1 : Int32))] below meth c s₁ [] 0 0 := Stand.of_body Bd
  have e0 : s₁.heap = h0 := by rw [← hh, Bd.state]; rfl
  have N0 := Fr.nil n0
  have pre0 : ∀ t, Steps p.tables e below (s₁.setTop (mkF m 0 #[.val (.ref br), .val (.int (1 : Int32))] [])) t → Steps p.tables e below (s₁.setTop (entryFrame m #[(.ref br), (.int (1 : Int32))] 2)) t := fun t k => castTop (ef_rmCF1 m br) k
  have Vc1 := V_br
  obtain ⟨cl1, Ar1, -, S1, M1, -, -⟩ := Vc1
  obtain ⟨fs, hr, hrun, hended, hW, hsame⟩ := X0.leave (v := some (.int (0 : Int32))) (fun h => by rw [Bd.returns] at h; cases h)
  refine ⟨_, _, pre0 _ ?_, hrun, hended, _, _, rfl, ?_, ⟨_, rfl⟩, hW, hsame.mono (by decide) (by decide)⟩
  · refine sh (mkF m 0 #[.val (.ref br), .val (.int (1 : Int32))] []) ?_
    refine XS.iloadN X0.here hx rfl (hb hby d9_0) rfl ?_
    refine sh (mkF m 1 #[.val (.ref br), .val (.int (1 : Int32))] [(.int (1 : Int32))]) ?_
    refine XS.aloadN X0.here hx rfl (hb hby d9_1) rfl rfl ?_
    refine sh (mkF m 2 #[.val (.ref br), .val (.int (1 : Int32))] [(.ref br), (.int (1 : Int32))]) ?_
    refine X0.arraylength hx (cell := cl1) (by rw [e0]; exact Ar1.1) (State.isArrayOf_alike hZ.alike Ar1.2.1) (g := (mkF m 2 #[.val (.ref br), .val (.int (1 : Int32))] [(.ref br), (.int (1 : Int32))])) rfl (rest := [(.int (1 : Int32))]) rfl (hb hby d9_2) _ ?_
    rw [len_of S1 M1]
    refine sh (mkF m 3 #[.val (.ref br), .val (.int (1 : Int32))] [(.int (1 : Int32)), (.int (1 : Int32))]) ?_
    refine XS.isub X0.here hx rfl (hb hby d9_3) rfl ?_
    refine sh (mkF m 4 #[.val (.ref br), .val (.int (1 : Int32))] [(.int ((1 : Int32) - (1 : Int32)))]) ?_
    rw [show ((1 : Int32) - (1 : Int32)) = (0 : Int32) from by decide]
    refine sh (mkF m 4 #[.val (.ref br), .val (.int (1 : Int32))] [(.int (0 : Int32))]) ?_
    refine XS.bipush X0.here hx rfl (hb hby d9_4) ?_
    refine sh (mkF m 6 #[.val (.ref br), .val (.int (1 : Int32))] [(.int (31 : Int32)), (.int (0 : Int32))]) ?_
    refine XS.iushr X0.here hx rfl (hb hby d9_6) rfl ?_
    refine sh (mkF m 7 #[.val (.ref br), .val (.int (1 : Int32))] [(.int (((0 : Int32).toUInt32 >>> ((31 : Int32) &&& 31).toUInt32).toInt32))]) ?_
    rw [show (((0 : Int32).toUInt32 >>> ((31 : Int32) &&& 31).toUInt32).toInt32) = (0 : Int32) from by decide]
    refine sh (mkF m 7 #[.val (.ref br), .val (.int (1 : Int32))] [(.int (0 : Int32))]) ?_
    refine XS.i2b X0.here hx rfl (hb hby d9_7) rfl ?_
    refine sh (mkF m 8 #[.val (.ref br), .val (.int (1 : Int32))] [(.int ((0 : Int32).toInt8.toInt32))]) ?_
    rw [show ((0 : Int32).toInt8.toInt32) = (0 : Int32) from by decide]
    refine sh (mkF m 8 #[.val (.ref br), .val (.int (1 : Int32))] [(.int (0 : Int32))]) ?_
    exact retN X0 hx (t := .byte) Bd.returns (by simp) (hb hby d9_8) hr
  · show Q_rmCF1 Z br kb vs h0 n0 _ s₁.heap _
    rw [e0]
    exact ⟨rfl, N0, rfl⟩
theorem d4_27 : decode jdk_42_method_149_code 27 = .ok (.getstatic 38, 3) := by decide +kernel
theorem d4_30 : decode jdk_42_method_149_code 30 = .ok (.ifCond .eq 28, 3) := by decide +kernel
theorem d4_33 : decode jdk_42_method_149_code 33 = .ok (.aload_n 1, 1) := by decide +kernel
theorem d4_34 : decode jdk_42_method_149_code 34 = .ok (.iload_n 2, 1) := by decide +kernel
theorem d4_35 : decode jdk_42_method_149_code 35 = .ok (.iload_n 3, 1) := by decide +kernel
theorem d4_36 : decode jdk_42_method_149_code 36 = .ok (.invokestatic 177, 3) := by decide +kernel
theorem pd_6 : parseMethodDescriptor "([CII)[B" = some ⟨[(.array .char), .int, .int], some (.array .byte)⟩ := by decide +kernel
theorem d4_39 : decode jdk_42_method_149_code 39 = .ok (.astore 5, 2) := by decide +kernel
theorem d4_41 : decode jdk_42_method_149_code 41 = .ok (.aload_n 0, 1) := by decide +kernel
theorem d4_42 : decode jdk_42_method_149_code 42 = .ok (.aload 5, 2) := by decide +kernel
theorem d4_44 : decode jdk_42_method_149_code 44 = .ok (.iload_n 3, 1) := by decide +kernel
theorem d4_45 : decode jdk_42_method_149_code 45 = .ok (.invokestatic 47, 3) := by decide +kernel
theorem pd_7 : parseMethodDescriptor "([BI)B" = some ⟨[(.array .byte), .int], some .byte⟩ := by decide +kernel
theorem d4_48 : decode jdk_42_method_149_code 48 = .ok (.putfield 15, 3) := by decide +kernel
theorem d4_51 : decode jdk_42_method_149_code 51 = .ok (.aload_n 0, 1) := by decide +kernel
theorem d4_52 : decode jdk_42_method_149_code 52 = .ok (.aload 5, 2) := by decide +kernel
theorem d4_54 : decode jdk_42_method_149_code 54 = .ok (.putfield 9, 3) := by decide +kernel
theorem d4_57 : decode jdk_42_method_149_code 57 = .ok (.return_, 1) := by decide +kernel
def Q_rmCI1 (Z : State) (ob : Addr) (ar : Addr) (s_CS : Int32) (d0 : Int32) (ka : ClassId) (u_coder_ob : Value) (u_value_ob : Value) (h0 : Heap) (n0 : Nat) (v : Option Value) (h : Heap) (L : List Loc) : Prop := ∃ vb : Addr, ∃ kb : ClassId, v = none ∧ Fr n0 L ∧ h0.size ≤ vb ∧ Keep h0 h [ob] ∧ Exa Z h ob "java/lang/String" ∧ Fld Z h ob "java/lang/String" "value" "[B" (.ref vb) ∧ Fld Z h ob "java/lang/String" "coder" "B" (.int (0 : Int32)) ∧ Arv Z h vb kb .byte (1 : Int32) [(.int (nar .byte (d0.toInt8.toInt32)))] (.int (0 : Int32))
theorem ef_rmCI1 (m : MethodId) (ob : Addr) (ar : Addr) : entryFrame m #[(.ref ob), (.ref ar), (.int (0 : Int32)), (.int (1 : Int32)), .null] 6 = mkF m 0 #[.val (.ref ob), .val (.ref ar), .val (.int (0 : Int32)), .val (.int (1 : Int32)), .val .null, .unset] [] := by first | (simp [entryFrame, mkF, argsToLocals, Value.category]; done) | rfl
set_option maxRecDepth 65536 in
set_option maxHeartbeats 40000000 in
theorem rmCI1 (l : Launch) (Z : State) (a0 : Array Value) (hw : ∀ d ∈ tables_1, d.before a0 Z = true) (ws : List Jvm.Cond) (ob : Addr) (ar : Addr) (s_CS : Int32) (d0 : Int32) (ka : ClassId) (u_coder_ob : Value) (u_value_ob : Value) (h0 : Heap) (n0 : Nat) (Z0 : n0 ≤ h0.size) (S_CS : Sta Z h0 "java/lang/String" "COMPACT_STRINGS" "Z" (.int s_CS)) (hcs : ¬ (s_CS = (0 : Int32))) (V_ar : Arv Z h0 ar ka .char (1 : Int32) [(.int d0)] (.int (0 : Int32))) (gd0 : ¬ ((255 : Int32) < d0)) (E_ob : Exa Z h0 ob "java/lang/String") (F_coder_ob : Fld Z h0 ob "java/lang/String" "coder" "B" u_coder_ob) (g_ob : n0 ≤ ob) (F_value_ob : Fld Z h0 ob "java/lang/String" "value" "[B" u_value_ob) :
    MetFree l (⟨"java/lang/String", "<init>", "([CIILjava/lang/Void;)V"⟩ : MethodName) (head1 (Jvm.Cond.code (⟨"java/lang/String", "<init>", "([CIILjava/lang/Void;)V"⟩ : MethodName) jdk_42_method_149_code 6 none :: ws) ({ frames := 2, cells := 1, slots := 1, locals := 35 } : Room)) (fun a U => a = #[(.ref ob), (.ref ar), (.int (0 : Int32)), (.int (1 : Int32)), .null] ∧ Z.Warmed39 U.vm ∧ U.heap = h0) (fun _ _ _ _ _ => True) (fun _ U o U' => ∃ v L, o = .returned v ∧ Q_rmCI1 Z ob ar s_CS d0 ka u_coder_ob u_value_ob h0 n0 v U'.heap L ∧ FrameEnd U o U' L ({ frames := 2, cells := 1, slots := 1, locals := 35 } : Room).cells ({ frames := 2, cells := 1, slots := 1, locals := 35 } : Room).slots) := by
  refine MetFree.of_bodySF (plainFor_of_name pn_1) hisR ?_
  intro p e s m args below meth c s₁ Bd hml0 hP hK
  obtain ⟨rfl, hZ, hh⟩ := hP
  have hx := Bd.exec
  have hby := Bd.bytes
  have hml : c.maxLocals = 6 := hml0
  have hown : s.vm.findClass "java/lang/String" = some m.cls := findClass_of_methodNamed Bd.named
  have hnm := (name_of_methodNamed Bd.named Bd.method).1
  have X0 : Stand p l e ({ frames := 2, cells := 1, slots := 1, locals := 35 } : Room) s m #[(.ref ob), (.ref ar), (.int (0 : Int32)), (.int (1 : Int32)), .null] below meth c s₁ [] 0 0 := Stand.of_body Bd
  have e0 : s₁.heap = h0 := by rw [← hh, Bd.state]; rfl
  have N0 := Fr.nil n0
  have pre0 : ∀ t, Steps p.tables e below (s₁.setTop (mkF m 0 #[.val (.ref ob), .val (.ref ar), .val (.int (0 : Int32)), .val (.int (1 : Int32)), .val .null, .unset] [])) t → Steps p.tables e below (s₁.setTop (entryFrame m #[(.ref ob), (.ref ar), (.int (0 : Int32)), (.int (1 : Int32)), .null] 6)) t := fun t k => castTop (ef_rmCI1 m ob ar) k
  obtain ⟨T1, X1, e1, st1⟩ := initO X0 hx hZ hown (ow hw 15 rfl) (ow hw 16 rfl) (ow hw 17 rfl) e0 (g := (mkF m 1 #[.val (.ref ob), .val (.ref ar), .val (.int (0 : Int32)), .val (.int (1 : Int32)), .val .null, .unset] [(.ref ob)])) rfl (by rw [hml]; rfl) rfl (hb hby d4_1) (by decide) (W := 0) (by show 2 * 0 + _ ≤ _; exact Nat.le_of_eq rfl) (by decide)
  obtain ⟨T2, X2, e2, st2⟩ := getS2 X1 hx hZ hown (host := "") (Or.inl (ow hw 18 rfl)) Via.refl e1 S_CS (g := (mkF m 27 #[.val (.ref ob), .val (.ref ar), .val (.int (0 : Int32)), .val (.int (1 : Int32)), .val .null, .unset] [])) rfl (hb hby d4_27)
  obtain ⟨_, _, ⟨T3, L3, k3, n3⟩, -, X3, ⟨Lc3, hQ3, l3, y3, z3⟩, st3⟩ := Jvm.LawKit.callS X2 hx (y := (⟨"java/lang/StringUTF16", "compress", "([CII)[B"⟩ : MethodName)) hown (mvT hZ (ow hw 19 rfl)) (mvT hZ (ow hw 20 rfl)) (mvT hZ (ow hw 21 rfl)) (mvT hZ (ow hw 22 rfl)) (by decide) (backOf (W := 0) (rmCQ1 l Z a0 hw [] ar d0 ka h0 n0 Z0 V_ar gd0) hZ (ow hw 22 rfl) (ow hw 21 rfl) (by decide) (by decide)) (g := (mkF m 36 #[.val (.ref ob), .val (.ref ar), .val (.int (0 : Int32)), .val (.int (1 : Int32)), .val .null, .unset] [(.int (1 : Int32)), (.int (0 : Int32)), (.ref ar)])) rfl (by rw [hml]; rfl) (argsL := [(.ref ar), (.int (0 : Int32)), (.int (1 : Int32))]) (rest := []) (lenOf pd_6 rfl) rfl (by show 2 * 0 + _ ≤ _; exact Nat.le_of_eq rfl) (hb hby d4_36) (fun _ _ => ⟨rfl, e2, (by decide : 0 + 1 ≤ _), (by decide : 0 + 1 ≤ _)⟩)
  dsimp only [Pt.U, Pt.locs, Pt.cells, Pt.slots] at X3 l3 y3 z3 st3 hQ3
  subst l3 y3 z3
  obtain ⟨nb_3, kb_3, rfl, Nq3, gb3_0, Kp3, Fq3_0⟩ := hQ3
  have N3 := Fr.app N0 Nq3
  obtain ⟨_, _, ⟨T4, L4, k4, n4⟩, -, X4, ⟨Lc4, hQ4, l4, y4, z4⟩, st4⟩ := Jvm.LawKit.callS X3 hx (y := (⟨"java/lang/StringUTF16", "coderFromArrayLen", "([BI)B"⟩ : MethodName)) hown (mvT hZ (ow hw 27 rfl)) (mvT hZ (ow hw 28 rfl)) (mvT hZ (ow hw 21 rfl)) (mvT hZ (ow hw 29 rfl)) (by decide) (backOf (W := 1) (rmCF1 l Z a0 hw [] nb_3 kb_3 [(.int (nar .byte (d0.toInt8.toInt32)))] T3.heap n0 (Nat.le_trans Z0 Kp3.1) Fq3_0) hZ (ow hw 29 rfl) (ow hw 21 rfl) (by decide) (by decide)) (g := (mkF m 45 #[.val (.ref ob), .val (.ref ar), .val (.int (0 : Int32)), .val (.int (1 : Int32)), .val .null, .val (.ref nb_3)] [(.int (1 : Int32)), (.ref nb_3), (.ref ob)])) rfl (by rw [hml]; rfl) (argsL := [(.ref nb_3), (.int (1 : Int32))]) (rest := [(.ref ob)]) (lenOf pd_7 rfl) rfl (by show 2 * 0 + _ ≤ _; exact Nat.le_of_eq rfl) (hb hby d4_45) (fun _ _ => ⟨rfl, rfl, (by decide : 1 + 0 ≤ _), (by decide : 1 + 0 ≤ _)⟩)
  dsimp only [Pt.U, Pt.locs, Pt.cells, Pt.slots] at X4 l4 y4 z4 st4 hQ4
  subst l4 y4 z4
  obtain ⟨rfl, Nq4, e4⟩ := hQ4
  have N4 := Fr.app N3 Nq4
  have f5 : Fld Z T3.heap ob "java/lang/String" "coder" "B" u_coder_ob := (F_coder_ob.keep Kp3 nin0)
  have f6 : Exa Z T3.heap ob "java/lang/String" := (E_ob.keep Kp3)
  obtain ⟨T7, h7, X7, e7, W7, st7⟩ := putFN X4 hx hZ hown (ow hw 30 rfl) Via.refl e4 f5 f6 (Or.inr ⟨(ow hw 31 rfl), rfl, hnm⟩) (ow hw 5 rfl) (ty := .byte) (v' := (.int (0 : Int32))) (by decide) rfl (by decide) (g := (mkF m 48 #[.val (.ref ob), .val (.ref ar), .val (.int (0 : Int32)), .val (.int (1 : Int32)), .val .null, .val (.ref nb_3)] [(.int (0 : Int32)), (.ref ob)])) rfl rfl (hb hby d4_48)
  have Fw7 := f5.same W7
  have N7 := Fr.snoc X7 N4 g_ob
  have f8 : Fld Z h7 ob "java/lang/String" "value" "[B" u_value_ob := ((F_value_ob.keep Kp3 nin0).other W7 (Or.inr (slot_ne (Or.inr (ow hw 33 rfl)) (Or.inr (ow hw 31 rfl)) (by decide) (t := (.array .byte)) (t' := .byte) (by decide) (by decide))))
  have f9 : Exa Z h7 ob "java/lang/String" := (f6.wr W7)
  obtain ⟨T10, h10, X10, e10, W10, st10⟩ := putF X7 hx hZ hown (host := "") (Or.inl (ow hw 32 rfl)) Via.refl e7 f8 f9 (Or.inr ⟨(ow hw 33 rfl), rfl, hnm⟩) (ow hw 5 rfl) (ty := (.array .byte)) (by decide) rfl rfl (g := (mkF m 54 #[.val (.ref ob), .val (.ref ar), .val (.int (0 : Int32)), .val (.int (1 : Int32)), .val .null, .val (.ref nb_3)] [(.ref nb_3), (.ref ob)])) rfl rfl (hb hby d4_54)
  have Fw10 := f8.same W10
  have N10 := Fr.snoc X10 N7 g_ob
  have f11 : Exa Z h10 ob "java/lang/String" := (f9.wr W10)
  have f12 : Fld Z h10 ob "java/lang/String" "coder" "B" (.int (0 : Int32)) := (Fw7.other W10 (Or.inr (slot_ne (Or.inr (ow hw 31 rfl)) (Or.inr (ow hw 33 rfl)) (by decide) (t := .byte) (t' := (.array .byte)) (by decide) (by decide))))
  have f13 : Arv Z h10 nb_3 kb_3 .byte (1 : Int32) [(.int (nar .byte (d0.toInt8.toInt32)))] (.int (0 : Int32)) := ((Fq3_0.other W7 (Ne.symm (Nat.ne_of_lt (Nat.lt_of_lt_of_le E_ob.lt gb3_0)))).other W10 (Ne.symm (Nat.ne_of_lt (Nat.lt_of_lt_of_le E_ob.lt gb3_0))))
  obtain ⟨fs, hr, hrun, hended, hW, hsame⟩ := X10.leave (v := none) (fun _ => rfl)
  refine ⟨_, _, pre0 _ ?_, hrun, hended, _, _, rfl, ?_, ⟨_, rfl⟩, hW, hsame.mono (by decide) (by decide)⟩
  · refine sh (mkF m 0 #[.val (.ref ob), .val (.ref ar), .val (.int (0 : Int32)), .val (.int (1 : Int32)), .val .null, .unset] []) ?_
    refine XS.aloadN X0.here hx rfl (hb hby d4_0) rfl rfl ?_
    refine sh (mkF m 1 #[.val (.ref ob), .val (.ref ar), .val (.int (0 : Int32)), .val (.int (1 : Int32)), .val .null, .unset] [(.ref ob)]) ?_
    refine st1 _ ?_
    refine sh (mkF m 4 #[.val (.ref ob), .val (.ref ar), .val (.int (0 : Int32)), .val (.int (1 : Int32)), .val .null, .unset] []) ?_
    refine XS.iloadN X1.here hx rfl (hb hby d4_4) rfl ?_
    refine sh (mkF m 5 #[.val (.ref ob), .val (.ref ar), .val (.int (0 : Int32)), .val (.int (1 : Int32)), .val .null, .unset] [(.int (1 : Int32))]) ?_
    refine XS.ifYes X1.here hx rfl (pc0 := 5) (pc' := 27) rfl (hb hby d4_5) rfl ((if0 _ _).trans (feq (by decide : ¬ ((1 : Int32) = (0 : Int32)))).2) (by decide) (by decide) ?_
    refine sh (mkF m 27 #[.val (.ref ob), .val (.ref ar), .val (.int (0 : Int32)), .val (.int (1 : Int32)), .val .null, .unset] []) ?_
    refine st2 _ ?_
    refine sh (mkF m 30 #[.val (.ref ob), .val (.ref ar), .val (.int (0 : Int32)), .val (.int (1 : Int32)), .val .null, .unset] [(.int s_CS)]) ?_
    refine XS.ifNo X2.here hx rfl (hb hby d4_30) rfl ((if0 _ _).trans (feq hcs).1) ?_
    refine sh (mkF m 33 #[.val (.ref ob), .val (.ref ar), .val (.int (0 : Int32)), .val (.int (1 : Int32)), .val .null, .unset] []) ?_
    refine XS.aloadN X2.here hx rfl (hb hby d4_33) rfl rfl ?_
    refine sh (mkF m 34 #[.val (.ref ob), .val (.ref ar), .val (.int (0 : Int32)), .val (.int (1 : Int32)), .val .null, .unset] [(.ref ar)]) ?_
    refine XS.iloadN X2.here hx rfl (hb hby d4_34) rfl ?_
    refine sh (mkF m 35 #[.val (.ref ob), .val (.ref ar), .val (.int (0 : Int32)), .val (.int (1 : Int32)), .val .null, .unset] [(.int (0 : Int32)), (.ref ar)]) ?_
    refine XS.iloadN X2.here hx rfl (hb hby d4_35) rfl ?_
    refine sh (mkF m 36 #[.val (.ref ob), .val (.ref ar), .val (.int (0 : Int32)), .val (.int (1 : Int32)), .val .null, .unset] [(.int (1 : Int32)), (.int (0 : Int32)), (.ref ar)]) ?_
    refine st3 _ ?_
    refine sh (mkF m 39 #[.val (.ref ob), .val (.ref ar), .val (.int (0 : Int32)), .val (.int (1 : Int32)), .val .null, .unset] [(.ref nb_3)]) ?_
    refine XS.astore X3.here hx rfl (hb hby d4_39) rfl rfl (l' := #[.val (.ref ob), .val (.ref ar), .val (.int (0 : Int32)), .val (.int (1 : Int32)), .val .null, .val (.ref nb_3)]) rfl ?_
    refine sh (mkF m 41 #[.val (.ref ob), .val (.ref ar), .val (.int (0 : Int32)), .val (.int (1 : Int32)), .val .null, .val (.ref nb_3)] []) ?_
    refine XS.aloadN X3.here hx rfl (hb hby d4_41) rfl rfl ?_
    refine sh (mkF m 42 #[.val (.ref ob), .val (.ref ar), .val (.int (0 : Int32)), .val (.int (1 : Int32)), .val .null, .val (.ref nb_3)] [(.ref ob)]) ?_
    refine XS.aload X3.here hx rfl (hb hby d4_42) rfl rfl ?_
    refine sh (mkF m 44 #[.val (.ref ob), .val (.ref ar), .val (.int (0 : Int32)), .val (.int (1 : Int32)), .val .null, .val (.ref nb_3)] [(.ref nb_3), (.ref ob)]) ?_
    refine XS.iloadN X3.here hx rfl (hb hby d4_44) rfl ?_
    refine sh (mkF m 45 #[.val (.ref ob), .val (.ref ar), .val (.int (0 : Int32)), .val (.int (1 : Int32)), .val .null, .val (.ref nb_3)] [(.int (1 : Int32)), (.ref nb_3), (.ref ob)]) ?_
    refine st4 _ ?_
    refine sh (mkF m 48 #[.val (.ref ob), .val (.ref ar), .val (.int (0 : Int32)), .val (.int (1 : Int32)), .val .null, .val (.ref nb_3)] [(.int (0 : Int32)), (.ref ob)]) ?_
    refine st7 _ ?_
    refine sh (mkF m 51 #[.val (.ref ob), .val (.ref ar), .val (.int (0 : Int32)), .val (.int (1 : Int32)), .val .null, .val (.ref nb_3)] []) ?_
    refine XS.aloadN X7.here hx rfl (hb hby d4_51) rfl rfl ?_
    refine sh (mkF m 52 #[.val (.ref ob), .val (.ref ar), .val (.int (0 : Int32)), .val (.int (1 : Int32)), .val .null, .val (.ref nb_3)] [(.ref ob)]) ?_
    refine XS.aload X7.here hx rfl (hb hby d4_52) rfl rfl ?_
    refine sh (mkF m 54 #[.val (.ref ob), .val (.ref ar), .val (.int (0 : Int32)), .val (.int (1 : Int32)), .val .null, .val (.ref nb_3)] [(.ref nb_3), (.ref ob)]) ?_
    refine st10 _ ?_
    refine sh (mkF m 57 #[.val (.ref ob), .val (.ref ar), .val (.int (0 : Int32)), .val (.int (1 : Int32)), .val .null, .val (.ref nb_3)] []) ?_
    exact X10.returnOut hx Bd.returns (hb hby d4_57) hr
  · show Q_rmCI1 Z ob ar s_CS d0 ka u_coder_ob u_value_ob h0 n0 _ T10.heap _
    rw [e10]
    exact ⟨nb_3, kb_3, rfl, N10, (Nat.le_trans (Nat.le_refl h0.size) gb3_0), ((((Keep.refl h0 [ob]).trans Kp3 all0).wr W7 (Or.inl (List.mem_of_getElem? (i := 0) rfl))).wr W10 (Or.inl (List.mem_of_getElem? (i := 0) rfl))), f11, Fw10, f12, f13⟩
def Q_rmCA1 (Z : State) (ob : Addr) (ar : Addr) (u_v : Value) (u_c : Value) (s_CS : Int32) (d0 : Int32) (ka : ClassId) (h0 : Heap) (n0 : Nat) (v : Option Value) (h : Heap) (L : List Loc) : Prop := ∃ vb : Addr, ∃ kb : ClassId, v = none ∧ Fr n0 L ∧ h0.size ≤ vb ∧ Keep h0 h [ob] ∧ Exa Z h ob "java/lang/String" ∧ Fld Z h ob "java/lang/String" "value" "[B" (.ref vb) ∧ Fld Z h ob "java/lang/String" "coder" "B" (.int (0 : Int32)) ∧ Arv Z h vb kb .byte (1 : Int32) [(.int (nar .byte (d0.toInt8.toInt32)))] (.int (0 : Int32))
theorem ef_rmCA1 (m : MethodId) (ob : Addr) (ar : Addr) : entryFrame m #[(.ref ob), (.ref ar)] 2 = mkF m 0 #[.val (.ref ob), .val (.ref ar)] [] := by first | (simp [entryFrame, mkF, argsToLocals, Value.category]; done) | rfl
set_option maxRecDepth 65536 in
set_option maxHeartbeats 40000000 in
theorem rmCA1 (l : Launch) (Z : State) (a0 : Array Value) (hw : ∀ d ∈ tables_1, d.before a0 Z = true) (ws : List Jvm.Cond) (ob : Addr) (ar : Addr) (u_v : Value) (u_c : Value) (s_CS : Int32) (d0 : Int32) (ka : ClassId) (h0 : Heap) (n0 : Nat) (Z0 : n0 ≤ h0.size) (S_CS : Sta Z h0 "java/lang/String" "COMPACT_STRINGS" "Z" (.int s_CS)) (hcs : ¬ (s_CS = (0 : Int32))) (V_ar : Arv Z h0 ar ka .char (1 : Int32) [(.int d0)] (.int (0 : Int32))) (gd0 : ¬ ((255 : Int32) < d0)) (E_ob : Exa Z h0 ob "java/lang/String") (F_value_ob : Fld Z h0 ob "java/lang/String" "value" "[B" u_v) (F_coder_ob : Fld Z h0 ob "java/lang/String" "coder" "B" u_c) (g_ob : n0 ≤ ob) :
    MetFree l (⟨"java/lang/String", "<init>", "([C)V"⟩ : MethodName) (head1 (Jvm.Cond.code (⟨"java/lang/String", "<init>", "([C)V"⟩ : MethodName) jdk_42_method_3_code 2 none :: ws) ({ frames := 3, cells := 1, slots := 1, locals := 52 } : Room)) (fun a U => a = #[(.ref ob), (.ref ar)] ∧ Z.Warmed39 U.vm ∧ U.heap = h0) (fun _ _ _ _ _ => True) (fun _ U o U' => ∃ v L, o = .returned v ∧ Q_rmCA1 Z ob ar u_v u_c s_CS d0 ka h0 n0 v U'.heap L ∧ FrameEnd U o U' L ({ frames := 3, cells := 1, slots := 1, locals := 52 } : Room).cells ({ frames := 3, cells := 1, slots := 1, locals := 52 } : Room).slots) := by
  refine MetFree.of_bodySF (plainFor_of_name pn_1) hisR ?_
  intro p e s m args below meth c s₁ Bd hml0 hP hK
  obtain ⟨rfl, hZ, hh⟩ := hP
  have hx := Bd.exec
  have hby := Bd.bytes
  have hml : c.maxLocals = 2 := hml0
  have hown : s.vm.findClass "java/lang/String" = some m.cls := findClass_of_methodNamed Bd.named
  have hnm := (name_of_methodNamed Bd.named Bd.method).1
  have X0 : Stand p l e ({ frames := 3, cells := 1, slots := 1, locals := 52 } : Room) s m #[(.ref ob), (.ref ar)] below meth c s₁ [] 0 0 := Stand.of_body Bd
  have e0 : s₁.heap = h0 := by rw [← hh, Bd.state]; rfl
  have N0 := Fr.nil n0
  have pre0 : ∀ t, Steps p.tables e below (s₁.setTop (mkF m 0 #[.val (.ref ob), .val (.ref ar)] [])) t → Steps p.tables e below (s₁.setTop (entryFrame m #[(.ref ob), (.ref ar)] 2)) t := fun t k => castTop (ef_rmCA1 m ob ar) k
  have Vc1 := V_ar
  obtain ⟨cl1, Ar1, -, S1, M1, -, -⟩ := Vc1
  obtain ⟨_, _, ⟨T2, L2, k2, n2⟩, -, X2, ⟨Lc2, hQ2, l2, y2, z2⟩, st2⟩ := X0.specialBack hx (y := (⟨"java/lang/String", "<init>", "([CIILjava/lang/Void;)V"⟩ : MethodName)) rfl hown (mvT hZ (ow hw 11 rfl)) (mvT hZ (ow hw 12 rfl)) (mvT hZ (ow hw 14 rfl)) (by decide) (backOf (W := 0) (rmCI1 l Z a0 hw [] ob ar s_CS d0 ka u_c u_v h0 n0 Z0 S_CS hcs V_ar gd0 E_ob F_coder_ob g_ob F_value_ob) hZ (ow hw 14 rfl) (ow hw 6 rfl) (by decide) (by decide)) (g := (mkF m 6 #[.val (.ref ob), .val (.ref ar)] [.null, (.int (1 : Int32)), (.int (0 : Int32)), (.ref ar), (.ref ob)])) rfl (by rw [hml]; rfl) (Steps.refl _) (a := ob) (argsL := [(.ref ar), (.int (0 : Int32)), (.int (1 : Int32)), .null]) (rest := []) (lenOf pd_3 rfl) rfl (by show 2 * 0 + _ ≤ _; exact Nat.le_of_eq rfl) (hb hby d5_6) (fun _ _ => ⟨rfl, e0, (by decide : 0 + 1 ≤ _), (by decide : 0 + 1 ≤ _)⟩)
  dsimp only [Pt.U, Pt.locs, Pt.cells, Pt.slots] at X2 l2 y2 z2 st2 hQ2
  subst l2 y2 z2
  obtain ⟨vb_2, kb_2, rfl, Nq2, gb2_0, Kp2, Fq2_0, Fq2_1, Fq2_2, Fq2_3⟩ := hQ2
  have N2 := Fr.app N0 Nq2
  obtain ⟨fs, hr, hrun, hended, hW, hsame⟩ := X2.leave (v := none) (fun _ => rfl)
  refine ⟨_, _, pre0 _ ?_, hrun, hended, _, _, rfl, ?_, ⟨_, rfl⟩, hW, hsame.mono (by decide) (by decide)⟩
  · refine sh (mkF m 0 #[.val (.ref ob), .val (.ref ar)] []) ?_
    refine XS.aloadN X0.here hx rfl (hb hby d5_0) rfl rfl ?_
    refine sh (mkF m 1 #[.val (.ref ob), .val (.ref ar)] [(.ref ob)]) ?_
    refine XS.aloadN X0.here hx rfl (hb hby d5_1) rfl rfl ?_
    refine sh (mkF m 2 #[.val (.ref ob), .val (.ref ar)] [(.ref ar), (.ref ob)]) ?_
    refine XS.iconst X0.here hx rfl (hb hby d5_2) ?_
    refine sh (mkF m 3 #[.val (.ref ob), .val (.ref ar)] [(.int (0 : Int32)), (.ref ar), (.ref ob)]) ?_
    refine XS.aloadN X0.here hx rfl (hb hby d5_3) rfl rfl ?_
    refine sh (mkF m 4 #[.val (.ref ob), .val (.ref ar)] [(.ref ar), (.int (0 : Int32)), (.ref ar), (.ref ob)]) ?_
    refine X0.arraylength hx (cell := cl1) (by rw [e0]; exact Ar1.1) (State.isArrayOf_alike hZ.alike Ar1.2.1) (g := (mkF m 4 #[.val (.ref ob), .val (.ref ar)] [(.ref ar), (.int (0 : Int32)), (.ref ar), (.ref ob)])) rfl (rest := [(.int (0 : Int32)), (.ref ar), (.ref ob)]) rfl (hb hby d5_4) _ ?_
    rw [len_of S1 M1]
    refine sh (mkF m 5 #[.val (.ref ob), .val (.ref ar)] [(.int (1 : Int32)), (.int (0 : Int32)), (.ref ar), (.ref ob)]) ?_
    refine XS.aconstNull X0.here hx rfl (hb hby d5_5) ?_
    refine sh (mkF m 6 #[.val (.ref ob), .val (.ref ar)] [.null, (.int (1 : Int32)), (.int (0 : Int32)), (.ref ar), (.ref ob)]) ?_
    refine st2.trans ?_
    refine sh (mkF m 9 #[.val (.ref ob), .val (.ref ar)] []) ?_
    exact X2.returnOut hx Bd.returns (hb hby d5_9) hr
  · show Q_rmCA1 Z ob ar u_v u_c s_CS d0 ka h0 n0 _ T2.heap _
    exact ⟨vb_2, kb_2, rfl, N2, (Nat.le_trans (Nat.le_refl h0.size) gb2_0), ((Keep.refl h0 [ob]).trans Kp2 (allS (Or.inl (List.mem_of_getElem? (i := 0) rfl)) all0)), Fq2_0, Fq2_1, Fq2_2, Fq2_3⟩
theorem d6_49 : decode method_2_code 49 = .ok (.iload_n 1, 1) := by decide +kernel
theorem d6_50 : decode method_2_code 50 = .ok (.iconst 1, 1) := by decide +kernel
theorem d6_51 : decode method_2_code 51 = .ok (.if_icmp .ne 18, 3) := by decide +kernel
theorem d6_54 : decode method_2_code 54 = .ok (.new 7, 3) := by decide +kernel
theorem d6_57 : decode method_2_code 57 = .ok (.dup, 1) := by decide +kernel
theorem d6_58 : decode method_2_code 58 = .ok (.iconst 1, 1) := by decide +kernel
theorem d6_59 : decode method_2_code 59 = .ok (.newarray .char, 2) := by decide +kernel
theorem d6_61 : decode method_2_code 61 = .ok (.dup, 1) := by decide +kernel
theorem d6_62 : decode method_2_code 62 = .ok (.iconst 0, 1) := by decide +kernel
theorem d6_63 : decode method_2_code 63 = .ok (.iload_n 2, 1) := by decide +kernel
theorem d6_64 : decode method_2_code 64 = .ok (.castore, 1) := by decide +kernel
theorem d6_65 : decode method_2_code 65 = .ok (.invokespecial 9, 3) := by decide +kernel
theorem d6_68 : decode method_2_code 68 = .ok (.areturn, 1) := by decide +kernel
def Q_rmCP2 (Z : State) (ar : Addr) (br : Addr) (kb : ClassId) (d0 : Int32) (d1 : Int32) (ka : ClassId) (h0 : Heap) (n0 : Nat) (v : Option Value) (h : Heap) (L : List Loc) : Prop := v = some (.int (2 : Int32)) ∧ Fr n0 L ∧ Keep h0 h [br] ∧ Arv Z h br kb .byte (2 : Int32) [(.int (nar .byte (d0.toInt8.toInt32))), (.int (nar .byte (d1.toInt8.toInt32)))] (.int (0 : Int32))
theorem ef_rmCP2 (m : MethodId) (ar : Addr) (br : Addr) : entryFrame m #[(.ref ar), (.int (0 : Int32)), (.ref br), (.int (0 : Int32)), (.int (2 : Int32))] 7 = mkF m 0 #[.val (.ref ar), .val (.int (0 : Int32)), .val (.ref br), .val (.int (0 : Int32)), .val (.int (2 : Int32)), .unset, .unset] [] := by first | (simp [entryFrame, mkF, argsToLocals, Value.category]; done) | rfl
set_option maxRecDepth 65536 in
set_option maxHeartbeats 40000000 in
theorem rmCP2 (l : Launch) (Z : State) (a0 : Array Value) (hw : ∀ d ∈ tables_1, d.before a0 Z = true) (ws : List Jvm.Cond) (ar : Addr) (br : Addr) (kb : ClassId) (d0 : Int32) (d1 : Int32) (ka : ClassId) (h0 : Heap) (n0 : Nat) (Z0 : n0 ≤ h0.size) (V_ar : Arv Z h0 ar ka .char (2 : Int32) [(.int d0), (.int d1)] (.int (0 : Int32))) (gd0 : ¬ ((255 : Int32) < d0)) (gd1 : ¬ ((255 : Int32) < d1)) (V_br : Arv Z h0 br kb .byte (2 : Int32) [(.int (0 : Int32)), (.int (0 : Int32))] (.int (0 : Int32))) (g_br : n0 ≤ br) (ne_ar_br : ar ≠ br) :
    MetFree l (⟨"java/lang/StringUTF16", "compress", "([CI[BII)I"⟩ : MethodName) (head1 (Jvm.Cond.code (⟨"java/lang/StringUTF16", "compress", "([CI[BII)I"⟩ : MethodName) jdk_52_method_21_code 7 (some .int) :: ws) ({ frames := 0, cells := 0, slots := 0, locals := 0 } : Room)) (fun a U => a = #[(.ref ar), (.int (0 : Int32)), (.ref br), (.int (0 : Int32)), (.int (2 : Int32))] ∧ Z.Warmed39 U.vm ∧ U.heap = h0) (fun _ _ _ _ _ => True) (fun _ U o U' => ∃ v L, o = .returned v ∧ Q_rmCP2 Z ar br kb d0 d1 ka h0 n0 v U'.heap L ∧ FrameEnd U o U' L ({ frames := 0, cells := 0, slots := 0, locals := 0 } : Room).cells ({ frames := 0, cells := 0, slots := 0, locals := 0 } : Room).slots) := by
  refine MetFree.of_bodySF (plainFor_of_name pn_2) hisR ?_
  intro p e s m args below meth c s₁ Bd hml0 hP hK
  obtain ⟨rfl, hZ, hh⟩ := hP
  have hx := Bd.exec
  have hby := Bd.bytes
  have hml : c.maxLocals = 7 := hml0
  have hown : s.vm.findClass "java/lang/StringUTF16" = some m.cls := findClass_of_methodNamed Bd.named
  have hnm := (name_of_methodNamed Bd.named Bd.method).1
  have X0 : Stand p l e ({ frames := 0, cells := 0, slots := 0, locals := 0 } : Room) s m #[(.ref ar), (.int (0 : Int32)), (.ref br), (.int (0 : Int32)), (.int (2 : Int32))] below meth c s₁ [] 0 0 := Stand.of_body Bd
  have e0 : s₁.heap = h0 := by rw [← hh, Bd.state]; rfl
  have N0 := Fr.nil n0
  have pre0 : ∀ t, Steps p.tables e below (s₁.setTop (mkF m 0 #[.val (.ref ar), .val (.int (0 : Int32)), .val (.ref br), .val (.int (0 : Int32)), .val (.int (2 : Int32)), .unset, .unset] [])) t → Steps p.tables e below (s₁.setTop (entryFrame m #[(.ref ar), (.int (0 : Int32)), (.ref br), (.int (0 : Int32)), (.int (2 : Int32))] 7)) t := fun t k => castTop (ef_rmCP2 m ar br) k
  have Vc1 := V_ar
  obtain ⟨cl1, Ar1, q1, S1, M1, H1, G1⟩ := Vc1
  have hin1 : ¬ ((0 : Int32) < 0 ∨ cl1.slots.size ≤ ((0 : Int32)).toNatClampNeg) := inb_of S1 ⟨by decide, by decide⟩
  have hat1 : cl1.slots[((0 : Int32)).toNatClampNeg]? = some (.int d0) := Has.at H1 hin1 rfl
  have Vc2 := V_br
  obtain ⟨cl2, Ar2, q2, S2, M2, H2, G2⟩ := Vc2
  have hin2 : ¬ ((0 : Int32) < 0 ∨ cl2.slots.size ≤ ((0 : Int32)).toNatClampNeg) := inb_of S2 ⟨by decide, by decide⟩
  obtain ⟨T2, h2, X2, e2, W2, st2⟩ := stB X0 hx hZ e0 Ar2 (j := (0 : Int32)) hin2 (g := (mkF m 31 #[.val (.ref ar), .val (.int (0 : Int32)), .val (.ref br), .val (.int (0 : Int32)), .val (.int (2 : Int32)), .val (.int (0 : Int32)), .val (.int d0)] [(.int (d0.toInt8.toInt32)), (.int (0 : Int32)), (.ref br)])) rfl rfl (hb hby d7_31)
  have V2 : Arv Z h2 br kb .byte (2 : Int32) [(.int (nar .byte (d0.toInt8.toInt32))), (.int (0 : Int32))] (.int (0 : Int32)) := Arv.set Ar2 q2 S2 M2 H2 G2 (fits_nar_byte _) W2 0 rfl (Nat.le_of_ble_eq_true rfl)
  have N2 := Fr.snoc X2 N0 g_br
  have f3 : Arv Z h2 ar ka .char (2 : Int32) [(.int d0), (.int d1)] (.int (0 : Int32)) := (V_ar.other W2 ne_ar_br)
  have Vc4 := f3
  obtain ⟨cl4, Ar4, q4, S4, M4, H4, G4⟩ := Vc4
  have hin4 : ¬ ((1 : Int32) < 0 ∨ cl4.slots.size ≤ ((1 : Int32)).toNatClampNeg) := inb_of S4 ⟨by decide, by decide⟩
  have hat4 : cl4.slots[((1 : Int32)).toNatClampNeg]? = some (.int d1) := Has.at H4 hin4 rfl
  have Vc5 := V2
  obtain ⟨cl5, Ar5, q5, S5, M5, H5, G5⟩ := Vc5
  have hin5 : ¬ ((1 : Int32) < 0 ∨ cl5.slots.size ≤ ((1 : Int32)).toNatClampNeg) := inb_of S5 ⟨by decide, by decide⟩
  obtain ⟨T5, h5, X5, e5, W5, st5⟩ := stB X2 hx hZ e2 Ar5 (j := (1 : Int32)) hin5 (g := (mkF m 31 #[.val (.ref ar), .val (.int (1 : Int32)), .val (.ref br), .val (.int (1 : Int32)), .val (.int (2 : Int32)), .val (.int (1 : Int32)), .val (.int d1)] [(.int (d1.toInt8.toInt32)), (.int (1 : Int32)), (.ref br)])) rfl rfl (hb hby d7_31)
  have V5 : Arv Z h5 br kb .byte (2 : Int32) [(.int (nar .byte (d0.toInt8.toInt32))), (.int (nar .byte (d1.toInt8.toInt32)))] (.int (0 : Int32)) := Arv.set Ar5 q5 S5 M5 H5 G5 (fits_nar_byte _) W5 1 rfl (Nat.le_of_ble_eq_true rfl)
  have N5 := Fr.snoc X5 N2 g_br
  obtain ⟨fs, hr, hrun, hended, hW, hsame⟩ := X5.leave (v := some (.int (2 : Int32))) (fun h => by rw [Bd.returns] at h; cases h)
  refine ⟨_, _, pre0 _ ?_, hrun, hended, _, _, rfl, ?_, ⟨_, rfl⟩, hW, hsame.mono (by decide) (by decide)⟩
  · refine sh (mkF m 0 #[.val (.ref ar), .val (.int (0 : Int32)), .val (.ref br), .val (.int (0 : Int32)), .val (.int (2 : Int32)), .unset, .unset] []) ?_
    refine XS.iconst X0.here hx rfl (hb hby d7_0) ?_
    refine sh (mkF m 1 #[.val (.ref ar), .val (.int (0 : Int32)), .val (.ref br), .val (.int (0 : Int32)), .val (.int (2 : Int32)), .unset, .unset] [(.int (0 : Int32))]) ?_
    refine XS.istore X0.here hx rfl (hb hby d7_1) rfl (l' := #[.val (.ref ar), .val (.int (0 : Int32)), .val (.ref br), .val (.int (0 : Int32)), .val (.int (2 : Int32)), .val (.int (0 : Int32)), .unset]) rfl ?_
    refine sh (mkF m 3 #[.val (.ref ar), .val (.int (0 : Int32)), .val (.ref br), .val (.int (0 : Int32)), .val (.int (2 : Int32)), .val (.int (0 : Int32)), .unset] []) ?_
    refine XS.iload X0.here hx rfl (hb hby d7_3) rfl ?_
    refine sh (mkF m 5 #[.val (.ref ar), .val (.int (0 : Int32)), .val (.ref br), .val (.int (0 : Int32)), .val (.int (2 : Int32)), .val (.int (0 : Int32)), .unset] [(.int (0 : Int32))]) ?_
    refine XS.iload X0.here hx rfl (hb hby d7_5) rfl ?_
    refine sh (mkF m 7 #[.val (.ref ar), .val (.int (0 : Int32)), .val (.ref br), .val (.int (0 : Int32)), .val (.int (2 : Int32)), .val (.int (0 : Int32)), .unset] [(.int (2 : Int32)), (.int (0 : Int32))]) ?_
    refine XS.icmpNo X0.here hx rfl (hb hby d7_7) rfl (tlt (by decide : (0 : Int32) < (2 : Int32))).2.1 ?_
    refine sh (mkF m 10 #[.val (.ref ar), .val (.int (0 : Int32)), .val (.ref br), .val (.int (0 : Int32)), .val (.int (2 : Int32)), .val (.int (0 : Int32)), .unset] []) ?_
    refine XS.aloadN X0.here hx rfl (hb hby d7_10) rfl rfl ?_
    refine sh (mkF m 11 #[.val (.ref ar), .val (.int (0 : Int32)), .val (.ref br), .val (.int (0 : Int32)), .val (.int (2 : Int32)), .val (.int (0 : Int32)), .unset] [(.ref ar)]) ?_
    refine XS.iloadN X0.here hx rfl (hb hby d7_11) rfl ?_
    refine sh (mkF m 12 #[.val (.ref ar), .val (.int (0 : Int32)), .val (.ref br), .val (.int (0 : Int32)), .val (.int (2 : Int32)), .val (.int (0 : Int32)), .unset] [(.int (0 : Int32)), (.ref ar)]) ?_
    refine X0.caload hx (j := (0 : Int32)) (v := (.int d0)) (by rw [e0]; exact Ar1.1) (State.isArrayOf_alike hZ.alike Ar1.2.1) Ar1.2.2 hin1 hat1 (g := (mkF m 12 #[.val (.ref ar), .val (.int (0 : Int32)), .val (.ref br), .val (.int (0 : Int32)), .val (.int (2 : Int32)), .val (.int (0 : Int32)), .unset] [(.int (0 : Int32)), (.ref ar)])) rfl rfl (hb hby d7_12) _ ?_
    refine sh (mkF m 13 #[.val (.ref ar), .val (.int (0 : Int32)), .val (.ref br), .val (.int (0 : Int32)), .val (.int (2 : Int32)), .val (.int (0 : Int32)), .unset] [(.int d0)]) ?_
    refine XS.istore X0.here hx rfl (hb hby d7_13) rfl (l' := #[.val (.ref ar), .val (.int (0 : Int32)), .val (.ref br), .val (.int (0 : Int32)), .val (.int (2 : Int32)), .val (.int (0 : Int32)), .val (.int d0)]) rfl ?_
    refine sh (mkF m 15 #[.val (.ref ar), .val (.int (0 : Int32)), .val (.ref br), .val (.int (0 : Int32)), .val (.int (2 : Int32)), .val (.int (0 : Int32)), .val (.int d0)] []) ?_
    refine XS.iload X0.here hx rfl (hb hby d7_15) rfl ?_
    refine sh (mkF m 17 #[.val (.ref ar), .val (.int (0 : Int32)), .val (.ref br), .val (.int (0 : Int32)), .val (.int (2 : Int32)), .val (.int (0 : Int32)), .val (.int d0)] [(.int d0)]) ?_
    refine XS.sipush X0.here hx rfl (hb hby d7_17) ?_
    refine sh (mkF m 20 #[.val (.ref ar), .val (.int (0 : Int32)), .val (.ref br), .val (.int (0 : Int32)), .val (.int (2 : Int32)), .val (.int (0 : Int32)), .val (.int d0)] [(.int (255 : Int32)), (.int d0)]) ?_
    refine XS.icmpYes X0.here hx rfl (pc0 := 20) (pc' := 26) rfl (hb hby d7_20) rfl (flt gd0).2.2.2 (by decide) (by decide) ?_
    refine sh (mkF m 26 #[.val (.ref ar), .val (.int (0 : Int32)), .val (.ref br), .val (.int (0 : Int32)), .val (.int (2 : Int32)), .val (.int (0 : Int32)), .val (.int d0)] []) ?_
    refine XS.aloadN X0.here hx rfl (hb hby d7_26) rfl rfl ?_
    refine sh (mkF m 27 #[.val (.ref ar), .val (.int (0 : Int32)), .val (.ref br), .val (.int (0 : Int32)), .val (.int (2 : Int32)), .val (.int (0 : Int32)), .val (.int d0)] [(.ref br)]) ?_
    refine XS.iloadN X0.here hx rfl (hb hby d7_27) rfl ?_
    refine sh (mkF m 28 #[.val (.ref ar), .val (.int (0 : Int32)), .val (.ref br), .val (.int (0 : Int32)), .val (.int (2 : Int32)), .val (.int (0 : Int32)), .val (.int d0)] [(.int (0 : Int32)), (.ref br)]) ?_
    refine XS.iload X0.here hx rfl (hb hby d7_28) rfl ?_
    refine sh (mkF m 30 #[.val (.ref ar), .val (.int (0 : Int32)), .val (.ref br), .val (.int (0 : Int32)), .val (.int (2 : Int32)), .val (.int (0 : Int32)), .val (.int d0)] [(.int d0), (.int (0 : Int32)), (.ref br)]) ?_
    refine XS.i2b X0.here hx rfl (hb hby d7_30) rfl ?_
    refine sh (mkF m 31 #[.val (.ref ar), .val (.int (0 : Int32)), .val (.ref br), .val (.int (0 : Int32)), .val (.int (2 : Int32)), .val (.int (0 : Int32)), .val (.int d0)] [(.int (d0.toInt8.toInt32)), (.int (0 : Int32)), (.ref br)]) ?_
    refine st2 _ ?_
    refine sh (mkF m 32 #[.val (.ref ar), .val (.int (0 : Int32)), .val (.ref br), .val (.int (0 : Int32)), .val (.int (2 : Int32)), .val (.int (0 : Int32)), .val (.int d0)] []) ?_
    refine XS.iinc X2.here hx rfl (hb hby d7_32) rfl (l' := #[.val (.ref ar), .val (.int ((0 : Int32) + (1 : Int32))), .val (.ref br), .val (.int (0 : Int32)), .val (.int (2 : Int32)), .val (.int (0 : Int32)), .val (.int d0)]) rfl ?_
    refine sh (mkF m 35 #[.val (.ref ar), .val (.int ((0 : Int32) + (1 : Int32))), .val (.ref br), .val (.int (0 : Int32)), .val (.int (2 : Int32)), .val (.int (0 : Int32)), .val (.int d0)] []) ?_
    rw [show ((0 : Int32) + (1 : Int32)) = (1 : Int32) from by decide]
    refine sh (mkF m 35 #[.val (.ref ar), .val (.int (1 : Int32)), .val (.ref br), .val (.int (0 : Int32)), .val (.int (2 : Int32)), .val (.int (0 : Int32)), .val (.int d0)] []) ?_
    refine XS.iinc X2.here hx rfl (hb hby d7_35) rfl (l' := #[.val (.ref ar), .val (.int (1 : Int32)), .val (.ref br), .val (.int ((0 : Int32) + (1 : Int32))), .val (.int (2 : Int32)), .val (.int (0 : Int32)), .val (.int d0)]) rfl ?_
    refine sh (mkF m 38 #[.val (.ref ar), .val (.int (1 : Int32)), .val (.ref br), .val (.int ((0 : Int32) + (1 : Int32))), .val (.int (2 : Int32)), .val (.int (0 : Int32)), .val (.int d0)] []) ?_
    rw [show ((0 : Int32) + (1 : Int32)) = (1 : Int32) from by decide]
    refine sh (mkF m 38 #[.val (.ref ar), .val (.int (1 : Int32)), .val (.ref br), .val (.int (1 : Int32)), .val (.int (2 : Int32)), .val (.int (0 : Int32)), .val (.int d0)] []) ?_
    refine XS.iinc X2.here hx rfl (hb hby d7_38) rfl (l' := #[.val (.ref ar), .val (.int (1 : Int32)), .val (.ref br), .val (.int (1 : Int32)), .val (.int (2 : Int32)), .val (.int ((0 : Int32) + (1 : Int32))), .val (.int d0)]) rfl ?_
    refine sh (mkF m 41 #[.val (.ref ar), .val (.int (1 : Int32)), .val (.ref br), .val (.int (1 : Int32)), .val (.int (2 : Int32)), .val (.int ((0 : Int32) + (1 : Int32))), .val (.int d0)] []) ?_
    rw [show ((0 : Int32) + (1 : Int32)) = (1 : Int32) from by decide]
    refine sh (mkF m 41 #[.val (.ref ar), .val (.int (1 : Int32)), .val (.ref br), .val (.int (1 : Int32)), .val (.int (2 : Int32)), .val (.int (1 : Int32)), .val (.int d0)] []) ?_
    refine XS.goto X2.here hx rfl (pc0 := 41) (pc' := 3) rfl (hb hby d7_41) (by decide) (by decide) ?_
    refine sh (mkF m 3 #[.val (.ref ar), .val (.int (1 : Int32)), .val (.ref br), .val (.int (1 : Int32)), .val (.int (2 : Int32)), .val (.int (1 : Int32)), .val (.int d0)] []) ?_
    refine XS.iload X2.here hx rfl (hb hby d7_3) rfl ?_
    refine sh (mkF m 5 #[.val (.ref ar), .val (.int (1 : Int32)), .val (.ref br), .val (.int (1 : Int32)), .val (.int (2 : Int32)), .val (.int (1 : Int32)), .val (.int d0)] [(.int (1 : Int32))]) ?_
    refine XS.iload X2.here hx rfl (hb hby d7_5) rfl ?_
    refine sh (mkF m 7 #[.val (.ref ar), .val (.int (1 : Int32)), .val (.ref br), .val (.int (1 : Int32)), .val (.int (2 : Int32)), .val (.int (1 : Int32)), .val (.int d0)] [(.int (2 : Int32)), (.int (1 : Int32))]) ?_
    refine XS.icmpNo X2.here hx rfl (hb hby d7_7) rfl (tlt (by decide : (1 : Int32) < (2 : Int32))).2.1 ?_
    refine sh (mkF m 10 #[.val (.ref ar), .val (.int (1 : Int32)), .val (.ref br), .val (.int (1 : Int32)), .val (.int (2 : Int32)), .val (.int (1 : Int32)), .val (.int d0)] []) ?_
    refine XS.aloadN X2.here hx rfl (hb hby d7_10) rfl rfl ?_
    refine sh (mkF m 11 #[.val (.ref ar), .val (.int (1 : Int32)), .val (.ref br), .val (.int (1 : Int32)), .val (.int (2 : Int32)), .val (.int (1 : Int32)), .val (.int d0)] [(.ref ar)]) ?_
    refine XS.iloadN X2.here hx rfl (hb hby d7_11) rfl ?_
    refine sh (mkF m 12 #[.val (.ref ar), .val (.int (1 : Int32)), .val (.ref br), .val (.int (1 : Int32)), .val (.int (2 : Int32)), .val (.int (1 : Int32)), .val (.int d0)] [(.int (1 : Int32)), (.ref ar)]) ?_
    refine X2.caload hx (j := (1 : Int32)) (v := (.int d1)) (by rw [e2]; exact Ar4.1) (State.isArrayOf_alike hZ.alike Ar4.2.1) Ar4.2.2 hin4 hat4 (g := (mkF m 12 #[.val (.ref ar), .val (.int (1 : Int32)), .val (.ref br), .val (.int (1 : Int32)), .val (.int (2 : Int32)), .val (.int (1 : Int32)), .val (.int d0)] [(.int (1 : Int32)), (.ref ar)])) rfl rfl (hb hby d7_12) _ ?_
    refine sh (mkF m 13 #[.val (.ref ar), .val (.int (1 : Int32)), .val (.ref br), .val (.int (1 : Int32)), .val (.int (2 : Int32)), .val (.int (1 : Int32)), .val (.int d0)] [(.int d1)]) ?_
    refine XS.istore X2.here hx rfl (hb hby d7_13) rfl (l' := #[.val (.ref ar), .val (.int (1 : Int32)), .val (.ref br), .val (.int (1 : Int32)), .val (.int (2 : Int32)), .val (.int (1 : Int32)), .val (.int d1)]) rfl ?_
    refine sh (mkF m 15 #[.val (.ref ar), .val (.int (1 : Int32)), .val (.ref br), .val (.int (1 : Int32)), .val (.int (2 : Int32)), .val (.int (1 : Int32)), .val (.int d1)] []) ?_
    refine XS.iload X2.here hx rfl (hb hby d7_15) rfl ?_
    refine sh (mkF m 17 #[.val (.ref ar), .val (.int (1 : Int32)), .val (.ref br), .val (.int (1 : Int32)), .val (.int (2 : Int32)), .val (.int (1 : Int32)), .val (.int d1)] [(.int d1)]) ?_
    refine XS.sipush X2.here hx rfl (hb hby d7_17) ?_
    refine sh (mkF m 20 #[.val (.ref ar), .val (.int (1 : Int32)), .val (.ref br), .val (.int (1 : Int32)), .val (.int (2 : Int32)), .val (.int (1 : Int32)), .val (.int d1)] [(.int (255 : Int32)), (.int d1)]) ?_
    refine XS.icmpYes X2.here hx rfl (pc0 := 20) (pc' := 26) rfl (hb hby d7_20) rfl (flt gd1).2.2.2 (by decide) (by decide) ?_
    refine sh (mkF m 26 #[.val (.ref ar), .val (.int (1 : Int32)), .val (.ref br), .val (.int (1 : Int32)), .val (.int (2 : Int32)), .val (.int (1 : Int32)), .val (.int d1)] []) ?_
    refine XS.aloadN X2.here hx rfl (hb hby d7_26) rfl rfl ?_
    refine sh (mkF m 27 #[.val (.ref ar), .val (.int (1 : Int32)), .val (.ref br), .val (.int (1 : Int32)), .val (.int (2 : Int32)), .val (.int (1 : Int32)), .val (.int d1)] [(.ref br)]) ?_
    refine XS.iloadN X2.here hx rfl (hb hby d7_27) rfl ?_
    refine sh (mkF m 28 #[.val (.ref ar), .val (.int (1 : Int32)), .val (.ref br), .val (.int (1 : Int32)), .val (.int (2 : Int32)), .val (.int (1 : Int32)), .val (.int d1)] [(.int (1 : Int32)), (.ref br)]) ?_
    refine XS.iload X2.here hx rfl (hb hby d7_28) rfl ?_
    refine sh (mkF m 30 #[.val (.ref ar), .val (.int (1 : Int32)), .val (.ref br), .val (.int (1 : Int32)), .val (.int (2 : Int32)), .val (.int (1 : Int32)), .val (.int d1)] [(.int d1), (.int (1 : Int32)), (.ref br)]) ?_
    refine XS.i2b X2.here hx rfl (hb hby d7_30) rfl ?_
    refine sh (mkF m 31 #[.val (.ref ar), .val (.int (1 : Int32)), .val (.ref br), .val (.int (1 : Int32)), .val (.int (2 : Int32)), .val (.int (1 : Int32)), .val (.int d1)] [(.int (d1.toInt8.toInt32)), (.int (1 : Int32)), (.ref br)]) ?_
    refine st5 _ ?_
    refine sh (mkF m 32 #[.val (.ref ar), .val (.int (1 : Int32)), .val (.ref br), .val (.int (1 : Int32)), .val (.int (2 : Int32)), .val (.int (1 : Int32)), .val (.int d1)] []) ?_
    refine XS.iinc X5.here hx rfl (hb hby d7_32) rfl (l' := #[.val (.ref ar), .val (.int ((1 : Int32) + (1 : Int32))), .val (.ref br), .val (.int (1 : Int32)), .val (.int (2 : Int32)), .val (.int (1 : Int32)), .val (.int d1)]) rfl ?_
    refine sh (mkF m 35 #[.val (.ref ar), .val (.int ((1 : Int32) + (1 : Int32))), .val (.ref br), .val (.int (1 : Int32)), .val (.int (2 : Int32)), .val (.int (1 : Int32)), .val (.int d1)] []) ?_
    rw [show ((1 : Int32) + (1 : Int32)) = (2 : Int32) from by decide]
    refine sh (mkF m 35 #[.val (.ref ar), .val (.int (2 : Int32)), .val (.ref br), .val (.int (1 : Int32)), .val (.int (2 : Int32)), .val (.int (1 : Int32)), .val (.int d1)] []) ?_
    refine XS.iinc X5.here hx rfl (hb hby d7_35) rfl (l' := #[.val (.ref ar), .val (.int (2 : Int32)), .val (.ref br), .val (.int ((1 : Int32) + (1 : Int32))), .val (.int (2 : Int32)), .val (.int (1 : Int32)), .val (.int d1)]) rfl ?_
    refine sh (mkF m 38 #[.val (.ref ar), .val (.int (2 : Int32)), .val (.ref br), .val (.int ((1 : Int32) + (1 : Int32))), .val (.int (2 : Int32)), .val (.int (1 : Int32)), .val (.int d1)] []) ?_
    rw [show ((1 : Int32) + (1 : Int32)) = (2 : Int32) from by decide]
    refine sh (mkF m 38 #[.val (.ref ar), .val (.int (2 : Int32)), .val (.ref br), .val (.int (2 : Int32)), .val (.int (2 : Int32)), .val (.int (1 : Int32)), .val (.int d1)] []) ?_
    refine XS.iinc X5.here hx rfl (hb hby d7_38) rfl (l' := #[.val (.ref ar), .val (.int (2 : Int32)), .val (.ref br), .val (.int (2 : Int32)), .val (.int (2 : Int32)), .val (.int ((1 : Int32) + (1 : Int32))), .val (.int d1)]) rfl ?_
    refine sh (mkF m 41 #[.val (.ref ar), .val (.int (2 : Int32)), .val (.ref br), .val (.int (2 : Int32)), .val (.int (2 : Int32)), .val (.int ((1 : Int32) + (1 : Int32))), .val (.int d1)] []) ?_
    rw [show ((1 : Int32) + (1 : Int32)) = (2 : Int32) from by decide]
    refine sh (mkF m 41 #[.val (.ref ar), .val (.int (2 : Int32)), .val (.ref br), .val (.int (2 : Int32)), .val (.int (2 : Int32)), .val (.int (2 : Int32)), .val (.int d1)] []) ?_
    refine XS.goto X5.here hx rfl (pc0 := 41) (pc' := 3) rfl (hb hby d7_41) (by decide) (by decide) ?_
    refine sh (mkF m 3 #[.val (.ref ar), .val (.int (2 : Int32)), .val (.ref br), .val (.int (2 : Int32)), .val (.int (2 : Int32)), .val (.int (2 : Int32)), .val (.int d1)] []) ?_
    refine XS.iload X5.here hx rfl (hb hby d7_3) rfl ?_
    refine sh (mkF m 5 #[.val (.ref ar), .val (.int (2 : Int32)), .val (.ref br), .val (.int (2 : Int32)), .val (.int (2 : Int32)), .val (.int (2 : Int32)), .val (.int d1)] [(.int (2 : Int32))]) ?_
    refine XS.iload X5.here hx rfl (hb hby d7_5) rfl ?_
    refine sh (mkF m 7 #[.val (.ref ar), .val (.int (2 : Int32)), .val (.ref br), .val (.int (2 : Int32)), .val (.int (2 : Int32)), .val (.int (2 : Int32)), .val (.int d1)] [(.int (2 : Int32)), (.int (2 : Int32))]) ?_
    refine XS.icmpYes X5.here hx rfl (pc0 := 7) (pc' := 44) rfl (hb hby d7_7) rfl (flt (by decide : ¬ ((2 : Int32) < (2 : Int32)))).2.1 (by decide) (by decide) ?_
    refine sh (mkF m 44 #[.val (.ref ar), .val (.int (2 : Int32)), .val (.ref br), .val (.int (2 : Int32)), .val (.int (2 : Int32)), .val (.int (2 : Int32)), .val (.int d1)] []) ?_
    refine XS.iload X5.here hx rfl (hb hby d7_44) rfl ?_
    refine sh (mkF m 46 #[.val (.ref ar), .val (.int (2 : Int32)), .val (.ref br), .val (.int (2 : Int32)), .val (.int (2 : Int32)), .val (.int (2 : Int32)), .val (.int d1)] [(.int (2 : Int32))]) ?_
    exact retI X5 hx Bd.returns (hb hby d7_46) hr
  · show Q_rmCP2 Z ar br kb d0 d1 ka h0 n0 _ T5.heap _
    rw [e5]
    exact ⟨rfl, N5, (((Keep.refl h0 [br]).wr W2 (Or.inl (List.mem_of_getElem? (i := 0) rfl))).wr W5 (Or.inl (List.mem_of_getElem? (i := 0) rfl))), V5⟩
def Q_rmCQ2 (Z : State) (ar : Addr) (d0 : Int32) (d1 : Int32) (ka : ClassId) (h0 : Heap) (n0 : Nat) (v : Option Value) (h : Heap) (L : List Loc) : Prop := ∃ nb : Addr, ∃ kb : ClassId, v = some (.ref nb) ∧ Fr n0 L ∧ h0.size ≤ nb ∧ Keep h0 h [] ∧ Arv Z h nb kb .byte (2 : Int32) [(.int (nar .byte (d0.toInt8.toInt32))), (.int (nar .byte (d1.toInt8.toInt32)))] (.int (0 : Int32))
theorem ef_rmCQ2 (m : MethodId) (ar : Addr) : entryFrame m #[(.ref ar), (.int (0 : Int32)), (.int (2 : Int32))] 6 = mkF m 0 #[.val (.ref ar), .val (.int (0 : Int32)), .val (.int (2 : Int32)), .unset, .unset, .unset] [] := by first | (simp [entryFrame, mkF, argsToLocals, Value.category]; done) | rfl
set_option maxRecDepth 65536 in
set_option maxHeartbeats 40000000 in
theorem rmCQ2 (l : Launch) (Z : State) (a0 : Array Value) (hw : ∀ d ∈ tables_1, d.before a0 Z = true) (ws : List Jvm.Cond) (ar : Addr) (d0 : Int32) (d1 : Int32) (ka : ClassId) (h0 : Heap) (n0 : Nat) (Z0 : n0 ≤ h0.size) (V_ar : Arv Z h0 ar ka .char (2 : Int32) [(.int d0), (.int d1)] (.int (0 : Int32))) (gd0 : ¬ ((255 : Int32) < d0)) (gd1 : ¬ ((255 : Int32) < d1)) :
    MetFree l (⟨"java/lang/StringUTF16", "compress", "([CII)[B"⟩ : MethodName) (head1 (Jvm.Cond.code (⟨"java/lang/StringUTF16", "compress", "([CII)[B"⟩ : MethodName) jdk_52_method_16_code 6 (some (.array .byte)) :: ws) ({ frames := 1, cells := 1, slots := 2, locals := 18 } : Room)) (fun a U => a = #[(.ref ar), (.int (0 : Int32)), (.int (2 : Int32))] ∧ Z.Warmed39 U.vm ∧ U.heap = h0) (fun _ _ _ _ _ => True) (fun _ U o U' => ∃ v L, o = .returned v ∧ Q_rmCQ2 Z ar d0 d1 ka h0 n0 v U'.heap L ∧ FrameEnd U o U' L ({ frames := 1, cells := 1, slots := 2, locals := 18 } : Room).cells ({ frames := 1, cells := 1, slots := 2, locals := 18 } : Room).slots) := by
  refine MetFree.of_bodySF (plainFor_of_name pn_2) hisR ?_
  intro p e s m args below meth c s₁ Bd hml0 hP hK
  obtain ⟨rfl, hZ, hh⟩ := hP
  have hx := Bd.exec
  have hby := Bd.bytes
  have hml : c.maxLocals = 6 := hml0
  have hown : s.vm.findClass "java/lang/StringUTF16" = some m.cls := findClass_of_methodNamed Bd.named
  have hnm := (name_of_methodNamed Bd.named Bd.method).1
  have X0 : Stand p l e ({ frames := 1, cells := 1, slots := 2, locals := 18 } : Room) s m #[(.ref ar), (.int (0 : Int32)), (.int (2 : Int32))] below meth c s₁ [] 0 0 := Stand.of_body Bd
  have e0 : s₁.heap = h0 := by rw [← hh, Bd.state]; rfl
  have N0 := Fr.nil n0
  have pre0 : ∀ t, Steps p.tables e below (s₁.setTop (mkF m 0 #[.val (.ref ar), .val (.int (0 : Int32)), .val (.int (2 : Int32)), .unset, .unset, .unset] [])) t → Steps p.tables e below (s₁.setTop (entryFrame m #[(.ref ar), (.int (0 : Int32)), (.int (2 : Int32))] 6)) t := fun t k => castTop (ef_rmCQ2 m ar) k
  obtain ⟨T1, h1, k1, X1, e1, E1, A1, st1⟩ := newP X0 hx hZ (ow hw 23 rfl) e0 (g := (mkF m 1 #[.val (.ref ar), .val (.int (0 : Int32)), .val (.int (2 : Int32)), .unset, .unset, .unset] [(.int (2 : Int32))])) rfl (hb hby d8_1) rfl (by decide) (cap := 2) (by decide) (by decide) (by decide) (by decide)
  obtain ⟨b1, g1⟩ : ∃ z, z = h0.size := ⟨_, rfl⟩
  rw [← g1] at A1 st1
  have V1 : Arv Z h1 b1 k1 .byte (2 : Int32) [(.int (0 : Int32)), (.int (0 : Int32))] (.int (0 : Int32)) := (Arv.new A1 (by decide)).pad (pad_rep [] (.int (0 : Int32)) 2)
  have f3 : Arv Z h1 ar ka .char (2 : Int32) [(.int d0), (.int d1)] (.int (0 : Int32)) := (V_ar.ext E1)
  obtain ⟨_, _, ⟨T2, L2, k2, n2⟩, -, X2, ⟨Lc2, hQ2, l2, y2, z2⟩, st2⟩ := Jvm.LawKit.callS X1 hx (y := (⟨"java/lang/StringUTF16", "compress", "([CI[BII)I"⟩ : MethodName)) hown (mvT hZ (ow hw 24 rfl)) (mvT hZ (ow hw 25 rfl)) (mvT hZ (ow hw 21 rfl)) (mvT hZ (ow hw 26 rfl)) (by decide) (backOf (W := 0) (rmCP2 l Z a0 hw [] ar b1 k1 d0 d1 ka h1 n0 (Nat.le_trans Z0 E1.1) f3 gd0 gd1 V1 (Nat.le_trans Z0 (Nat.le_of_eq g1.symm)) (Nat.ne_of_lt (Nat.lt_of_lt_of_le V_ar.lt (Nat.le_of_eq g1.symm)))) hZ (ow hw 26 rfl) (ow hw 21 rfl) (by decide) (by decide)) (g := (mkF m 9 #[.val (.ref ar), .val (.int (0 : Int32)), .val (.int (2 : Int32)), .val (.ref b1), .unset, .unset] [(.int (2 : Int32)), (.int (0 : Int32)), (.ref b1), (.int (0 : Int32)), (.ref ar)])) rfl (by rw [hml]; rfl) (argsL := [(.ref ar), (.int (0 : Int32)), (.ref b1), (.int (0 : Int32)), (.int (2 : Int32))]) (rest := []) (lenOf pd_5 rfl) rfl (by show 2 * 0 + _ ≤ _; exact Nat.le_of_eq rfl) (hb hby d8_9) (fun _ _ => ⟨rfl, e1, (by decide : 1 + 0 ≤ _), (by decide : 2 + 0 ≤ _)⟩)
  dsimp only [Pt.U, Pt.locs, Pt.cells, Pt.slots] at X2 l2 y2 z2 st2 hQ2
  subst l2 y2 z2
  obtain ⟨rfl, Nq2, Kp2, Fq2_0⟩ := hQ2
  have N2 := Fr.app N0 Nq2
  obtain ⟨fs, hr, hrun, hended, hW, hsame⟩ := X2.leave (v := some (.ref b1)) (fun h => by rw [Bd.returns] at h; cases h)
  refine ⟨_, _, pre0 _ ?_, hrun, hended, _, _, rfl, ?_, ⟨_, rfl⟩, hW, hsame.mono (by decide) (by decide)⟩
  · refine sh (mkF m 0 #[.val (.ref ar), .val (.int (0 : Int32)), .val (.int (2 : Int32)), .unset, .unset, .unset] []) ?_
    refine XS.iloadN X0.here hx rfl (hb hby d8_0) rfl ?_
    refine sh (mkF m 1 #[.val (.ref ar), .val (.int (0 : Int32)), .val (.int (2 : Int32)), .unset, .unset, .unset] [(.int (2 : Int32))]) ?_
    refine st1 _ ?_
    refine sh (mkF m 3 #[.val (.ref ar), .val (.int (0 : Int32)), .val (.int (2 : Int32)), .unset, .unset, .unset] [(.ref b1)]) ?_
    refine XS.astoreN X1.here hx rfl (hb hby d8_3) rfl rfl (l' := #[.val (.ref ar), .val (.int (0 : Int32)), .val (.int (2 : Int32)), .val (.ref b1), .unset, .unset]) rfl ?_
    refine sh (mkF m 4 #[.val (.ref ar), .val (.int (0 : Int32)), .val (.int (2 : Int32)), .val (.ref b1), .unset, .unset] []) ?_
    refine XS.aloadN X1.here hx rfl (hb hby d8_4) rfl rfl ?_
    refine sh (mkF m 5 #[.val (.ref ar), .val (.int (0 : Int32)), .val (.int (2 : Int32)), .val (.ref b1), .unset, .unset] [(.ref ar)]) ?_
    refine XS.iloadN X1.here hx rfl (hb hby d8_5) rfl ?_
    refine sh (mkF m 6 #[.val (.ref ar), .val (.int (0 : Int32)), .val (.int (2 : Int32)), .val (.ref b1), .unset, .unset] [(.int (0 : Int32)), (.ref ar)]) ?_
    refine XS.aloadN X1.here hx rfl (hb hby d8_6) rfl rfl ?_
    refine sh (mkF m 7 #[.val (.ref ar), .val (.int (0 : Int32)), .val (.int (2 : Int32)), .val (.ref b1), .unset, .unset] [(.ref b1), (.int (0 : Int32)), (.ref ar)]) ?_
    refine XS.iconst X1.here hx rfl (hb hby d8_7) ?_
    refine sh (mkF m 8 #[.val (.ref ar), .val (.int (0 : Int32)), .val (.int (2 : Int32)), .val (.ref b1), .unset, .unset] [(.int (0 : Int32)), (.ref b1), (.int (0 : Int32)), (.ref ar)]) ?_
    refine XS.iloadN X1.here hx rfl (hb hby d8_8) rfl ?_
    refine sh (mkF m 9 #[.val (.ref ar), .val (.int (0 : Int32)), .val (.int (2 : Int32)), .val (.ref b1), .unset, .unset] [(.int (2 : Int32)), (.int (0 : Int32)), (.ref b1), (.int (0 : Int32)), (.ref ar)]) ?_
    refine st2 _ ?_
    refine sh (mkF m 12 #[.val (.ref ar), .val (.int (0 : Int32)), .val (.int (2 : Int32)), .val (.ref b1), .unset, .unset] [(.int (2 : Int32))]) ?_
    refine XS.istore X2.here hx rfl (hb hby d8_12) rfl (l' := #[.val (.ref ar), .val (.int (0 : Int32)), .val (.int (2 : Int32)), .val (.ref b1), .val (.int (2 : Int32)), .unset]) rfl ?_
    refine sh (mkF m 14 #[.val (.ref ar), .val (.int (0 : Int32)), .val (.int (2 : Int32)), .val (.ref b1), .val (.int (2 : Int32)), .unset] []) ?_
    refine XS.iload X2.here hx rfl (hb hby d8_14) rfl ?_
    refine sh (mkF m 16 #[.val (.ref ar), .val (.int (0 : Int32)), .val (.int (2 : Int32)), .val (.ref b1), .val (.int (2 : Int32)), .unset] [(.int (2 : Int32))]) ?_
    refine XS.iloadN X2.here hx rfl (hb hby d8_16) rfl ?_
    refine sh (mkF m 17 #[.val (.ref ar), .val (.int (0 : Int32)), .val (.int (2 : Int32)), .val (.ref b1), .val (.int (2 : Int32)), .unset] [(.int (2 : Int32)), (.int (2 : Int32))]) ?_
    refine XS.icmpYes X2.here hx rfl (pc0 := 17) (pc' := 57) rfl (hb hby d8_17) rfl (teq (rfl : (2 : Int32) = (2 : Int32))).1 (by decide) (by decide) ?_
    refine sh (mkF m 57 #[.val (.ref ar), .val (.int (0 : Int32)), .val (.int (2 : Int32)), .val (.ref b1), .val (.int (2 : Int32)), .unset] []) ?_
    refine XS.aloadN X2.here hx rfl (hb hby d8_57) rfl rfl ?_
    refine sh (mkF m 58 #[.val (.ref ar), .val (.int (0 : Int32)), .val (.int (2 : Int32)), .val (.ref b1), .val (.int (2 : Int32)), .unset] [(.ref b1)]) ?_
    exact retOut X2 hx Bd.returns rfl (Or.inr (Or.inr (Or.inr (Or.inr ⟨rfl, rfl, rfl⟩)))) (hb hby d8_58) hr
  · show Q_rmCQ2 Z ar d0 d1 ka h0 n0 _ T2.heap _
    exact ⟨b1, k1, rfl, N2, (Nat.le_trans (Nat.le_refl h0.size) (Nat.le_of_eq g1.symm)), (((Keep.refl h0 []).ext E1).trans Kp2 (allS (Or.inr (Nat.le_trans (Nat.le_refl h0.size) (Nat.le_of_eq g1.symm))) all0)), Fq2_0⟩
def Q_rmCF2 (Z : State) (br : Addr) (kb : ClassId) (vs : List Value) (h0 : Heap) (n0 : Nat) (v : Option Value) (h : Heap) (L : List Loc) : Prop := v = some (.int (0 : Int32)) ∧ Fr n0 L ∧ h = h0
theorem ef_rmCF2 (m : MethodId) (br : Addr) : entryFrame m #[(.ref br), (.int (2 : Int32))] 2 = mkF m 0 #[.val (.ref br), .val (.int (2 : Int32))] [] := by first | (simp [entryFrame, mkF, argsToLocals, Value.category]; done) | rfl
set_option maxRecDepth 65536 in
set_option maxHeartbeats 40000000 in
theorem rmCF2 (l : Launch) (Z : State) (a0 : Array Value) (hw : ∀ d ∈ tables_1, d.before a0 Z = true) (ws : List Jvm.Cond) (br : Addr) (kb : ClassId) (vs : List Value) (h0 : Heap) (n0 : Nat) (Z0 : n0 ≤ h0.size) (V_br : Arv Z h0 br kb .byte (2 : Int32) vs (.int (0 : Int32))) :
    MetFree l (⟨"java/lang/StringUTF16", "coderFromArrayLen", "([BI)B"⟩ : MethodName) (head1 (Jvm.Cond.code (⟨"java/lang/StringUTF16", "coderFromArrayLen", "([BI)B"⟩ : MethodName) jdk_52_method_15_code 2 (some .byte) :: ws) ({ frames := 0, cells := 0, slots := 0, locals := 0 } : Room)) (fun a U => a = #[(.ref br), (.int (2 : Int32))] ∧ Z.Warmed39 U.vm ∧ U.heap = h0) (fun _ _ _ _ _ => True) (fun _ U o U' => ∃ v L, o = .returned v ∧ Q_rmCF2 Z br kb vs h0 n0 v U'.heap L ∧ FrameEnd U o U' L ({ frames := 0, cells := 0, slots := 0, locals := 0 } : Room).cells ({ frames := 0, cells := 0, slots := 0, locals := 0 } : Room).slots) := by
  refine MetFree.of_bodySF (plainFor_of_name pn_2) hisR ?_
  intro p e s m args below meth c s₁ Bd hml0 hP hK
  obtain ⟨rfl, hZ, hh⟩ := hP
  have hx := Bd.exec
  have hby := Bd.bytes
  have hml : c.maxLocals = 2 := hml0
  have hown : s.vm.findClass "java/lang/StringUTF16" = some m.cls := findClass_of_methodNamed Bd.named
  have hnm := (name_of_methodNamed Bd.named Bd.method).1
  have X0 : Stand p l e ({ frames := 0, cells := 0, slots := 0, locals := 0 } : Room) s m #[(.ref br), (.int (2 : Int32))] below meth c s₁ [] 0 0 := Stand.of_body Bd
  have e0 : s₁.heap = h0 := by rw [← hh, Bd.state]; rfl
  have N0 := Fr.nil n0
  have pre0 : ∀ t, Steps p.tables e below (s₁.setTop (mkF m 0 #[.val (.ref br), .val (.int (2 : Int32))] [])) t → Steps p.tables e below (s₁.setTop (entryFrame m #[(.ref br), (.int (2 : Int32))] 2)) t := fun t k => castTop (ef_rmCF2 m br) k
  have Vc1 := V_br
  obtain ⟨cl1, Ar1, -, S1, M1, -, -⟩ := Vc1
  obtain ⟨fs, hr, hrun, hended, hW, hsame⟩ := X0.leave (v := some (.int (0 : Int32))) (fun h => by rw [Bd.returns] at h; cases h)
  refine ⟨_, _, pre0 _ ?_, hrun, hended, _, _, rfl, ?_, ⟨_, rfl⟩, hW, hsame.mono (by decide) (by decide)⟩
  · refine sh (mkF m 0 #[.val (.ref br), .val (.int (2 : Int32))] []) ?_
    refine XS.iloadN X0.here hx rfl (hb hby d9_0) rfl ?_
    refine sh (mkF m 1 #[.val (.ref br), .val (.int (2 : Int32))] [(.int (2 : Int32))]) ?_
    refine XS.aloadN X0.here hx rfl (hb hby d9_1) rfl rfl ?_
    refine sh (mkF m 2 #[.val (.ref br), .val (.int (2 : Int32))] [(.ref br), (.int (2 : Int32))]) ?_
    refine X0.arraylength hx (cell := cl1) (by rw [e0]; exact Ar1.1) (State.isArrayOf_alike hZ.alike Ar1.2.1) (g := (mkF m 2 #[.val (.ref br), .val (.int (2 : Int32))] [(.ref br), (.int (2 : Int32))])) rfl (rest := [(.int (2 : Int32))]) rfl (hb hby d9_2) _ ?_
    rw [len_of S1 M1]
    refine sh (mkF m 3 #[.val (.ref br), .val (.int (2 : Int32))] [(.int (2 : Int32)), (.int (2 : Int32))]) ?_
    refine XS.isub X0.here hx rfl (hb hby d9_3) rfl ?_
    refine sh (mkF m 4 #[.val (.ref br), .val (.int (2 : Int32))] [(.int ((2 : Int32) - (2 : Int32)))]) ?_
    rw [show ((2 : Int32) - (2 : Int32)) = (0 : Int32) from by decide]
    refine sh (mkF m 4 #[.val (.ref br), .val (.int (2 : Int32))] [(.int (0 : Int32))]) ?_
    refine XS.bipush X0.here hx rfl (hb hby d9_4) ?_
    refine sh (mkF m 6 #[.val (.ref br), .val (.int (2 : Int32))] [(.int (31 : Int32)), (.int (0 : Int32))]) ?_
    refine XS.iushr X0.here hx rfl (hb hby d9_6) rfl ?_
    refine sh (mkF m 7 #[.val (.ref br), .val (.int (2 : Int32))] [(.int (((0 : Int32).toUInt32 >>> ((31 : Int32) &&& 31).toUInt32).toInt32))]) ?_
    rw [show (((0 : Int32).toUInt32 >>> ((31 : Int32) &&& 31).toUInt32).toInt32) = (0 : Int32) from by decide]
    refine sh (mkF m 7 #[.val (.ref br), .val (.int (2 : Int32))] [(.int (0 : Int32))]) ?_
    refine XS.i2b X0.here hx rfl (hb hby d9_7) rfl ?_
    refine sh (mkF m 8 #[.val (.ref br), .val (.int (2 : Int32))] [(.int ((0 : Int32).toInt8.toInt32))]) ?_
    rw [show ((0 : Int32).toInt8.toInt32) = (0 : Int32) from by decide]
    refine sh (mkF m 8 #[.val (.ref br), .val (.int (2 : Int32))] [(.int (0 : Int32))]) ?_
    exact retN X0 hx (t := .byte) Bd.returns (by simp) (hb hby d9_8) hr
  · show Q_rmCF2 Z br kb vs h0 n0 _ s₁.heap _
    rw [e0]
    exact ⟨rfl, N0, rfl⟩
def Q_rmCI2 (Z : State) (ob : Addr) (ar : Addr) (s_CS : Int32) (d0 : Int32) (d1 : Int32) (ka : ClassId) (u_coder_ob : Value) (u_value_ob : Value) (h0 : Heap) (n0 : Nat) (v : Option Value) (h : Heap) (L : List Loc) : Prop := ∃ vb : Addr, ∃ kb : ClassId, v = none ∧ Fr n0 L ∧ h0.size ≤ vb ∧ Keep h0 h [ob] ∧ Exa Z h ob "java/lang/String" ∧ Fld Z h ob "java/lang/String" "value" "[B" (.ref vb) ∧ Fld Z h ob "java/lang/String" "coder" "B" (.int (0 : Int32)) ∧ Arv Z h vb kb .byte (2 : Int32) [(.int (nar .byte (d0.toInt8.toInt32))), (.int (nar .byte (d1.toInt8.toInt32)))] (.int (0 : Int32))
theorem ef_rmCI2 (m : MethodId) (ob : Addr) (ar : Addr) : entryFrame m #[(.ref ob), (.ref ar), (.int (0 : Int32)), (.int (2 : Int32)), .null] 6 = mkF m 0 #[.val (.ref ob), .val (.ref ar), .val (.int (0 : Int32)), .val (.int (2 : Int32)), .val .null, .unset] [] := by first | (simp [entryFrame, mkF, argsToLocals, Value.category]; done) | rfl
set_option maxRecDepth 65536 in
set_option maxHeartbeats 40000000 in
theorem rmCI2 (l : Launch) (Z : State) (a0 : Array Value) (hw : ∀ d ∈ tables_1, d.before a0 Z = true) (ws : List Jvm.Cond) (ob : Addr) (ar : Addr) (s_CS : Int32) (d0 : Int32) (d1 : Int32) (ka : ClassId) (u_coder_ob : Value) (u_value_ob : Value) (h0 : Heap) (n0 : Nat) (Z0 : n0 ≤ h0.size) (S_CS : Sta Z h0 "java/lang/String" "COMPACT_STRINGS" "Z" (.int s_CS)) (hcs : ¬ (s_CS = (0 : Int32))) (V_ar : Arv Z h0 ar ka .char (2 : Int32) [(.int d0), (.int d1)] (.int (0 : Int32))) (gd0 : ¬ ((255 : Int32) < d0)) (gd1 : ¬ ((255 : Int32) < d1)) (E_ob : Exa Z h0 ob "java/lang/String") (F_coder_ob : Fld Z h0 ob "java/lang/String" "coder" "B" u_coder_ob) (g_ob : n0 ≤ ob) (F_value_ob : Fld Z h0 ob "java/lang/String" "value" "[B" u_value_ob) :
    MetFree l (⟨"java/lang/String", "<init>", "([CIILjava/lang/Void;)V"⟩ : MethodName) (head1 (Jvm.Cond.code (⟨"java/lang/String", "<init>", "([CIILjava/lang/Void;)V"⟩ : MethodName) jdk_42_method_149_code 6 none :: ws) ({ frames := 2, cells := 1, slots := 2, locals := 35 } : Room)) (fun a U => a = #[(.ref ob), (.ref ar), (.int (0 : Int32)), (.int (2 : Int32)), .null] ∧ Z.Warmed39 U.vm ∧ U.heap = h0) (fun _ _ _ _ _ => True) (fun _ U o U' => ∃ v L, o = .returned v ∧ Q_rmCI2 Z ob ar s_CS d0 d1 ka u_coder_ob u_value_ob h0 n0 v U'.heap L ∧ FrameEnd U o U' L ({ frames := 2, cells := 1, slots := 2, locals := 35 } : Room).cells ({ frames := 2, cells := 1, slots := 2, locals := 35 } : Room).slots) := by
  refine MetFree.of_bodySF (plainFor_of_name pn_1) hisR ?_
  intro p e s m args below meth c s₁ Bd hml0 hP hK
  obtain ⟨rfl, hZ, hh⟩ := hP
  have hx := Bd.exec
  have hby := Bd.bytes
  have hml : c.maxLocals = 6 := hml0
  have hown : s.vm.findClass "java/lang/String" = some m.cls := findClass_of_methodNamed Bd.named
  have hnm := (name_of_methodNamed Bd.named Bd.method).1
  have X0 : Stand p l e ({ frames := 2, cells := 1, slots := 2, locals := 35 } : Room) s m #[(.ref ob), (.ref ar), (.int (0 : Int32)), (.int (2 : Int32)), .null] below meth c s₁ [] 0 0 := Stand.of_body Bd
  have e0 : s₁.heap = h0 := by rw [← hh, Bd.state]; rfl
  have N0 := Fr.nil n0
  have pre0 : ∀ t, Steps p.tables e below (s₁.setTop (mkF m 0 #[.val (.ref ob), .val (.ref ar), .val (.int (0 : Int32)), .val (.int (2 : Int32)), .val .null, .unset] [])) t → Steps p.tables e below (s₁.setTop (entryFrame m #[(.ref ob), (.ref ar), (.int (0 : Int32)), (.int (2 : Int32)), .null] 6)) t := fun t k => castTop (ef_rmCI2 m ob ar) k
  obtain ⟨T1, X1, e1, st1⟩ := initO X0 hx hZ hown (ow hw 15 rfl) (ow hw 16 rfl) (ow hw 17 rfl) e0 (g := (mkF m 1 #[.val (.ref ob), .val (.ref ar), .val (.int (0 : Int32)), .val (.int (2 : Int32)), .val .null, .unset] [(.ref ob)])) rfl (by rw [hml]; rfl) rfl (hb hby d4_1) (by decide) (W := 0) (by show 2 * 0 + _ ≤ _; exact Nat.le_of_eq rfl) (by decide)
  obtain ⟨T2, X2, e2, st2⟩ := getS2 X1 hx hZ hown (host := "") (Or.inl (ow hw 18 rfl)) Via.refl e1 S_CS (g := (mkF m 27 #[.val (.ref ob), .val (.ref ar), .val (.int (0 : Int32)), .val (.int (2 : Int32)), .val .null, .unset] [])) rfl (hb hby d4_27)
  obtain ⟨_, _, ⟨T3, L3, k3, n3⟩, -, X3, ⟨Lc3, hQ3, l3, y3, z3⟩, st3⟩ := Jvm.LawKit.callS X2 hx (y := (⟨"java/lang/StringUTF16", "compress", "([CII)[B"⟩ : MethodName)) hown (mvT hZ (ow hw 19 rfl)) (mvT hZ (ow hw 20 rfl)) (mvT hZ (ow hw 21 rfl)) (mvT hZ (ow hw 22 rfl)) (by decide) (backOf (W := 0) (rmCQ2 l Z a0 hw [] ar d0 d1 ka h0 n0 Z0 V_ar gd0 gd1) hZ (ow hw 22 rfl) (ow hw 21 rfl) (by decide) (by decide)) (g := (mkF m 36 #[.val (.ref ob), .val (.ref ar), .val (.int (0 : Int32)), .val (.int (2 : Int32)), .val .null, .unset] [(.int (2 : Int32)), (.int (0 : Int32)), (.ref ar)])) rfl (by rw [hml]; rfl) (argsL := [(.ref ar), (.int (0 : Int32)), (.int (2 : Int32))]) (rest := []) (lenOf pd_6 rfl) rfl (by show 2 * 0 + _ ≤ _; exact Nat.le_of_eq rfl) (hb hby d4_36) (fun _ _ => ⟨rfl, e2, (by decide : 0 + 1 ≤ _), (by decide : 0 + 2 ≤ _)⟩)
  dsimp only [Pt.U, Pt.locs, Pt.cells, Pt.slots] at X3 l3 y3 z3 st3 hQ3
  subst l3 y3 z3
  obtain ⟨nb_3, kb_3, rfl, Nq3, gb3_0, Kp3, Fq3_0⟩ := hQ3
  have N3 := Fr.app N0 Nq3
  obtain ⟨_, _, ⟨T4, L4, k4, n4⟩, -, X4, ⟨Lc4, hQ4, l4, y4, z4⟩, st4⟩ := Jvm.LawKit.callS X3 hx (y := (⟨"java/lang/StringUTF16", "coderFromArrayLen", "([BI)B"⟩ : MethodName)) hown (mvT hZ (ow hw 27 rfl)) (mvT hZ (ow hw 28 rfl)) (mvT hZ (ow hw 21 rfl)) (mvT hZ (ow hw 29 rfl)) (by decide) (backOf (W := 1) (rmCF2 l Z a0 hw [] nb_3 kb_3 [(.int (nar .byte (d0.toInt8.toInt32))), (.int (nar .byte (d1.toInt8.toInt32)))] T3.heap n0 (Nat.le_trans Z0 Kp3.1) Fq3_0) hZ (ow hw 29 rfl) (ow hw 21 rfl) (by decide) (by decide)) (g := (mkF m 45 #[.val (.ref ob), .val (.ref ar), .val (.int (0 : Int32)), .val (.int (2 : Int32)), .val .null, .val (.ref nb_3)] [(.int (2 : Int32)), (.ref nb_3), (.ref ob)])) rfl (by rw [hml]; rfl) (argsL := [(.ref nb_3), (.int (2 : Int32))]) (rest := [(.ref ob)]) (lenOf pd_7 rfl) rfl (by show 2 * 0 + _ ≤ _; exact Nat.le_of_eq rfl) (hb hby d4_45) (fun _ _ => ⟨rfl, rfl, (by decide : 1 + 0 ≤ _), (by decide : 2 + 0 ≤ _)⟩)
  dsimp only [Pt.U, Pt.locs, Pt.cells, Pt.slots] at X4 l4 y4 z4 st4 hQ4
  subst l4 y4 z4
  obtain ⟨rfl, Nq4, e4⟩ := hQ4
  have N4 := Fr.app N3 Nq4
  have f5 : Fld Z T3.heap ob "java/lang/String" "coder" "B" u_coder_ob := (F_coder_ob.keep Kp3 nin0)
  have f6 : Exa Z T3.heap ob "java/lang/String" := (E_ob.keep Kp3)
  obtain ⟨T7, h7, X7, e7, W7, st7⟩ := putFN X4 hx hZ hown (ow hw 30 rfl) Via.refl e4 f5 f6 (Or.inr ⟨(ow hw 31 rfl), rfl, hnm⟩) (ow hw 5 rfl) (ty := .byte) (v' := (.int (0 : Int32))) (by decide) rfl (by decide) (g := (mkF m 48 #[.val (.ref ob), .val (.ref ar), .val (.int (0 : Int32)), .val (.int (2 : Int32)), .val .null, .val (.ref nb_3)] [(.int (0 : Int32)), (.ref ob)])) rfl rfl (hb hby d4_48)
  have Fw7 := f5.same W7
  have N7 := Fr.snoc X7 N4 g_ob
  have f8 : Fld Z h7 ob "java/lang/String" "value" "[B" u_value_ob := ((F_value_ob.keep Kp3 nin0).other W7 (Or.inr (slot_ne (Or.inr (ow hw 33 rfl)) (Or.inr (ow hw 31 rfl)) (by decide) (t := (.array .byte)) (t' := .byte) (by decide) (by decide))))
  have f9 : Exa Z h7 ob "java/lang/String" := (f6.wr W7)
  obtain ⟨T10, h10, X10, e10, W10, st10⟩ := putF X7 hx hZ hown (host := "") (Or.inl (ow hw 32 rfl)) Via.refl e7 f8 f9 (Or.inr ⟨(ow hw 33 rfl), rfl, hnm⟩) (ow hw 5 rfl) (ty := (.array .byte)) (by decide) rfl rfl (g := (mkF m 54 #[.val (.ref ob), .val (.ref ar), .val (.int (0 : Int32)), .val (.int (2 : Int32)), .val .null, .val (.ref nb_3)] [(.ref nb_3), (.ref ob)])) rfl rfl (hb hby d4_54)
  have Fw10 := f8.same W10
  have N10 := Fr.snoc X10 N7 g_ob
  have f11 : Exa Z h10 ob "java/lang/String" := (f9.wr W10)
  have f12 : Fld Z h10 ob "java/lang/String" "coder" "B" (.int (0 : Int32)) := (Fw7.other W10 (Or.inr (slot_ne (Or.inr (ow hw 31 rfl)) (Or.inr (ow hw 33 rfl)) (by decide) (t := .byte) (t' := (.array .byte)) (by decide) (by decide))))
  have f13 : Arv Z h10 nb_3 kb_3 .byte (2 : Int32) [(.int (nar .byte (d0.toInt8.toInt32))), (.int (nar .byte (d1.toInt8.toInt32)))] (.int (0 : Int32)) := ((Fq3_0.other W7 (Ne.symm (Nat.ne_of_lt (Nat.lt_of_lt_of_le E_ob.lt gb3_0)))).other W10 (Ne.symm (Nat.ne_of_lt (Nat.lt_of_lt_of_le E_ob.lt gb3_0))))
  obtain ⟨fs, hr, hrun, hended, hW, hsame⟩ := X10.leave (v := none) (fun _ => rfl)
  refine ⟨_, _, pre0 _ ?_, hrun, hended, _, _, rfl, ?_, ⟨_, rfl⟩, hW, hsame.mono (by decide) (by decide)⟩
  · refine sh (mkF m 0 #[.val (.ref ob), .val (.ref ar), .val (.int (0 : Int32)), .val (.int (2 : Int32)), .val .null, .unset] []) ?_
    refine XS.aloadN X0.here hx rfl (hb hby d4_0) rfl rfl ?_
    refine sh (mkF m 1 #[.val (.ref ob), .val (.ref ar), .val (.int (0 : Int32)), .val (.int (2 : Int32)), .val .null, .unset] [(.ref ob)]) ?_
    refine st1 _ ?_
    refine sh (mkF m 4 #[.val (.ref ob), .val (.ref ar), .val (.int (0 : Int32)), .val (.int (2 : Int32)), .val .null, .unset] []) ?_
    refine XS.iloadN X1.here hx rfl (hb hby d4_4) rfl ?_
    refine sh (mkF m 5 #[.val (.ref ob), .val (.ref ar), .val (.int (0 : Int32)), .val (.int (2 : Int32)), .val .null, .unset] [(.int (2 : Int32))]) ?_
    refine XS.ifYes X1.here hx rfl (pc0 := 5) (pc' := 27) rfl (hb hby d4_5) rfl ((if0 _ _).trans (feq (by decide : ¬ ((2 : Int32) = (0 : Int32)))).2) (by decide) (by decide) ?_
    refine sh (mkF m 27 #[.val (.ref ob), .val (.ref ar), .val (.int (0 : Int32)), .val (.int (2 : Int32)), .val .null, .unset] []) ?_
    refine st2 _ ?_
    refine sh (mkF m 30 #[.val (.ref ob), .val (.ref ar), .val (.int (0 : Int32)), .val (.int (2 : Int32)), .val .null, .unset] [(.int s_CS)]) ?_
    refine XS.ifNo X2.here hx rfl (hb hby d4_30) rfl ((if0 _ _).trans (feq hcs).1) ?_
    refine sh (mkF m 33 #[.val (.ref ob), .val (.ref ar), .val (.int (0 : Int32)), .val (.int (2 : Int32)), .val .null, .unset] []) ?_
    refine XS.aloadN X2.here hx rfl (hb hby d4_33) rfl rfl ?_
    refine sh (mkF m 34 #[.val (.ref ob), .val (.ref ar), .val (.int (0 : Int32)), .val (.int (2 : Int32)), .val .null, .unset] [(.ref ar)]) ?_
    refine XS.iloadN X2.here hx rfl (hb hby d4_34) rfl ?_
    refine sh (mkF m 35 #[.val (.ref ob), .val (.ref ar), .val (.int (0 : Int32)), .val (.int (2 : Int32)), .val .null, .unset] [(.int (0 : Int32)), (.ref ar)]) ?_
    refine XS.iloadN X2.here hx rfl (hb hby d4_35) rfl ?_
    refine sh (mkF m 36 #[.val (.ref ob), .val (.ref ar), .val (.int (0 : Int32)), .val (.int (2 : Int32)), .val .null, .unset] [(.int (2 : Int32)), (.int (0 : Int32)), (.ref ar)]) ?_
    refine st3 _ ?_
    refine sh (mkF m 39 #[.val (.ref ob), .val (.ref ar), .val (.int (0 : Int32)), .val (.int (2 : Int32)), .val .null, .unset] [(.ref nb_3)]) ?_
    refine XS.astore X3.here hx rfl (hb hby d4_39) rfl rfl (l' := #[.val (.ref ob), .val (.ref ar), .val (.int (0 : Int32)), .val (.int (2 : Int32)), .val .null, .val (.ref nb_3)]) rfl ?_
    refine sh (mkF m 41 #[.val (.ref ob), .val (.ref ar), .val (.int (0 : Int32)), .val (.int (2 : Int32)), .val .null, .val (.ref nb_3)] []) ?_
    refine XS.aloadN X3.here hx rfl (hb hby d4_41) rfl rfl ?_
    refine sh (mkF m 42 #[.val (.ref ob), .val (.ref ar), .val (.int (0 : Int32)), .val (.int (2 : Int32)), .val .null, .val (.ref nb_3)] [(.ref ob)]) ?_
    refine XS.aload X3.here hx rfl (hb hby d4_42) rfl rfl ?_
    refine sh (mkF m 44 #[.val (.ref ob), .val (.ref ar), .val (.int (0 : Int32)), .val (.int (2 : Int32)), .val .null, .val (.ref nb_3)] [(.ref nb_3), (.ref ob)]) ?_
    refine XS.iloadN X3.here hx rfl (hb hby d4_44) rfl ?_
    refine sh (mkF m 45 #[.val (.ref ob), .val (.ref ar), .val (.int (0 : Int32)), .val (.int (2 : Int32)), .val .null, .val (.ref nb_3)] [(.int (2 : Int32)), (.ref nb_3), (.ref ob)]) ?_
    refine st4 _ ?_
    refine sh (mkF m 48 #[.val (.ref ob), .val (.ref ar), .val (.int (0 : Int32)), .val (.int (2 : Int32)), .val .null, .val (.ref nb_3)] [(.int (0 : Int32)), (.ref ob)]) ?_
    refine st7 _ ?_
    refine sh (mkF m 51 #[.val (.ref ob), .val (.ref ar), .val (.int (0 : Int32)), .val (.int (2 : Int32)), .val .null, .val (.ref nb_3)] []) ?_
    refine XS.aloadN X7.here hx rfl (hb hby d4_51) rfl rfl ?_
    refine sh (mkF m 52 #[.val (.ref ob), .val (.ref ar), .val (.int (0 : Int32)), .val (.int (2 : Int32)), .val .null, .val (.ref nb_3)] [(.ref ob)]) ?_
    refine XS.aload X7.here hx rfl (hb hby d4_52) rfl rfl ?_
    refine sh (mkF m 54 #[.val (.ref ob), .val (.ref ar), .val (.int (0 : Int32)), .val (.int (2 : Int32)), .val .null, .val (.ref nb_3)] [(.ref nb_3), (.ref ob)]) ?_
    refine st10 _ ?_
    refine sh (mkF m 57 #[.val (.ref ob), .val (.ref ar), .val (.int (0 : Int32)), .val (.int (2 : Int32)), .val .null, .val (.ref nb_3)] []) ?_
    exact X10.returnOut hx Bd.returns (hb hby d4_57) hr
  · show Q_rmCI2 Z ob ar s_CS d0 d1 ka u_coder_ob u_value_ob h0 n0 _ T10.heap _
    rw [e10]
    exact ⟨nb_3, kb_3, rfl, N10, (Nat.le_trans (Nat.le_refl h0.size) gb3_0), ((((Keep.refl h0 [ob]).trans Kp3 all0).wr W7 (Or.inl (List.mem_of_getElem? (i := 0) rfl))).wr W10 (Or.inl (List.mem_of_getElem? (i := 0) rfl))), f11, Fw10, f12, f13⟩
def Q_rmCA2 (Z : State) (ob : Addr) (ar : Addr) (u_v : Value) (u_c : Value) (s_CS : Int32) (d0 : Int32) (d1 : Int32) (ka : ClassId) (h0 : Heap) (n0 : Nat) (v : Option Value) (h : Heap) (L : List Loc) : Prop := ∃ vb : Addr, ∃ kb : ClassId, v = none ∧ Fr n0 L ∧ h0.size ≤ vb ∧ Keep h0 h [ob] ∧ Exa Z h ob "java/lang/String" ∧ Fld Z h ob "java/lang/String" "value" "[B" (.ref vb) ∧ Fld Z h ob "java/lang/String" "coder" "B" (.int (0 : Int32)) ∧ Arv Z h vb kb .byte (2 : Int32) [(.int (nar .byte (d0.toInt8.toInt32))), (.int (nar .byte (d1.toInt8.toInt32)))] (.int (0 : Int32))
theorem ef_rmCA2 (m : MethodId) (ob : Addr) (ar : Addr) : entryFrame m #[(.ref ob), (.ref ar)] 2 = mkF m 0 #[.val (.ref ob), .val (.ref ar)] [] := by first | (simp [entryFrame, mkF, argsToLocals, Value.category]; done) | rfl
set_option maxRecDepth 65536 in
set_option maxHeartbeats 40000000 in
theorem rmCA2 (l : Launch) (Z : State) (a0 : Array Value) (hw : ∀ d ∈ tables_1, d.before a0 Z = true) (ws : List Jvm.Cond) (ob : Addr) (ar : Addr) (u_v : Value) (u_c : Value) (s_CS : Int32) (d0 : Int32) (d1 : Int32) (ka : ClassId) (h0 : Heap) (n0 : Nat) (Z0 : n0 ≤ h0.size) (S_CS : Sta Z h0 "java/lang/String" "COMPACT_STRINGS" "Z" (.int s_CS)) (hcs : ¬ (s_CS = (0 : Int32))) (V_ar : Arv Z h0 ar ka .char (2 : Int32) [(.int d0), (.int d1)] (.int (0 : Int32))) (gd0 : ¬ ((255 : Int32) < d0)) (gd1 : ¬ ((255 : Int32) < d1)) (E_ob : Exa Z h0 ob "java/lang/String") (F_value_ob : Fld Z h0 ob "java/lang/String" "value" "[B" u_v) (F_coder_ob : Fld Z h0 ob "java/lang/String" "coder" "B" u_c) (g_ob : n0 ≤ ob) :
    MetFree l (⟨"java/lang/String", "<init>", "([C)V"⟩ : MethodName) (head1 (Jvm.Cond.code (⟨"java/lang/String", "<init>", "([C)V"⟩ : MethodName) jdk_42_method_3_code 2 none :: ws) ({ frames := 3, cells := 1, slots := 2, locals := 52 } : Room)) (fun a U => a = #[(.ref ob), (.ref ar)] ∧ Z.Warmed39 U.vm ∧ U.heap = h0) (fun _ _ _ _ _ => True) (fun _ U o U' => ∃ v L, o = .returned v ∧ Q_rmCA2 Z ob ar u_v u_c s_CS d0 d1 ka h0 n0 v U'.heap L ∧ FrameEnd U o U' L ({ frames := 3, cells := 1, slots := 2, locals := 52 } : Room).cells ({ frames := 3, cells := 1, slots := 2, locals := 52 } : Room).slots) := by
  refine MetFree.of_bodySF (plainFor_of_name pn_1) hisR ?_
  intro p e s m args below meth c s₁ Bd hml0 hP hK
  obtain ⟨rfl, hZ, hh⟩ := hP
  have hx := Bd.exec
  have hby := Bd.bytes
  have hml : c.maxLocals = 2 := hml0
  have hown : s.vm.findClass "java/lang/String" = some m.cls := findClass_of_methodNamed Bd.named
  have hnm := (name_of_methodNamed Bd.named Bd.method).1
  have X0 : Stand p l e ({ frames := 3, cells := 1, slots := 2, locals := 52 } : Room) s m #[(.ref ob), (.ref ar)] below meth c s₁ [] 0 0 := Stand.of_body Bd
  have e0 : s₁.heap = h0 := by rw [← hh, Bd.state]; rfl
  have N0 := Fr.nil n0
  have pre0 : ∀ t, Steps p.tables e below (s₁.setTop (mkF m 0 #[.val (.ref ob), .val (.ref ar)] [])) t → Steps p.tables e below (s₁.setTop (entryFrame m #[(.ref ob), (.ref ar)] 2)) t := fun t k => castTop (ef_rmCA2 m ob ar) k
  have Vc1 := V_ar
  obtain ⟨cl1, Ar1, -, S1, M1, -, -⟩ := Vc1
  obtain ⟨_, _, ⟨T2, L2, k2, n2⟩, -, X2, ⟨Lc2, hQ2, l2, y2, z2⟩, st2⟩ := X0.specialBack hx (y := (⟨"java/lang/String", "<init>", "([CIILjava/lang/Void;)V"⟩ : MethodName)) rfl hown (mvT hZ (ow hw 11 rfl)) (mvT hZ (ow hw 12 rfl)) (mvT hZ (ow hw 14 rfl)) (by decide) (backOf (W := 0) (rmCI2 l Z a0 hw [] ob ar s_CS d0 d1 ka u_c u_v h0 n0 Z0 S_CS hcs V_ar gd0 gd1 E_ob F_coder_ob g_ob F_value_ob) hZ (ow hw 14 rfl) (ow hw 6 rfl) (by decide) (by decide)) (g := (mkF m 6 #[.val (.ref ob), .val (.ref ar)] [.null, (.int (2 : Int32)), (.int (0 : Int32)), (.ref ar), (.ref ob)])) rfl (by rw [hml]; rfl) (Steps.refl _) (a := ob) (argsL := [(.ref ar), (.int (0 : Int32)), (.int (2 : Int32)), .null]) (rest := []) (lenOf pd_3 rfl) rfl (by show 2 * 0 + _ ≤ _; exact Nat.le_of_eq rfl) (hb hby d5_6) (fun _ _ => ⟨rfl, e0, (by decide : 0 + 1 ≤ _), (by decide : 0 + 2 ≤ _)⟩)
  dsimp only [Pt.U, Pt.locs, Pt.cells, Pt.slots] at X2 l2 y2 z2 st2 hQ2
  subst l2 y2 z2
  obtain ⟨vb_2, kb_2, rfl, Nq2, gb2_0, Kp2, Fq2_0, Fq2_1, Fq2_2, Fq2_3⟩ := hQ2
  have N2 := Fr.app N0 Nq2
  obtain ⟨fs, hr, hrun, hended, hW, hsame⟩ := X2.leave (v := none) (fun _ => rfl)
  refine ⟨_, _, pre0 _ ?_, hrun, hended, _, _, rfl, ?_, ⟨_, rfl⟩, hW, hsame.mono (by decide) (by decide)⟩
  · refine sh (mkF m 0 #[.val (.ref ob), .val (.ref ar)] []) ?_
    refine XS.aloadN X0.here hx rfl (hb hby d5_0) rfl rfl ?_
    refine sh (mkF m 1 #[.val (.ref ob), .val (.ref ar)] [(.ref ob)]) ?_
    refine XS.aloadN X0.here hx rfl (hb hby d5_1) rfl rfl ?_
    refine sh (mkF m 2 #[.val (.ref ob), .val (.ref ar)] [(.ref ar), (.ref ob)]) ?_
    refine XS.iconst X0.here hx rfl (hb hby d5_2) ?_
    refine sh (mkF m 3 #[.val (.ref ob), .val (.ref ar)] [(.int (0 : Int32)), (.ref ar), (.ref ob)]) ?_
    refine XS.aloadN X0.here hx rfl (hb hby d5_3) rfl rfl ?_
    refine sh (mkF m 4 #[.val (.ref ob), .val (.ref ar)] [(.ref ar), (.int (0 : Int32)), (.ref ar), (.ref ob)]) ?_
    refine X0.arraylength hx (cell := cl1) (by rw [e0]; exact Ar1.1) (State.isArrayOf_alike hZ.alike Ar1.2.1) (g := (mkF m 4 #[.val (.ref ob), .val (.ref ar)] [(.ref ar), (.int (0 : Int32)), (.ref ar), (.ref ob)])) rfl (rest := [(.int (0 : Int32)), (.ref ar), (.ref ob)]) rfl (hb hby d5_4) _ ?_
    rw [len_of S1 M1]
    refine sh (mkF m 5 #[.val (.ref ob), .val (.ref ar)] [(.int (2 : Int32)), (.int (0 : Int32)), (.ref ar), (.ref ob)]) ?_
    refine XS.aconstNull X0.here hx rfl (hb hby d5_5) ?_
    refine sh (mkF m 6 #[.val (.ref ob), .val (.ref ar)] [.null, (.int (2 : Int32)), (.int (0 : Int32)), (.ref ar), (.ref ob)]) ?_
    refine st2.trans ?_
    refine sh (mkF m 9 #[.val (.ref ob), .val (.ref ar)] []) ?_
    exact X2.returnOut hx Bd.returns (hb hby d5_9) hr
  · show Q_rmCA2 Z ob ar u_v u_c s_CS d0 d1 ka h0 n0 _ T2.heap _
    exact ⟨vb_2, kb_2, rfl, N2, (Nat.le_trans (Nat.le_refl h0.size) gb2_0), ((Keep.refl h0 [ob]).trans Kp2 (allS (Or.inl (List.mem_of_getElem? (i := 0) rfl)) all0)), Fq2_0, Fq2_1, Fq2_2, Fq2_3⟩
theorem d6_69 : decode method_2_code 69 = .ok (.iload_n 1, 1) := by decide +kernel
theorem d6_70 : decode method_2_code 70 = .ok (.iconst 2, 1) := by decide +kernel
theorem d6_71 : decode method_2_code 71 = .ok (.if_icmp .ne 22, 3) := by decide +kernel
theorem d6_74 : decode method_2_code 74 = .ok (.new 7, 3) := by decide +kernel
theorem d6_77 : decode method_2_code 77 = .ok (.dup, 1) := by decide +kernel
theorem d6_78 : decode method_2_code 78 = .ok (.iconst 2, 1) := by decide +kernel
theorem d6_79 : decode method_2_code 79 = .ok (.newarray .char, 2) := by decide +kernel
theorem d6_81 : decode method_2_code 81 = .ok (.dup, 1) := by decide +kernel
theorem d6_82 : decode method_2_code 82 = .ok (.iconst 0, 1) := by decide +kernel
theorem d6_83 : decode method_2_code 83 = .ok (.iload_n 2, 1) := by decide +kernel
theorem d6_84 : decode method_2_code 84 = .ok (.castore, 1) := by decide +kernel
theorem d6_85 : decode method_2_code 85 = .ok (.dup, 1) := by decide +kernel
theorem d6_86 : decode method_2_code 86 = .ok (.iconst 1, 1) := by decide +kernel
theorem d6_87 : decode method_2_code 87 = .ok (.iload_n 3, 1) := by decide +kernel
theorem d6_88 : decode method_2_code 88 = .ok (.castore, 1) := by decide +kernel
theorem d6_89 : decode method_2_code 89 = .ok (.invokespecial 9, 3) := by decide +kernel
theorem d6_92 : decode method_2_code 92 = .ok (.areturn, 1) := by decide +kernel
def Q_rmCP3 (Z : State) (ar : Addr) (br : Addr) (kb : ClassId) (d0 : Int32) (d1 : Int32) (d2 : Int32) (ka : ClassId) (h0 : Heap) (n0 : Nat) (v : Option Value) (h : Heap) (L : List Loc) : Prop := v = some (.int (3 : Int32)) ∧ Fr n0 L ∧ Keep h0 h [br] ∧ Arv Z h br kb .byte (3 : Int32) [(.int (nar .byte (d0.toInt8.toInt32))), (.int (nar .byte (d1.toInt8.toInt32))), (.int (nar .byte (d2.toInt8.toInt32)))] (.int (0 : Int32))
theorem ef_rmCP3 (m : MethodId) (ar : Addr) (br : Addr) : entryFrame m #[(.ref ar), (.int (0 : Int32)), (.ref br), (.int (0 : Int32)), (.int (3 : Int32))] 7 = mkF m 0 #[.val (.ref ar), .val (.int (0 : Int32)), .val (.ref br), .val (.int (0 : Int32)), .val (.int (3 : Int32)), .unset, .unset] [] := by first | (simp [entryFrame, mkF, argsToLocals, Value.category]; done) | rfl
set_option maxRecDepth 65536 in
set_option maxHeartbeats 40000000 in
theorem rmCP3 (l : Launch) (Z : State) (a0 : Array Value) (hw : ∀ d ∈ tables_1, d.before a0 Z = true) (ws : List Jvm.Cond) (ar : Addr) (br : Addr) (kb : ClassId) (d0 : Int32) (d1 : Int32) (d2 : Int32) (ka : ClassId) (h0 : Heap) (n0 : Nat) (Z0 : n0 ≤ h0.size) (V_ar : Arv Z h0 ar ka .char (3 : Int32) [(.int d0), (.int d1), (.int d2)] (.int (0 : Int32))) (gd0 : ¬ ((255 : Int32) < d0)) (gd1 : ¬ ((255 : Int32) < d1)) (gd2 : ¬ ((255 : Int32) < d2)) (V_br : Arv Z h0 br kb .byte (3 : Int32) [(.int (0 : Int32)), (.int (0 : Int32)), (.int (0 : Int32))] (.int (0 : Int32))) (g_br : n0 ≤ br) (ne_ar_br : ar ≠ br) :
    MetFree l (⟨"java/lang/StringUTF16", "compress", "([CI[BII)I"⟩ : MethodName) (head1 (Jvm.Cond.code (⟨"java/lang/StringUTF16", "compress", "([CI[BII)I"⟩ : MethodName) jdk_52_method_21_code 7 (some .int) :: ws) ({ frames := 0, cells := 0, slots := 0, locals := 0 } : Room)) (fun a U => a = #[(.ref ar), (.int (0 : Int32)), (.ref br), (.int (0 : Int32)), (.int (3 : Int32))] ∧ Z.Warmed39 U.vm ∧ U.heap = h0) (fun _ _ _ _ _ => True) (fun _ U o U' => ∃ v L, o = .returned v ∧ Q_rmCP3 Z ar br kb d0 d1 d2 ka h0 n0 v U'.heap L ∧ FrameEnd U o U' L ({ frames := 0, cells := 0, slots := 0, locals := 0 } : Room).cells ({ frames := 0, cells := 0, slots := 0, locals := 0 } : Room).slots) := by
  refine MetFree.of_bodySF (plainFor_of_name pn_2) hisR ?_
  intro p e s m args below meth c s₁ Bd hml0 hP hK
  obtain ⟨rfl, hZ, hh⟩ := hP
  have hx := Bd.exec
  have hby := Bd.bytes
  have hml : c.maxLocals = 7 := hml0
  have hown : s.vm.findClass "java/lang/StringUTF16" = some m.cls := findClass_of_methodNamed Bd.named
  have hnm := (name_of_methodNamed Bd.named Bd.method).1
  have X0 : Stand p l e ({ frames := 0, cells := 0, slots := 0, locals := 0 } : Room) s m #[(.ref ar), (.int (0 : Int32)), (.ref br), (.int (0 : Int32)), (.int (3 : Int32))] below meth c s₁ [] 0 0 := Stand.of_body Bd
  have e0 : s₁.heap = h0 := by rw [← hh, Bd.state]; rfl
  have N0 := Fr.nil n0
  have pre0 : ∀ t, Steps p.tables e below (s₁.setTop (mkF m 0 #[.val (.ref ar), .val (.int (0 : Int32)), .val (.ref br), .val (.int (0 : Int32)), .val (.int (3 : Int32)), .unset, .unset] [])) t → Steps p.tables e below (s₁.setTop (entryFrame m #[(.ref ar), (.int (0 : Int32)), (.ref br), (.int (0 : Int32)), (.int (3 : Int32))] 7)) t := fun t k => castTop (ef_rmCP3 m ar br) k
  have Vc1 := V_ar
  obtain ⟨cl1, Ar1, q1, S1, M1, H1, G1⟩ := Vc1
  have hin1 : ¬ ((0 : Int32) < 0 ∨ cl1.slots.size ≤ ((0 : Int32)).toNatClampNeg) := inb_of S1 ⟨by decide, by decide⟩
  have hat1 : cl1.slots[((0 : Int32)).toNatClampNeg]? = some (.int d0) := Has.at H1 hin1 rfl
  have Vc2 := V_br
  obtain ⟨cl2, Ar2, q2, S2, M2, H2, G2⟩ := Vc2
  have hin2 : ¬ ((0 : Int32) < 0 ∨ cl2.slots.size ≤ ((0 : Int32)).toNatClampNeg) := inb_of S2 ⟨by decide, by decide⟩
  obtain ⟨T2, h2, X2, e2, W2, st2⟩ := stB X0 hx hZ e0 Ar2 (j := (0 : Int32)) hin2 (g := (mkF m 31 #[.val (.ref ar), .val (.int (0 : Int32)), .val (.ref br), .val (.int (0 : Int32)), .val (.int (3 : Int32)), .val (.int (0 : Int32)), .val (.int d0)] [(.int (d0.toInt8.toInt32)), (.int (0 : Int32)), (.ref br)])) rfl rfl (hb hby d7_31)
  have V2 : Arv Z h2 br kb .byte (3 : Int32) [(.int (nar .byte (d0.toInt8.toInt32))), (.int (0 : Int32)), (.int (0 : Int32))] (.int (0 : Int32)) := Arv.set Ar2 q2 S2 M2 H2 G2 (fits_nar_byte _) W2 0 rfl (Nat.le_of_ble_eq_true rfl)
  have N2 := Fr.snoc X2 N0 g_br
  have f3 : Arv Z h2 ar ka .char (3 : Int32) [(.int d0), (.int d1), (.int d2)] (.int (0 : Int32)) := (V_ar.other W2 ne_ar_br)
  have Vc4 := f3
  obtain ⟨cl4, Ar4, q4, S4, M4, H4, G4⟩ := Vc4
  have hin4 : ¬ ((1 : Int32) < 0 ∨ cl4.slots.size ≤ ((1 : Int32)).toNatClampNeg) := inb_of S4 ⟨by decide, by decide⟩
  have hat4 : cl4.slots[((1 : Int32)).toNatClampNeg]? = some (.int d1) := Has.at H4 hin4 rfl
  have Vc5 := V2
  obtain ⟨cl5, Ar5, q5, S5, M5, H5, G5⟩ := Vc5
  have hin5 : ¬ ((1 : Int32) < 0 ∨ cl5.slots.size ≤ ((1 : Int32)).toNatClampNeg) := inb_of S5 ⟨by decide, by decide⟩
  obtain ⟨T5, h5, X5, e5, W5, st5⟩ := stB X2 hx hZ e2 Ar5 (j := (1 : Int32)) hin5 (g := (mkF m 31 #[.val (.ref ar), .val (.int (1 : Int32)), .val (.ref br), .val (.int (1 : Int32)), .val (.int (3 : Int32)), .val (.int (1 : Int32)), .val (.int d1)] [(.int (d1.toInt8.toInt32)), (.int (1 : Int32)), (.ref br)])) rfl rfl (hb hby d7_31)
  have V5 : Arv Z h5 br kb .byte (3 : Int32) [(.int (nar .byte (d0.toInt8.toInt32))), (.int (nar .byte (d1.toInt8.toInt32))), (.int (0 : Int32))] (.int (0 : Int32)) := Arv.set Ar5 q5 S5 M5 H5 G5 (fits_nar_byte _) W5 1 rfl (Nat.le_of_ble_eq_true rfl)
  have N5 := Fr.snoc X5 N2 g_br
  have f6 : Arv Z h5 ar ka .char (3 : Int32) [(.int d0), (.int d1), (.int d2)] (.int (0 : Int32)) := (f3.other W5 ne_ar_br)
  have Vc7 := f6
  obtain ⟨cl7, Ar7, q7, S7, M7, H7, G7⟩ := Vc7
  have hin7 : ¬ ((2 : Int32) < 0 ∨ cl7.slots.size ≤ ((2 : Int32)).toNatClampNeg) := inb_of S7 ⟨by decide, by decide⟩
  have hat7 : cl7.slots[((2 : Int32)).toNatClampNeg]? = some (.int d2) := Has.at H7 hin7 rfl
  have Vc8 := V5
  obtain ⟨cl8, Ar8, q8, S8, M8, H8, G8⟩ := Vc8
  have hin8 : ¬ ((2 : Int32) < 0 ∨ cl8.slots.size ≤ ((2 : Int32)).toNatClampNeg) := inb_of S8 ⟨by decide, by decide⟩
  obtain ⟨T8, h8, X8, e8, W8, st8⟩ := stB X5 hx hZ e5 Ar8 (j := (2 : Int32)) hin8 (g := (mkF m 31 #[.val (.ref ar), .val (.int (2 : Int32)), .val (.ref br), .val (.int (2 : Int32)), .val (.int (3 : Int32)), .val (.int (2 : Int32)), .val (.int d2)] [(.int (d2.toInt8.toInt32)), (.int (2 : Int32)), (.ref br)])) rfl rfl (hb hby d7_31)
  have V8 : Arv Z h8 br kb .byte (3 : Int32) [(.int (nar .byte (d0.toInt8.toInt32))), (.int (nar .byte (d1.toInt8.toInt32))), (.int (nar .byte (d2.toInt8.toInt32)))] (.int (0 : Int32)) := Arv.set Ar8 q8 S8 M8 H8 G8 (fits_nar_byte _) W8 2 rfl (Nat.le_of_ble_eq_true rfl)
  have N8 := Fr.snoc X8 N5 g_br
  obtain ⟨fs, hr, hrun, hended, hW, hsame⟩ := X8.leave (v := some (.int (3 : Int32))) (fun h => by rw [Bd.returns] at h; cases h)
  refine ⟨_, _, pre0 _ ?_, hrun, hended, _, _, rfl, ?_, ⟨_, rfl⟩, hW, hsame.mono (by decide) (by decide)⟩
  · refine sh (mkF m 0 #[.val (.ref ar), .val (.int (0 : Int32)), .val (.ref br), .val (.int (0 : Int32)), .val (.int (3 : Int32)), .unset, .unset] []) ?_
    refine XS.iconst X0.here hx rfl (hb hby d7_0) ?_
    refine sh (mkF m 1 #[.val (.ref ar), .val (.int (0 : Int32)), .val (.ref br), .val (.int (0 : Int32)), .val (.int (3 : Int32)), .unset, .unset] [(.int (0 : Int32))]) ?_
    refine XS.istore X0.here hx rfl (hb hby d7_1) rfl (l' := #[.val (.ref ar), .val (.int (0 : Int32)), .val (.ref br), .val (.int (0 : Int32)), .val (.int (3 : Int32)), .val (.int (0 : Int32)), .unset]) rfl ?_
    refine sh (mkF m 3 #[.val (.ref ar), .val (.int (0 : Int32)), .val (.ref br), .val (.int (0 : Int32)), .val (.int (3 : Int32)), .val (.int (0 : Int32)), .unset] []) ?_
    refine XS.iload X0.here hx rfl (hb hby d7_3) rfl ?_
    refine sh (mkF m 5 #[.val (.ref ar), .val (.int (0 : Int32)), .val (.ref br), .val (.int (0 : Int32)), .val (.int (3 : Int32)), .val (.int (0 : Int32)), .unset] [(.int (0 : Int32))]) ?_
    refine XS.iload X0.here hx rfl (hb hby d7_5) rfl ?_
    refine sh (mkF m 7 #[.val (.ref ar), .val (.int (0 : Int32)), .val (.ref br), .val (.int (0 : Int32)), .val (.int (3 : Int32)), .val (.int (0 : Int32)), .unset] [(.int (3 : Int32)), (.int (0 : Int32))]) ?_
    refine XS.icmpNo X0.here hx rfl (hb hby d7_7) rfl (tlt (by decide : (0 : Int32) < (3 : Int32))).2.1 ?_
    refine sh (mkF m 10 #[.val (.ref ar), .val (.int (0 : Int32)), .val (.ref br), .val (.int (0 : Int32)), .val (.int (3 : Int32)), .val (.int (0 : Int32)), .unset] []) ?_
    refine XS.aloadN X0.here hx rfl (hb hby d7_10) rfl rfl ?_
    refine sh (mkF m 11 #[.val (.ref ar), .val (.int (0 : Int32)), .val (.ref br), .val (.int (0 : Int32)), .val (.int (3 : Int32)), .val (.int (0 : Int32)), .unset] [(.ref ar)]) ?_
    refine XS.iloadN X0.here hx rfl (hb hby d7_11) rfl ?_
    refine sh (mkF m 12 #[.val (.ref ar), .val (.int (0 : Int32)), .val (.ref br), .val (.int (0 : Int32)), .val (.int (3 : Int32)), .val (.int (0 : Int32)), .unset] [(.int (0 : Int32)), (.ref ar)]) ?_
    refine X0.caload hx (j := (0 : Int32)) (v := (.int d0)) (by rw [e0]; exact Ar1.1) (State.isArrayOf_alike hZ.alike Ar1.2.1) Ar1.2.2 hin1 hat1 (g := (mkF m 12 #[.val (.ref ar), .val (.int (0 : Int32)), .val (.ref br), .val (.int (0 : Int32)), .val (.int (3 : Int32)), .val (.int (0 : Int32)), .unset] [(.int (0 : Int32)), (.ref ar)])) rfl rfl (hb hby d7_12) _ ?_
    refine sh (mkF m 13 #[.val (.ref ar), .val (.int (0 : Int32)), .val (.ref br), .val (.int (0 : Int32)), .val (.int (3 : Int32)), .val (.int (0 : Int32)), .unset] [(.int d0)]) ?_
    refine XS.istore X0.here hx rfl (hb hby d7_13) rfl (l' := #[.val (.ref ar), .val (.int (0 : Int32)), .val (.ref br), .val (.int (0 : Int32)), .val (.int (3 : Int32)), .val (.int (0 : Int32)), .val (.int d0)]) rfl ?_
    refine sh (mkF m 15 #[.val (.ref ar), .val (.int (0 : Int32)), .val (.ref br), .val (.int (0 : Int32)), .val (.int (3 : Int32)), .val (.int (0 : Int32)), .val (.int d0)] []) ?_
    refine XS.iload X0.here hx rfl (hb hby d7_15) rfl ?_
    refine sh (mkF m 17 #[.val (.ref ar), .val (.int (0 : Int32)), .val (.ref br), .val (.int (0 : Int32)), .val (.int (3 : Int32)), .val (.int (0 : Int32)), .val (.int d0)] [(.int d0)]) ?_
    refine XS.sipush X0.here hx rfl (hb hby d7_17) ?_
    refine sh (mkF m 20 #[.val (.ref ar), .val (.int (0 : Int32)), .val (.ref br), .val (.int (0 : Int32)), .val (.int (3 : Int32)), .val (.int (0 : Int32)), .val (.int d0)] [(.int (255 : Int32)), (.int d0)]) ?_
    refine XS.icmpYes X0.here hx rfl (pc0 := 20) (pc' := 26) rfl (hb hby d7_20) rfl (flt gd0).2.2.2 (by decide) (by decide) ?_
    refine sh (mkF m 26 #[.val (.ref ar), .val (.int (0 : Int32)), .val (.ref br), .val (.int (0 : Int32)), .val (.int (3 : Int32)), .val (.int (0 : Int32)), .val (.int d0)] []) ?_
    refine XS.aloadN X0.here hx rfl (hb hby d7_26) rfl rfl ?_
    refine sh (mkF m 27 #[.val (.ref ar), .val (.int (0 : Int32)), .val (.ref br), .val (.int (0 : Int32)), .val (.int (3 : Int32)), .val (.int (0 : Int32)), .val (.int d0)] [(.ref br)]) ?_
    refine XS.iloadN X0.here hx rfl (hb hby d7_27) rfl ?_
    refine sh (mkF m 28 #[.val (.ref ar), .val (.int (0 : Int32)), .val (.ref br), .val (.int (0 : Int32)), .val (.int (3 : Int32)), .val (.int (0 : Int32)), .val (.int d0)] [(.int (0 : Int32)), (.ref br)]) ?_
    refine XS.iload X0.here hx rfl (hb hby d7_28) rfl ?_
    refine sh (mkF m 30 #[.val (.ref ar), .val (.int (0 : Int32)), .val (.ref br), .val (.int (0 : Int32)), .val (.int (3 : Int32)), .val (.int (0 : Int32)), .val (.int d0)] [(.int d0), (.int (0 : Int32)), (.ref br)]) ?_
    refine XS.i2b X0.here hx rfl (hb hby d7_30) rfl ?_
    refine sh (mkF m 31 #[.val (.ref ar), .val (.int (0 : Int32)), .val (.ref br), .val (.int (0 : Int32)), .val (.int (3 : Int32)), .val (.int (0 : Int32)), .val (.int d0)] [(.int (d0.toInt8.toInt32)), (.int (0 : Int32)), (.ref br)]) ?_
    refine st2 _ ?_
    refine sh (mkF m 32 #[.val (.ref ar), .val (.int (0 : Int32)), .val (.ref br), .val (.int (0 : Int32)), .val (.int (3 : Int32)), .val (.int (0 : Int32)), .val (.int d0)] []) ?_
    refine XS.iinc X2.here hx rfl (hb hby d7_32) rfl (l' := #[.val (.ref ar), .val (.int ((0 : Int32) + (1 : Int32))), .val (.ref br), .val (.int (0 : Int32)), .val (.int (3 : Int32)), .val (.int (0 : Int32)), .val (.int d0)]) rfl ?_
    refine sh (mkF m 35 #[.val (.ref ar), .val (.int ((0 : Int32) + (1 : Int32))), .val (.ref br), .val (.int (0 : Int32)), .val (.int (3 : Int32)), .val (.int (0 : Int32)), .val (.int d0)] []) ?_
    rw [show ((0 : Int32) + (1 : Int32)) = (1 : Int32) from by decide]
    refine sh (mkF m 35 #[.val (.ref ar), .val (.int (1 : Int32)), .val (.ref br), .val (.int (0 : Int32)), .val (.int (3 : Int32)), .val (.int (0 : Int32)), .val (.int d0)] []) ?_
    refine XS.iinc X2.here hx rfl (hb hby d7_35) rfl (l' := #[.val (.ref ar), .val (.int (1 : Int32)), .val (.ref br), .val (.int ((0 : Int32) + (1 : Int32))), .val (.int (3 : Int32)), .val (.int (0 : Int32)), .val (.int d0)]) rfl ?_
    refine sh (mkF m 38 #[.val (.ref ar), .val (.int (1 : Int32)), .val (.ref br), .val (.int ((0 : Int32) + (1 : Int32))), .val (.int (3 : Int32)), .val (.int (0 : Int32)), .val (.int d0)] []) ?_
    rw [show ((0 : Int32) + (1 : Int32)) = (1 : Int32) from by decide]
    refine sh (mkF m 38 #[.val (.ref ar), .val (.int (1 : Int32)), .val (.ref br), .val (.int (1 : Int32)), .val (.int (3 : Int32)), .val (.int (0 : Int32)), .val (.int d0)] []) ?_
    refine XS.iinc X2.here hx rfl (hb hby d7_38) rfl (l' := #[.val (.ref ar), .val (.int (1 : Int32)), .val (.ref br), .val (.int (1 : Int32)), .val (.int (3 : Int32)), .val (.int ((0 : Int32) + (1 : Int32))), .val (.int d0)]) rfl ?_
    refine sh (mkF m 41 #[.val (.ref ar), .val (.int (1 : Int32)), .val (.ref br), .val (.int (1 : Int32)), .val (.int (3 : Int32)), .val (.int ((0 : Int32) + (1 : Int32))), .val (.int d0)] []) ?_
    rw [show ((0 : Int32) + (1 : Int32)) = (1 : Int32) from by decide]
    refine sh (mkF m 41 #[.val (.ref ar), .val (.int (1 : Int32)), .val (.ref br), .val (.int (1 : Int32)), .val (.int (3 : Int32)), .val (.int (1 : Int32)), .val (.int d0)] []) ?_
    refine XS.goto X2.here hx rfl (pc0 := 41) (pc' := 3) rfl (hb hby d7_41) (by decide) (by decide) ?_
    refine sh (mkF m 3 #[.val (.ref ar), .val (.int (1 : Int32)), .val (.ref br), .val (.int (1 : Int32)), .val (.int (3 : Int32)), .val (.int (1 : Int32)), .val (.int d0)] []) ?_
    refine XS.iload X2.here hx rfl (hb hby d7_3) rfl ?_
    refine sh (mkF m 5 #[.val (.ref ar), .val (.int (1 : Int32)), .val (.ref br), .val (.int (1 : Int32)), .val (.int (3 : Int32)), .val (.int (1 : Int32)), .val (.int d0)] [(.int (1 : Int32))]) ?_
    refine XS.iload X2.here hx rfl (hb hby d7_5) rfl ?_
    refine sh (mkF m 7 #[.val (.ref ar), .val (.int (1 : Int32)), .val (.ref br), .val (.int (1 : Int32)), .val (.int (3 : Int32)), .val (.int (1 : Int32)), .val (.int d0)] [(.int (3 : Int32)), (.int (1 : Int32))]) ?_
    refine XS.icmpNo X2.here hx rfl (hb hby d7_7) rfl (tlt (by decide : (1 : Int32) < (3 : Int32))).2.1 ?_
    refine sh (mkF m 10 #[.val (.ref ar), .val (.int (1 : Int32)), .val (.ref br), .val (.int (1 : Int32)), .val (.int (3 : Int32)), .val (.int (1 : Int32)), .val (.int d0)] []) ?_
    refine XS.aloadN X2.here hx rfl (hb hby d7_10) rfl rfl ?_
    refine sh (mkF m 11 #[.val (.ref ar), .val (.int (1 : Int32)), .val (.ref br), .val (.int (1 : Int32)), .val (.int (3 : Int32)), .val (.int (1 : Int32)), .val (.int d0)] [(.ref ar)]) ?_
    refine XS.iloadN X2.here hx rfl (hb hby d7_11) rfl ?_
    refine sh (mkF m 12 #[.val (.ref ar), .val (.int (1 : Int32)), .val (.ref br), .val (.int (1 : Int32)), .val (.int (3 : Int32)), .val (.int (1 : Int32)), .val (.int d0)] [(.int (1 : Int32)), (.ref ar)]) ?_
    refine X2.caload hx (j := (1 : Int32)) (v := (.int d1)) (by rw [e2]; exact Ar4.1) (State.isArrayOf_alike hZ.alike Ar4.2.1) Ar4.2.2 hin4 hat4 (g := (mkF m 12 #[.val (.ref ar), .val (.int (1 : Int32)), .val (.ref br), .val (.int (1 : Int32)), .val (.int (3 : Int32)), .val (.int (1 : Int32)), .val (.int d0)] [(.int (1 : Int32)), (.ref ar)])) rfl rfl (hb hby d7_12) _ ?_
    refine sh (mkF m 13 #[.val (.ref ar), .val (.int (1 : Int32)), .val (.ref br), .val (.int (1 : Int32)), .val (.int (3 : Int32)), .val (.int (1 : Int32)), .val (.int d0)] [(.int d1)]) ?_
    refine XS.istore X2.here hx rfl (hb hby d7_13) rfl (l' := #[.val (.ref ar), .val (.int (1 : Int32)), .val (.ref br), .val (.int (1 : Int32)), .val (.int (3 : Int32)), .val (.int (1 : Int32)), .val (.int d1)]) rfl ?_
    refine sh (mkF m 15 #[.val (.ref ar), .val (.int (1 : Int32)), .val (.ref br), .val (.int (1 : Int32)), .val (.int (3 : Int32)), .val (.int (1 : Int32)), .val (.int d1)] []) ?_
    refine XS.iload X2.here hx rfl (hb hby d7_15) rfl ?_
    refine sh (mkF m 17 #[.val (.ref ar), .val (.int (1 : Int32)), .val (.ref br), .val (.int (1 : Int32)), .val (.int (3 : Int32)), .val (.int (1 : Int32)), .val (.int d1)] [(.int d1)]) ?_
    refine XS.sipush X2.here hx rfl (hb hby d7_17) ?_
    refine sh (mkF m 20 #[.val (.ref ar), .val (.int (1 : Int32)), .val (.ref br), .val (.int (1 : Int32)), .val (.int (3 : Int32)), .val (.int (1 : Int32)), .val (.int d1)] [(.int (255 : Int32)), (.int d1)]) ?_
    refine XS.icmpYes X2.here hx rfl (pc0 := 20) (pc' := 26) rfl (hb hby d7_20) rfl (flt gd1).2.2.2 (by decide) (by decide) ?_
    refine sh (mkF m 26 #[.val (.ref ar), .val (.int (1 : Int32)), .val (.ref br), .val (.int (1 : Int32)), .val (.int (3 : Int32)), .val (.int (1 : Int32)), .val (.int d1)] []) ?_
    refine XS.aloadN X2.here hx rfl (hb hby d7_26) rfl rfl ?_
    refine sh (mkF m 27 #[.val (.ref ar), .val (.int (1 : Int32)), .val (.ref br), .val (.int (1 : Int32)), .val (.int (3 : Int32)), .val (.int (1 : Int32)), .val (.int d1)] [(.ref br)]) ?_
    refine XS.iloadN X2.here hx rfl (hb hby d7_27) rfl ?_
    refine sh (mkF m 28 #[.val (.ref ar), .val (.int (1 : Int32)), .val (.ref br), .val (.int (1 : Int32)), .val (.int (3 : Int32)), .val (.int (1 : Int32)), .val (.int d1)] [(.int (1 : Int32)), (.ref br)]) ?_
    refine XS.iload X2.here hx rfl (hb hby d7_28) rfl ?_
    refine sh (mkF m 30 #[.val (.ref ar), .val (.int (1 : Int32)), .val (.ref br), .val (.int (1 : Int32)), .val (.int (3 : Int32)), .val (.int (1 : Int32)), .val (.int d1)] [(.int d1), (.int (1 : Int32)), (.ref br)]) ?_
    refine XS.i2b X2.here hx rfl (hb hby d7_30) rfl ?_
    refine sh (mkF m 31 #[.val (.ref ar), .val (.int (1 : Int32)), .val (.ref br), .val (.int (1 : Int32)), .val (.int (3 : Int32)), .val (.int (1 : Int32)), .val (.int d1)] [(.int (d1.toInt8.toInt32)), (.int (1 : Int32)), (.ref br)]) ?_
    refine st5 _ ?_
    refine sh (mkF m 32 #[.val (.ref ar), .val (.int (1 : Int32)), .val (.ref br), .val (.int (1 : Int32)), .val (.int (3 : Int32)), .val (.int (1 : Int32)), .val (.int d1)] []) ?_
    refine XS.iinc X5.here hx rfl (hb hby d7_32) rfl (l' := #[.val (.ref ar), .val (.int ((1 : Int32) + (1 : Int32))), .val (.ref br), .val (.int (1 : Int32)), .val (.int (3 : Int32)), .val (.int (1 : Int32)), .val (.int d1)]) rfl ?_
    refine sh (mkF m 35 #[.val (.ref ar), .val (.int ((1 : Int32) + (1 : Int32))), .val (.ref br), .val (.int (1 : Int32)), .val (.int (3 : Int32)), .val (.int (1 : Int32)), .val (.int d1)] []) ?_
    rw [show ((1 : Int32) + (1 : Int32)) = (2 : Int32) from by decide]
    refine sh (mkF m 35 #[.val (.ref ar), .val (.int (2 : Int32)), .val (.ref br), .val (.int (1 : Int32)), .val (.int (3 : Int32)), .val (.int (1 : Int32)), .val (.int d1)] []) ?_
    refine XS.iinc X5.here hx rfl (hb hby d7_35) rfl (l' := #[.val (.ref ar), .val (.int (2 : Int32)), .val (.ref br), .val (.int ((1 : Int32) + (1 : Int32))), .val (.int (3 : Int32)), .val (.int (1 : Int32)), .val (.int d1)]) rfl ?_
    refine sh (mkF m 38 #[.val (.ref ar), .val (.int (2 : Int32)), .val (.ref br), .val (.int ((1 : Int32) + (1 : Int32))), .val (.int (3 : Int32)), .val (.int (1 : Int32)), .val (.int d1)] []) ?_
    rw [show ((1 : Int32) + (1 : Int32)) = (2 : Int32) from by decide]
    refine sh (mkF m 38 #[.val (.ref ar), .val (.int (2 : Int32)), .val (.ref br), .val (.int (2 : Int32)), .val (.int (3 : Int32)), .val (.int (1 : Int32)), .val (.int d1)] []) ?_
    refine XS.iinc X5.here hx rfl (hb hby d7_38) rfl (l' := #[.val (.ref ar), .val (.int (2 : Int32)), .val (.ref br), .val (.int (2 : Int32)), .val (.int (3 : Int32)), .val (.int ((1 : Int32) + (1 : Int32))), .val (.int d1)]) rfl ?_
    refine sh (mkF m 41 #[.val (.ref ar), .val (.int (2 : Int32)), .val (.ref br), .val (.int (2 : Int32)), .val (.int (3 : Int32)), .val (.int ((1 : Int32) + (1 : Int32))), .val (.int d1)] []) ?_
    rw [show ((1 : Int32) + (1 : Int32)) = (2 : Int32) from by decide]
    refine sh (mkF m 41 #[.val (.ref ar), .val (.int (2 : Int32)), .val (.ref br), .val (.int (2 : Int32)), .val (.int (3 : Int32)), .val (.int (2 : Int32)), .val (.int d1)] []) ?_
    refine XS.goto X5.here hx rfl (pc0 := 41) (pc' := 3) rfl (hb hby d7_41) (by decide) (by decide) ?_
    refine sh (mkF m 3 #[.val (.ref ar), .val (.int (2 : Int32)), .val (.ref br), .val (.int (2 : Int32)), .val (.int (3 : Int32)), .val (.int (2 : Int32)), .val (.int d1)] []) ?_
    refine XS.iload X5.here hx rfl (hb hby d7_3) rfl ?_
    refine sh (mkF m 5 #[.val (.ref ar), .val (.int (2 : Int32)), .val (.ref br), .val (.int (2 : Int32)), .val (.int (3 : Int32)), .val (.int (2 : Int32)), .val (.int d1)] [(.int (2 : Int32))]) ?_
    refine XS.iload X5.here hx rfl (hb hby d7_5) rfl ?_
    refine sh (mkF m 7 #[.val (.ref ar), .val (.int (2 : Int32)), .val (.ref br), .val (.int (2 : Int32)), .val (.int (3 : Int32)), .val (.int (2 : Int32)), .val (.int d1)] [(.int (3 : Int32)), (.int (2 : Int32))]) ?_
    refine XS.icmpNo X5.here hx rfl (hb hby d7_7) rfl (tlt (by decide : (2 : Int32) < (3 : Int32))).2.1 ?_
    refine sh (mkF m 10 #[.val (.ref ar), .val (.int (2 : Int32)), .val (.ref br), .val (.int (2 : Int32)), .val (.int (3 : Int32)), .val (.int (2 : Int32)), .val (.int d1)] []) ?_
    refine XS.aloadN X5.here hx rfl (hb hby d7_10) rfl rfl ?_
    refine sh (mkF m 11 #[.val (.ref ar), .val (.int (2 : Int32)), .val (.ref br), .val (.int (2 : Int32)), .val (.int (3 : Int32)), .val (.int (2 : Int32)), .val (.int d1)] [(.ref ar)]) ?_
    refine XS.iloadN X5.here hx rfl (hb hby d7_11) rfl ?_
    refine sh (mkF m 12 #[.val (.ref ar), .val (.int (2 : Int32)), .val (.ref br), .val (.int (2 : Int32)), .val (.int (3 : Int32)), .val (.int (2 : Int32)), .val (.int d1)] [(.int (2 : Int32)), (.ref ar)]) ?_
    refine X5.caload hx (j := (2 : Int32)) (v := (.int d2)) (by rw [e5]; exact Ar7.1) (State.isArrayOf_alike hZ.alike Ar7.2.1) Ar7.2.2 hin7 hat7 (g := (mkF m 12 #[.val (.ref ar), .val (.int (2 : Int32)), .val (.ref br), .val (.int (2 : Int32)), .val (.int (3 : Int32)), .val (.int (2 : Int32)), .val (.int d1)] [(.int (2 : Int32)), (.ref ar)])) rfl rfl (hb hby d7_12) _ ?_
    refine sh (mkF m 13 #[.val (.ref ar), .val (.int (2 : Int32)), .val (.ref br), .val (.int (2 : Int32)), .val (.int (3 : Int32)), .val (.int (2 : Int32)), .val (.int d1)] [(.int d2)]) ?_
    refine XS.istore X5.here hx rfl (hb hby d7_13) rfl (l' := #[.val (.ref ar), .val (.int (2 : Int32)), .val (.ref br), .val (.int (2 : Int32)), .val (.int (3 : Int32)), .val (.int (2 : Int32)), .val (.int d2)]) rfl ?_
    refine sh (mkF m 15 #[.val (.ref ar), .val (.int (2 : Int32)), .val (.ref br), .val (.int (2 : Int32)), .val (.int (3 : Int32)), .val (.int (2 : Int32)), .val (.int d2)] []) ?_
    refine XS.iload X5.here hx rfl (hb hby d7_15) rfl ?_
    refine sh (mkF m 17 #[.val (.ref ar), .val (.int (2 : Int32)), .val (.ref br), .val (.int (2 : Int32)), .val (.int (3 : Int32)), .val (.int (2 : Int32)), .val (.int d2)] [(.int d2)]) ?_
    refine XS.sipush X5.here hx rfl (hb hby d7_17) ?_
    refine sh (mkF m 20 #[.val (.ref ar), .val (.int (2 : Int32)), .val (.ref br), .val (.int (2 : Int32)), .val (.int (3 : Int32)), .val (.int (2 : Int32)), .val (.int d2)] [(.int (255 : Int32)), (.int d2)]) ?_
    refine XS.icmpYes X5.here hx rfl (pc0 := 20) (pc' := 26) rfl (hb hby d7_20) rfl (flt gd2).2.2.2 (by decide) (by decide) ?_
    refine sh (mkF m 26 #[.val (.ref ar), .val (.int (2 : Int32)), .val (.ref br), .val (.int (2 : Int32)), .val (.int (3 : Int32)), .val (.int (2 : Int32)), .val (.int d2)] []) ?_
    refine XS.aloadN X5.here hx rfl (hb hby d7_26) rfl rfl ?_
    refine sh (mkF m 27 #[.val (.ref ar), .val (.int (2 : Int32)), .val (.ref br), .val (.int (2 : Int32)), .val (.int (3 : Int32)), .val (.int (2 : Int32)), .val (.int d2)] [(.ref br)]) ?_
    refine XS.iloadN X5.here hx rfl (hb hby d7_27) rfl ?_
    refine sh (mkF m 28 #[.val (.ref ar), .val (.int (2 : Int32)), .val (.ref br), .val (.int (2 : Int32)), .val (.int (3 : Int32)), .val (.int (2 : Int32)), .val (.int d2)] [(.int (2 : Int32)), (.ref br)]) ?_
    refine XS.iload X5.here hx rfl (hb hby d7_28) rfl ?_
    refine sh (mkF m 30 #[.val (.ref ar), .val (.int (2 : Int32)), .val (.ref br), .val (.int (2 : Int32)), .val (.int (3 : Int32)), .val (.int (2 : Int32)), .val (.int d2)] [(.int d2), (.int (2 : Int32)), (.ref br)]) ?_
    refine XS.i2b X5.here hx rfl (hb hby d7_30) rfl ?_
    refine sh (mkF m 31 #[.val (.ref ar), .val (.int (2 : Int32)), .val (.ref br), .val (.int (2 : Int32)), .val (.int (3 : Int32)), .val (.int (2 : Int32)), .val (.int d2)] [(.int (d2.toInt8.toInt32)), (.int (2 : Int32)), (.ref br)]) ?_
    refine st8 _ ?_
    refine sh (mkF m 32 #[.val (.ref ar), .val (.int (2 : Int32)), .val (.ref br), .val (.int (2 : Int32)), .val (.int (3 : Int32)), .val (.int (2 : Int32)), .val (.int d2)] []) ?_
    refine XS.iinc X8.here hx rfl (hb hby d7_32) rfl (l' := #[.val (.ref ar), .val (.int ((2 : Int32) + (1 : Int32))), .val (.ref br), .val (.int (2 : Int32)), .val (.int (3 : Int32)), .val (.int (2 : Int32)), .val (.int d2)]) rfl ?_
    refine sh (mkF m 35 #[.val (.ref ar), .val (.int ((2 : Int32) + (1 : Int32))), .val (.ref br), .val (.int (2 : Int32)), .val (.int (3 : Int32)), .val (.int (2 : Int32)), .val (.int d2)] []) ?_
    rw [show ((2 : Int32) + (1 : Int32)) = (3 : Int32) from by decide]
    refine sh (mkF m 35 #[.val (.ref ar), .val (.int (3 : Int32)), .val (.ref br), .val (.int (2 : Int32)), .val (.int (3 : Int32)), .val (.int (2 : Int32)), .val (.int d2)] []) ?_
    refine XS.iinc X8.here hx rfl (hb hby d7_35) rfl (l' := #[.val (.ref ar), .val (.int (3 : Int32)), .val (.ref br), .val (.int ((2 : Int32) + (1 : Int32))), .val (.int (3 : Int32)), .val (.int (2 : Int32)), .val (.int d2)]) rfl ?_
    refine sh (mkF m 38 #[.val (.ref ar), .val (.int (3 : Int32)), .val (.ref br), .val (.int ((2 : Int32) + (1 : Int32))), .val (.int (3 : Int32)), .val (.int (2 : Int32)), .val (.int d2)] []) ?_
    rw [show ((2 : Int32) + (1 : Int32)) = (3 : Int32) from by decide]
    refine sh (mkF m 38 #[.val (.ref ar), .val (.int (3 : Int32)), .val (.ref br), .val (.int (3 : Int32)), .val (.int (3 : Int32)), .val (.int (2 : Int32)), .val (.int d2)] []) ?_
    refine XS.iinc X8.here hx rfl (hb hby d7_38) rfl (l' := #[.val (.ref ar), .val (.int (3 : Int32)), .val (.ref br), .val (.int (3 : Int32)), .val (.int (3 : Int32)), .val (.int ((2 : Int32) + (1 : Int32))), .val (.int d2)]) rfl ?_
    refine sh (mkF m 41 #[.val (.ref ar), .val (.int (3 : Int32)), .val (.ref br), .val (.int (3 : Int32)), .val (.int (3 : Int32)), .val (.int ((2 : Int32) + (1 : Int32))), .val (.int d2)] []) ?_
    rw [show ((2 : Int32) + (1 : Int32)) = (3 : Int32) from by decide]
    refine sh (mkF m 41 #[.val (.ref ar), .val (.int (3 : Int32)), .val (.ref br), .val (.int (3 : Int32)), .val (.int (3 : Int32)), .val (.int (3 : Int32)), .val (.int d2)] []) ?_
    refine XS.goto X8.here hx rfl (pc0 := 41) (pc' := 3) rfl (hb hby d7_41) (by decide) (by decide) ?_
    refine sh (mkF m 3 #[.val (.ref ar), .val (.int (3 : Int32)), .val (.ref br), .val (.int (3 : Int32)), .val (.int (3 : Int32)), .val (.int (3 : Int32)), .val (.int d2)] []) ?_
    refine XS.iload X8.here hx rfl (hb hby d7_3) rfl ?_
    refine sh (mkF m 5 #[.val (.ref ar), .val (.int (3 : Int32)), .val (.ref br), .val (.int (3 : Int32)), .val (.int (3 : Int32)), .val (.int (3 : Int32)), .val (.int d2)] [(.int (3 : Int32))]) ?_
    refine XS.iload X8.here hx rfl (hb hby d7_5) rfl ?_
    refine sh (mkF m 7 #[.val (.ref ar), .val (.int (3 : Int32)), .val (.ref br), .val (.int (3 : Int32)), .val (.int (3 : Int32)), .val (.int (3 : Int32)), .val (.int d2)] [(.int (3 : Int32)), (.int (3 : Int32))]) ?_
    refine XS.icmpYes X8.here hx rfl (pc0 := 7) (pc' := 44) rfl (hb hby d7_7) rfl (flt (by decide : ¬ ((3 : Int32) < (3 : Int32)))).2.1 (by decide) (by decide) ?_
    refine sh (mkF m 44 #[.val (.ref ar), .val (.int (3 : Int32)), .val (.ref br), .val (.int (3 : Int32)), .val (.int (3 : Int32)), .val (.int (3 : Int32)), .val (.int d2)] []) ?_
    refine XS.iload X8.here hx rfl (hb hby d7_44) rfl ?_
    refine sh (mkF m 46 #[.val (.ref ar), .val (.int (3 : Int32)), .val (.ref br), .val (.int (3 : Int32)), .val (.int (3 : Int32)), .val (.int (3 : Int32)), .val (.int d2)] [(.int (3 : Int32))]) ?_
    exact retI X8 hx Bd.returns (hb hby d7_46) hr
  · show Q_rmCP3 Z ar br kb d0 d1 d2 ka h0 n0 _ T8.heap _
    rw [e8]
    exact ⟨rfl, N8, ((((Keep.refl h0 [br]).wr W2 (Or.inl (List.mem_of_getElem? (i := 0) rfl))).wr W5 (Or.inl (List.mem_of_getElem? (i := 0) rfl))).wr W8 (Or.inl (List.mem_of_getElem? (i := 0) rfl))), V8⟩
def Q_rmCQ3 (Z : State) (ar : Addr) (d0 : Int32) (d1 : Int32) (d2 : Int32) (ka : ClassId) (h0 : Heap) (n0 : Nat) (v : Option Value) (h : Heap) (L : List Loc) : Prop := ∃ nb : Addr, ∃ kb : ClassId, v = some (.ref nb) ∧ Fr n0 L ∧ h0.size ≤ nb ∧ Keep h0 h [] ∧ Arv Z h nb kb .byte (3 : Int32) [(.int (nar .byte (d0.toInt8.toInt32))), (.int (nar .byte (d1.toInt8.toInt32))), (.int (nar .byte (d2.toInt8.toInt32)))] (.int (0 : Int32))
theorem ef_rmCQ3 (m : MethodId) (ar : Addr) : entryFrame m #[(.ref ar), (.int (0 : Int32)), (.int (3 : Int32))] 6 = mkF m 0 #[.val (.ref ar), .val (.int (0 : Int32)), .val (.int (3 : Int32)), .unset, .unset, .unset] [] := by first | (simp [entryFrame, mkF, argsToLocals, Value.category]; done) | rfl
set_option maxRecDepth 65536 in
set_option maxHeartbeats 40000000 in
theorem rmCQ3 (l : Launch) (Z : State) (a0 : Array Value) (hw : ∀ d ∈ tables_1, d.before a0 Z = true) (ws : List Jvm.Cond) (ar : Addr) (d0 : Int32) (d1 : Int32) (d2 : Int32) (ka : ClassId) (h0 : Heap) (n0 : Nat) (Z0 : n0 ≤ h0.size) (V_ar : Arv Z h0 ar ka .char (3 : Int32) [(.int d0), (.int d1), (.int d2)] (.int (0 : Int32))) (gd0 : ¬ ((255 : Int32) < d0)) (gd1 : ¬ ((255 : Int32) < d1)) (gd2 : ¬ ((255 : Int32) < d2)) :
    MetFree l (⟨"java/lang/StringUTF16", "compress", "([CII)[B"⟩ : MethodName) (head1 (Jvm.Cond.code (⟨"java/lang/StringUTF16", "compress", "([CII)[B"⟩ : MethodName) jdk_52_method_16_code 6 (some (.array .byte)) :: ws) ({ frames := 1, cells := 1, slots := 3, locals := 18 } : Room)) (fun a U => a = #[(.ref ar), (.int (0 : Int32)), (.int (3 : Int32))] ∧ Z.Warmed39 U.vm ∧ U.heap = h0) (fun _ _ _ _ _ => True) (fun _ U o U' => ∃ v L, o = .returned v ∧ Q_rmCQ3 Z ar d0 d1 d2 ka h0 n0 v U'.heap L ∧ FrameEnd U o U' L ({ frames := 1, cells := 1, slots := 3, locals := 18 } : Room).cells ({ frames := 1, cells := 1, slots := 3, locals := 18 } : Room).slots) := by
  refine MetFree.of_bodySF (plainFor_of_name pn_2) hisR ?_
  intro p e s m args below meth c s₁ Bd hml0 hP hK
  obtain ⟨rfl, hZ, hh⟩ := hP
  have hx := Bd.exec
  have hby := Bd.bytes
  have hml : c.maxLocals = 6 := hml0
  have hown : s.vm.findClass "java/lang/StringUTF16" = some m.cls := findClass_of_methodNamed Bd.named
  have hnm := (name_of_methodNamed Bd.named Bd.method).1
  have X0 : Stand p l e ({ frames := 1, cells := 1, slots := 3, locals := 18 } : Room) s m #[(.ref ar), (.int (0 : Int32)), (.int (3 : Int32))] below meth c s₁ [] 0 0 := Stand.of_body Bd
  have e0 : s₁.heap = h0 := by rw [← hh, Bd.state]; rfl
  have N0 := Fr.nil n0
  have pre0 : ∀ t, Steps p.tables e below (s₁.setTop (mkF m 0 #[.val (.ref ar), .val (.int (0 : Int32)), .val (.int (3 : Int32)), .unset, .unset, .unset] [])) t → Steps p.tables e below (s₁.setTop (entryFrame m #[(.ref ar), (.int (0 : Int32)), (.int (3 : Int32))] 6)) t := fun t k => castTop (ef_rmCQ3 m ar) k
  obtain ⟨T1, h1, k1, X1, e1, E1, A1, st1⟩ := newP X0 hx hZ (ow hw 23 rfl) e0 (g := (mkF m 1 #[.val (.ref ar), .val (.int (0 : Int32)), .val (.int (3 : Int32)), .unset, .unset, .unset] [(.int (3 : Int32))])) rfl (hb hby d8_1) rfl (by decide) (cap := 3) (by decide) (by decide) (by decide) (by decide)
  obtain ⟨b1, g1⟩ : ∃ z, z = h0.size := ⟨_, rfl⟩
  rw [← g1] at A1 st1
  have V1 : Arv Z h1 b1 k1 .byte (3 : Int32) [(.int (0 : Int32)), (.int (0 : Int32)), (.int (0 : Int32))] (.int (0 : Int32)) := (Arv.new A1 (by decide)).pad (pad_rep [] (.int (0 : Int32)) 3)
  have f3 : Arv Z h1 ar ka .char (3 : Int32) [(.int d0), (.int d1), (.int d2)] (.int (0 : Int32)) := (V_ar.ext E1)
  obtain ⟨_, _, ⟨T2, L2, k2, n2⟩, -, X2, ⟨Lc2, hQ2, l2, y2, z2⟩, st2⟩ := Jvm.LawKit.callS X1 hx (y := (⟨"java/lang/StringUTF16", "compress", "([CI[BII)I"⟩ : MethodName)) hown (mvT hZ (ow hw 24 rfl)) (mvT hZ (ow hw 25 rfl)) (mvT hZ (ow hw 21 rfl)) (mvT hZ (ow hw 26 rfl)) (by decide) (backOf (W := 0) (rmCP3 l Z a0 hw [] ar b1 k1 d0 d1 d2 ka h1 n0 (Nat.le_trans Z0 E1.1) f3 gd0 gd1 gd2 V1 (Nat.le_trans Z0 (Nat.le_of_eq g1.symm)) (Nat.ne_of_lt (Nat.lt_of_lt_of_le V_ar.lt (Nat.le_of_eq g1.symm)))) hZ (ow hw 26 rfl) (ow hw 21 rfl) (by decide) (by decide)) (g := (mkF m 9 #[.val (.ref ar), .val (.int (0 : Int32)), .val (.int (3 : Int32)), .val (.ref b1), .unset, .unset] [(.int (3 : Int32)), (.int (0 : Int32)), (.ref b1), (.int (0 : Int32)), (.ref ar)])) rfl (by rw [hml]; rfl) (argsL := [(.ref ar), (.int (0 : Int32)), (.ref b1), (.int (0 : Int32)), (.int (3 : Int32))]) (rest := []) (lenOf pd_5 rfl) rfl (by show 2 * 0 + _ ≤ _; exact Nat.le_of_eq rfl) (hb hby d8_9) (fun _ _ => ⟨rfl, e1, (by decide : 1 + 0 ≤ _), (by decide : 3 + 0 ≤ _)⟩)
  dsimp only [Pt.U, Pt.locs, Pt.cells, Pt.slots] at X2 l2 y2 z2 st2 hQ2
  subst l2 y2 z2
  obtain ⟨rfl, Nq2, Kp2, Fq2_0⟩ := hQ2
  have N2 := Fr.app N0 Nq2
  obtain ⟨fs, hr, hrun, hended, hW, hsame⟩ := X2.leave (v := some (.ref b1)) (fun h => by rw [Bd.returns] at h; cases h)
  refine ⟨_, _, pre0 _ ?_, hrun, hended, _, _, rfl, ?_, ⟨_, rfl⟩, hW, hsame.mono (by decide) (by decide)⟩
  · refine sh (mkF m 0 #[.val (.ref ar), .val (.int (0 : Int32)), .val (.int (3 : Int32)), .unset, .unset, .unset] []) ?_
    refine XS.iloadN X0.here hx rfl (hb hby d8_0) rfl ?_
    refine sh (mkF m 1 #[.val (.ref ar), .val (.int (0 : Int32)), .val (.int (3 : Int32)), .unset, .unset, .unset] [(.int (3 : Int32))]) ?_
    refine st1 _ ?_
    refine sh (mkF m 3 #[.val (.ref ar), .val (.int (0 : Int32)), .val (.int (3 : Int32)), .unset, .unset, .unset] [(.ref b1)]) ?_
    refine XS.astoreN X1.here hx rfl (hb hby d8_3) rfl rfl (l' := #[.val (.ref ar), .val (.int (0 : Int32)), .val (.int (3 : Int32)), .val (.ref b1), .unset, .unset]) rfl ?_
    refine sh (mkF m 4 #[.val (.ref ar), .val (.int (0 : Int32)), .val (.int (3 : Int32)), .val (.ref b1), .unset, .unset] []) ?_
    refine XS.aloadN X1.here hx rfl (hb hby d8_4) rfl rfl ?_
    refine sh (mkF m 5 #[.val (.ref ar), .val (.int (0 : Int32)), .val (.int (3 : Int32)), .val (.ref b1), .unset, .unset] [(.ref ar)]) ?_
    refine XS.iloadN X1.here hx rfl (hb hby d8_5) rfl ?_
    refine sh (mkF m 6 #[.val (.ref ar), .val (.int (0 : Int32)), .val (.int (3 : Int32)), .val (.ref b1), .unset, .unset] [(.int (0 : Int32)), (.ref ar)]) ?_
    refine XS.aloadN X1.here hx rfl (hb hby d8_6) rfl rfl ?_
    refine sh (mkF m 7 #[.val (.ref ar), .val (.int (0 : Int32)), .val (.int (3 : Int32)), .val (.ref b1), .unset, .unset] [(.ref b1), (.int (0 : Int32)), (.ref ar)]) ?_
    refine XS.iconst X1.here hx rfl (hb hby d8_7) ?_
    refine sh (mkF m 8 #[.val (.ref ar), .val (.int (0 : Int32)), .val (.int (3 : Int32)), .val (.ref b1), .unset, .unset] [(.int (0 : Int32)), (.ref b1), (.int (0 : Int32)), (.ref ar)]) ?_
    refine XS.iloadN X1.here hx rfl (hb hby d8_8) rfl ?_
    refine sh (mkF m 9 #[.val (.ref ar), .val (.int (0 : Int32)), .val (.int (3 : Int32)), .val (.ref b1), .unset, .unset] [(.int (3 : Int32)), (.int (0 : Int32)), (.ref b1), (.int (0 : Int32)), (.ref ar)]) ?_
    refine st2 _ ?_
    refine sh (mkF m 12 #[.val (.ref ar), .val (.int (0 : Int32)), .val (.int (3 : Int32)), .val (.ref b1), .unset, .unset] [(.int (3 : Int32))]) ?_
    refine XS.istore X2.here hx rfl (hb hby d8_12) rfl (l' := #[.val (.ref ar), .val (.int (0 : Int32)), .val (.int (3 : Int32)), .val (.ref b1), .val (.int (3 : Int32)), .unset]) rfl ?_
    refine sh (mkF m 14 #[.val (.ref ar), .val (.int (0 : Int32)), .val (.int (3 : Int32)), .val (.ref b1), .val (.int (3 : Int32)), .unset] []) ?_
    refine XS.iload X2.here hx rfl (hb hby d8_14) rfl ?_
    refine sh (mkF m 16 #[.val (.ref ar), .val (.int (0 : Int32)), .val (.int (3 : Int32)), .val (.ref b1), .val (.int (3 : Int32)), .unset] [(.int (3 : Int32))]) ?_
    refine XS.iloadN X2.here hx rfl (hb hby d8_16) rfl ?_
    refine sh (mkF m 17 #[.val (.ref ar), .val (.int (0 : Int32)), .val (.int (3 : Int32)), .val (.ref b1), .val (.int (3 : Int32)), .unset] [(.int (3 : Int32)), (.int (3 : Int32))]) ?_
    refine XS.icmpYes X2.here hx rfl (pc0 := 17) (pc' := 57) rfl (hb hby d8_17) rfl (teq (rfl : (3 : Int32) = (3 : Int32))).1 (by decide) (by decide) ?_
    refine sh (mkF m 57 #[.val (.ref ar), .val (.int (0 : Int32)), .val (.int (3 : Int32)), .val (.ref b1), .val (.int (3 : Int32)), .unset] []) ?_
    refine XS.aloadN X2.here hx rfl (hb hby d8_57) rfl rfl ?_
    refine sh (mkF m 58 #[.val (.ref ar), .val (.int (0 : Int32)), .val (.int (3 : Int32)), .val (.ref b1), .val (.int (3 : Int32)), .unset] [(.ref b1)]) ?_
    exact retOut X2 hx Bd.returns rfl (Or.inr (Or.inr (Or.inr (Or.inr ⟨rfl, rfl, rfl⟩)))) (hb hby d8_58) hr
  · show Q_rmCQ3 Z ar d0 d1 d2 ka h0 n0 _ T2.heap _
    exact ⟨b1, k1, rfl, N2, (Nat.le_trans (Nat.le_refl h0.size) (Nat.le_of_eq g1.symm)), (((Keep.refl h0 []).ext E1).trans Kp2 (allS (Or.inr (Nat.le_trans (Nat.le_refl h0.size) (Nat.le_of_eq g1.symm))) all0)), Fq2_0⟩
def Q_rmCF3 (Z : State) (br : Addr) (kb : ClassId) (vs : List Value) (h0 : Heap) (n0 : Nat) (v : Option Value) (h : Heap) (L : List Loc) : Prop := v = some (.int (0 : Int32)) ∧ Fr n0 L ∧ h = h0
theorem ef_rmCF3 (m : MethodId) (br : Addr) : entryFrame m #[(.ref br), (.int (3 : Int32))] 2 = mkF m 0 #[.val (.ref br), .val (.int (3 : Int32))] [] := by first | (simp [entryFrame, mkF, argsToLocals, Value.category]; done) | rfl
set_option maxRecDepth 65536 in
set_option maxHeartbeats 40000000 in
theorem rmCF3 (l : Launch) (Z : State) (a0 : Array Value) (hw : ∀ d ∈ tables_1, d.before a0 Z = true) (ws : List Jvm.Cond) (br : Addr) (kb : ClassId) (vs : List Value) (h0 : Heap) (n0 : Nat) (Z0 : n0 ≤ h0.size) (V_br : Arv Z h0 br kb .byte (3 : Int32) vs (.int (0 : Int32))) :
    MetFree l (⟨"java/lang/StringUTF16", "coderFromArrayLen", "([BI)B"⟩ : MethodName) (head1 (Jvm.Cond.code (⟨"java/lang/StringUTF16", "coderFromArrayLen", "([BI)B"⟩ : MethodName) jdk_52_method_15_code 2 (some .byte) :: ws) ({ frames := 0, cells := 0, slots := 0, locals := 0 } : Room)) (fun a U => a = #[(.ref br), (.int (3 : Int32))] ∧ Z.Warmed39 U.vm ∧ U.heap = h0) (fun _ _ _ _ _ => True) (fun _ U o U' => ∃ v L, o = .returned v ∧ Q_rmCF3 Z br kb vs h0 n0 v U'.heap L ∧ FrameEnd U o U' L ({ frames := 0, cells := 0, slots := 0, locals := 0 } : Room).cells ({ frames := 0, cells := 0, slots := 0, locals := 0 } : Room).slots) := by
  refine MetFree.of_bodySF (plainFor_of_name pn_2) hisR ?_
  intro p e s m args below meth c s₁ Bd hml0 hP hK
  obtain ⟨rfl, hZ, hh⟩ := hP
  have hx := Bd.exec
  have hby := Bd.bytes
  have hml : c.maxLocals = 2 := hml0
  have hown : s.vm.findClass "java/lang/StringUTF16" = some m.cls := findClass_of_methodNamed Bd.named
  have hnm := (name_of_methodNamed Bd.named Bd.method).1
  have X0 : Stand p l e ({ frames := 0, cells := 0, slots := 0, locals := 0 } : Room) s m #[(.ref br), (.int (3 : Int32))] below meth c s₁ [] 0 0 := Stand.of_body Bd
  have e0 : s₁.heap = h0 := by rw [← hh, Bd.state]; rfl
  have N0 := Fr.nil n0
  have pre0 : ∀ t, Steps p.tables e below (s₁.setTop (mkF m 0 #[.val (.ref br), .val (.int (3 : Int32))] [])) t → Steps p.tables e below (s₁.setTop (entryFrame m #[(.ref br), (.int (3 : Int32))] 2)) t := fun t k => castTop (ef_rmCF3 m br) k
  have Vc1 := V_br
  obtain ⟨cl1, Ar1, -, S1, M1, -, -⟩ := Vc1
  obtain ⟨fs, hr, hrun, hended, hW, hsame⟩ := X0.leave (v := some (.int (0 : Int32))) (fun h => by rw [Bd.returns] at h; cases h)
  refine ⟨_, _, pre0 _ ?_, hrun, hended, _, _, rfl, ?_, ⟨_, rfl⟩, hW, hsame.mono (by decide) (by decide)⟩
  · refine sh (mkF m 0 #[.val (.ref br), .val (.int (3 : Int32))] []) ?_
    refine XS.iloadN X0.here hx rfl (hb hby d9_0) rfl ?_
    refine sh (mkF m 1 #[.val (.ref br), .val (.int (3 : Int32))] [(.int (3 : Int32))]) ?_
    refine XS.aloadN X0.here hx rfl (hb hby d9_1) rfl rfl ?_
    refine sh (mkF m 2 #[.val (.ref br), .val (.int (3 : Int32))] [(.ref br), (.int (3 : Int32))]) ?_
    refine X0.arraylength hx (cell := cl1) (by rw [e0]; exact Ar1.1) (State.isArrayOf_alike hZ.alike Ar1.2.1) (g := (mkF m 2 #[.val (.ref br), .val (.int (3 : Int32))] [(.ref br), (.int (3 : Int32))])) rfl (rest := [(.int (3 : Int32))]) rfl (hb hby d9_2) _ ?_
    rw [len_of S1 M1]
    refine sh (mkF m 3 #[.val (.ref br), .val (.int (3 : Int32))] [(.int (3 : Int32)), (.int (3 : Int32))]) ?_
    refine XS.isub X0.here hx rfl (hb hby d9_3) rfl ?_
    refine sh (mkF m 4 #[.val (.ref br), .val (.int (3 : Int32))] [(.int ((3 : Int32) - (3 : Int32)))]) ?_
    rw [show ((3 : Int32) - (3 : Int32)) = (0 : Int32) from by decide]
    refine sh (mkF m 4 #[.val (.ref br), .val (.int (3 : Int32))] [(.int (0 : Int32))]) ?_
    refine XS.bipush X0.here hx rfl (hb hby d9_4) ?_
    refine sh (mkF m 6 #[.val (.ref br), .val (.int (3 : Int32))] [(.int (31 : Int32)), (.int (0 : Int32))]) ?_
    refine XS.iushr X0.here hx rfl (hb hby d9_6) rfl ?_
    refine sh (mkF m 7 #[.val (.ref br), .val (.int (3 : Int32))] [(.int (((0 : Int32).toUInt32 >>> ((31 : Int32) &&& 31).toUInt32).toInt32))]) ?_
    rw [show (((0 : Int32).toUInt32 >>> ((31 : Int32) &&& 31).toUInt32).toInt32) = (0 : Int32) from by decide]
    refine sh (mkF m 7 #[.val (.ref br), .val (.int (3 : Int32))] [(.int (0 : Int32))]) ?_
    refine XS.i2b X0.here hx rfl (hb hby d9_7) rfl ?_
    refine sh (mkF m 8 #[.val (.ref br), .val (.int (3 : Int32))] [(.int ((0 : Int32).toInt8.toInt32))]) ?_
    rw [show ((0 : Int32).toInt8.toInt32) = (0 : Int32) from by decide]
    refine sh (mkF m 8 #[.val (.ref br), .val (.int (3 : Int32))] [(.int (0 : Int32))]) ?_
    exact retN X0 hx (t := .byte) Bd.returns (by simp) (hb hby d9_8) hr
  · show Q_rmCF3 Z br kb vs h0 n0 _ s₁.heap _
    rw [e0]
    exact ⟨rfl, N0, rfl⟩
def Q_rmCI3 (Z : State) (ob : Addr) (ar : Addr) (s_CS : Int32) (d0 : Int32) (d1 : Int32) (d2 : Int32) (ka : ClassId) (u_coder_ob : Value) (u_value_ob : Value) (h0 : Heap) (n0 : Nat) (v : Option Value) (h : Heap) (L : List Loc) : Prop := ∃ vb : Addr, ∃ kb : ClassId, v = none ∧ Fr n0 L ∧ h0.size ≤ vb ∧ Keep h0 h [ob] ∧ Exa Z h ob "java/lang/String" ∧ Fld Z h ob "java/lang/String" "value" "[B" (.ref vb) ∧ Fld Z h ob "java/lang/String" "coder" "B" (.int (0 : Int32)) ∧ Arv Z h vb kb .byte (3 : Int32) [(.int (nar .byte (d0.toInt8.toInt32))), (.int (nar .byte (d1.toInt8.toInt32))), (.int (nar .byte (d2.toInt8.toInt32)))] (.int (0 : Int32))
theorem ef_rmCI3 (m : MethodId) (ob : Addr) (ar : Addr) : entryFrame m #[(.ref ob), (.ref ar), (.int (0 : Int32)), (.int (3 : Int32)), .null] 6 = mkF m 0 #[.val (.ref ob), .val (.ref ar), .val (.int (0 : Int32)), .val (.int (3 : Int32)), .val .null, .unset] [] := by first | (simp [entryFrame, mkF, argsToLocals, Value.category]; done) | rfl
set_option maxRecDepth 65536 in
set_option maxHeartbeats 40000000 in
theorem rmCI3 (l : Launch) (Z : State) (a0 : Array Value) (hw : ∀ d ∈ tables_1, d.before a0 Z = true) (ws : List Jvm.Cond) (ob : Addr) (ar : Addr) (s_CS : Int32) (d0 : Int32) (d1 : Int32) (d2 : Int32) (ka : ClassId) (u_coder_ob : Value) (u_value_ob : Value) (h0 : Heap) (n0 : Nat) (Z0 : n0 ≤ h0.size) (S_CS : Sta Z h0 "java/lang/String" "COMPACT_STRINGS" "Z" (.int s_CS)) (hcs : ¬ (s_CS = (0 : Int32))) (V_ar : Arv Z h0 ar ka .char (3 : Int32) [(.int d0), (.int d1), (.int d2)] (.int (0 : Int32))) (gd0 : ¬ ((255 : Int32) < d0)) (gd1 : ¬ ((255 : Int32) < d1)) (gd2 : ¬ ((255 : Int32) < d2)) (E_ob : Exa Z h0 ob "java/lang/String") (F_coder_ob : Fld Z h0 ob "java/lang/String" "coder" "B" u_coder_ob) (g_ob : n0 ≤ ob) (F_value_ob : Fld Z h0 ob "java/lang/String" "value" "[B" u_value_ob) :
    MetFree l (⟨"java/lang/String", "<init>", "([CIILjava/lang/Void;)V"⟩ : MethodName) (head1 (Jvm.Cond.code (⟨"java/lang/String", "<init>", "([CIILjava/lang/Void;)V"⟩ : MethodName) jdk_42_method_149_code 6 none :: ws) ({ frames := 2, cells := 1, slots := 3, locals := 35 } : Room)) (fun a U => a = #[(.ref ob), (.ref ar), (.int (0 : Int32)), (.int (3 : Int32)), .null] ∧ Z.Warmed39 U.vm ∧ U.heap = h0) (fun _ _ _ _ _ => True) (fun _ U o U' => ∃ v L, o = .returned v ∧ Q_rmCI3 Z ob ar s_CS d0 d1 d2 ka u_coder_ob u_value_ob h0 n0 v U'.heap L ∧ FrameEnd U o U' L ({ frames := 2, cells := 1, slots := 3, locals := 35 } : Room).cells ({ frames := 2, cells := 1, slots := 3, locals := 35 } : Room).slots) := by
  refine MetFree.of_bodySF (plainFor_of_name pn_1) hisR ?_
  intro p e s m args below meth c s₁ Bd hml0 hP hK
  obtain ⟨rfl, hZ, hh⟩ := hP
  have hx := Bd.exec
  have hby := Bd.bytes
  have hml : c.maxLocals = 6 := hml0
  have hown : s.vm.findClass "java/lang/String" = some m.cls := findClass_of_methodNamed Bd.named
  have hnm := (name_of_methodNamed Bd.named Bd.method).1
  have X0 : Stand p l e ({ frames := 2, cells := 1, slots := 3, locals := 35 } : Room) s m #[(.ref ob), (.ref ar), (.int (0 : Int32)), (.int (3 : Int32)), .null] below meth c s₁ [] 0 0 := Stand.of_body Bd
  have e0 : s₁.heap = h0 := by rw [← hh, Bd.state]; rfl
  have N0 := Fr.nil n0
  have pre0 : ∀ t, Steps p.tables e below (s₁.setTop (mkF m 0 #[.val (.ref ob), .val (.ref ar), .val (.int (0 : Int32)), .val (.int (3 : Int32)), .val .null, .unset] [])) t → Steps p.tables e below (s₁.setTop (entryFrame m #[(.ref ob), (.ref ar), (.int (0 : Int32)), (.int (3 : Int32)), .null] 6)) t := fun t k => castTop (ef_rmCI3 m ob ar) k
  obtain ⟨T1, X1, e1, st1⟩ := initO X0 hx hZ hown (ow hw 15 rfl) (ow hw 16 rfl) (ow hw 17 rfl) e0 (g := (mkF m 1 #[.val (.ref ob), .val (.ref ar), .val (.int (0 : Int32)), .val (.int (3 : Int32)), .val .null, .unset] [(.ref ob)])) rfl (by rw [hml]; rfl) rfl (hb hby d4_1) (by decide) (W := 0) (by show 2 * 0 + _ ≤ _; exact Nat.le_of_eq rfl) (by decide)
  obtain ⟨T2, X2, e2, st2⟩ := getS2 X1 hx hZ hown (host := "") (Or.inl (ow hw 18 rfl)) Via.refl e1 S_CS (g := (mkF m 27 #[.val (.ref ob), .val (.ref ar), .val (.int (0 : Int32)), .val (.int (3 : Int32)), .val .null, .unset] [])) rfl (hb hby d4_27)
  obtain ⟨_, _, ⟨T3, L3, k3, n3⟩, -, X3, ⟨Lc3, hQ3, l3, y3, z3⟩, st3⟩ := Jvm.LawKit.callS X2 hx (y := (⟨"java/lang/StringUTF16", "compress", "([CII)[B"⟩ : MethodName)) hown (mvT hZ (ow hw 19 rfl)) (mvT hZ (ow hw 20 rfl)) (mvT hZ (ow hw 21 rfl)) (mvT hZ (ow hw 22 rfl)) (by decide) (backOf (W := 0) (rmCQ3 l Z a0 hw [] ar d0 d1 d2 ka h0 n0 Z0 V_ar gd0 gd1 gd2) hZ (ow hw 22 rfl) (ow hw 21 rfl) (by decide) (by decide)) (g := (mkF m 36 #[.val (.ref ob), .val (.ref ar), .val (.int (0 : Int32)), .val (.int (3 : Int32)), .val .null, .unset] [(.int (3 : Int32)), (.int (0 : Int32)), (.ref ar)])) rfl (by rw [hml]; rfl) (argsL := [(.ref ar), (.int (0 : Int32)), (.int (3 : Int32))]) (rest := []) (lenOf pd_6 rfl) rfl (by show 2 * 0 + _ ≤ _; exact Nat.le_of_eq rfl) (hb hby d4_36) (fun _ _ => ⟨rfl, e2, (by decide : 0 + 1 ≤ _), (by decide : 0 + 3 ≤ _)⟩)
  dsimp only [Pt.U, Pt.locs, Pt.cells, Pt.slots] at X3 l3 y3 z3 st3 hQ3
  subst l3 y3 z3
  obtain ⟨nb_3, kb_3, rfl, Nq3, gb3_0, Kp3, Fq3_0⟩ := hQ3
  have N3 := Fr.app N0 Nq3
  obtain ⟨_, _, ⟨T4, L4, k4, n4⟩, -, X4, ⟨Lc4, hQ4, l4, y4, z4⟩, st4⟩ := Jvm.LawKit.callS X3 hx (y := (⟨"java/lang/StringUTF16", "coderFromArrayLen", "([BI)B"⟩ : MethodName)) hown (mvT hZ (ow hw 27 rfl)) (mvT hZ (ow hw 28 rfl)) (mvT hZ (ow hw 21 rfl)) (mvT hZ (ow hw 29 rfl)) (by decide) (backOf (W := 1) (rmCF3 l Z a0 hw [] nb_3 kb_3 [(.int (nar .byte (d0.toInt8.toInt32))), (.int (nar .byte (d1.toInt8.toInt32))), (.int (nar .byte (d2.toInt8.toInt32)))] T3.heap n0 (Nat.le_trans Z0 Kp3.1) Fq3_0) hZ (ow hw 29 rfl) (ow hw 21 rfl) (by decide) (by decide)) (g := (mkF m 45 #[.val (.ref ob), .val (.ref ar), .val (.int (0 : Int32)), .val (.int (3 : Int32)), .val .null, .val (.ref nb_3)] [(.int (3 : Int32)), (.ref nb_3), (.ref ob)])) rfl (by rw [hml]; rfl) (argsL := [(.ref nb_3), (.int (3 : Int32))]) (rest := [(.ref ob)]) (lenOf pd_7 rfl) rfl (by show 2 * 0 + _ ≤ _; exact Nat.le_of_eq rfl) (hb hby d4_45) (fun _ _ => ⟨rfl, rfl, (by decide : 1 + 0 ≤ _), (by decide : 3 + 0 ≤ _)⟩)
  dsimp only [Pt.U, Pt.locs, Pt.cells, Pt.slots] at X4 l4 y4 z4 st4 hQ4
  subst l4 y4 z4
  obtain ⟨rfl, Nq4, e4⟩ := hQ4
  have N4 := Fr.app N3 Nq4
  have f5 : Fld Z T3.heap ob "java/lang/String" "coder" "B" u_coder_ob := (F_coder_ob.keep Kp3 nin0)
  have f6 : Exa Z T3.heap ob "java/lang/String" := (E_ob.keep Kp3)
  obtain ⟨T7, h7, X7, e7, W7, st7⟩ := putFN X4 hx hZ hown (ow hw 30 rfl) Via.refl e4 f5 f6 (Or.inr ⟨(ow hw 31 rfl), rfl, hnm⟩) (ow hw 5 rfl) (ty := .byte) (v' := (.int (0 : Int32))) (by decide) rfl (by decide) (g := (mkF m 48 #[.val (.ref ob), .val (.ref ar), .val (.int (0 : Int32)), .val (.int (3 : Int32)), .val .null, .val (.ref nb_3)] [(.int (0 : Int32)), (.ref ob)])) rfl rfl (hb hby d4_48)
  have Fw7 := f5.same W7
  have N7 := Fr.snoc X7 N4 g_ob
  have f8 : Fld Z h7 ob "java/lang/String" "value" "[B" u_value_ob := ((F_value_ob.keep Kp3 nin0).other W7 (Or.inr (slot_ne (Or.inr (ow hw 33 rfl)) (Or.inr (ow hw 31 rfl)) (by decide) (t := (.array .byte)) (t' := .byte) (by decide) (by decide))))
  have f9 : Exa Z h7 ob "java/lang/String" := (f6.wr W7)
  obtain ⟨T10, h10, X10, e10, W10, st10⟩ := putF X7 hx hZ hown (host := "") (Or.inl (ow hw 32 rfl)) Via.refl e7 f8 f9 (Or.inr ⟨(ow hw 33 rfl), rfl, hnm⟩) (ow hw 5 rfl) (ty := (.array .byte)) (by decide) rfl rfl (g := (mkF m 54 #[.val (.ref ob), .val (.ref ar), .val (.int (0 : Int32)), .val (.int (3 : Int32)), .val .null, .val (.ref nb_3)] [(.ref nb_3), (.ref ob)])) rfl rfl (hb hby d4_54)
  have Fw10 := f8.same W10
  have N10 := Fr.snoc X10 N7 g_ob
  have f11 : Exa Z h10 ob "java/lang/String" := (f9.wr W10)
  have f12 : Fld Z h10 ob "java/lang/String" "coder" "B" (.int (0 : Int32)) := (Fw7.other W10 (Or.inr (slot_ne (Or.inr (ow hw 31 rfl)) (Or.inr (ow hw 33 rfl)) (by decide) (t := .byte) (t' := (.array .byte)) (by decide) (by decide))))
  have f13 : Arv Z h10 nb_3 kb_3 .byte (3 : Int32) [(.int (nar .byte (d0.toInt8.toInt32))), (.int (nar .byte (d1.toInt8.toInt32))), (.int (nar .byte (d2.toInt8.toInt32)))] (.int (0 : Int32)) := ((Fq3_0.other W7 (Ne.symm (Nat.ne_of_lt (Nat.lt_of_lt_of_le E_ob.lt gb3_0)))).other W10 (Ne.symm (Nat.ne_of_lt (Nat.lt_of_lt_of_le E_ob.lt gb3_0))))
  obtain ⟨fs, hr, hrun, hended, hW, hsame⟩ := X10.leave (v := none) (fun _ => rfl)
  refine ⟨_, _, pre0 _ ?_, hrun, hended, _, _, rfl, ?_, ⟨_, rfl⟩, hW, hsame.mono (by decide) (by decide)⟩
  · refine sh (mkF m 0 #[.val (.ref ob), .val (.ref ar), .val (.int (0 : Int32)), .val (.int (3 : Int32)), .val .null, .unset] []) ?_
    refine XS.aloadN X0.here hx rfl (hb hby d4_0) rfl rfl ?_
    refine sh (mkF m 1 #[.val (.ref ob), .val (.ref ar), .val (.int (0 : Int32)), .val (.int (3 : Int32)), .val .null, .unset] [(.ref ob)]) ?_
    refine st1 _ ?_
    refine sh (mkF m 4 #[.val (.ref ob), .val (.ref ar), .val (.int (0 : Int32)), .val (.int (3 : Int32)), .val .null, .unset] []) ?_
    refine XS.iloadN X1.here hx rfl (hb hby d4_4) rfl ?_
    refine sh (mkF m 5 #[.val (.ref ob), .val (.ref ar), .val (.int (0 : Int32)), .val (.int (3 : Int32)), .val .null, .unset] [(.int (3 : Int32))]) ?_
    refine XS.ifYes X1.here hx rfl (pc0 := 5) (pc' := 27) rfl (hb hby d4_5) rfl ((if0 _ _).trans (feq (by decide : ¬ ((3 : Int32) = (0 : Int32)))).2) (by decide) (by decide) ?_
    refine sh (mkF m 27 #[.val (.ref ob), .val (.ref ar), .val (.int (0 : Int32)), .val (.int (3 : Int32)), .val .null, .unset] []) ?_
    refine st2 _ ?_
    refine sh (mkF m 30 #[.val (.ref ob), .val (.ref ar), .val (.int (0 : Int32)), .val (.int (3 : Int32)), .val .null, .unset] [(.int s_CS)]) ?_
    refine XS.ifNo X2.here hx rfl (hb hby d4_30) rfl ((if0 _ _).trans (feq hcs).1) ?_
    refine sh (mkF m 33 #[.val (.ref ob), .val (.ref ar), .val (.int (0 : Int32)), .val (.int (3 : Int32)), .val .null, .unset] []) ?_
    refine XS.aloadN X2.here hx rfl (hb hby d4_33) rfl rfl ?_
    refine sh (mkF m 34 #[.val (.ref ob), .val (.ref ar), .val (.int (0 : Int32)), .val (.int (3 : Int32)), .val .null, .unset] [(.ref ar)]) ?_
    refine XS.iloadN X2.here hx rfl (hb hby d4_34) rfl ?_
    refine sh (mkF m 35 #[.val (.ref ob), .val (.ref ar), .val (.int (0 : Int32)), .val (.int (3 : Int32)), .val .null, .unset] [(.int (0 : Int32)), (.ref ar)]) ?_
    refine XS.iloadN X2.here hx rfl (hb hby d4_35) rfl ?_
    refine sh (mkF m 36 #[.val (.ref ob), .val (.ref ar), .val (.int (0 : Int32)), .val (.int (3 : Int32)), .val .null, .unset] [(.int (3 : Int32)), (.int (0 : Int32)), (.ref ar)]) ?_
    refine st3 _ ?_
    refine sh (mkF m 39 #[.val (.ref ob), .val (.ref ar), .val (.int (0 : Int32)), .val (.int (3 : Int32)), .val .null, .unset] [(.ref nb_3)]) ?_
    refine XS.astore X3.here hx rfl (hb hby d4_39) rfl rfl (l' := #[.val (.ref ob), .val (.ref ar), .val (.int (0 : Int32)), .val (.int (3 : Int32)), .val .null, .val (.ref nb_3)]) rfl ?_
    refine sh (mkF m 41 #[.val (.ref ob), .val (.ref ar), .val (.int (0 : Int32)), .val (.int (3 : Int32)), .val .null, .val (.ref nb_3)] []) ?_
    refine XS.aloadN X3.here hx rfl (hb hby d4_41) rfl rfl ?_
    refine sh (mkF m 42 #[.val (.ref ob), .val (.ref ar), .val (.int (0 : Int32)), .val (.int (3 : Int32)), .val .null, .val (.ref nb_3)] [(.ref ob)]) ?_
    refine XS.aload X3.here hx rfl (hb hby d4_42) rfl rfl ?_
    refine sh (mkF m 44 #[.val (.ref ob), .val (.ref ar), .val (.int (0 : Int32)), .val (.int (3 : Int32)), .val .null, .val (.ref nb_3)] [(.ref nb_3), (.ref ob)]) ?_
    refine XS.iloadN X3.here hx rfl (hb hby d4_44) rfl ?_
    refine sh (mkF m 45 #[.val (.ref ob), .val (.ref ar), .val (.int (0 : Int32)), .val (.int (3 : Int32)), .val .null, .val (.ref nb_3)] [(.int (3 : Int32)), (.ref nb_3), (.ref ob)]) ?_
    refine st4 _ ?_
    refine sh (mkF m 48 #[.val (.ref ob), .val (.ref ar), .val (.int (0 : Int32)), .val (.int (3 : Int32)), .val .null, .val (.ref nb_3)] [(.int (0 : Int32)), (.ref ob)]) ?_
    refine st7 _ ?_
    refine sh (mkF m 51 #[.val (.ref ob), .val (.ref ar), .val (.int (0 : Int32)), .val (.int (3 : Int32)), .val .null, .val (.ref nb_3)] []) ?_
    refine XS.aloadN X7.here hx rfl (hb hby d4_51) rfl rfl ?_
    refine sh (mkF m 52 #[.val (.ref ob), .val (.ref ar), .val (.int (0 : Int32)), .val (.int (3 : Int32)), .val .null, .val (.ref nb_3)] [(.ref ob)]) ?_
    refine XS.aload X7.here hx rfl (hb hby d4_52) rfl rfl ?_
    refine sh (mkF m 54 #[.val (.ref ob), .val (.ref ar), .val (.int (0 : Int32)), .val (.int (3 : Int32)), .val .null, .val (.ref nb_3)] [(.ref nb_3), (.ref ob)]) ?_
    refine st10 _ ?_
    refine sh (mkF m 57 #[.val (.ref ob), .val (.ref ar), .val (.int (0 : Int32)), .val (.int (3 : Int32)), .val .null, .val (.ref nb_3)] []) ?_
    exact X10.returnOut hx Bd.returns (hb hby d4_57) hr
  · show Q_rmCI3 Z ob ar s_CS d0 d1 d2 ka u_coder_ob u_value_ob h0 n0 _ T10.heap _
    rw [e10]
    exact ⟨nb_3, kb_3, rfl, N10, (Nat.le_trans (Nat.le_refl h0.size) gb3_0), ((((Keep.refl h0 [ob]).trans Kp3 all0).wr W7 (Or.inl (List.mem_of_getElem? (i := 0) rfl))).wr W10 (Or.inl (List.mem_of_getElem? (i := 0) rfl))), f11, Fw10, f12, f13⟩
def Q_rmCA3 (Z : State) (ob : Addr) (ar : Addr) (u_v : Value) (u_c : Value) (s_CS : Int32) (d0 : Int32) (d1 : Int32) (d2 : Int32) (ka : ClassId) (h0 : Heap) (n0 : Nat) (v : Option Value) (h : Heap) (L : List Loc) : Prop := ∃ vb : Addr, ∃ kb : ClassId, v = none ∧ Fr n0 L ∧ h0.size ≤ vb ∧ Keep h0 h [ob] ∧ Exa Z h ob "java/lang/String" ∧ Fld Z h ob "java/lang/String" "value" "[B" (.ref vb) ∧ Fld Z h ob "java/lang/String" "coder" "B" (.int (0 : Int32)) ∧ Arv Z h vb kb .byte (3 : Int32) [(.int (nar .byte (d0.toInt8.toInt32))), (.int (nar .byte (d1.toInt8.toInt32))), (.int (nar .byte (d2.toInt8.toInt32)))] (.int (0 : Int32))
theorem ef_rmCA3 (m : MethodId) (ob : Addr) (ar : Addr) : entryFrame m #[(.ref ob), (.ref ar)] 2 = mkF m 0 #[.val (.ref ob), .val (.ref ar)] [] := by first | (simp [entryFrame, mkF, argsToLocals, Value.category]; done) | rfl
set_option maxRecDepth 65536 in
set_option maxHeartbeats 40000000 in
theorem rmCA3 (l : Launch) (Z : State) (a0 : Array Value) (hw : ∀ d ∈ tables_1, d.before a0 Z = true) (ws : List Jvm.Cond) (ob : Addr) (ar : Addr) (u_v : Value) (u_c : Value) (s_CS : Int32) (d0 : Int32) (d1 : Int32) (d2 : Int32) (ka : ClassId) (h0 : Heap) (n0 : Nat) (Z0 : n0 ≤ h0.size) (S_CS : Sta Z h0 "java/lang/String" "COMPACT_STRINGS" "Z" (.int s_CS)) (hcs : ¬ (s_CS = (0 : Int32))) (V_ar : Arv Z h0 ar ka .char (3 : Int32) [(.int d0), (.int d1), (.int d2)] (.int (0 : Int32))) (gd0 : ¬ ((255 : Int32) < d0)) (gd1 : ¬ ((255 : Int32) < d1)) (gd2 : ¬ ((255 : Int32) < d2)) (E_ob : Exa Z h0 ob "java/lang/String") (F_value_ob : Fld Z h0 ob "java/lang/String" "value" "[B" u_v) (F_coder_ob : Fld Z h0 ob "java/lang/String" "coder" "B" u_c) (g_ob : n0 ≤ ob) :
    MetFree l (⟨"java/lang/String", "<init>", "([C)V"⟩ : MethodName) (head1 (Jvm.Cond.code (⟨"java/lang/String", "<init>", "([C)V"⟩ : MethodName) jdk_42_method_3_code 2 none :: ws) ({ frames := 3, cells := 1, slots := 3, locals := 52 } : Room)) (fun a U => a = #[(.ref ob), (.ref ar)] ∧ Z.Warmed39 U.vm ∧ U.heap = h0) (fun _ _ _ _ _ => True) (fun _ U o U' => ∃ v L, o = .returned v ∧ Q_rmCA3 Z ob ar u_v u_c s_CS d0 d1 d2 ka h0 n0 v U'.heap L ∧ FrameEnd U o U' L ({ frames := 3, cells := 1, slots := 3, locals := 52 } : Room).cells ({ frames := 3, cells := 1, slots := 3, locals := 52 } : Room).slots) := by
  refine MetFree.of_bodySF (plainFor_of_name pn_1) hisR ?_
  intro p e s m args below meth c s₁ Bd hml0 hP hK
  obtain ⟨rfl, hZ, hh⟩ := hP
  have hx := Bd.exec
  have hby := Bd.bytes
  have hml : c.maxLocals = 2 := hml0
  have hown : s.vm.findClass "java/lang/String" = some m.cls := findClass_of_methodNamed Bd.named
  have hnm := (name_of_methodNamed Bd.named Bd.method).1
  have X0 : Stand p l e ({ frames := 3, cells := 1, slots := 3, locals := 52 } : Room) s m #[(.ref ob), (.ref ar)] below meth c s₁ [] 0 0 := Stand.of_body Bd
  have e0 : s₁.heap = h0 := by rw [← hh, Bd.state]; rfl
  have N0 := Fr.nil n0
  have pre0 : ∀ t, Steps p.tables e below (s₁.setTop (mkF m 0 #[.val (.ref ob), .val (.ref ar)] [])) t → Steps p.tables e below (s₁.setTop (entryFrame m #[(.ref ob), (.ref ar)] 2)) t := fun t k => castTop (ef_rmCA3 m ob ar) k
  have Vc1 := V_ar
  obtain ⟨cl1, Ar1, -, S1, M1, -, -⟩ := Vc1
  obtain ⟨_, _, ⟨T2, L2, k2, n2⟩, -, X2, ⟨Lc2, hQ2, l2, y2, z2⟩, st2⟩ := X0.specialBack hx (y := (⟨"java/lang/String", "<init>", "([CIILjava/lang/Void;)V"⟩ : MethodName)) rfl hown (mvT hZ (ow hw 11 rfl)) (mvT hZ (ow hw 12 rfl)) (mvT hZ (ow hw 14 rfl)) (by decide) (backOf (W := 0) (rmCI3 l Z a0 hw [] ob ar s_CS d0 d1 d2 ka u_c u_v h0 n0 Z0 S_CS hcs V_ar gd0 gd1 gd2 E_ob F_coder_ob g_ob F_value_ob) hZ (ow hw 14 rfl) (ow hw 6 rfl) (by decide) (by decide)) (g := (mkF m 6 #[.val (.ref ob), .val (.ref ar)] [.null, (.int (3 : Int32)), (.int (0 : Int32)), (.ref ar), (.ref ob)])) rfl (by rw [hml]; rfl) (Steps.refl _) (a := ob) (argsL := [(.ref ar), (.int (0 : Int32)), (.int (3 : Int32)), .null]) (rest := []) (lenOf pd_3 rfl) rfl (by show 2 * 0 + _ ≤ _; exact Nat.le_of_eq rfl) (hb hby d5_6) (fun _ _ => ⟨rfl, e0, (by decide : 0 + 1 ≤ _), (by decide : 0 + 3 ≤ _)⟩)
  dsimp only [Pt.U, Pt.locs, Pt.cells, Pt.slots] at X2 l2 y2 z2 st2 hQ2
  subst l2 y2 z2
  obtain ⟨vb_2, kb_2, rfl, Nq2, gb2_0, Kp2, Fq2_0, Fq2_1, Fq2_2, Fq2_3⟩ := hQ2
  have N2 := Fr.app N0 Nq2
  obtain ⟨fs, hr, hrun, hended, hW, hsame⟩ := X2.leave (v := none) (fun _ => rfl)
  refine ⟨_, _, pre0 _ ?_, hrun, hended, _, _, rfl, ?_, ⟨_, rfl⟩, hW, hsame.mono (by decide) (by decide)⟩
  · refine sh (mkF m 0 #[.val (.ref ob), .val (.ref ar)] []) ?_
    refine XS.aloadN X0.here hx rfl (hb hby d5_0) rfl rfl ?_
    refine sh (mkF m 1 #[.val (.ref ob), .val (.ref ar)] [(.ref ob)]) ?_
    refine XS.aloadN X0.here hx rfl (hb hby d5_1) rfl rfl ?_
    refine sh (mkF m 2 #[.val (.ref ob), .val (.ref ar)] [(.ref ar), (.ref ob)]) ?_
    refine XS.iconst X0.here hx rfl (hb hby d5_2) ?_
    refine sh (mkF m 3 #[.val (.ref ob), .val (.ref ar)] [(.int (0 : Int32)), (.ref ar), (.ref ob)]) ?_
    refine XS.aloadN X0.here hx rfl (hb hby d5_3) rfl rfl ?_
    refine sh (mkF m 4 #[.val (.ref ob), .val (.ref ar)] [(.ref ar), (.int (0 : Int32)), (.ref ar), (.ref ob)]) ?_
    refine X0.arraylength hx (cell := cl1) (by rw [e0]; exact Ar1.1) (State.isArrayOf_alike hZ.alike Ar1.2.1) (g := (mkF m 4 #[.val (.ref ob), .val (.ref ar)] [(.ref ar), (.int (0 : Int32)), (.ref ar), (.ref ob)])) rfl (rest := [(.int (0 : Int32)), (.ref ar), (.ref ob)]) rfl (hb hby d5_4) _ ?_
    rw [len_of S1 M1]
    refine sh (mkF m 5 #[.val (.ref ob), .val (.ref ar)] [(.int (3 : Int32)), (.int (0 : Int32)), (.ref ar), (.ref ob)]) ?_
    refine XS.aconstNull X0.here hx rfl (hb hby d5_5) ?_
    refine sh (mkF m 6 #[.val (.ref ob), .val (.ref ar)] [.null, (.int (3 : Int32)), (.int (0 : Int32)), (.ref ar), (.ref ob)]) ?_
    refine st2.trans ?_
    refine sh (mkF m 9 #[.val (.ref ob), .val (.ref ar)] []) ?_
    exact X2.returnOut hx Bd.returns (hb hby d5_9) hr
  · show Q_rmCA3 Z ob ar u_v u_c s_CS d0 d1 d2 ka h0 n0 _ T2.heap _
    exact ⟨vb_2, kb_2, rfl, N2, (Nat.le_trans (Nat.le_refl h0.size) gb2_0), ((Keep.refl h0 [ob]).trans Kp2 (allS (Or.inl (List.mem_of_getElem? (i := 0) rfl)) all0)), Fq2_0, Fq2_1, Fq2_2, Fq2_3⟩
theorem d6_93 : decode method_2_code 93 = .ok (.new 7, 3) := by decide +kernel
theorem d6_96 : decode method_2_code 96 = .ok (.dup, 1) := by decide +kernel
theorem d6_97 : decode method_2_code 97 = .ok (.iconst 3, 1) := by decide +kernel
theorem d6_98 : decode method_2_code 98 = .ok (.newarray .char, 2) := by decide +kernel
theorem d6_100 : decode method_2_code 100 = .ok (.dup, 1) := by decide +kernel
theorem d6_101 : decode method_2_code 101 = .ok (.iconst 0, 1) := by decide +kernel
theorem d6_102 : decode method_2_code 102 = .ok (.iload_n 2, 1) := by decide +kernel
theorem d6_103 : decode method_2_code 103 = .ok (.castore, 1) := by decide +kernel
theorem d6_104 : decode method_2_code 104 = .ok (.dup, 1) := by decide +kernel
theorem d6_105 : decode method_2_code 105 = .ok (.iconst 1, 1) := by decide +kernel
theorem d6_106 : decode method_2_code 106 = .ok (.iload_n 3, 1) := by decide +kernel
theorem d6_107 : decode method_2_code 107 = .ok (.castore, 1) := by decide +kernel
theorem d6_108 : decode method_2_code 108 = .ok (.dup, 1) := by decide +kernel
theorem d6_109 : decode method_2_code 109 = .ok (.iconst 2, 1) := by decide +kernel
theorem d6_110 : decode method_2_code 110 = .ok (.iload 4, 2) := by decide +kernel
theorem d6_112 : decode method_2_code 112 = .ok (.castore, 1) := by decide +kernel
theorem d6_113 : decode method_2_code 113 = .ok (.invokespecial 9, 3) := by decide +kernel
theorem d6_116 : decode method_2_code 116 = .ok (.areturn, 1) := by decide +kernel
theorem pn_3 : plainName "com/example/wirewright/bench/RunPrintedPinLaw" = true := by first | (simp [plainName, overriddenIn]; done) | decide +kernel
def Q_rmTX0 (Z : State) (p0 : Int32) (h0 : Heap) (n0 : Nat) (v : Option Value) (h : Heap) (L : List Loc) : Prop := ∃ nb : Addr, ∃ vb : Addr, ∃ kb : ClassId, v = some (.ref nb) ∧ Fr n0 L ∧ h0.size ≤ nb ∧ Keep h0 h [] ∧ Exa Z h nb "java/lang/String" ∧ Fld Z h nb "java/lang/String" "value" "[B" (.ref vb) ∧ Fld Z h nb "java/lang/String" "coder" "B" (.int (0 : Int32)) ∧ Arv Z h vb kb .byte (p0 &&& (3 : Int32)) (own_vs p0) (.int (0 : Int32))
theorem ef_rmTX0 (m : MethodId) (p0 : Int32) : entryFrame m #[(.int p0)] 5 = mkF m 0 #[.val (.int p0), .unset, .unset, .unset, .unset] [] := by first | (simp [entryFrame, mkF, argsToLocals, Value.category]; done) | rfl
set_option maxRecDepth 65536 in
set_option maxHeartbeats 40000000 in
theorem rmTX0 (l : Launch) (Z : State) (a0 : Array Value) (hw : ∀ d ∈ tables_1, d.before a0 Z = true) (ws : List Jvm.Cond) (p0 : Int32) (h0 : Heap) (n0 : Nat) (Z0 : n0 ≤ h0.size) (hwS : ∀ a ∈ Bundle.stringAtoms, a.before a0 Z = true) (hn : (p0 &&& (3 : Int32)) = (0 : Int32)) :
    MetFree l (⟨"com/example/wirewright/bench/RunPrintedPinLaw", "text", "(I)Ljava/lang/String;"⟩ : MethodName) (head1 (Jvm.Cond.code (⟨"com/example/wirewright/bench/RunPrintedPinLaw", "text", "(I)Ljava/lang/String;"⟩ : MethodName) method_2_code 5 (some (.object "java/lang/String")) :: ws) ({ frames := 4, cells := 6, slots := 12, locals := 66 } : Room)) (fun a U => a = #[(.int p0)] ∧ Z.Warmed39 U.vm ∧ U.heap = h0 ∧ CHv Z own_EL U.vm h0) (fun _ _ _ _ _ => True) (fun _ U o U' => ∃ v L, o = .returned v ∧ Q_rmTX0 Z p0 h0 n0 v U'.heap L ∧ CHr Z own_EL U.vm U.heap U'.vm U'.heap ∧ ReturnedEndW U o U' L ({ frames := 4, cells := 6, slots := 12, locals := 66 } : Room).cells ({ frames := 4, cells := 6, slots := 12, locals := 66 } : Room).slots) := by
  refine MetFree.of_bodySF (plainFor_of_name pn_3) hisR ?_
  intro p e s m args below meth c s₁ Bd hml0 hP hK
  obtain ⟨rfl, hZ, hh, hCH⟩ := hP
  have hx := Bd.exec
  have hby := Bd.bytes
  have hml : c.maxLocals = 5 := hml0
  have hown : s.vm.findClass "com/example/wirewright/bench/RunPrintedPinLaw" = some m.cls := findClass_of_methodNamed Bd.named
  have hnm := (name_of_methodNamed Bd.named Bd.method).1
  have X0 : Stand p l e ({ frames := 4, cells := 6, slots := 12, locals := 66 } : Room) s m #[(.int p0)] below meth c s₁ [] 0 0 := Stand.of_body Bd
  have e0 : s₁.heap = h0 := by rw [← hh, Bd.state]; rfl
  have N0 := Fr.nil n0
  have hS0 := (State.WarmedH.refl s).since 0
  have pre0 : ∀ t, Steps p.tables e below (s₁.setTop (mkF m 0 #[.val (.int p0), .unset, .unset, .unset, .unset] [])) t → Steps p.tables e below (s₁.setTop (entryFrame m #[(.int p0)] 5)) t := fun t k => castTop (ef_rmTX0 m p0) k
  obtain ⟨T1, h1, X1, e1, E1, A1, D1, -, st1⟩ := newO X0 hx hZ hown (ow hw 4 rfl) (ow hw 5 rfl) (ow hw 6 rfl) e0 (g := (mkF m 38 #[.val (.int p0), .val (.int (0 : Int32)), .val (.int ((((p0.toUInt32 >>> ((2 : Int32) &&& 31).toUInt32).toInt32) &&& (255 : Int32)).toUInt32.toUInt16.toUInt32.toInt32)), .val (.int ((((p0.toUInt32 >>> ((10 : Int32) &&& 31).toUInt32).toInt32) &&& (255 : Int32)).toUInt32.toUInt16.toUInt32.toInt32)), .val (.int ((((p0.toUInt32 >>> ((18 : Int32) &&& 31).toUInt32).toInt32) &&& (255 : Int32)).toUInt32.toUInt16.toUInt32.toInt32))] [])) rfl (hb hby d6_38) (by decide) (by decide)
  obtain ⟨b1, g1⟩ : ∃ z, z = h0.size := ⟨_, rfl⟩
  rw [← g1] at A1 D1 st1
  have F1_1 : Fld Z h1 b1 "java/lang/String" "coder" "B" (.int (0 : Int32)) := D1 (Or.inr (ow hw 31 rfl)) (ty := .byte) (by decide)
  have F1_2 : Fld Z h1 b1 "java/lang/String" "value" "[B" .null := D1 (Or.inr (ow hw 33 rfl)) (ty := (.array .byte)) (by decide)
  obtain ⟨T2, h2, k2, X2, e2, E2, A2, st2⟩ := newP X1 hx hZ (ow hw 7 rfl) e1 (g := (mkF m 43 #[.val (.int p0), .val (.int (0 : Int32)), .val (.int ((((p0.toUInt32 >>> ((2 : Int32) &&& 31).toUInt32).toInt32) &&& (255 : Int32)).toUInt32.toUInt16.toUInt32.toInt32)), .val (.int ((((p0.toUInt32 >>> ((10 : Int32) &&& 31).toUInt32).toInt32) &&& (255 : Int32)).toUInt32.toUInt16.toUInt32.toInt32)), .val (.int ((((p0.toUInt32 >>> ((18 : Int32) &&& 31).toUInt32).toInt32) &&& (255 : Int32)).toUInt32.toUInt16.toUInt32.toInt32))] [(.int (0 : Int32)), (.ref b1), (.ref b1)])) rfl (hb hby d6_43) rfl (by decide) (cap := 0) (by decide) (by decide) (by decide) (by decide)
  obtain ⟨b2, g2⟩ : ∃ z, z = h1.size := ⟨_, rfl⟩
  rw [← g2] at A2 st2
  have V2 : Arv Z h2 b2 k2 .char (0 : Int32) [] (.int (0 : Int32)) := (Arv.new A2 (by decide)).pad (pad_rep [] (.int (0 : Int32)) 0)
  have CR0_3 := CHr.trans (CHr.refl hCH) (CHr.ext E1 hCH)
  have CV0_3 := CHv.ext E1 hCH
  have CR1_3 := CHr.trans CR0_3 (CHr.ext E2 CV0_3)
  have CV1_3 := CHv.ext E2 CV0_3
  have f4 : Exa Z h2 b1 "java/lang/String" := (A1.ext E2)
  have f5 : Fld Z h2 b1 "java/lang/String" "value" "[B" .null := (F1_2.ext E2)
  have f6 : Fld Z h2 b1 "java/lang/String" "coder" "B" (.int (0 : Int32)) := (F1_1.ext E2)
  obtain ⟨_, _, ⟨T3, L3, k3, n3⟩, -, X3, hSq3, hgq3, ⟨Lc3, hQ3, l3, y3, z3, hC3⟩, st3⟩ := X2.specialBackS hx (y := (⟨"java/lang/String", "<init>", "([C)V"⟩ : MethodName)) rfl hown (mvT hZ (ow hw 8 rfl)) (mvT hZ (ow hw 9 rfl)) (mvT hZ (ow hw 10 rfl)) (by decide) (backOfSH (s := s) (vm0 := s.vm) (W := 1) (rmCA0 l Z a0 hw [] b1 b2 k2 (.int (0 : Int32)) h2 n0 (Nat.le_trans (Nat.le_trans Z0 E1.1) E2.1) hwS f4 V2 f5 f6 (Nat.le_trans Z0 (Nat.le_of_eq g1.symm))) hZ (ow hw 10 rfl) (ow hw 6 rfl) (by decide) (by decide) (own_EW hw) CV1_3) (g := (mkF m 45 #[.val (.int p0), .val (.int (0 : Int32)), .val (.int ((((p0.toUInt32 >>> ((2 : Int32) &&& 31).toUInt32).toInt32) &&& (255 : Int32)).toUInt32.toUInt16.toUInt32.toInt32)), .val (.int ((((p0.toUInt32 >>> ((10 : Int32) &&& 31).toUInt32).toInt32) &&& (255 : Int32)).toUInt32.toUInt16.toUInt32.toInt32)), .val (.int ((((p0.toUInt32 >>> ((18 : Int32) &&& 31).toUInt32).toInt32) &&& (255 : Int32)).toUInt32.toUInt16.toUInt32.toInt32))] [(.ref b2), (.ref b1), (.ref b1)])) rfl (by rw [hml]; rfl) (Steps.refl _) (a := b1) (argsL := [(.ref b2)]) (rest := [(.ref b1)]) (lenOf pd_4 rfl) rfl (by show 2 * 0 + _ ≤ _; exact Nat.le_of_eq rfl) (hb hby d6_45) (fun _ _ => ⟨rfl, e2, (by decide : 2 + 4 ≤ _), (by decide : 4 + 8 ≤ _)⟩)
  dsimp only [Pt.U, Pt.locs, Pt.cells, Pt.slots] at X3 l3 y3 z3 st3 hQ3 hSq3 hgq3 hC3
  subst l3 y3 z3
  obtain ⟨X3, hS3, hZ3, hown3⟩ := rebS (s := s) (vm0 := s.vm) hS0 (by rw [e2]; exact (Nat.le_trans (Nat.le_trans (Nat.zero_le _) E1.1) E2.1)) X3 hSq3 hgq3 hZ hown
  obtain ⟨vb_3, kb_3, rfl, Nq3, Kp3, Fq3_0, Fq3_1, Fq3_2, Fq3_3⟩ := hQ3
  have N3 := Fr.app N0 Nq3
  have CR3 := CHr.trans CR1_3 hC3
  have Vz : Arv Z T3.heap vb_3 kb_3 .byte (p0 &&& (3 : Int32)) (own_vs p0) (.int (0 : Int32)) := by rw [hn, own_vs_0 hn]; exact Fq3_3
  obtain ⟨fs, hr, hrun, hended, hRW⟩ := X3.leaveW (s := s) hS3 (Nat.le_refl _) (v := some (.ref b1)) (fun h => by rw [Bd.returns] at h; cases h)
  refine ⟨_, _, pre0 _ ?_, hrun, hended, _, _, rfl, ?_, (by show CHr Z own_EL s.vm s.heap T3.vm T3.heap; rw [hh]; exact CHr.trans CR3 (CHv.at (s := s) (vm0 := T3.vm) X3 hZ3 (own_EW hw) hC3.1)), hRW.1, hRW.2.1, hRW.2.2.1, hRW.2.2.2.mono (by decide) (by decide)⟩
  · refine sh (mkF m 0 #[.val (.int p0), .unset, .unset, .unset, .unset] []) ?_
    refine XS.iloadN X0.here hx rfl (hb hby d6_0) rfl ?_
    refine sh (mkF m 1 #[.val (.int p0), .unset, .unset, .unset, .unset] [(.int p0)]) ?_
    refine XS.iconst X0.here hx rfl (hb hby d6_1) ?_
    refine sh (mkF m 2 #[.val (.int p0), .unset, .unset, .unset, .unset] [(.int (3 : Int32)), (.int p0)]) ?_
    refine XS.iand X0.here hx rfl (hb hby d6_2) rfl ?_
    refine sh (mkF m 3 #[.val (.int p0), .unset, .unset, .unset, .unset] [(.int (p0 &&& (3 : Int32)))]) ?_
    rw [hn]
    refine sh (mkF m 3 #[.val (.int p0), .unset, .unset, .unset, .unset] [(.int (0 : Int32))]) ?_
    refine XS.istoreN X0.here hx rfl (hb hby d6_3) rfl (l' := #[.val (.int p0), .val (.int (0 : Int32)), .unset, .unset, .unset]) rfl ?_
    refine sh (mkF m 4 #[.val (.int p0), .val (.int (0 : Int32)), .unset, .unset, .unset] []) ?_
    refine XS.iloadN X0.here hx rfl (hb hby d6_4) rfl ?_
    refine sh (mkF m 5 #[.val (.int p0), .val (.int (0 : Int32)), .unset, .unset, .unset] [(.int p0)]) ?_
    refine XS.iconst X0.here hx rfl (hb hby d6_5) ?_
    refine sh (mkF m 6 #[.val (.int p0), .val (.int (0 : Int32)), .unset, .unset, .unset] [(.int (2 : Int32)), (.int p0)]) ?_
    refine XS.iushr X0.here hx rfl (hb hby d6_6) rfl ?_
    refine sh (mkF m 7 #[.val (.int p0), .val (.int (0 : Int32)), .unset, .unset, .unset] [(.int ((p0.toUInt32 >>> ((2 : Int32) &&& 31).toUInt32).toInt32))]) ?_
    refine XS.sipush X0.here hx rfl (hb hby d6_7) ?_
    refine sh (mkF m 10 #[.val (.int p0), .val (.int (0 : Int32)), .unset, .unset, .unset] [(.int (255 : Int32)), (.int ((p0.toUInt32 >>> ((2 : Int32) &&& 31).toUInt32).toInt32))]) ?_
    refine XS.iand X0.here hx rfl (hb hby d6_10) rfl ?_
    refine sh (mkF m 11 #[.val (.int p0), .val (.int (0 : Int32)), .unset, .unset, .unset] [(.int (((p0.toUInt32 >>> ((2 : Int32) &&& 31).toUInt32).toInt32) &&& (255 : Int32)))]) ?_
    refine XS.i2c X0.here hx rfl (hb hby d6_11) rfl ?_
    refine sh (mkF m 12 #[.val (.int p0), .val (.int (0 : Int32)), .unset, .unset, .unset] [(.int ((((p0.toUInt32 >>> ((2 : Int32) &&& 31).toUInt32).toInt32) &&& (255 : Int32)).toUInt32.toUInt16.toUInt32.toInt32))]) ?_
    refine XS.istoreN X0.here hx rfl (hb hby d6_12) rfl (l' := #[.val (.int p0), .val (.int (0 : Int32)), .val (.int ((((p0.toUInt32 >>> ((2 : Int32) &&& 31).toUInt32).toInt32) &&& (255 : Int32)).toUInt32.toUInt16.toUInt32.toInt32)), .unset, .unset]) rfl ?_
    refine sh (mkF m 13 #[.val (.int p0), .val (.int (0 : Int32)), .val (.int ((((p0.toUInt32 >>> ((2 : Int32) &&& 31).toUInt32).toInt32) &&& (255 : Int32)).toUInt32.toUInt16.toUInt32.toInt32)), .unset, .unset] []) ?_
    refine XS.iloadN X0.here hx rfl (hb hby d6_13) rfl ?_
    refine sh (mkF m 14 #[.val (.int p0), .val (.int (0 : Int32)), .val (.int ((((p0.toUInt32 >>> ((2 : Int32) &&& 31).toUInt32).toInt32) &&& (255 : Int32)).toUInt32.toUInt16.toUInt32.toInt32)), .unset, .unset] [(.int p0)]) ?_
    refine XS.bipush X0.here hx rfl (hb hby d6_14) ?_
    refine sh (mkF m 16 #[.val (.int p0), .val (.int (0 : Int32)), .val (.int ((((p0.toUInt32 >>> ((2 : Int32) &&& 31).toUInt32).toInt32) &&& (255 : Int32)).toUInt32.toUInt16.toUInt32.toInt32)), .unset, .unset] [(.int (10 : Int32)), (.int p0)]) ?_
    refine XS.iushr X0.here hx rfl (hb hby d6_16) rfl ?_
    refine sh (mkF m 17 #[.val (.int p0), .val (.int (0 : Int32)), .val (.int ((((p0.toUInt32 >>> ((2 : Int32) &&& 31).toUInt32).toInt32) &&& (255 : Int32)).toUInt32.toUInt16.toUInt32.toInt32)), .unset, .unset] [(.int ((p0.toUInt32 >>> ((10 : Int32) &&& 31).toUInt32).toInt32))]) ?_
    refine XS.sipush X0.here hx rfl (hb hby d6_17) ?_
    refine sh (mkF m 20 #[.val (.int p0), .val (.int (0 : Int32)), .val (.int ((((p0.toUInt32 >>> ((2 : Int32) &&& 31).toUInt32).toInt32) &&& (255 : Int32)).toUInt32.toUInt16.toUInt32.toInt32)), .unset, .unset] [(.int (255 : Int32)), (.int ((p0.toUInt32 >>> ((10 : Int32) &&& 31).toUInt32).toInt32))]) ?_
    refine XS.iand X0.here hx rfl (hb hby d6_20) rfl ?_
    refine sh (mkF m 21 #[.val (.int p0), .val (.int (0 : Int32)), .val (.int ((((p0.toUInt32 >>> ((2 : Int32) &&& 31).toUInt32).toInt32) &&& (255 : Int32)).toUInt32.toUInt16.toUInt32.toInt32)), .unset, .unset] [(.int (((p0.toUInt32 >>> ((10 : Int32) &&& 31).toUInt32).toInt32) &&& (255 : Int32)))]) ?_
    refine XS.i2c X0.here hx rfl (hb hby d6_21) rfl ?_
    refine sh (mkF m 22 #[.val (.int p0), .val (.int (0 : Int32)), .val (.int ((((p0.toUInt32 >>> ((2 : Int32) &&& 31).toUInt32).toInt32) &&& (255 : Int32)).toUInt32.toUInt16.toUInt32.toInt32)), .unset, .unset] [(.int ((((p0.toUInt32 >>> ((10 : Int32) &&& 31).toUInt32).toInt32) &&& (255 : Int32)).toUInt32.toUInt16.toUInt32.toInt32))]) ?_
    refine XS.istoreN X0.here hx rfl (hb hby d6_22) rfl (l' := #[.val (.int p0), .val (.int (0 : Int32)), .val (.int ((((p0.toUInt32 >>> ((2 : Int32) &&& 31).toUInt32).toInt32) &&& (255 : Int32)).toUInt32.toUInt16.toUInt32.toInt32)), .val (.int ((((p0.toUInt32 >>> ((10 : Int32) &&& 31).toUInt32).toInt32) &&& (255 : Int32)).toUInt32.toUInt16.toUInt32.toInt32)), .unset]) rfl ?_
    refine sh (mkF m 23 #[.val (.int p0), .val (.int (0 : Int32)), .val (.int ((((p0.toUInt32 >>> ((2 : Int32) &&& 31).toUInt32).toInt32) &&& (255 : Int32)).toUInt32.toUInt16.toUInt32.toInt32)), .val (.int ((((p0.toUInt32 >>> ((10 : Int32) &&& 31).toUInt32).toInt32) &&& (255 : Int32)).toUInt32.toUInt16.toUInt32.toInt32)), .unset] []) ?_
    refine XS.iloadN X0.here hx rfl (hb hby d6_23) rfl ?_
    refine sh (mkF m 24 #[.val (.int p0), .val (.int (0 : Int32)), .val (.int ((((p0.toUInt32 >>> ((2 : Int32) &&& 31).toUInt32).toInt32) &&& (255 : Int32)).toUInt32.toUInt16.toUInt32.toInt32)), .val (.int ((((p0.toUInt32 >>> ((10 : Int32) &&& 31).toUInt32).toInt32) &&& (255 : Int32)).toUInt32.toUInt16.toUInt32.toInt32)), .unset] [(.int p0)]) ?_
    refine XS.bipush X0.here hx rfl (hb hby d6_24) ?_
    refine sh (mkF m 26 #[.val (.int p0), .val (.int (0 : Int32)), .val (.int ((((p0.toUInt32 >>> ((2 : Int32) &&& 31).toUInt32).toInt32) &&& (255 : Int32)).toUInt32.toUInt16.toUInt32.toInt32)), .val (.int ((((p0.toUInt32 >>> ((10 : Int32) &&& 31).toUInt32).toInt32) &&& (255 : Int32)).toUInt32.toUInt16.toUInt32.toInt32)), .unset] [(.int (18 : Int32)), (.int p0)]) ?_
    refine XS.iushr X0.here hx rfl (hb hby d6_26) rfl ?_
    refine sh (mkF m 27 #[.val (.int p0), .val (.int (0 : Int32)), .val (.int ((((p0.toUInt32 >>> ((2 : Int32) &&& 31).toUInt32).toInt32) &&& (255 : Int32)).toUInt32.toUInt16.toUInt32.toInt32)), .val (.int ((((p0.toUInt32 >>> ((10 : Int32) &&& 31).toUInt32).toInt32) &&& (255 : Int32)).toUInt32.toUInt16.toUInt32.toInt32)), .unset] [(.int ((p0.toUInt32 >>> ((18 : Int32) &&& 31).toUInt32).toInt32))]) ?_
    refine XS.sipush X0.here hx rfl (hb hby d6_27) ?_
    refine sh (mkF m 30 #[.val (.int p0), .val (.int (0 : Int32)), .val (.int ((((p0.toUInt32 >>> ((2 : Int32) &&& 31).toUInt32).toInt32) &&& (255 : Int32)).toUInt32.toUInt16.toUInt32.toInt32)), .val (.int ((((p0.toUInt32 >>> ((10 : Int32) &&& 31).toUInt32).toInt32) &&& (255 : Int32)).toUInt32.toUInt16.toUInt32.toInt32)), .unset] [(.int (255 : Int32)), (.int ((p0.toUInt32 >>> ((18 : Int32) &&& 31).toUInt32).toInt32))]) ?_
    refine XS.iand X0.here hx rfl (hb hby d6_30) rfl ?_
    refine sh (mkF m 31 #[.val (.int p0), .val (.int (0 : Int32)), .val (.int ((((p0.toUInt32 >>> ((2 : Int32) &&& 31).toUInt32).toInt32) &&& (255 : Int32)).toUInt32.toUInt16.toUInt32.toInt32)), .val (.int ((((p0.toUInt32 >>> ((10 : Int32) &&& 31).toUInt32).toInt32) &&& (255 : Int32)).toUInt32.toUInt16.toUInt32.toInt32)), .unset] [(.int (((p0.toUInt32 >>> ((18 : Int32) &&& 31).toUInt32).toInt32) &&& (255 : Int32)))]) ?_
    refine XS.i2c X0.here hx rfl (hb hby d6_31) rfl ?_
    refine sh (mkF m 32 #[.val (.int p0), .val (.int (0 : Int32)), .val (.int ((((p0.toUInt32 >>> ((2 : Int32) &&& 31).toUInt32).toInt32) &&& (255 : Int32)).toUInt32.toUInt16.toUInt32.toInt32)), .val (.int ((((p0.toUInt32 >>> ((10 : Int32) &&& 31).toUInt32).toInt32) &&& (255 : Int32)).toUInt32.toUInt16.toUInt32.toInt32)), .unset] [(.int ((((p0.toUInt32 >>> ((18 : Int32) &&& 31).toUInt32).toInt32) &&& (255 : Int32)).toUInt32.toUInt16.toUInt32.toInt32))]) ?_
    refine XS.istore X0.here hx rfl (hb hby d6_32) rfl (l' := #[.val (.int p0), .val (.int (0 : Int32)), .val (.int ((((p0.toUInt32 >>> ((2 : Int32) &&& 31).toUInt32).toInt32) &&& (255 : Int32)).toUInt32.toUInt16.toUInt32.toInt32)), .val (.int ((((p0.toUInt32 >>> ((10 : Int32) &&& 31).toUInt32).toInt32) &&& (255 : Int32)).toUInt32.toUInt16.toUInt32.toInt32)), .val (.int ((((p0.toUInt32 >>> ((18 : Int32) &&& 31).toUInt32).toInt32) &&& (255 : Int32)).toUInt32.toUInt16.toUInt32.toInt32))]) rfl ?_
    refine sh (mkF m 34 #[.val (.int p0), .val (.int (0 : Int32)), .val (.int ((((p0.toUInt32 >>> ((2 : Int32) &&& 31).toUInt32).toInt32) &&& (255 : Int32)).toUInt32.toUInt16.toUInt32.toInt32)), .val (.int ((((p0.toUInt32 >>> ((10 : Int32) &&& 31).toUInt32).toInt32) &&& (255 : Int32)).toUInt32.toUInt16.toUInt32.toInt32)), .val (.int ((((p0.toUInt32 >>> ((18 : Int32) &&& 31).toUInt32).toInt32) &&& (255 : Int32)).toUInt32.toUInt16.toUInt32.toInt32))] []) ?_
    refine XS.iloadN X0.here hx rfl (hb hby d6_34) rfl ?_
    refine sh (mkF m 35 #[.val (.int p0), .val (.int (0 : Int32)), .val (.int ((((p0.toUInt32 >>> ((2 : Int32) &&& 31).toUInt32).toInt32) &&& (255 : Int32)).toUInt32.toUInt16.toUInt32.toInt32)), .val (.int ((((p0.toUInt32 >>> ((10 : Int32) &&& 31).toUInt32).toInt32) &&& (255 : Int32)).toUInt32.toUInt16.toUInt32.toInt32)), .val (.int ((((p0.toUInt32 >>> ((18 : Int32) &&& 31).toUInt32).toInt32) &&& (255 : Int32)).toUInt32.toUInt16.toUInt32.toInt32))] [(.int (0 : Int32))]) ?_
    refine XS.ifNo X0.here hx rfl (hb hby d6_35) rfl ((if0 _ _).trans (teq (rfl : (0 : Int32) = (0 : Int32))).2) ?_
    refine sh (mkF m 38 #[.val (.int p0), .val (.int (0 : Int32)), .val (.int ((((p0.toUInt32 >>> ((2 : Int32) &&& 31).toUInt32).toInt32) &&& (255 : Int32)).toUInt32.toUInt16.toUInt32.toInt32)), .val (.int ((((p0.toUInt32 >>> ((10 : Int32) &&& 31).toUInt32).toInt32) &&& (255 : Int32)).toUInt32.toUInt16.toUInt32.toInt32)), .val (.int ((((p0.toUInt32 >>> ((18 : Int32) &&& 31).toUInt32).toInt32) &&& (255 : Int32)).toUInt32.toUInt16.toUInt32.toInt32))] []) ?_
    refine st1 _ ?_
    refine sh (mkF m 41 #[.val (.int p0), .val (.int (0 : Int32)), .val (.int ((((p0.toUInt32 >>> ((2 : Int32) &&& 31).toUInt32).toInt32) &&& (255 : Int32)).toUInt32.toUInt16.toUInt32.toInt32)), .val (.int ((((p0.toUInt32 >>> ((10 : Int32) &&& 31).toUInt32).toInt32) &&& (255 : Int32)).toUInt32.toUInt16.toUInt32.toInt32)), .val (.int ((((p0.toUInt32 >>> ((18 : Int32) &&& 31).toUInt32).toInt32) &&& (255 : Int32)).toUInt32.toUInt16.toUInt32.toInt32))] [(.ref b1)]) ?_
    refine XS.dup X1.here hx rfl (hb hby d6_41) rfl rfl ?_
    refine sh (mkF m 42 #[.val (.int p0), .val (.int (0 : Int32)), .val (.int ((((p0.toUInt32 >>> ((2 : Int32) &&& 31).toUInt32).toInt32) &&& (255 : Int32)).toUInt32.toUInt16.toUInt32.toInt32)), .val (.int ((((p0.toUInt32 >>> ((10 : Int32) &&& 31).toUInt32).toInt32) &&& (255 : Int32)).toUInt32.toUInt16.toUInt32.toInt32)), .val (.int ((((p0.toUInt32 >>> ((18 : Int32) &&& 31).toUInt32).toInt32) &&& (255 : Int32)).toUInt32.toUInt16.toUInt32.toInt32))] [(.ref b1), (.ref b1)]) ?_
    refine XS.iconst X1.here hx rfl (hb hby d6_42) ?_
    refine sh (mkF m 43 #[.val (.int p0), .val (.int (0 : Int32)), .val (.int ((((p0.toUInt32 >>> ((2 : Int32) &&& 31).toUInt32).toInt32) &&& (255 : Int32)).toUInt32.toUInt16.toUInt32.toInt32)), .val (.int ((((p0.toUInt32 >>> ((10 : Int32) &&& 31).toUInt32).toInt32) &&& (255 : Int32)).toUInt32.toUInt16.toUInt32.toInt32)), .val (.int ((((p0.toUInt32 >>> ((18 : Int32) &&& 31).toUInt32).toInt32) &&& (255 : Int32)).toUInt32.toUInt16.toUInt32.toInt32))] [(.int (0 : Int32)), (.ref b1), (.ref b1)]) ?_
    refine st2 _ ?_
    refine sh (mkF m 45 #[.val (.int p0), .val (.int (0 : Int32)), .val (.int ((((p0.toUInt32 >>> ((2 : Int32) &&& 31).toUInt32).toInt32) &&& (255 : Int32)).toUInt32.toUInt16.toUInt32.toInt32)), .val (.int ((((p0.toUInt32 >>> ((10 : Int32) &&& 31).toUInt32).toInt32) &&& (255 : Int32)).toUInt32.toUInt16.toUInt32.toInt32)), .val (.int ((((p0.toUInt32 >>> ((18 : Int32) &&& 31).toUInt32).toInt32) &&& (255 : Int32)).toUInt32.toUInt16.toUInt32.toInt32))] [(.ref b2), (.ref b1), (.ref b1)]) ?_
    refine st3.trans ?_
    refine sh (mkF m 48 #[.val (.int p0), .val (.int (0 : Int32)), .val (.int ((((p0.toUInt32 >>> ((2 : Int32) &&& 31).toUInt32).toInt32) &&& (255 : Int32)).toUInt32.toUInt16.toUInt32.toInt32)), .val (.int ((((p0.toUInt32 >>> ((10 : Int32) &&& 31).toUInt32).toInt32) &&& (255 : Int32)).toUInt32.toUInt16.toUInt32.toInt32)), .val (.int ((((p0.toUInt32 >>> ((18 : Int32) &&& 31).toUInt32).toInt32) &&& (255 : Int32)).toUInt32.toUInt16.toUInt32.toInt32))] [(.ref b1)]) ?_
    exact retOut X3 hx Bd.returns rfl (Or.inr (Or.inr (Or.inr (Or.inr ⟨rfl, rfl, rfl⟩)))) (hb hby d6_48) hr
  · show Q_rmTX0 Z p0 h0 n0 _ T3.heap _
    exact ⟨b1, vb_3, kb_3, rfl, N3, (Nat.le_trans (Nat.le_refl h0.size) (Nat.le_of_eq g1.symm)), ((((Keep.refl h0 []).ext E1).ext E2).trans Kp3 (allS (Or.inr (Nat.le_trans (Nat.le_refl h0.size) (Nat.le_of_eq g1.symm))) all0)), Fq3_0, Fq3_1, Fq3_2, Vz⟩
def Q_rmTX1 (Z : State) (p0 : Int32) (s_CS : Int32) (h0 : Heap) (n0 : Nat) (v : Option Value) (h : Heap) (L : List Loc) : Prop := ∃ nb : Addr, ∃ vb : Addr, ∃ kb : ClassId, v = some (.ref nb) ∧ Fr n0 L ∧ h0.size ≤ nb ∧ Keep h0 h [] ∧ Exa Z h nb "java/lang/String" ∧ Fld Z h nb "java/lang/String" "value" "[B" (.ref vb) ∧ Fld Z h nb "java/lang/String" "coder" "B" (.int (0 : Int32)) ∧ Arv Z h vb kb .byte (p0 &&& (3 : Int32)) (own_vs p0) (.int (0 : Int32))
theorem ef_rmTX1 (m : MethodId) (p0 : Int32) : entryFrame m #[(.int p0)] 5 = mkF m 0 #[.val (.int p0), .unset, .unset, .unset, .unset] [] := by first | (simp [entryFrame, mkF, argsToLocals, Value.category]; done) | rfl
set_option maxRecDepth 65536 in
set_option maxHeartbeats 40000000 in
theorem rmTX1 (l : Launch) (Z : State) (a0 : Array Value) (hw : ∀ d ∈ tables_1, d.before a0 Z = true) (ws : List Jvm.Cond) (p0 : Int32) (s_CS : Int32) (h0 : Heap) (n0 : Nat) (Z0 : n0 ≤ h0.size) (S_CS : Sta Z h0 "java/lang/String" "COMPACT_STRINGS" "Z" (.int s_CS)) (hcs : ¬ (s_CS = (0 : Int32))) (hn : (p0 &&& (3 : Int32)) = (1 : Int32)) :
    MetFree l (⟨"com/example/wirewright/bench/RunPrintedPinLaw", "text", "(I)Ljava/lang/String;"⟩ : MethodName) (head1 (Jvm.Cond.code (⟨"com/example/wirewright/bench/RunPrintedPinLaw", "text", "(I)Ljava/lang/String;"⟩ : MethodName) method_2_code 5 (some (.object "java/lang/String")) :: ws) ({ frames := 4, cells := 6, slots := 12, locals := 66 } : Room)) (fun a U => a = #[(.int p0)] ∧ Z.Warmed39 U.vm ∧ U.heap = h0 ∧ CHv Z own_EL U.vm h0) (fun _ _ _ _ _ => True) (fun _ U o U' => ∃ v L, o = .returned v ∧ Q_rmTX1 Z p0 s_CS h0 n0 v U'.heap L ∧ CHr Z own_EL U.vm U.heap U'.vm U'.heap ∧ ReturnedEndW U o U' L ({ frames := 4, cells := 6, slots := 12, locals := 66 } : Room).cells ({ frames := 4, cells := 6, slots := 12, locals := 66 } : Room).slots) := by
  refine MetFree.of_bodySF (plainFor_of_name pn_3) hisR ?_
  intro p e s m args below meth c s₁ Bd hml0 hP hK
  obtain ⟨rfl, hZ, hh, hCH⟩ := hP
  have hx := Bd.exec
  have hby := Bd.bytes
  have hml : c.maxLocals = 5 := hml0
  have hown : s.vm.findClass "com/example/wirewright/bench/RunPrintedPinLaw" = some m.cls := findClass_of_methodNamed Bd.named
  have hnm := (name_of_methodNamed Bd.named Bd.method).1
  have X0 : Stand p l e ({ frames := 4, cells := 6, slots := 12, locals := 66 } : Room) s m #[(.int p0)] below meth c s₁ [] 0 0 := Stand.of_body Bd
  have e0 : s₁.heap = h0 := by rw [← hh, Bd.state]; rfl
  have N0 := Fr.nil n0
  have hS0 := (State.WarmedH.refl s).since 0
  have pre0 : ∀ t, Steps p.tables e below (s₁.setTop (mkF m 0 #[.val (.int p0), .unset, .unset, .unset, .unset] [])) t → Steps p.tables e below (s₁.setTop (entryFrame m #[(.int p0)] 5)) t := fun t k => castTop (ef_rmTX1 m p0) k
  obtain ⟨T1, h1, X1, e1, E1, A1, D1, -, st1⟩ := newO X0 hx hZ hown (ow hw 4 rfl) (ow hw 5 rfl) (ow hw 6 rfl) e0 (g := (mkF m 54 #[.val (.int p0), .val (.int (1 : Int32)), .val (.int ((((p0.toUInt32 >>> ((2 : Int32) &&& 31).toUInt32).toInt32) &&& (255 : Int32)).toUInt32.toUInt16.toUInt32.toInt32)), .val (.int ((((p0.toUInt32 >>> ((10 : Int32) &&& 31).toUInt32).toInt32) &&& (255 : Int32)).toUInt32.toUInt16.toUInt32.toInt32)), .val (.int ((((p0.toUInt32 >>> ((18 : Int32) &&& 31).toUInt32).toInt32) &&& (255 : Int32)).toUInt32.toUInt16.toUInt32.toInt32))] [])) rfl (hb hby d6_54) (by decide) (by decide)
  obtain ⟨b1, g1⟩ : ∃ z, z = h0.size := ⟨_, rfl⟩
  rw [← g1] at A1 D1 st1
  have F1_2 : Fld Z h1 b1 "java/lang/String" "coder" "B" (.int (0 : Int32)) := D1 (Or.inr (ow hw 31 rfl)) (ty := .byte) (by decide)
  have F1_3 : Fld Z h1 b1 "java/lang/String" "value" "[B" .null := D1 (Or.inr (ow hw 33 rfl)) (ty := (.array .byte)) (by decide)
  have SN2 := Safe.ext E1 hCH (Safe.new (vm := s.vm) (Z := Z) (EL := own_EL) (Nat.le_of_eq g1.symm))
  have CR0_2 := CHr.trans (CHr.refl hCH) (CHr.ext E1 hCH)
  have CV0_2 := CHv.ext E1 hCH
  obtain ⟨T3, h3, k3, X3, e3, E3, A3, st3⟩ := newP X1 hx hZ (ow hw 7 rfl) e1 (g := (mkF m 59 #[.val (.int p0), .val (.int (1 : Int32)), .val (.int ((((p0.toUInt32 >>> ((2 : Int32) &&& 31).toUInt32).toInt32) &&& (255 : Int32)).toUInt32.toUInt16.toUInt32.toInt32)), .val (.int ((((p0.toUInt32 >>> ((10 : Int32) &&& 31).toUInt32).toInt32) &&& (255 : Int32)).toUInt32.toUInt16.toUInt32.toInt32)), .val (.int ((((p0.toUInt32 >>> ((18 : Int32) &&& 31).toUInt32).toInt32) &&& (255 : Int32)).toUInt32.toUInt16.toUInt32.toInt32))] [(.int (1 : Int32)), (.ref b1), (.ref b1)])) rfl (hb hby d6_59) rfl (by decide) (cap := 1) (by decide) (by decide) (by decide) (by decide)
  obtain ⟨b3, g3⟩ : ∃ z, z = h1.size := ⟨_, rfl⟩
  rw [← g3] at A3 st3
  have V3 : Arv Z h3 b3 k3 .char (1 : Int32) [(.int (0 : Int32))] (.int (0 : Int32)) := (Arv.new A3 (by decide)).pad (pad_rep [] (.int (0 : Int32)) 1)
  have SN4 := Safe.ext E3 CV0_2 (Safe.new (vm := s.vm) (Z := Z) (EL := own_EL) (Nat.le_of_eq g3.symm))
  have CR1_4 := CHr.trans CR0_2 (CHr.ext E3 CV0_2)
  have SF1_4_b1 := Safe.ext E3 CV0_2 SN2
  have CV1_4 := CHv.ext E3 CV0_2
  have Vc5 := V3
  obtain ⟨cl5, Ar5, q5, S5, M5, H5, G5⟩ := Vc5
  have hin5 : ¬ ((0 : Int32) < 0 ∨ cl5.slots.size ≤ ((0 : Int32)).toNatClampNeg) := inb_of S5 ⟨by decide, by decide⟩
  obtain ⟨T5, h5, X5, e5, W5, st5⟩ := stC X3 hx hZ e3 Ar5 (j := (0 : Int32)) hin5 (g := (mkF m 64 #[.val (.int p0), .val (.int (1 : Int32)), .val (.int ((((p0.toUInt32 >>> ((2 : Int32) &&& 31).toUInt32).toInt32) &&& (255 : Int32)).toUInt32.toUInt16.toUInt32.toInt32)), .val (.int ((((p0.toUInt32 >>> ((10 : Int32) &&& 31).toUInt32).toInt32) &&& (255 : Int32)).toUInt32.toUInt16.toUInt32.toInt32)), .val (.int ((((p0.toUInt32 >>> ((18 : Int32) &&& 31).toUInt32).toInt32) &&& (255 : Int32)).toUInt32.toUInt16.toUInt32.toInt32))] [(.int ((((p0.toUInt32 >>> ((2 : Int32) &&& 31).toUInt32).toInt32) &&& (255 : Int32)).toUInt32.toUInt16.toUInt32.toInt32)), (.int (0 : Int32)), (.ref b3), (.ref b3), (.ref b1), (.ref b1)])) rfl rfl (hb hby d6_64)
  have V5 : Arv Z h5 b3 k3 .char (1 : Int32) [(.int (nar .char ((((p0.toUInt32 >>> ((2 : Int32) &&& 31).toUInt32).toInt32) &&& (255 : Int32)).toUInt32.toUInt16.toUInt32.toInt32)))] (.int (0 : Int32)) := Arv.set Ar5 q5 S5 M5 H5 G5 (fits_nar_char _) W5 0 rfl (Nat.le_of_ble_eq_true rfl)
  have N5 := Fr.snoc X5 N0 (Nat.le_trans (Nat.le_trans Z0 E1.1) (Nat.le_of_eq g3.symm))
  have f7 : Sta Z h5 "java/lang/String" "COMPACT_STRINGS" "Z" (.int s_CS) := (((S_CS.ext E1).ext E3).wr W5)
  have f8 : Exa Z h5 b1 "java/lang/String" := ((A1.ext E3).wr W5)
  have f9 : Fld Z h5 b1 "java/lang/String" "value" "[B" .null := ((F1_3.ext E3).other W5 (Or.inl (Nat.ne_of_lt (Nat.lt_of_lt_of_le A1.lt (Nat.le_of_eq g3.symm)))))
  have f10 : Fld Z h5 b1 "java/lang/String" "coder" "B" (.int (0 : Int32)) := ((F1_2.ext E3).other W5 (Or.inl (Nat.ne_of_lt (Nat.lt_of_lt_of_le A1.lt (Nat.le_of_eq g3.symm)))))
  obtain ⟨_, _, ⟨T6, L6, k6, n6⟩, -, X6, ⟨Lc6, hQ6, l6, y6, z6⟩, st6⟩ := X5.specialBack hx (y := (⟨"java/lang/String", "<init>", "([C)V"⟩ : MethodName)) rfl hown (mvT hZ (ow hw 8 rfl)) (mvT hZ (ow hw 9 rfl)) (mvT hZ (ow hw 10 rfl)) (by decide) (backOf (W := 1) (rmCA1 l Z a0 hw [] b1 b3 .null (.int (0 : Int32)) s_CS (nar .char ((((p0.toUInt32 >>> ((2 : Int32) &&& 31).toUInt32).toInt32) &&& (255 : Int32)).toUInt32.toUInt16.toUInt32.toInt32)) k3 h5 n0 (Nat.le_trans (Nat.le_trans (Nat.le_trans Z0 E1.1) E3.1) (Keep.of_wr W5).1) f7 hcs V5 (own_g _) f8 f9 f10 (Nat.le_trans Z0 (Nat.le_of_eq g1.symm))) hZ (ow hw 10 rfl) (ow hw 6 rfl) (by decide) (by decide)) (g := (mkF m 65 #[.val (.int p0), .val (.int (1 : Int32)), .val (.int ((((p0.toUInt32 >>> ((2 : Int32) &&& 31).toUInt32).toInt32) &&& (255 : Int32)).toUInt32.toUInt16.toUInt32.toInt32)), .val (.int ((((p0.toUInt32 >>> ((10 : Int32) &&& 31).toUInt32).toInt32) &&& (255 : Int32)).toUInt32.toUInt16.toUInt32.toInt32)), .val (.int ((((p0.toUInt32 >>> ((18 : Int32) &&& 31).toUInt32).toInt32) &&& (255 : Int32)).toUInt32.toUInt16.toUInt32.toInt32))] [(.ref b3), (.ref b1), (.ref b1)])) rfl (by rw [hml]; rfl) (Steps.refl _) (a := b1) (argsL := [(.ref b3)]) (rest := [(.ref b1)]) (lenOf pd_4 rfl) rfl (by show 2 * 0 + _ ≤ _; exact Nat.le_of_eq rfl) (hb hby d6_65) (fun _ _ => ⟨rfl, e5, (by decide : 2 + 1 ≤ _), (by decide : 5 + 1 ≤ _)⟩)
  dsimp only [Pt.U, Pt.locs, Pt.cells, Pt.slots] at X6 l6 y6 z6 st6 hQ6
  subst l6 y6 z6
  obtain ⟨vb_6, kb_6, rfl, Nq6, gb6_0, Kp6, Fq6_0, Fq6_1, Fq6_2, Fq6_3⟩ := hQ6
  have N6 := Fr.app N5 Nq6
  have Vz : Arv Z T6.heap vb_6 kb_6 .byte (p0 &&& (3 : Int32)) (own_vs p0) (.int (0 : Int32)) := by rw [hn, own_vs_1 hn]; exact Fq6_3
  have CR2_10 := CHr.trans CR1_4 (CHr.wr W5 SN4 CV1_4)
  have SF2_10_b1 := Safe.wr W5 SN4 CV1_4 SF1_4_b1
  have SF2_10_b3 := Safe.wr W5 SN4 CV1_4 SN4
  have CV2_10 := CHv.wr W5 SN4 CV1_4
  have CR3_10 := CHr.trans CR2_10 (CHr.keep Kp6 (sfS SF2_10_b1 sf0) CV2_10)
  have SF3_10_b1 := Safe.keep Kp6 (sfS SF2_10_b1 sf0) CV2_10 SF2_10_b1
  have SF3_10_b3 := Safe.keep Kp6 (sfS SF2_10_b1 sf0) CV2_10 SF2_10_b3
  have CV3_10 := CHv.keep Kp6 (sfS SF2_10_b1 sf0) CV2_10
  obtain ⟨fs, hr, hrun, hended, hRW⟩ := X6.leaveW (s := s) hS0 (Nat.le_trans (Nat.le_trans (Nat.le_trans (Nat.le_trans (Nat.zero_le _) E1.1) E3.1) (Keep.of_wr W5).1) Kp6.1) (v := some (.ref b1)) (fun h => by rw [Bd.returns] at h; cases h)
  refine ⟨_, _, pre0 _ ?_, hrun, hended, _, _, rfl, ?_, (by show CHr Z own_EL s.vm s.heap T6.vm T6.heap; rw [hh]; exact CHr.trans CR3_10 (CHv.at (s := s) (vm0 := s.vm) X6 hZ (own_EW hw) CV3_10)), hRW.1, hRW.2.1, hRW.2.2.1, hRW.2.2.2.mono (by decide) (by decide)⟩
  · refine sh (mkF m 0 #[.val (.int p0), .unset, .unset, .unset, .unset] []) ?_
    refine XS.iloadN X0.here hx rfl (hb hby d6_0) rfl ?_
    refine sh (mkF m 1 #[.val (.int p0), .unset, .unset, .unset, .unset] [(.int p0)]) ?_
    refine XS.iconst X0.here hx rfl (hb hby d6_1) ?_
    refine sh (mkF m 2 #[.val (.int p0), .unset, .unset, .unset, .unset] [(.int (3 : Int32)), (.int p0)]) ?_
    refine XS.iand X0.here hx rfl (hb hby d6_2) rfl ?_
    refine sh (mkF m 3 #[.val (.int p0), .unset, .unset, .unset, .unset] [(.int (p0 &&& (3 : Int32)))]) ?_
    rw [hn]
    refine sh (mkF m 3 #[.val (.int p0), .unset, .unset, .unset, .unset] [(.int (1 : Int32))]) ?_
    refine XS.istoreN X0.here hx rfl (hb hby d6_3) rfl (l' := #[.val (.int p0), .val (.int (1 : Int32)), .unset, .unset, .unset]) rfl ?_
    refine sh (mkF m 4 #[.val (.int p0), .val (.int (1 : Int32)), .unset, .unset, .unset] []) ?_
    refine XS.iloadN X0.here hx rfl (hb hby d6_4) rfl ?_
    refine sh (mkF m 5 #[.val (.int p0), .val (.int (1 : Int32)), .unset, .unset, .unset] [(.int p0)]) ?_
    refine XS.iconst X0.here hx rfl (hb hby d6_5) ?_
    refine sh (mkF m 6 #[.val (.int p0), .val (.int (1 : Int32)), .unset, .unset, .unset] [(.int (2 : Int32)), (.int p0)]) ?_
    refine XS.iushr X0.here hx rfl (hb hby d6_6) rfl ?_
    refine sh (mkF m 7 #[.val (.int p0), .val (.int (1 : Int32)), .unset, .unset, .unset] [(.int ((p0.toUInt32 >>> ((2 : Int32) &&& 31).toUInt32).toInt32))]) ?_
    refine XS.sipush X0.here hx rfl (hb hby d6_7) ?_
    refine sh (mkF m 10 #[.val (.int p0), .val (.int (1 : Int32)), .unset, .unset, .unset] [(.int (255 : Int32)), (.int ((p0.toUInt32 >>> ((2 : Int32) &&& 31).toUInt32).toInt32))]) ?_
    refine XS.iand X0.here hx rfl (hb hby d6_10) rfl ?_
    refine sh (mkF m 11 #[.val (.int p0), .val (.int (1 : Int32)), .unset, .unset, .unset] [(.int (((p0.toUInt32 >>> ((2 : Int32) &&& 31).toUInt32).toInt32) &&& (255 : Int32)))]) ?_
    refine XS.i2c X0.here hx rfl (hb hby d6_11) rfl ?_
    refine sh (mkF m 12 #[.val (.int p0), .val (.int (1 : Int32)), .unset, .unset, .unset] [(.int ((((p0.toUInt32 >>> ((2 : Int32) &&& 31).toUInt32).toInt32) &&& (255 : Int32)).toUInt32.toUInt16.toUInt32.toInt32))]) ?_
    refine XS.istoreN X0.here hx rfl (hb hby d6_12) rfl (l' := #[.val (.int p0), .val (.int (1 : Int32)), .val (.int ((((p0.toUInt32 >>> ((2 : Int32) &&& 31).toUInt32).toInt32) &&& (255 : Int32)).toUInt32.toUInt16.toUInt32.toInt32)), .unset, .unset]) rfl ?_
    refine sh (mkF m 13 #[.val (.int p0), .val (.int (1 : Int32)), .val (.int ((((p0.toUInt32 >>> ((2 : Int32) &&& 31).toUInt32).toInt32) &&& (255 : Int32)).toUInt32.toUInt16.toUInt32.toInt32)), .unset, .unset] []) ?_
    refine XS.iloadN X0.here hx rfl (hb hby d6_13) rfl ?_
    refine sh (mkF m 14 #[.val (.int p0), .val (.int (1 : Int32)), .val (.int ((((p0.toUInt32 >>> ((2 : Int32) &&& 31).toUInt32).toInt32) &&& (255 : Int32)).toUInt32.toUInt16.toUInt32.toInt32)), .unset, .unset] [(.int p0)]) ?_
    refine XS.bipush X0.here hx rfl (hb hby d6_14) ?_
    refine sh (mkF m 16 #[.val (.int p0), .val (.int (1 : Int32)), .val (.int ((((p0.toUInt32 >>> ((2 : Int32) &&& 31).toUInt32).toInt32) &&& (255 : Int32)).toUInt32.toUInt16.toUInt32.toInt32)), .unset, .unset] [(.int (10 : Int32)), (.int p0)]) ?_
    refine XS.iushr X0.here hx rfl (hb hby d6_16) rfl ?_
    refine sh (mkF m 17 #[.val (.int p0), .val (.int (1 : Int32)), .val (.int ((((p0.toUInt32 >>> ((2 : Int32) &&& 31).toUInt32).toInt32) &&& (255 : Int32)).toUInt32.toUInt16.toUInt32.toInt32)), .unset, .unset] [(.int ((p0.toUInt32 >>> ((10 : Int32) &&& 31).toUInt32).toInt32))]) ?_
    refine XS.sipush X0.here hx rfl (hb hby d6_17) ?_
    refine sh (mkF m 20 #[.val (.int p0), .val (.int (1 : Int32)), .val (.int ((((p0.toUInt32 >>> ((2 : Int32) &&& 31).toUInt32).toInt32) &&& (255 : Int32)).toUInt32.toUInt16.toUInt32.toInt32)), .unset, .unset] [(.int (255 : Int32)), (.int ((p0.toUInt32 >>> ((10 : Int32) &&& 31).toUInt32).toInt32))]) ?_
    refine XS.iand X0.here hx rfl (hb hby d6_20) rfl ?_
    refine sh (mkF m 21 #[.val (.int p0), .val (.int (1 : Int32)), .val (.int ((((p0.toUInt32 >>> ((2 : Int32) &&& 31).toUInt32).toInt32) &&& (255 : Int32)).toUInt32.toUInt16.toUInt32.toInt32)), .unset, .unset] [(.int (((p0.toUInt32 >>> ((10 : Int32) &&& 31).toUInt32).toInt32) &&& (255 : Int32)))]) ?_
    refine XS.i2c X0.here hx rfl (hb hby d6_21) rfl ?_
    refine sh (mkF m 22 #[.val (.int p0), .val (.int (1 : Int32)), .val (.int ((((p0.toUInt32 >>> ((2 : Int32) &&& 31).toUInt32).toInt32) &&& (255 : Int32)).toUInt32.toUInt16.toUInt32.toInt32)), .unset, .unset] [(.int ((((p0.toUInt32 >>> ((10 : Int32) &&& 31).toUInt32).toInt32) &&& (255 : Int32)).toUInt32.toUInt16.toUInt32.toInt32))]) ?_
    refine XS.istoreN X0.here hx rfl (hb hby d6_22) rfl (l' := #[.val (.int p0), .val (.int (1 : Int32)), .val (.int ((((p0.toUInt32 >>> ((2 : Int32) &&& 31).toUInt32).toInt32) &&& (255 : Int32)).toUInt32.toUInt16.toUInt32.toInt32)), .val (.int ((((p0.toUInt32 >>> ((10 : Int32) &&& 31).toUInt32).toInt32) &&& (255 : Int32)).toUInt32.toUInt16.toUInt32.toInt32)), .unset]) rfl ?_
    refine sh (mkF m 23 #[.val (.int p0), .val (.int (1 : Int32)), .val (.int ((((p0.toUInt32 >>> ((2 : Int32) &&& 31).toUInt32).toInt32) &&& (255 : Int32)).toUInt32.toUInt16.toUInt32.toInt32)), .val (.int ((((p0.toUInt32 >>> ((10 : Int32) &&& 31).toUInt32).toInt32) &&& (255 : Int32)).toUInt32.toUInt16.toUInt32.toInt32)), .unset] []) ?_
    refine XS.iloadN X0.here hx rfl (hb hby d6_23) rfl ?_
    refine sh (mkF m 24 #[.val (.int p0), .val (.int (1 : Int32)), .val (.int ((((p0.toUInt32 >>> ((2 : Int32) &&& 31).toUInt32).toInt32) &&& (255 : Int32)).toUInt32.toUInt16.toUInt32.toInt32)), .val (.int ((((p0.toUInt32 >>> ((10 : Int32) &&& 31).toUInt32).toInt32) &&& (255 : Int32)).toUInt32.toUInt16.toUInt32.toInt32)), .unset] [(.int p0)]) ?_
    refine XS.bipush X0.here hx rfl (hb hby d6_24) ?_
    refine sh (mkF m 26 #[.val (.int p0), .val (.int (1 : Int32)), .val (.int ((((p0.toUInt32 >>> ((2 : Int32) &&& 31).toUInt32).toInt32) &&& (255 : Int32)).toUInt32.toUInt16.toUInt32.toInt32)), .val (.int ((((p0.toUInt32 >>> ((10 : Int32) &&& 31).toUInt32).toInt32) &&& (255 : Int32)).toUInt32.toUInt16.toUInt32.toInt32)), .unset] [(.int (18 : Int32)), (.int p0)]) ?_
    refine XS.iushr X0.here hx rfl (hb hby d6_26) rfl ?_
    refine sh (mkF m 27 #[.val (.int p0), .val (.int (1 : Int32)), .val (.int ((((p0.toUInt32 >>> ((2 : Int32) &&& 31).toUInt32).toInt32) &&& (255 : Int32)).toUInt32.toUInt16.toUInt32.toInt32)), .val (.int ((((p0.toUInt32 >>> ((10 : Int32) &&& 31).toUInt32).toInt32) &&& (255 : Int32)).toUInt32.toUInt16.toUInt32.toInt32)), .unset] [(.int ((p0.toUInt32 >>> ((18 : Int32) &&& 31).toUInt32).toInt32))]) ?_
    refine XS.sipush X0.here hx rfl (hb hby d6_27) ?_
    refine sh (mkF m 30 #[.val (.int p0), .val (.int (1 : Int32)), .val (.int ((((p0.toUInt32 >>> ((2 : Int32) &&& 31).toUInt32).toInt32) &&& (255 : Int32)).toUInt32.toUInt16.toUInt32.toInt32)), .val (.int ((((p0.toUInt32 >>> ((10 : Int32) &&& 31).toUInt32).toInt32) &&& (255 : Int32)).toUInt32.toUInt16.toUInt32.toInt32)), .unset] [(.int (255 : Int32)), (.int ((p0.toUInt32 >>> ((18 : Int32) &&& 31).toUInt32).toInt32))]) ?_
    refine XS.iand X0.here hx rfl (hb hby d6_30) rfl ?_
    refine sh (mkF m 31 #[.val (.int p0), .val (.int (1 : Int32)), .val (.int ((((p0.toUInt32 >>> ((2 : Int32) &&& 31).toUInt32).toInt32) &&& (255 : Int32)).toUInt32.toUInt16.toUInt32.toInt32)), .val (.int ((((p0.toUInt32 >>> ((10 : Int32) &&& 31).toUInt32).toInt32) &&& (255 : Int32)).toUInt32.toUInt16.toUInt32.toInt32)), .unset] [(.int (((p0.toUInt32 >>> ((18 : Int32) &&& 31).toUInt32).toInt32) &&& (255 : Int32)))]) ?_
    refine XS.i2c X0.here hx rfl (hb hby d6_31) rfl ?_
    refine sh (mkF m 32 #[.val (.int p0), .val (.int (1 : Int32)), .val (.int ((((p0.toUInt32 >>> ((2 : Int32) &&& 31).toUInt32).toInt32) &&& (255 : Int32)).toUInt32.toUInt16.toUInt32.toInt32)), .val (.int ((((p0.toUInt32 >>> ((10 : Int32) &&& 31).toUInt32).toInt32) &&& (255 : Int32)).toUInt32.toUInt16.toUInt32.toInt32)), .unset] [(.int ((((p0.toUInt32 >>> ((18 : Int32) &&& 31).toUInt32).toInt32) &&& (255 : Int32)).toUInt32.toUInt16.toUInt32.toInt32))]) ?_
    refine XS.istore X0.here hx rfl (hb hby d6_32) rfl (l' := #[.val (.int p0), .val (.int (1 : Int32)), .val (.int ((((p0.toUInt32 >>> ((2 : Int32) &&& 31).toUInt32).toInt32) &&& (255 : Int32)).toUInt32.toUInt16.toUInt32.toInt32)), .val (.int ((((p0.toUInt32 >>> ((10 : Int32) &&& 31).toUInt32).toInt32) &&& (255 : Int32)).toUInt32.toUInt16.toUInt32.toInt32)), .val (.int ((((p0.toUInt32 >>> ((18 : Int32) &&& 31).toUInt32).toInt32) &&& (255 : Int32)).toUInt32.toUInt16.toUInt32.toInt32))]) rfl ?_
    refine sh (mkF m 34 #[.val (.int p0), .val (.int (1 : Int32)), .val (.int ((((p0.toUInt32 >>> ((2 : Int32) &&& 31).toUInt32).toInt32) &&& (255 : Int32)).toUInt32.toUInt16.toUInt32.toInt32)), .val (.int ((((p0.toUInt32 >>> ((10 : Int32) &&& 31).toUInt32).toInt32) &&& (255 : Int32)).toUInt32.toUInt16.toUInt32.toInt32)), .val (.int ((((p0.toUInt32 >>> ((18 : Int32) &&& 31).toUInt32).toInt32) &&& (255 : Int32)).toUInt32.toUInt16.toUInt32.toInt32))] []) ?_
    refine XS.iloadN X0.here hx rfl (hb hby d6_34) rfl ?_
    refine sh (mkF m 35 #[.val (.int p0), .val (.int (1 : Int32)), .val (.int ((((p0.toUInt32 >>> ((2 : Int32) &&& 31).toUInt32).toInt32) &&& (255 : Int32)).toUInt32.toUInt16.toUInt32.toInt32)), .val (.int ((((p0.toUInt32 >>> ((10 : Int32) &&& 31).toUInt32).toInt32) &&& (255 : Int32)).toUInt32.toUInt16.toUInt32.toInt32)), .val (.int ((((p0.toUInt32 >>> ((18 : Int32) &&& 31).toUInt32).toInt32) &&& (255 : Int32)).toUInt32.toUInt16.toUInt32.toInt32))] [(.int (1 : Int32))]) ?_
    refine XS.ifYes X0.here hx rfl (pc0 := 35) (pc' := 49) rfl (hb hby d6_35) rfl ((if0 _ _).trans (feq (by decide : ¬ ((1 : Int32) = (0 : Int32)))).2) (by decide) (by decide) ?_
    refine sh (mkF m 49 #[.val (.int p0), .val (.int (1 : Int32)), .val (.int ((((p0.toUInt32 >>> ((2 : Int32) &&& 31).toUInt32).toInt32) &&& (255 : Int32)).toUInt32.toUInt16.toUInt32.toInt32)), .val (.int ((((p0.toUInt32 >>> ((10 : Int32) &&& 31).toUInt32).toInt32) &&& (255 : Int32)).toUInt32.toUInt16.toUInt32.toInt32)), .val (.int ((((p0.toUInt32 >>> ((18 : Int32) &&& 31).toUInt32).toInt32) &&& (255 : Int32)).toUInt32.toUInt16.toUInt32.toInt32))] []) ?_
    refine XS.iloadN X0.here hx rfl (hb hby d6_49) rfl ?_
    refine sh (mkF m 50 #[.val (.int p0), .val (.int (1 : Int32)), .val (.int ((((p0.toUInt32 >>> ((2 : Int32) &&& 31).toUInt32).toInt32) &&& (255 : Int32)).toUInt32.toUInt16.toUInt32.toInt32)), .val (.int ((((p0.toUInt32 >>> ((10 : Int32) &&& 31).toUInt32).toInt32) &&& (255 : Int32)).toUInt32.toUInt16.toUInt32.toInt32)), .val (.int ((((p0.toUInt32 >>> ((18 : Int32) &&& 31).toUInt32).toInt32) &&& (255 : Int32)).toUInt32.toUInt16.toUInt32.toInt32))] [(.int (1 : Int32))]) ?_
    refine XS.iconst X0.here hx rfl (hb hby d6_50) ?_
    refine sh (mkF m 51 #[.val (.int p0), .val (.int (1 : Int32)), .val (.int ((((p0.toUInt32 >>> ((2 : Int32) &&& 31).toUInt32).toInt32) &&& (255 : Int32)).toUInt32.toUInt16.toUInt32.toInt32)), .val (.int ((((p0.toUInt32 >>> ((10 : Int32) &&& 31).toUInt32).toInt32) &&& (255 : Int32)).toUInt32.toUInt16.toUInt32.toInt32)), .val (.int ((((p0.toUInt32 >>> ((18 : Int32) &&& 31).toUInt32).toInt32) &&& (255 : Int32)).toUInt32.toUInt16.toUInt32.toInt32))] [(.int (1 : Int32)), (.int (1 : Int32))]) ?_
    refine XS.icmpNo X0.here hx rfl (hb hby d6_51) rfl (teq (rfl : (1 : Int32) = (1 : Int32))).2 ?_
    refine sh (mkF m 54 #[.val (.int p0), .val (.int (1 : Int32)), .val (.int ((((p0.toUInt32 >>> ((2 : Int32) &&& 31).toUInt32).toInt32) &&& (255 : Int32)).toUInt32.toUInt16.toUInt32.toInt32)), .val (.int ((((p0.toUInt32 >>> ((10 : Int32) &&& 31).toUInt32).toInt32) &&& (255 : Int32)).toUInt32.toUInt16.toUInt32.toInt32)), .val (.int ((((p0.toUInt32 >>> ((18 : Int32) &&& 31).toUInt32).toInt32) &&& (255 : Int32)).toUInt32.toUInt16.toUInt32.toInt32))] []) ?_
    refine st1 _ ?_
    refine sh (mkF m 57 #[.val (.int p0), .val (.int (1 : Int32)), .val (.int ((((p0.toUInt32 >>> ((2 : Int32) &&& 31).toUInt32).toInt32) &&& (255 : Int32)).toUInt32.toUInt16.toUInt32.toInt32)), .val (.int ((((p0.toUInt32 >>> ((10 : Int32) &&& 31).toUInt32).toInt32) &&& (255 : Int32)).toUInt32.toUInt16.toUInt32.toInt32)), .val (.int ((((p0.toUInt32 >>> ((18 : Int32) &&& 31).toUInt32).toInt32) &&& (255 : Int32)).toUInt32.toUInt16.toUInt32.toInt32))] [(.ref b1)]) ?_
    refine XS.dup X1.here hx rfl (hb hby d6_57) rfl rfl ?_
    refine sh (mkF m 58 #[.val (.int p0), .val (.int (1 : Int32)), .val (.int ((((p0.toUInt32 >>> ((2 : Int32) &&& 31).toUInt32).toInt32) &&& (255 : Int32)).toUInt32.toUInt16.toUInt32.toInt32)), .val (.int ((((p0.toUInt32 >>> ((10 : Int32) &&& 31).toUInt32).toInt32) &&& (255 : Int32)).toUInt32.toUInt16.toUInt32.toInt32)), .val (.int ((((p0.toUInt32 >>> ((18 : Int32) &&& 31).toUInt32).toInt32) &&& (255 : Int32)).toUInt32.toUInt16.toUInt32.toInt32))] [(.ref b1), (.ref b1)]) ?_
    refine XS.iconst X1.here hx rfl (hb hby d6_58) ?_
    refine sh (mkF m 59 #[.val (.int p0), .val (.int (1 : Int32)), .val (.int ((((p0.toUInt32 >>> ((2 : Int32) &&& 31).toUInt32).toInt32) &&& (255 : Int32)).toUInt32.toUInt16.toUInt32.toInt32)), .val (.int ((((p0.toUInt32 >>> ((10 : Int32) &&& 31).toUInt32).toInt32) &&& (255 : Int32)).toUInt32.toUInt16.toUInt32.toInt32)), .val (.int ((((p0.toUInt32 >>> ((18 : Int32) &&& 31).toUInt32).toInt32) &&& (255 : Int32)).toUInt32.toUInt16.toUInt32.toInt32))] [(.int (1 : Int32)), (.ref b1), (.ref b1)]) ?_
    refine st3 _ ?_
    refine sh (mkF m 61 #[.val (.int p0), .val (.int (1 : Int32)), .val (.int ((((p0.toUInt32 >>> ((2 : Int32) &&& 31).toUInt32).toInt32) &&& (255 : Int32)).toUInt32.toUInt16.toUInt32.toInt32)), .val (.int ((((p0.toUInt32 >>> ((10 : Int32) &&& 31).toUInt32).toInt32) &&& (255 : Int32)).toUInt32.toUInt16.toUInt32.toInt32)), .val (.int ((((p0.toUInt32 >>> ((18 : Int32) &&& 31).toUInt32).toInt32) &&& (255 : Int32)).toUInt32.toUInt16.toUInt32.toInt32))] [(.ref b3), (.ref b1), (.ref b1)]) ?_
    refine XS.dup X3.here hx rfl (hb hby d6_61) rfl rfl ?_
    refine sh (mkF m 62 #[.val (.int p0), .val (.int (1 : Int32)), .val (.int ((((p0.toUInt32 >>> ((2 : Int32) &&& 31).toUInt32).toInt32) &&& (255 : Int32)).toUInt32.toUInt16.toUInt32.toInt32)), .val (.int ((((p0.toUInt32 >>> ((10 : Int32) &&& 31).toUInt32).toInt32) &&& (255 : Int32)).toUInt32.toUInt16.toUInt32.toInt32)), .val (.int ((((p0.toUInt32 >>> ((18 : Int32) &&& 31).toUInt32).toInt32) &&& (255 : Int32)).toUInt32.toUInt16.toUInt32.toInt32))] [(.ref b3), (.ref b3), (.ref b1), (.ref b1)]) ?_
    refine XS.iconst X3.here hx rfl (hb hby d6_62) ?_
    refine sh (mkF m 63 #[.val (.int p0), .val (.int (1 : Int32)), .val (.int ((((p0.toUInt32 >>> ((2 : Int32) &&& 31).toUInt32).toInt32) &&& (255 : Int32)).toUInt32.toUInt16.toUInt32.toInt32)), .val (.int ((((p0.toUInt32 >>> ((10 : Int32) &&& 31).toUInt32).toInt32) &&& (255 : Int32)).toUInt32.toUInt16.toUInt32.toInt32)), .val (.int ((((p0.toUInt32 >>> ((18 : Int32) &&& 31).toUInt32).toInt32) &&& (255 : Int32)).toUInt32.toUInt16.toUInt32.toInt32))] [(.int (0 : Int32)), (.ref b3), (.ref b3), (.ref b1), (.ref b1)]) ?_
    refine XS.iloadN X3.here hx rfl (hb hby d6_63) rfl ?_
    refine sh (mkF m 64 #[.val (.int p0), .val (.int (1 : Int32)), .val (.int ((((p0.toUInt32 >>> ((2 : Int32) &&& 31).toUInt32).toInt32) &&& (255 : Int32)).toUInt32.toUInt16.toUInt32.toInt32)), .val (.int ((((p0.toUInt32 >>> ((10 : Int32) &&& 31).toUInt32).toInt32) &&& (255 : Int32)).toUInt32.toUInt16.toUInt32.toInt32)), .val (.int ((((p0.toUInt32 >>> ((18 : Int32) &&& 31).toUInt32).toInt32) &&& (255 : Int32)).toUInt32.toUInt16.toUInt32.toInt32))] [(.int ((((p0.toUInt32 >>> ((2 : Int32) &&& 31).toUInt32).toInt32) &&& (255 : Int32)).toUInt32.toUInt16.toUInt32.toInt32)), (.int (0 : Int32)), (.ref b3), (.ref b3), (.ref b1), (.ref b1)]) ?_
    refine st5 _ ?_
    refine sh (mkF m 65 #[.val (.int p0), .val (.int (1 : Int32)), .val (.int ((((p0.toUInt32 >>> ((2 : Int32) &&& 31).toUInt32).toInt32) &&& (255 : Int32)).toUInt32.toUInt16.toUInt32.toInt32)), .val (.int ((((p0.toUInt32 >>> ((10 : Int32) &&& 31).toUInt32).toInt32) &&& (255 : Int32)).toUInt32.toUInt16.toUInt32.toInt32)), .val (.int ((((p0.toUInt32 >>> ((18 : Int32) &&& 31).toUInt32).toInt32) &&& (255 : Int32)).toUInt32.toUInt16.toUInt32.toInt32))] [(.ref b3), (.ref b1), (.ref b1)]) ?_
    refine st6.trans ?_
    refine sh (mkF m 68 #[.val (.int p0), .val (.int (1 : Int32)), .val (.int ((((p0.toUInt32 >>> ((2 : Int32) &&& 31).toUInt32).toInt32) &&& (255 : Int32)).toUInt32.toUInt16.toUInt32.toInt32)), .val (.int ((((p0.toUInt32 >>> ((10 : Int32) &&& 31).toUInt32).toInt32) &&& (255 : Int32)).toUInt32.toUInt16.toUInt32.toInt32)), .val (.int ((((p0.toUInt32 >>> ((18 : Int32) &&& 31).toUInt32).toInt32) &&& (255 : Int32)).toUInt32.toUInt16.toUInt32.toInt32))] [(.ref b1)]) ?_
    exact retOut X6 hx Bd.returns rfl (Or.inr (Or.inr (Or.inr (Or.inr ⟨rfl, rfl, rfl⟩)))) (hb hby d6_68) hr
  · show Q_rmTX1 Z p0 s_CS h0 n0 _ T6.heap _
    exact ⟨b1, vb_6, kb_6, rfl, N6, (Nat.le_trans (Nat.le_refl h0.size) (Nat.le_of_eq g1.symm)), (((((Keep.refl h0 []).ext E1).ext E3).wr W5 (Or.inr (Nat.le_trans (Nat.le_trans (Nat.le_refl h0.size) E1.1) (Nat.le_of_eq g3.symm)))).trans Kp6 (allS (Or.inr (Nat.le_trans (Nat.le_refl h0.size) (Nat.le_of_eq g1.symm))) all0)), Fq6_0, Fq6_1, Fq6_2, Vz⟩
def Q_rmTX2 (Z : State) (p0 : Int32) (s_CS : Int32) (h0 : Heap) (n0 : Nat) (v : Option Value) (h : Heap) (L : List Loc) : Prop := ∃ nb : Addr, ∃ vb : Addr, ∃ kb : ClassId, v = some (.ref nb) ∧ Fr n0 L ∧ h0.size ≤ nb ∧ Keep h0 h [] ∧ Exa Z h nb "java/lang/String" ∧ Fld Z h nb "java/lang/String" "value" "[B" (.ref vb) ∧ Fld Z h nb "java/lang/String" "coder" "B" (.int (0 : Int32)) ∧ Arv Z h vb kb .byte (p0 &&& (3 : Int32)) (own_vs p0) (.int (0 : Int32))
theorem ef_rmTX2 (m : MethodId) (p0 : Int32) : entryFrame m #[(.int p0)] 5 = mkF m 0 #[.val (.int p0), .unset, .unset, .unset, .unset] [] := by first | (simp [entryFrame, mkF, argsToLocals, Value.category]; done) | rfl
set_option maxRecDepth 65536 in
set_option maxHeartbeats 40000000 in
theorem rmTX2 (l : Launch) (Z : State) (a0 : Array Value) (hw : ∀ d ∈ tables_1, d.before a0 Z = true) (ws : List Jvm.Cond) (p0 : Int32) (s_CS : Int32) (h0 : Heap) (n0 : Nat) (Z0 : n0 ≤ h0.size) (S_CS : Sta Z h0 "java/lang/String" "COMPACT_STRINGS" "Z" (.int s_CS)) (hcs : ¬ (s_CS = (0 : Int32))) (hn : (p0 &&& (3 : Int32)) = (2 : Int32)) :
    MetFree l (⟨"com/example/wirewright/bench/RunPrintedPinLaw", "text", "(I)Ljava/lang/String;"⟩ : MethodName) (head1 (Jvm.Cond.code (⟨"com/example/wirewright/bench/RunPrintedPinLaw", "text", "(I)Ljava/lang/String;"⟩ : MethodName) method_2_code 5 (some (.object "java/lang/String")) :: ws) ({ frames := 4, cells := 6, slots := 12, locals := 66 } : Room)) (fun a U => a = #[(.int p0)] ∧ Z.Warmed39 U.vm ∧ U.heap = h0 ∧ CHv Z own_EL U.vm h0) (fun _ _ _ _ _ => True) (fun _ U o U' => ∃ v L, o = .returned v ∧ Q_rmTX2 Z p0 s_CS h0 n0 v U'.heap L ∧ CHr Z own_EL U.vm U.heap U'.vm U'.heap ∧ ReturnedEndW U o U' L ({ frames := 4, cells := 6, slots := 12, locals := 66 } : Room).cells ({ frames := 4, cells := 6, slots := 12, locals := 66 } : Room).slots) := by
  refine MetFree.of_bodySF (plainFor_of_name pn_3) hisR ?_
  intro p e s m args below meth c s₁ Bd hml0 hP hK
  obtain ⟨rfl, hZ, hh, hCH⟩ := hP
  have hx := Bd.exec
  have hby := Bd.bytes
  have hml : c.maxLocals = 5 := hml0
  have hown : s.vm.findClass "com/example/wirewright/bench/RunPrintedPinLaw" = some m.cls := findClass_of_methodNamed Bd.named
  have hnm := (name_of_methodNamed Bd.named Bd.method).1
  have X0 : Stand p l e ({ frames := 4, cells := 6, slots := 12, locals := 66 } : Room) s m #[(.int p0)] below meth c s₁ [] 0 0 := Stand.of_body Bd
  have e0 : s₁.heap = h0 := by rw [← hh, Bd.state]; rfl
  have N0 := Fr.nil n0
  have hS0 := (State.WarmedH.refl s).since 0
  have pre0 : ∀ t, Steps p.tables e below (s₁.setTop (mkF m 0 #[.val (.int p0), .unset, .unset, .unset, .unset] [])) t → Steps p.tables e below (s₁.setTop (entryFrame m #[(.int p0)] 5)) t := fun t k => castTop (ef_rmTX2 m p0) k
  obtain ⟨T1, h1, X1, e1, E1, A1, D1, -, st1⟩ := newO X0 hx hZ hown (ow hw 4 rfl) (ow hw 5 rfl) (ow hw 6 rfl) e0 (g := (mkF m 74 #[.val (.int p0), .val (.int (2 : Int32)), .val (.int ((((p0.toUInt32 >>> ((2 : Int32) &&& 31).toUInt32).toInt32) &&& (255 : Int32)).toUInt32.toUInt16.toUInt32.toInt32)), .val (.int ((((p0.toUInt32 >>> ((10 : Int32) &&& 31).toUInt32).toInt32) &&& (255 : Int32)).toUInt32.toUInt16.toUInt32.toInt32)), .val (.int ((((p0.toUInt32 >>> ((18 : Int32) &&& 31).toUInt32).toInt32) &&& (255 : Int32)).toUInt32.toUInt16.toUInt32.toInt32))] [])) rfl (hb hby d6_74) (by decide) (by decide)
  obtain ⟨b1, g1⟩ : ∃ z, z = h0.size := ⟨_, rfl⟩
  rw [← g1] at A1 D1 st1
  have F1_2 : Fld Z h1 b1 "java/lang/String" "coder" "B" (.int (0 : Int32)) := D1 (Or.inr (ow hw 31 rfl)) (ty := .byte) (by decide)
  have F1_3 : Fld Z h1 b1 "java/lang/String" "value" "[B" .null := D1 (Or.inr (ow hw 33 rfl)) (ty := (.array .byte)) (by decide)
  have SN2 := Safe.ext E1 hCH (Safe.new (vm := s.vm) (Z := Z) (EL := own_EL) (Nat.le_of_eq g1.symm))
  have CR0_2 := CHr.trans (CHr.refl hCH) (CHr.ext E1 hCH)
  have CV0_2 := CHv.ext E1 hCH
  obtain ⟨T3, h3, k3, X3, e3, E3, A3, st3⟩ := newP X1 hx hZ (ow hw 7 rfl) e1 (g := (mkF m 79 #[.val (.int p0), .val (.int (2 : Int32)), .val (.int ((((p0.toUInt32 >>> ((2 : Int32) &&& 31).toUInt32).toInt32) &&& (255 : Int32)).toUInt32.toUInt16.toUInt32.toInt32)), .val (.int ((((p0.toUInt32 >>> ((10 : Int32) &&& 31).toUInt32).toInt32) &&& (255 : Int32)).toUInt32.toUInt16.toUInt32.toInt32)), .val (.int ((((p0.toUInt32 >>> ((18 : Int32) &&& 31).toUInt32).toInt32) &&& (255 : Int32)).toUInt32.toUInt16.toUInt32.toInt32))] [(.int (2 : Int32)), (.ref b1), (.ref b1)])) rfl (hb hby d6_79) rfl (by decide) (cap := 2) (by decide) (by decide) (by decide) (by decide)
  obtain ⟨b3, g3⟩ : ∃ z, z = h1.size := ⟨_, rfl⟩
  rw [← g3] at A3 st3
  have V3 : Arv Z h3 b3 k3 .char (2 : Int32) [(.int (0 : Int32)), (.int (0 : Int32))] (.int (0 : Int32)) := (Arv.new A3 (by decide)).pad (pad_rep [] (.int (0 : Int32)) 2)
  have SN4 := Safe.ext E3 CV0_2 (Safe.new (vm := s.vm) (Z := Z) (EL := own_EL) (Nat.le_of_eq g3.symm))
  have CR1_4 := CHr.trans CR0_2 (CHr.ext E3 CV0_2)
  have SF1_4_b1 := Safe.ext E3 CV0_2 SN2
  have CV1_4 := CHv.ext E3 CV0_2
  have Vc5 := V3
  obtain ⟨cl5, Ar5, q5, S5, M5, H5, G5⟩ := Vc5
  have hin5 : ¬ ((0 : Int32) < 0 ∨ cl5.slots.size ≤ ((0 : Int32)).toNatClampNeg) := inb_of S5 ⟨by decide, by decide⟩
  obtain ⟨T5, h5, X5, e5, W5, st5⟩ := stC X3 hx hZ e3 Ar5 (j := (0 : Int32)) hin5 (g := (mkF m 84 #[.val (.int p0), .val (.int (2 : Int32)), .val (.int ((((p0.toUInt32 >>> ((2 : Int32) &&& 31).toUInt32).toInt32) &&& (255 : Int32)).toUInt32.toUInt16.toUInt32.toInt32)), .val (.int ((((p0.toUInt32 >>> ((10 : Int32) &&& 31).toUInt32).toInt32) &&& (255 : Int32)).toUInt32.toUInt16.toUInt32.toInt32)), .val (.int ((((p0.toUInt32 >>> ((18 : Int32) &&& 31).toUInt32).toInt32) &&& (255 : Int32)).toUInt32.toUInt16.toUInt32.toInt32))] [(.int ((((p0.toUInt32 >>> ((2 : Int32) &&& 31).toUInt32).toInt32) &&& (255 : Int32)).toUInt32.toUInt16.toUInt32.toInt32)), (.int (0 : Int32)), (.ref b3), (.ref b3), (.ref b1), (.ref b1)])) rfl rfl (hb hby d6_84)
  have V5 : Arv Z h5 b3 k3 .char (2 : Int32) [(.int (nar .char ((((p0.toUInt32 >>> ((2 : Int32) &&& 31).toUInt32).toInt32) &&& (255 : Int32)).toUInt32.toUInt16.toUInt32.toInt32))), (.int (0 : Int32))] (.int (0 : Int32)) := Arv.set Ar5 q5 S5 M5 H5 G5 (fits_nar_char _) W5 0 rfl (Nat.le_of_ble_eq_true rfl)
  have N5 := Fr.snoc X5 N0 (Nat.le_trans (Nat.le_trans Z0 E1.1) (Nat.le_of_eq g3.symm))
  have Vc6 := V5
  obtain ⟨cl6, Ar6, q6, S6, M6, H6, G6⟩ := Vc6
  have hin6 : ¬ ((1 : Int32) < 0 ∨ cl6.slots.size ≤ ((1 : Int32)).toNatClampNeg) := inb_of S6 ⟨by decide, by decide⟩
  obtain ⟨T6, h6, X6, e6, W6, st6⟩ := stC X5 hx hZ e5 Ar6 (j := (1 : Int32)) hin6 (g := (mkF m 88 #[.val (.int p0), .val (.int (2 : Int32)), .val (.int ((((p0.toUInt32 >>> ((2 : Int32) &&& 31).toUInt32).toInt32) &&& (255 : Int32)).toUInt32.toUInt16.toUInt32.toInt32)), .val (.int ((((p0.toUInt32 >>> ((10 : Int32) &&& 31).toUInt32).toInt32) &&& (255 : Int32)).toUInt32.toUInt16.toUInt32.toInt32)), .val (.int ((((p0.toUInt32 >>> ((18 : Int32) &&& 31).toUInt32).toInt32) &&& (255 : Int32)).toUInt32.toUInt16.toUInt32.toInt32))] [(.int ((((p0.toUInt32 >>> ((10 : Int32) &&& 31).toUInt32).toInt32) &&& (255 : Int32)).toUInt32.toUInt16.toUInt32.toInt32)), (.int (1 : Int32)), (.ref b3), (.ref b3), (.ref b1), (.ref b1)])) rfl rfl (hb hby d6_88)
  have V6 : Arv Z h6 b3 k3 .char (2 : Int32) [(.int (nar .char ((((p0.toUInt32 >>> ((2 : Int32) &&& 31).toUInt32).toInt32) &&& (255 : Int32)).toUInt32.toUInt16.toUInt32.toInt32))), (.int (nar .char ((((p0.toUInt32 >>> ((10 : Int32) &&& 31).toUInt32).toInt32) &&& (255 : Int32)).toUInt32.toUInt16.toUInt32.toInt32)))] (.int (0 : Int32)) := Arv.set Ar6 q6 S6 M6 H6 G6 (fits_nar_char _) W6 1 rfl (Nat.le_of_ble_eq_true rfl)
  have N6 := Fr.snoc X6 N5 (Nat.le_trans (Nat.le_trans Z0 E1.1) (Nat.le_of_eq g3.symm))
  have f8 : Sta Z h6 "java/lang/String" "COMPACT_STRINGS" "Z" (.int s_CS) := ((((S_CS.ext E1).ext E3).wr W5).wr W6)
  have f9 : Exa Z h6 b1 "java/lang/String" := (((A1.ext E3).wr W5).wr W6)
  have f10 : Fld Z h6 b1 "java/lang/String" "value" "[B" .null := (((F1_3.ext E3).other W5 (Or.inl (Nat.ne_of_lt (Nat.lt_of_lt_of_le A1.lt (Nat.le_of_eq g3.symm))))).other W6 (Or.inl (Nat.ne_of_lt (Nat.lt_of_lt_of_le A1.lt (Nat.le_of_eq g3.symm)))))
  have f11 : Fld Z h6 b1 "java/lang/String" "coder" "B" (.int (0 : Int32)) := (((F1_2.ext E3).other W5 (Or.inl (Nat.ne_of_lt (Nat.lt_of_lt_of_le A1.lt (Nat.le_of_eq g3.symm))))).other W6 (Or.inl (Nat.ne_of_lt (Nat.lt_of_lt_of_le A1.lt (Nat.le_of_eq g3.symm)))))
  obtain ⟨_, _, ⟨T7, L7, k7, n7⟩, -, X7, ⟨Lc7, hQ7, l7, y7, z7⟩, st7⟩ := X6.specialBack hx (y := (⟨"java/lang/String", "<init>", "([C)V"⟩ : MethodName)) rfl hown (mvT hZ (ow hw 8 rfl)) (mvT hZ (ow hw 9 rfl)) (mvT hZ (ow hw 10 rfl)) (by decide) (backOf (W := 1) (rmCA2 l Z a0 hw [] b1 b3 .null (.int (0 : Int32)) s_CS (nar .char ((((p0.toUInt32 >>> ((2 : Int32) &&& 31).toUInt32).toInt32) &&& (255 : Int32)).toUInt32.toUInt16.toUInt32.toInt32)) (nar .char ((((p0.toUInt32 >>> ((10 : Int32) &&& 31).toUInt32).toInt32) &&& (255 : Int32)).toUInt32.toUInt16.toUInt32.toInt32)) k3 h6 n0 (Nat.le_trans (Nat.le_trans (Nat.le_trans (Nat.le_trans Z0 E1.1) E3.1) (Keep.of_wr W5).1) (Keep.of_wr W6).1) f8 hcs V6 (own_g _) (own_g _) f9 f10 f11 (Nat.le_trans Z0 (Nat.le_of_eq g1.symm))) hZ (ow hw 10 rfl) (ow hw 6 rfl) (by decide) (by decide)) (g := (mkF m 89 #[.val (.int p0), .val (.int (2 : Int32)), .val (.int ((((p0.toUInt32 >>> ((2 : Int32) &&& 31).toUInt32).toInt32) &&& (255 : Int32)).toUInt32.toUInt16.toUInt32.toInt32)), .val (.int ((((p0.toUInt32 >>> ((10 : Int32) &&& 31).toUInt32).toInt32) &&& (255 : Int32)).toUInt32.toUInt16.toUInt32.toInt32)), .val (.int ((((p0.toUInt32 >>> ((18 : Int32) &&& 31).toUInt32).toInt32) &&& (255 : Int32)).toUInt32.toUInt16.toUInt32.toInt32))] [(.ref b3), (.ref b1), (.ref b1)])) rfl (by rw [hml]; rfl) (Steps.refl _) (a := b1) (argsL := [(.ref b3)]) (rest := [(.ref b1)]) (lenOf pd_4 rfl) rfl (by show 2 * 0 + _ ≤ _; exact Nat.le_of_eq rfl) (hb hby d6_89) (fun _ _ => ⟨rfl, e6, (by decide : 2 + 1 ≤ _), (by decide : 6 + 2 ≤ _)⟩)
  dsimp only [Pt.U, Pt.locs, Pt.cells, Pt.slots] at X7 l7 y7 z7 st7 hQ7
  subst l7 y7 z7
  obtain ⟨vb_7, kb_7, rfl, Nq7, gb7_0, Kp7, Fq7_0, Fq7_1, Fq7_2, Fq7_3⟩ := hQ7
  have N7 := Fr.app N6 Nq7
  have Vz : Arv Z T7.heap vb_7 kb_7 .byte (p0 &&& (3 : Int32)) (own_vs p0) (.int (0 : Int32)) := by rw [hn, own_vs_2 hn]; exact Fq7_3
  have CR2_11 := CHr.trans CR1_4 (CHr.wr W5 SN4 CV1_4)
  have SF2_11_b1 := Safe.wr W5 SN4 CV1_4 SF1_4_b1
  have SF2_11_b3 := Safe.wr W5 SN4 CV1_4 SN4
  have CV2_11 := CHv.wr W5 SN4 CV1_4
  have CR3_11 := CHr.trans CR2_11 (CHr.wr W6 SF2_11_b3 CV2_11)
  have SF3_11_b1 := Safe.wr W6 SF2_11_b3 CV2_11 SF2_11_b1
  have SF3_11_b3 := Safe.wr W6 SF2_11_b3 CV2_11 SF2_11_b3
  have CV3_11 := CHv.wr W6 SF2_11_b3 CV2_11
  have CR4_11 := CHr.trans CR3_11 (CHr.keep Kp7 (sfS SF3_11_b1 sf0) CV3_11)
  have SF4_11_b1 := Safe.keep Kp7 (sfS SF3_11_b1 sf0) CV3_11 SF3_11_b1
  have SF4_11_b3 := Safe.keep Kp7 (sfS SF3_11_b1 sf0) CV3_11 SF3_11_b3
  have CV4_11 := CHv.keep Kp7 (sfS SF3_11_b1 sf0) CV3_11
  obtain ⟨fs, hr, hrun, hended, hRW⟩ := X7.leaveW (s := s) hS0 (Nat.le_trans (Nat.le_trans (Nat.le_trans (Nat.le_trans (Nat.le_trans (Nat.zero_le _) E1.1) E3.1) (Keep.of_wr W5).1) (Keep.of_wr W6).1) Kp7.1) (v := some (.ref b1)) (fun h => by rw [Bd.returns] at h; cases h)
  refine ⟨_, _, pre0 _ ?_, hrun, hended, _, _, rfl, ?_, (by show CHr Z own_EL s.vm s.heap T7.vm T7.heap; rw [hh]; exact CHr.trans CR4_11 (CHv.at (s := s) (vm0 := s.vm) X7 hZ (own_EW hw) CV4_11)), hRW.1, hRW.2.1, hRW.2.2.1, hRW.2.2.2.mono (by decide) (by decide)⟩
  · refine sh (mkF m 0 #[.val (.int p0), .unset, .unset, .unset, .unset] []) ?_
    refine XS.iloadN X0.here hx rfl (hb hby d6_0) rfl ?_
    refine sh (mkF m 1 #[.val (.int p0), .unset, .unset, .unset, .unset] [(.int p0)]) ?_
    refine XS.iconst X0.here hx rfl (hb hby d6_1) ?_
    refine sh (mkF m 2 #[.val (.int p0), .unset, .unset, .unset, .unset] [(.int (3 : Int32)), (.int p0)]) ?_
    refine XS.iand X0.here hx rfl (hb hby d6_2) rfl ?_
    refine sh (mkF m 3 #[.val (.int p0), .unset, .unset, .unset, .unset] [(.int (p0 &&& (3 : Int32)))]) ?_
    rw [hn]
    refine sh (mkF m 3 #[.val (.int p0), .unset, .unset, .unset, .unset] [(.int (2 : Int32))]) ?_
    refine XS.istoreN X0.here hx rfl (hb hby d6_3) rfl (l' := #[.val (.int p0), .val (.int (2 : Int32)), .unset, .unset, .unset]) rfl ?_
    refine sh (mkF m 4 #[.val (.int p0), .val (.int (2 : Int32)), .unset, .unset, .unset] []) ?_
    refine XS.iloadN X0.here hx rfl (hb hby d6_4) rfl ?_
    refine sh (mkF m 5 #[.val (.int p0), .val (.int (2 : Int32)), .unset, .unset, .unset] [(.int p0)]) ?_
    refine XS.iconst X0.here hx rfl (hb hby d6_5) ?_
    refine sh (mkF m 6 #[.val (.int p0), .val (.int (2 : Int32)), .unset, .unset, .unset] [(.int (2 : Int32)), (.int p0)]) ?_
    refine XS.iushr X0.here hx rfl (hb hby d6_6) rfl ?_
    refine sh (mkF m 7 #[.val (.int p0), .val (.int (2 : Int32)), .unset, .unset, .unset] [(.int ((p0.toUInt32 >>> ((2 : Int32) &&& 31).toUInt32).toInt32))]) ?_
    refine XS.sipush X0.here hx rfl (hb hby d6_7) ?_
    refine sh (mkF m 10 #[.val (.int p0), .val (.int (2 : Int32)), .unset, .unset, .unset] [(.int (255 : Int32)), (.int ((p0.toUInt32 >>> ((2 : Int32) &&& 31).toUInt32).toInt32))]) ?_
    refine XS.iand X0.here hx rfl (hb hby d6_10) rfl ?_
    refine sh (mkF m 11 #[.val (.int p0), .val (.int (2 : Int32)), .unset, .unset, .unset] [(.int (((p0.toUInt32 >>> ((2 : Int32) &&& 31).toUInt32).toInt32) &&& (255 : Int32)))]) ?_
    refine XS.i2c X0.here hx rfl (hb hby d6_11) rfl ?_
    refine sh (mkF m 12 #[.val (.int p0), .val (.int (2 : Int32)), .unset, .unset, .unset] [(.int ((((p0.toUInt32 >>> ((2 : Int32) &&& 31).toUInt32).toInt32) &&& (255 : Int32)).toUInt32.toUInt16.toUInt32.toInt32))]) ?_
    refine XS.istoreN X0.here hx rfl (hb hby d6_12) rfl (l' := #[.val (.int p0), .val (.int (2 : Int32)), .val (.int ((((p0.toUInt32 >>> ((2 : Int32) &&& 31).toUInt32).toInt32) &&& (255 : Int32)).toUInt32.toUInt16.toUInt32.toInt32)), .unset, .unset]) rfl ?_
    refine sh (mkF m 13 #[.val (.int p0), .val (.int (2 : Int32)), .val (.int ((((p0.toUInt32 >>> ((2 : Int32) &&& 31).toUInt32).toInt32) &&& (255 : Int32)).toUInt32.toUInt16.toUInt32.toInt32)), .unset, .unset] []) ?_
    refine XS.iloadN X0.here hx rfl (hb hby d6_13) rfl ?_
    refine sh (mkF m 14 #[.val (.int p0), .val (.int (2 : Int32)), .val (.int ((((p0.toUInt32 >>> ((2 : Int32) &&& 31).toUInt32).toInt32) &&& (255 : Int32)).toUInt32.toUInt16.toUInt32.toInt32)), .unset, .unset] [(.int p0)]) ?_
    refine XS.bipush X0.here hx rfl (hb hby d6_14) ?_
    refine sh (mkF m 16 #[.val (.int p0), .val (.int (2 : Int32)), .val (.int ((((p0.toUInt32 >>> ((2 : Int32) &&& 31).toUInt32).toInt32) &&& (255 : Int32)).toUInt32.toUInt16.toUInt32.toInt32)), .unset, .unset] [(.int (10 : Int32)), (.int p0)]) ?_
    refine XS.iushr X0.here hx rfl (hb hby d6_16) rfl ?_
    refine sh (mkF m 17 #[.val (.int p0), .val (.int (2 : Int32)), .val (.int ((((p0.toUInt32 >>> ((2 : Int32) &&& 31).toUInt32).toInt32) &&& (255 : Int32)).toUInt32.toUInt16.toUInt32.toInt32)), .unset, .unset] [(.int ((p0.toUInt32 >>> ((10 : Int32) &&& 31).toUInt32).toInt32))]) ?_
    refine XS.sipush X0.here hx rfl (hb hby d6_17) ?_
    refine sh (mkF m 20 #[.val (.int p0), .val (.int (2 : Int32)), .val (.int ((((p0.toUInt32 >>> ((2 : Int32) &&& 31).toUInt32).toInt32) &&& (255 : Int32)).toUInt32.toUInt16.toUInt32.toInt32)), .unset, .unset] [(.int (255 : Int32)), (.int ((p0.toUInt32 >>> ((10 : Int32) &&& 31).toUInt32).toInt32))]) ?_
    refine XS.iand X0.here hx rfl (hb hby d6_20) rfl ?_
    refine sh (mkF m 21 #[.val (.int p0), .val (.int (2 : Int32)), .val (.int ((((p0.toUInt32 >>> ((2 : Int32) &&& 31).toUInt32).toInt32) &&& (255 : Int32)).toUInt32.toUInt16.toUInt32.toInt32)), .unset, .unset] [(.int (((p0.toUInt32 >>> ((10 : Int32) &&& 31).toUInt32).toInt32) &&& (255 : Int32)))]) ?_
    refine XS.i2c X0.here hx rfl (hb hby d6_21) rfl ?_
    refine sh (mkF m 22 #[.val (.int p0), .val (.int (2 : Int32)), .val (.int ((((p0.toUInt32 >>> ((2 : Int32) &&& 31).toUInt32).toInt32) &&& (255 : Int32)).toUInt32.toUInt16.toUInt32.toInt32)), .unset, .unset] [(.int ((((p0.toUInt32 >>> ((10 : Int32) &&& 31).toUInt32).toInt32) &&& (255 : Int32)).toUInt32.toUInt16.toUInt32.toInt32))]) ?_
    refine XS.istoreN X0.here hx rfl (hb hby d6_22) rfl (l' := #[.val (.int p0), .val (.int (2 : Int32)), .val (.int ((((p0.toUInt32 >>> ((2 : Int32) &&& 31).toUInt32).toInt32) &&& (255 : Int32)).toUInt32.toUInt16.toUInt32.toInt32)), .val (.int ((((p0.toUInt32 >>> ((10 : Int32) &&& 31).toUInt32).toInt32) &&& (255 : Int32)).toUInt32.toUInt16.toUInt32.toInt32)), .unset]) rfl ?_
    refine sh (mkF m 23 #[.val (.int p0), .val (.int (2 : Int32)), .val (.int ((((p0.toUInt32 >>> ((2 : Int32) &&& 31).toUInt32).toInt32) &&& (255 : Int32)).toUInt32.toUInt16.toUInt32.toInt32)), .val (.int ((((p0.toUInt32 >>> ((10 : Int32) &&& 31).toUInt32).toInt32) &&& (255 : Int32)).toUInt32.toUInt16.toUInt32.toInt32)), .unset] []) ?_
    refine XS.iloadN X0.here hx rfl (hb hby d6_23) rfl ?_
    refine sh (mkF m 24 #[.val (.int p0), .val (.int (2 : Int32)), .val (.int ((((p0.toUInt32 >>> ((2 : Int32) &&& 31).toUInt32).toInt32) &&& (255 : Int32)).toUInt32.toUInt16.toUInt32.toInt32)), .val (.int ((((p0.toUInt32 >>> ((10 : Int32) &&& 31).toUInt32).toInt32) &&& (255 : Int32)).toUInt32.toUInt16.toUInt32.toInt32)), .unset] [(.int p0)]) ?_
    refine XS.bipush X0.here hx rfl (hb hby d6_24) ?_
    refine sh (mkF m 26 #[.val (.int p0), .val (.int (2 : Int32)), .val (.int ((((p0.toUInt32 >>> ((2 : Int32) &&& 31).toUInt32).toInt32) &&& (255 : Int32)).toUInt32.toUInt16.toUInt32.toInt32)), .val (.int ((((p0.toUInt32 >>> ((10 : Int32) &&& 31).toUInt32).toInt32) &&& (255 : Int32)).toUInt32.toUInt16.toUInt32.toInt32)), .unset] [(.int (18 : Int32)), (.int p0)]) ?_
    refine XS.iushr X0.here hx rfl (hb hby d6_26) rfl ?_
    refine sh (mkF m 27 #[.val (.int p0), .val (.int (2 : Int32)), .val (.int ((((p0.toUInt32 >>> ((2 : Int32) &&& 31).toUInt32).toInt32) &&& (255 : Int32)).toUInt32.toUInt16.toUInt32.toInt32)), .val (.int ((((p0.toUInt32 >>> ((10 : Int32) &&& 31).toUInt32).toInt32) &&& (255 : Int32)).toUInt32.toUInt16.toUInt32.toInt32)), .unset] [(.int ((p0.toUInt32 >>> ((18 : Int32) &&& 31).toUInt32).toInt32))]) ?_
    refine XS.sipush X0.here hx rfl (hb hby d6_27) ?_
    refine sh (mkF m 30 #[.val (.int p0), .val (.int (2 : Int32)), .val (.int ((((p0.toUInt32 >>> ((2 : Int32) &&& 31).toUInt32).toInt32) &&& (255 : Int32)).toUInt32.toUInt16.toUInt32.toInt32)), .val (.int ((((p0.toUInt32 >>> ((10 : Int32) &&& 31).toUInt32).toInt32) &&& (255 : Int32)).toUInt32.toUInt16.toUInt32.toInt32)), .unset] [(.int (255 : Int32)), (.int ((p0.toUInt32 >>> ((18 : Int32) &&& 31).toUInt32).toInt32))]) ?_
    refine XS.iand X0.here hx rfl (hb hby d6_30) rfl ?_
    refine sh (mkF m 31 #[.val (.int p0), .val (.int (2 : Int32)), .val (.int ((((p0.toUInt32 >>> ((2 : Int32) &&& 31).toUInt32).toInt32) &&& (255 : Int32)).toUInt32.toUInt16.toUInt32.toInt32)), .val (.int ((((p0.toUInt32 >>> ((10 : Int32) &&& 31).toUInt32).toInt32) &&& (255 : Int32)).toUInt32.toUInt16.toUInt32.toInt32)), .unset] [(.int (((p0.toUInt32 >>> ((18 : Int32) &&& 31).toUInt32).toInt32) &&& (255 : Int32)))]) ?_
    refine XS.i2c X0.here hx rfl (hb hby d6_31) rfl ?_
    refine sh (mkF m 32 #[.val (.int p0), .val (.int (2 : Int32)), .val (.int ((((p0.toUInt32 >>> ((2 : Int32) &&& 31).toUInt32).toInt32) &&& (255 : Int32)).toUInt32.toUInt16.toUInt32.toInt32)), .val (.int ((((p0.toUInt32 >>> ((10 : Int32) &&& 31).toUInt32).toInt32) &&& (255 : Int32)).toUInt32.toUInt16.toUInt32.toInt32)), .unset] [(.int ((((p0.toUInt32 >>> ((18 : Int32) &&& 31).toUInt32).toInt32) &&& (255 : Int32)).toUInt32.toUInt16.toUInt32.toInt32))]) ?_
    refine XS.istore X0.here hx rfl (hb hby d6_32) rfl (l' := #[.val (.int p0), .val (.int (2 : Int32)), .val (.int ((((p0.toUInt32 >>> ((2 : Int32) &&& 31).toUInt32).toInt32) &&& (255 : Int32)).toUInt32.toUInt16.toUInt32.toInt32)), .val (.int ((((p0.toUInt32 >>> ((10 : Int32) &&& 31).toUInt32).toInt32) &&& (255 : Int32)).toUInt32.toUInt16.toUInt32.toInt32)), .val (.int ((((p0.toUInt32 >>> ((18 : Int32) &&& 31).toUInt32).toInt32) &&& (255 : Int32)).toUInt32.toUInt16.toUInt32.toInt32))]) rfl ?_
    refine sh (mkF m 34 #[.val (.int p0), .val (.int (2 : Int32)), .val (.int ((((p0.toUInt32 >>> ((2 : Int32) &&& 31).toUInt32).toInt32) &&& (255 : Int32)).toUInt32.toUInt16.toUInt32.toInt32)), .val (.int ((((p0.toUInt32 >>> ((10 : Int32) &&& 31).toUInt32).toInt32) &&& (255 : Int32)).toUInt32.toUInt16.toUInt32.toInt32)), .val (.int ((((p0.toUInt32 >>> ((18 : Int32) &&& 31).toUInt32).toInt32) &&& (255 : Int32)).toUInt32.toUInt16.toUInt32.toInt32))] []) ?_
    refine XS.iloadN X0.here hx rfl (hb hby d6_34) rfl ?_
    refine sh (mkF m 35 #[.val (.int p0), .val (.int (2 : Int32)), .val (.int ((((p0.toUInt32 >>> ((2 : Int32) &&& 31).toUInt32).toInt32) &&& (255 : Int32)).toUInt32.toUInt16.toUInt32.toInt32)), .val (.int ((((p0.toUInt32 >>> ((10 : Int32) &&& 31).toUInt32).toInt32) &&& (255 : Int32)).toUInt32.toUInt16.toUInt32.toInt32)), .val (.int ((((p0.toUInt32 >>> ((18 : Int32) &&& 31).toUInt32).toInt32) &&& (255 : Int32)).toUInt32.toUInt16.toUInt32.toInt32))] [(.int (2 : Int32))]) ?_
    refine XS.ifYes X0.here hx rfl (pc0 := 35) (pc' := 49) rfl (hb hby d6_35) rfl ((if0 _ _).trans (feq (by decide : ¬ ((2 : Int32) = (0 : Int32)))).2) (by decide) (by decide) ?_
    refine sh (mkF m 49 #[.val (.int p0), .val (.int (2 : Int32)), .val (.int ((((p0.toUInt32 >>> ((2 : Int32) &&& 31).toUInt32).toInt32) &&& (255 : Int32)).toUInt32.toUInt16.toUInt32.toInt32)), .val (.int ((((p0.toUInt32 >>> ((10 : Int32) &&& 31).toUInt32).toInt32) &&& (255 : Int32)).toUInt32.toUInt16.toUInt32.toInt32)), .val (.int ((((p0.toUInt32 >>> ((18 : Int32) &&& 31).toUInt32).toInt32) &&& (255 : Int32)).toUInt32.toUInt16.toUInt32.toInt32))] []) ?_
    refine XS.iloadN X0.here hx rfl (hb hby d6_49) rfl ?_
    refine sh (mkF m 50 #[.val (.int p0), .val (.int (2 : Int32)), .val (.int ((((p0.toUInt32 >>> ((2 : Int32) &&& 31).toUInt32).toInt32) &&& (255 : Int32)).toUInt32.toUInt16.toUInt32.toInt32)), .val (.int ((((p0.toUInt32 >>> ((10 : Int32) &&& 31).toUInt32).toInt32) &&& (255 : Int32)).toUInt32.toUInt16.toUInt32.toInt32)), .val (.int ((((p0.toUInt32 >>> ((18 : Int32) &&& 31).toUInt32).toInt32) &&& (255 : Int32)).toUInt32.toUInt16.toUInt32.toInt32))] [(.int (2 : Int32))]) ?_
    refine XS.iconst X0.here hx rfl (hb hby d6_50) ?_
    refine sh (mkF m 51 #[.val (.int p0), .val (.int (2 : Int32)), .val (.int ((((p0.toUInt32 >>> ((2 : Int32) &&& 31).toUInt32).toInt32) &&& (255 : Int32)).toUInt32.toUInt16.toUInt32.toInt32)), .val (.int ((((p0.toUInt32 >>> ((10 : Int32) &&& 31).toUInt32).toInt32) &&& (255 : Int32)).toUInt32.toUInt16.toUInt32.toInt32)), .val (.int ((((p0.toUInt32 >>> ((18 : Int32) &&& 31).toUInt32).toInt32) &&& (255 : Int32)).toUInt32.toUInt16.toUInt32.toInt32))] [(.int (1 : Int32)), (.int (2 : Int32))]) ?_
    refine XS.icmpYes X0.here hx rfl (pc0 := 51) (pc' := 69) rfl (hb hby d6_51) rfl (feq (by decide : ¬ ((2 : Int32) = (1 : Int32)))).2 (by decide) (by decide) ?_
    refine sh (mkF m 69 #[.val (.int p0), .val (.int (2 : Int32)), .val (.int ((((p0.toUInt32 >>> ((2 : Int32) &&& 31).toUInt32).toInt32) &&& (255 : Int32)).toUInt32.toUInt16.toUInt32.toInt32)), .val (.int ((((p0.toUInt32 >>> ((10 : Int32) &&& 31).toUInt32).toInt32) &&& (255 : Int32)).toUInt32.toUInt16.toUInt32.toInt32)), .val (.int ((((p0.toUInt32 >>> ((18 : Int32) &&& 31).toUInt32).toInt32) &&& (255 : Int32)).toUInt32.toUInt16.toUInt32.toInt32))] []) ?_
    refine XS.iloadN X0.here hx rfl (hb hby d6_69) rfl ?_
    refine sh (mkF m 70 #[.val (.int p0), .val (.int (2 : Int32)), .val (.int ((((p0.toUInt32 >>> ((2 : Int32) &&& 31).toUInt32).toInt32) &&& (255 : Int32)).toUInt32.toUInt16.toUInt32.toInt32)), .val (.int ((((p0.toUInt32 >>> ((10 : Int32) &&& 31).toUInt32).toInt32) &&& (255 : Int32)).toUInt32.toUInt16.toUInt32.toInt32)), .val (.int ((((p0.toUInt32 >>> ((18 : Int32) &&& 31).toUInt32).toInt32) &&& (255 : Int32)).toUInt32.toUInt16.toUInt32.toInt32))] [(.int (2 : Int32))]) ?_
    refine XS.iconst X0.here hx rfl (hb hby d6_70) ?_
    refine sh (mkF m 71 #[.val (.int p0), .val (.int (2 : Int32)), .val (.int ((((p0.toUInt32 >>> ((2 : Int32) &&& 31).toUInt32).toInt32) &&& (255 : Int32)).toUInt32.toUInt16.toUInt32.toInt32)), .val (.int ((((p0.toUInt32 >>> ((10 : Int32) &&& 31).toUInt32).toInt32) &&& (255 : Int32)).toUInt32.toUInt16.toUInt32.toInt32)), .val (.int ((((p0.toUInt32 >>> ((18 : Int32) &&& 31).toUInt32).toInt32) &&& (255 : Int32)).toUInt32.toUInt16.toUInt32.toInt32))] [(.int (2 : Int32)), (.int (2 : Int32))]) ?_
    refine XS.icmpNo X0.here hx rfl (hb hby d6_71) rfl (teq (rfl : (2 : Int32) = (2 : Int32))).2 ?_
    refine sh (mkF m 74 #[.val (.int p0), .val (.int (2 : Int32)), .val (.int ((((p0.toUInt32 >>> ((2 : Int32) &&& 31).toUInt32).toInt32) &&& (255 : Int32)).toUInt32.toUInt16.toUInt32.toInt32)), .val (.int ((((p0.toUInt32 >>> ((10 : Int32) &&& 31).toUInt32).toInt32) &&& (255 : Int32)).toUInt32.toUInt16.toUInt32.toInt32)), .val (.int ((((p0.toUInt32 >>> ((18 : Int32) &&& 31).toUInt32).toInt32) &&& (255 : Int32)).toUInt32.toUInt16.toUInt32.toInt32))] []) ?_
    refine st1 _ ?_
    refine sh (mkF m 77 #[.val (.int p0), .val (.int (2 : Int32)), .val (.int ((((p0.toUInt32 >>> ((2 : Int32) &&& 31).toUInt32).toInt32) &&& (255 : Int32)).toUInt32.toUInt16.toUInt32.toInt32)), .val (.int ((((p0.toUInt32 >>> ((10 : Int32) &&& 31).toUInt32).toInt32) &&& (255 : Int32)).toUInt32.toUInt16.toUInt32.toInt32)), .val (.int ((((p0.toUInt32 >>> ((18 : Int32) &&& 31).toUInt32).toInt32) &&& (255 : Int32)).toUInt32.toUInt16.toUInt32.toInt32))] [(.ref b1)]) ?_
    refine XS.dup X1.here hx rfl (hb hby d6_77) rfl rfl ?_
    refine sh (mkF m 78 #[.val (.int p0), .val (.int (2 : Int32)), .val (.int ((((p0.toUInt32 >>> ((2 : Int32) &&& 31).toUInt32).toInt32) &&& (255 : Int32)).toUInt32.toUInt16.toUInt32.toInt32)), .val (.int ((((p0.toUInt32 >>> ((10 : Int32) &&& 31).toUInt32).toInt32) &&& (255 : Int32)).toUInt32.toUInt16.toUInt32.toInt32)), .val (.int ((((p0.toUInt32 >>> ((18 : Int32) &&& 31).toUInt32).toInt32) &&& (255 : Int32)).toUInt32.toUInt16.toUInt32.toInt32))] [(.ref b1), (.ref b1)]) ?_
    refine XS.iconst X1.here hx rfl (hb hby d6_78) ?_
    refine sh (mkF m 79 #[.val (.int p0), .val (.int (2 : Int32)), .val (.int ((((p0.toUInt32 >>> ((2 : Int32) &&& 31).toUInt32).toInt32) &&& (255 : Int32)).toUInt32.toUInt16.toUInt32.toInt32)), .val (.int ((((p0.toUInt32 >>> ((10 : Int32) &&& 31).toUInt32).toInt32) &&& (255 : Int32)).toUInt32.toUInt16.toUInt32.toInt32)), .val (.int ((((p0.toUInt32 >>> ((18 : Int32) &&& 31).toUInt32).toInt32) &&& (255 : Int32)).toUInt32.toUInt16.toUInt32.toInt32))] [(.int (2 : Int32)), (.ref b1), (.ref b1)]) ?_
    refine st3 _ ?_
    refine sh (mkF m 81 #[.val (.int p0), .val (.int (2 : Int32)), .val (.int ((((p0.toUInt32 >>> ((2 : Int32) &&& 31).toUInt32).toInt32) &&& (255 : Int32)).toUInt32.toUInt16.toUInt32.toInt32)), .val (.int ((((p0.toUInt32 >>> ((10 : Int32) &&& 31).toUInt32).toInt32) &&& (255 : Int32)).toUInt32.toUInt16.toUInt32.toInt32)), .val (.int ((((p0.toUInt32 >>> ((18 : Int32) &&& 31).toUInt32).toInt32) &&& (255 : Int32)).toUInt32.toUInt16.toUInt32.toInt32))] [(.ref b3), (.ref b1), (.ref b1)]) ?_
    refine XS.dup X3.here hx rfl (hb hby d6_81) rfl rfl ?_
    refine sh (mkF m 82 #[.val (.int p0), .val (.int (2 : Int32)), .val (.int ((((p0.toUInt32 >>> ((2 : Int32) &&& 31).toUInt32).toInt32) &&& (255 : Int32)).toUInt32.toUInt16.toUInt32.toInt32)), .val (.int ((((p0.toUInt32 >>> ((10 : Int32) &&& 31).toUInt32).toInt32) &&& (255 : Int32)).toUInt32.toUInt16.toUInt32.toInt32)), .val (.int ((((p0.toUInt32 >>> ((18 : Int32) &&& 31).toUInt32).toInt32) &&& (255 : Int32)).toUInt32.toUInt16.toUInt32.toInt32))] [(.ref b3), (.ref b3), (.ref b1), (.ref b1)]) ?_
    refine XS.iconst X3.here hx rfl (hb hby d6_82) ?_
    refine sh (mkF m 83 #[.val (.int p0), .val (.int (2 : Int32)), .val (.int ((((p0.toUInt32 >>> ((2 : Int32) &&& 31).toUInt32).toInt32) &&& (255 : Int32)).toUInt32.toUInt16.toUInt32.toInt32)), .val (.int ((((p0.toUInt32 >>> ((10 : Int32) &&& 31).toUInt32).toInt32) &&& (255 : Int32)).toUInt32.toUInt16.toUInt32.toInt32)), .val (.int ((((p0.toUInt32 >>> ((18 : Int32) &&& 31).toUInt32).toInt32) &&& (255 : Int32)).toUInt32.toUInt16.toUInt32.toInt32))] [(.int (0 : Int32)), (.ref b3), (.ref b3), (.ref b1), (.ref b1)]) ?_
    refine XS.iloadN X3.here hx rfl (hb hby d6_83) rfl ?_
    refine sh (mkF m 84 #[.val (.int p0), .val (.int (2 : Int32)), .val (.int ((((p0.toUInt32 >>> ((2 : Int32) &&& 31).toUInt32).toInt32) &&& (255 : Int32)).toUInt32.toUInt16.toUInt32.toInt32)), .val (.int ((((p0.toUInt32 >>> ((10 : Int32) &&& 31).toUInt32).toInt32) &&& (255 : Int32)).toUInt32.toUInt16.toUInt32.toInt32)), .val (.int ((((p0.toUInt32 >>> ((18 : Int32) &&& 31).toUInt32).toInt32) &&& (255 : Int32)).toUInt32.toUInt16.toUInt32.toInt32))] [(.int ((((p0.toUInt32 >>> ((2 : Int32) &&& 31).toUInt32).toInt32) &&& (255 : Int32)).toUInt32.toUInt16.toUInt32.toInt32)), (.int (0 : Int32)), (.ref b3), (.ref b3), (.ref b1), (.ref b1)]) ?_
    refine st5 _ ?_
    refine sh (mkF m 85 #[.val (.int p0), .val (.int (2 : Int32)), .val (.int ((((p0.toUInt32 >>> ((2 : Int32) &&& 31).toUInt32).toInt32) &&& (255 : Int32)).toUInt32.toUInt16.toUInt32.toInt32)), .val (.int ((((p0.toUInt32 >>> ((10 : Int32) &&& 31).toUInt32).toInt32) &&& (255 : Int32)).toUInt32.toUInt16.toUInt32.toInt32)), .val (.int ((((p0.toUInt32 >>> ((18 : Int32) &&& 31).toUInt32).toInt32) &&& (255 : Int32)).toUInt32.toUInt16.toUInt32.toInt32))] [(.ref b3), (.ref b1), (.ref b1)]) ?_
    refine XS.dup X5.here hx rfl (hb hby d6_85) rfl rfl ?_
    refine sh (mkF m 86 #[.val (.int p0), .val (.int (2 : Int32)), .val (.int ((((p0.toUInt32 >>> ((2 : Int32) &&& 31).toUInt32).toInt32) &&& (255 : Int32)).toUInt32.toUInt16.toUInt32.toInt32)), .val (.int ((((p0.toUInt32 >>> ((10 : Int32) &&& 31).toUInt32).toInt32) &&& (255 : Int32)).toUInt32.toUInt16.toUInt32.toInt32)), .val (.int ((((p0.toUInt32 >>> ((18 : Int32) &&& 31).toUInt32).toInt32) &&& (255 : Int32)).toUInt32.toUInt16.toUInt32.toInt32))] [(.ref b3), (.ref b3), (.ref b1), (.ref b1)]) ?_
    refine XS.iconst X5.here hx rfl (hb hby d6_86) ?_
    refine sh (mkF m 87 #[.val (.int p0), .val (.int (2 : Int32)), .val (.int ((((p0.toUInt32 >>> ((2 : Int32) &&& 31).toUInt32).toInt32) &&& (255 : Int32)).toUInt32.toUInt16.toUInt32.toInt32)), .val (.int ((((p0.toUInt32 >>> ((10 : Int32) &&& 31).toUInt32).toInt32) &&& (255 : Int32)).toUInt32.toUInt16.toUInt32.toInt32)), .val (.int ((((p0.toUInt32 >>> ((18 : Int32) &&& 31).toUInt32).toInt32) &&& (255 : Int32)).toUInt32.toUInt16.toUInt32.toInt32))] [(.int (1 : Int32)), (.ref b3), (.ref b3), (.ref b1), (.ref b1)]) ?_
    refine XS.iloadN X5.here hx rfl (hb hby d6_87) rfl ?_
    refine sh (mkF m 88 #[.val (.int p0), .val (.int (2 : Int32)), .val (.int ((((p0.toUInt32 >>> ((2 : Int32) &&& 31).toUInt32).toInt32) &&& (255 : Int32)).toUInt32.toUInt16.toUInt32.toInt32)), .val (.int ((((p0.toUInt32 >>> ((10 : Int32) &&& 31).toUInt32).toInt32) &&& (255 : Int32)).toUInt32.toUInt16.toUInt32.toInt32)), .val (.int ((((p0.toUInt32 >>> ((18 : Int32) &&& 31).toUInt32).toInt32) &&& (255 : Int32)).toUInt32.toUInt16.toUInt32.toInt32))] [(.int ((((p0.toUInt32 >>> ((10 : Int32) &&& 31).toUInt32).toInt32) &&& (255 : Int32)).toUInt32.toUInt16.toUInt32.toInt32)), (.int (1 : Int32)), (.ref b3), (.ref b3), (.ref b1), (.ref b1)]) ?_
    refine st6 _ ?_
    refine sh (mkF m 89 #[.val (.int p0), .val (.int (2 : Int32)), .val (.int ((((p0.toUInt32 >>> ((2 : Int32) &&& 31).toUInt32).toInt32) &&& (255 : Int32)).toUInt32.toUInt16.toUInt32.toInt32)), .val (.int ((((p0.toUInt32 >>> ((10 : Int32) &&& 31).toUInt32).toInt32) &&& (255 : Int32)).toUInt32.toUInt16.toUInt32.toInt32)), .val (.int ((((p0.toUInt32 >>> ((18 : Int32) &&& 31).toUInt32).toInt32) &&& (255 : Int32)).toUInt32.toUInt16.toUInt32.toInt32))] [(.ref b3), (.ref b1), (.ref b1)]) ?_
    refine st7.trans ?_
    refine sh (mkF m 92 #[.val (.int p0), .val (.int (2 : Int32)), .val (.int ((((p0.toUInt32 >>> ((2 : Int32) &&& 31).toUInt32).toInt32) &&& (255 : Int32)).toUInt32.toUInt16.toUInt32.toInt32)), .val (.int ((((p0.toUInt32 >>> ((10 : Int32) &&& 31).toUInt32).toInt32) &&& (255 : Int32)).toUInt32.toUInt16.toUInt32.toInt32)), .val (.int ((((p0.toUInt32 >>> ((18 : Int32) &&& 31).toUInt32).toInt32) &&& (255 : Int32)).toUInt32.toUInt16.toUInt32.toInt32))] [(.ref b1)]) ?_
    exact retOut X7 hx Bd.returns rfl (Or.inr (Or.inr (Or.inr (Or.inr ⟨rfl, rfl, rfl⟩)))) (hb hby d6_92) hr
  · show Q_rmTX2 Z p0 s_CS h0 n0 _ T7.heap _
    exact ⟨b1, vb_7, kb_7, rfl, N7, (Nat.le_trans (Nat.le_refl h0.size) (Nat.le_of_eq g1.symm)), ((((((Keep.refl h0 []).ext E1).ext E3).wr W5 (Or.inr (Nat.le_trans (Nat.le_trans (Nat.le_refl h0.size) E1.1) (Nat.le_of_eq g3.symm)))).wr W6 (Or.inr (Nat.le_trans (Nat.le_trans (Nat.le_refl h0.size) E1.1) (Nat.le_of_eq g3.symm)))).trans Kp7 (allS (Or.inr (Nat.le_trans (Nat.le_refl h0.size) (Nat.le_of_eq g1.symm))) all0)), Fq7_0, Fq7_1, Fq7_2, Vz⟩
def Q_rmTX3 (Z : State) (p0 : Int32) (s_CS : Int32) (h0 : Heap) (n0 : Nat) (v : Option Value) (h : Heap) (L : List Loc) : Prop := ∃ nb : Addr, ∃ vb : Addr, ∃ kb : ClassId, v = some (.ref nb) ∧ Fr n0 L ∧ h0.size ≤ nb ∧ Keep h0 h [] ∧ Exa Z h nb "java/lang/String" ∧ Fld Z h nb "java/lang/String" "value" "[B" (.ref vb) ∧ Fld Z h nb "java/lang/String" "coder" "B" (.int (0 : Int32)) ∧ Arv Z h vb kb .byte (p0 &&& (3 : Int32)) (own_vs p0) (.int (0 : Int32))
theorem ef_rmTX3 (m : MethodId) (p0 : Int32) : entryFrame m #[(.int p0)] 5 = mkF m 0 #[.val (.int p0), .unset, .unset, .unset, .unset] [] := by first | (simp [entryFrame, mkF, argsToLocals, Value.category]; done) | rfl
set_option maxRecDepth 65536 in
set_option maxHeartbeats 40000000 in
theorem rmTX3 (l : Launch) (Z : State) (a0 : Array Value) (hw : ∀ d ∈ tables_1, d.before a0 Z = true) (ws : List Jvm.Cond) (p0 : Int32) (s_CS : Int32) (h0 : Heap) (n0 : Nat) (Z0 : n0 ≤ h0.size) (S_CS : Sta Z h0 "java/lang/String" "COMPACT_STRINGS" "Z" (.int s_CS)) (hcs : ¬ (s_CS = (0 : Int32))) (hn : (p0 &&& (3 : Int32)) = (3 : Int32)) :
    MetFree l (⟨"com/example/wirewright/bench/RunPrintedPinLaw", "text", "(I)Ljava/lang/String;"⟩ : MethodName) (head1 (Jvm.Cond.code (⟨"com/example/wirewright/bench/RunPrintedPinLaw", "text", "(I)Ljava/lang/String;"⟩ : MethodName) method_2_code 5 (some (.object "java/lang/String")) :: ws) ({ frames := 4, cells := 6, slots := 12, locals := 66 } : Room)) (fun a U => a = #[(.int p0)] ∧ Z.Warmed39 U.vm ∧ U.heap = h0 ∧ CHv Z own_EL U.vm h0) (fun _ _ _ _ _ => True) (fun _ U o U' => ∃ v L, o = .returned v ∧ Q_rmTX3 Z p0 s_CS h0 n0 v U'.heap L ∧ CHr Z own_EL U.vm U.heap U'.vm U'.heap ∧ ReturnedEndW U o U' L ({ frames := 4, cells := 6, slots := 12, locals := 66 } : Room).cells ({ frames := 4, cells := 6, slots := 12, locals := 66 } : Room).slots) := by
  refine MetFree.of_bodySF (plainFor_of_name pn_3) hisR ?_
  intro p e s m args below meth c s₁ Bd hml0 hP hK
  obtain ⟨rfl, hZ, hh, hCH⟩ := hP
  have hx := Bd.exec
  have hby := Bd.bytes
  have hml : c.maxLocals = 5 := hml0
  have hown : s.vm.findClass "com/example/wirewright/bench/RunPrintedPinLaw" = some m.cls := findClass_of_methodNamed Bd.named
  have hnm := (name_of_methodNamed Bd.named Bd.method).1
  have X0 : Stand p l e ({ frames := 4, cells := 6, slots := 12, locals := 66 } : Room) s m #[(.int p0)] below meth c s₁ [] 0 0 := Stand.of_body Bd
  have e0 : s₁.heap = h0 := by rw [← hh, Bd.state]; rfl
  have N0 := Fr.nil n0
  have hS0 := (State.WarmedH.refl s).since 0
  have pre0 : ∀ t, Steps p.tables e below (s₁.setTop (mkF m 0 #[.val (.int p0), .unset, .unset, .unset, .unset] [])) t → Steps p.tables e below (s₁.setTop (entryFrame m #[(.int p0)] 5)) t := fun t k => castTop (ef_rmTX3 m p0) k
  obtain ⟨T1, h1, X1, e1, E1, A1, D1, -, st1⟩ := newO X0 hx hZ hown (ow hw 4 rfl) (ow hw 5 rfl) (ow hw 6 rfl) e0 (g := (mkF m 93 #[.val (.int p0), .val (.int (3 : Int32)), .val (.int ((((p0.toUInt32 >>> ((2 : Int32) &&& 31).toUInt32).toInt32) &&& (255 : Int32)).toUInt32.toUInt16.toUInt32.toInt32)), .val (.int ((((p0.toUInt32 >>> ((10 : Int32) &&& 31).toUInt32).toInt32) &&& (255 : Int32)).toUInt32.toUInt16.toUInt32.toInt32)), .val (.int ((((p0.toUInt32 >>> ((18 : Int32) &&& 31).toUInt32).toInt32) &&& (255 : Int32)).toUInt32.toUInt16.toUInt32.toInt32))] [])) rfl (hb hby d6_93) (by decide) (by decide)
  obtain ⟨b1, g1⟩ : ∃ z, z = h0.size := ⟨_, rfl⟩
  rw [← g1] at A1 D1 st1
  have F1_2 : Fld Z h1 b1 "java/lang/String" "coder" "B" (.int (0 : Int32)) := D1 (Or.inr (ow hw 31 rfl)) (ty := .byte) (by decide)
  have F1_3 : Fld Z h1 b1 "java/lang/String" "value" "[B" .null := D1 (Or.inr (ow hw 33 rfl)) (ty := (.array .byte)) (by decide)
  have SN2 := Safe.ext E1 hCH (Safe.new (vm := s.vm) (Z := Z) (EL := own_EL) (Nat.le_of_eq g1.symm))
  have CR0_2 := CHr.trans (CHr.refl hCH) (CHr.ext E1 hCH)
  have CV0_2 := CHv.ext E1 hCH
  obtain ⟨T3, h3, k3, X3, e3, E3, A3, st3⟩ := newP X1 hx hZ (ow hw 7 rfl) e1 (g := (mkF m 98 #[.val (.int p0), .val (.int (3 : Int32)), .val (.int ((((p0.toUInt32 >>> ((2 : Int32) &&& 31).toUInt32).toInt32) &&& (255 : Int32)).toUInt32.toUInt16.toUInt32.toInt32)), .val (.int ((((p0.toUInt32 >>> ((10 : Int32) &&& 31).toUInt32).toInt32) &&& (255 : Int32)).toUInt32.toUInt16.toUInt32.toInt32)), .val (.int ((((p0.toUInt32 >>> ((18 : Int32) &&& 31).toUInt32).toInt32) &&& (255 : Int32)).toUInt32.toUInt16.toUInt32.toInt32))] [(.int (3 : Int32)), (.ref b1), (.ref b1)])) rfl (hb hby d6_98) rfl (by decide) (cap := 3) (by decide) (by decide) (by decide) (by decide)
  obtain ⟨b3, g3⟩ : ∃ z, z = h1.size := ⟨_, rfl⟩
  rw [← g3] at A3 st3
  have V3 : Arv Z h3 b3 k3 .char (3 : Int32) [(.int (0 : Int32)), (.int (0 : Int32)), (.int (0 : Int32))] (.int (0 : Int32)) := (Arv.new A3 (by decide)).pad (pad_rep [] (.int (0 : Int32)) 3)
  have SN4 := Safe.ext E3 CV0_2 (Safe.new (vm := s.vm) (Z := Z) (EL := own_EL) (Nat.le_of_eq g3.symm))
  have CR1_4 := CHr.trans CR0_2 (CHr.ext E3 CV0_2)
  have SF1_4_b1 := Safe.ext E3 CV0_2 SN2
  have CV1_4 := CHv.ext E3 CV0_2
  have Vc5 := V3
  obtain ⟨cl5, Ar5, q5, S5, M5, H5, G5⟩ := Vc5
  have hin5 : ¬ ((0 : Int32) < 0 ∨ cl5.slots.size ≤ ((0 : Int32)).toNatClampNeg) := inb_of S5 ⟨by decide, by decide⟩
  obtain ⟨T5, h5, X5, e5, W5, st5⟩ := stC X3 hx hZ e3 Ar5 (j := (0 : Int32)) hin5 (g := (mkF m 103 #[.val (.int p0), .val (.int (3 : Int32)), .val (.int ((((p0.toUInt32 >>> ((2 : Int32) &&& 31).toUInt32).toInt32) &&& (255 : Int32)).toUInt32.toUInt16.toUInt32.toInt32)), .val (.int ((((p0.toUInt32 >>> ((10 : Int32) &&& 31).toUInt32).toInt32) &&& (255 : Int32)).toUInt32.toUInt16.toUInt32.toInt32)), .val (.int ((((p0.toUInt32 >>> ((18 : Int32) &&& 31).toUInt32).toInt32) &&& (255 : Int32)).toUInt32.toUInt16.toUInt32.toInt32))] [(.int ((((p0.toUInt32 >>> ((2 : Int32) &&& 31).toUInt32).toInt32) &&& (255 : Int32)).toUInt32.toUInt16.toUInt32.toInt32)), (.int (0 : Int32)), (.ref b3), (.ref b3), (.ref b1), (.ref b1)])) rfl rfl (hb hby d6_103)
  have V5 : Arv Z h5 b3 k3 .char (3 : Int32) [(.int (nar .char ((((p0.toUInt32 >>> ((2 : Int32) &&& 31).toUInt32).toInt32) &&& (255 : Int32)).toUInt32.toUInt16.toUInt32.toInt32))), (.int (0 : Int32)), (.int (0 : Int32))] (.int (0 : Int32)) := Arv.set Ar5 q5 S5 M5 H5 G5 (fits_nar_char _) W5 0 rfl (Nat.le_of_ble_eq_true rfl)
  have N5 := Fr.snoc X5 N0 (Nat.le_trans (Nat.le_trans Z0 E1.1) (Nat.le_of_eq g3.symm))
  have Vc6 := V5
  obtain ⟨cl6, Ar6, q6, S6, M6, H6, G6⟩ := Vc6
  have hin6 : ¬ ((1 : Int32) < 0 ∨ cl6.slots.size ≤ ((1 : Int32)).toNatClampNeg) := inb_of S6 ⟨by decide, by decide⟩
  obtain ⟨T6, h6, X6, e6, W6, st6⟩ := stC X5 hx hZ e5 Ar6 (j := (1 : Int32)) hin6 (g := (mkF m 107 #[.val (.int p0), .val (.int (3 : Int32)), .val (.int ((((p0.toUInt32 >>> ((2 : Int32) &&& 31).toUInt32).toInt32) &&& (255 : Int32)).toUInt32.toUInt16.toUInt32.toInt32)), .val (.int ((((p0.toUInt32 >>> ((10 : Int32) &&& 31).toUInt32).toInt32) &&& (255 : Int32)).toUInt32.toUInt16.toUInt32.toInt32)), .val (.int ((((p0.toUInt32 >>> ((18 : Int32) &&& 31).toUInt32).toInt32) &&& (255 : Int32)).toUInt32.toUInt16.toUInt32.toInt32))] [(.int ((((p0.toUInt32 >>> ((10 : Int32) &&& 31).toUInt32).toInt32) &&& (255 : Int32)).toUInt32.toUInt16.toUInt32.toInt32)), (.int (1 : Int32)), (.ref b3), (.ref b3), (.ref b1), (.ref b1)])) rfl rfl (hb hby d6_107)
  have V6 : Arv Z h6 b3 k3 .char (3 : Int32) [(.int (nar .char ((((p0.toUInt32 >>> ((2 : Int32) &&& 31).toUInt32).toInt32) &&& (255 : Int32)).toUInt32.toUInt16.toUInt32.toInt32))), (.int (nar .char ((((p0.toUInt32 >>> ((10 : Int32) &&& 31).toUInt32).toInt32) &&& (255 : Int32)).toUInt32.toUInt16.toUInt32.toInt32))), (.int (0 : Int32))] (.int (0 : Int32)) := Arv.set Ar6 q6 S6 M6 H6 G6 (fits_nar_char _) W6 1 rfl (Nat.le_of_ble_eq_true rfl)
  have N6 := Fr.snoc X6 N5 (Nat.le_trans (Nat.le_trans Z0 E1.1) (Nat.le_of_eq g3.symm))
  have Vc7 := V6
  obtain ⟨cl7, Ar7, q7, S7, M7, H7, G7⟩ := Vc7
  have hin7 : ¬ ((2 : Int32) < 0 ∨ cl7.slots.size ≤ ((2 : Int32)).toNatClampNeg) := inb_of S7 ⟨by decide, by decide⟩
  obtain ⟨T7, h7, X7, e7, W7, st7⟩ := stC X6 hx hZ e6 Ar7 (j := (2 : Int32)) hin7 (g := (mkF m 112 #[.val (.int p0), .val (.int (3 : Int32)), .val (.int ((((p0.toUInt32 >>> ((2 : Int32) &&& 31).toUInt32).toInt32) &&& (255 : Int32)).toUInt32.toUInt16.toUInt32.toInt32)), .val (.int ((((p0.toUInt32 >>> ((10 : Int32) &&& 31).toUInt32).toInt32) &&& (255 : Int32)).toUInt32.toUInt16.toUInt32.toInt32)), .val (.int ((((p0.toUInt32 >>> ((18 : Int32) &&& 31).toUInt32).toInt32) &&& (255 : Int32)).toUInt32.toUInt16.toUInt32.toInt32))] [(.int ((((p0.toUInt32 >>> ((18 : Int32) &&& 31).toUInt32).toInt32) &&& (255 : Int32)).toUInt32.toUInt16.toUInt32.toInt32)), (.int (2 : Int32)), (.ref b3), (.ref b3), (.ref b1), (.ref b1)])) rfl rfl (hb hby d6_112)
  have V7 : Arv Z h7 b3 k3 .char (3 : Int32) [(.int (nar .char ((((p0.toUInt32 >>> ((2 : Int32) &&& 31).toUInt32).toInt32) &&& (255 : Int32)).toUInt32.toUInt16.toUInt32.toInt32))), (.int (nar .char ((((p0.toUInt32 >>> ((10 : Int32) &&& 31).toUInt32).toInt32) &&& (255 : Int32)).toUInt32.toUInt16.toUInt32.toInt32))), (.int (nar .char ((((p0.toUInt32 >>> ((18 : Int32) &&& 31).toUInt32).toInt32) &&& (255 : Int32)).toUInt32.toUInt16.toUInt32.toInt32)))] (.int (0 : Int32)) := Arv.set Ar7 q7 S7 M7 H7 G7 (fits_nar_char _) W7 2 rfl (Nat.le_of_ble_eq_true rfl)
  have N7 := Fr.snoc X7 N6 (Nat.le_trans (Nat.le_trans Z0 E1.1) (Nat.le_of_eq g3.symm))
  have f9 : Sta Z h7 "java/lang/String" "COMPACT_STRINGS" "Z" (.int s_CS) := (((((S_CS.ext E1).ext E3).wr W5).wr W6).wr W7)
  have f10 : Exa Z h7 b1 "java/lang/String" := ((((A1.ext E3).wr W5).wr W6).wr W7)
  have f11 : Fld Z h7 b1 "java/lang/String" "value" "[B" .null := ((((F1_3.ext E3).other W5 (Or.inl (Nat.ne_of_lt (Nat.lt_of_lt_of_le A1.lt (Nat.le_of_eq g3.symm))))).other W6 (Or.inl (Nat.ne_of_lt (Nat.lt_of_lt_of_le A1.lt (Nat.le_of_eq g3.symm))))).other W7 (Or.inl (Nat.ne_of_lt (Nat.lt_of_lt_of_le A1.lt (Nat.le_of_eq g3.symm)))))
  have f12 : Fld Z h7 b1 "java/lang/String" "coder" "B" (.int (0 : Int32)) := ((((F1_2.ext E3).other W5 (Or.inl (Nat.ne_of_lt (Nat.lt_of_lt_of_le A1.lt (Nat.le_of_eq g3.symm))))).other W6 (Or.inl (Nat.ne_of_lt (Nat.lt_of_lt_of_le A1.lt (Nat.le_of_eq g3.symm))))).other W7 (Or.inl (Nat.ne_of_lt (Nat.lt_of_lt_of_le A1.lt (Nat.le_of_eq g3.symm)))))
  obtain ⟨_, _, ⟨T8, L8, k8, n8⟩, -, X8, ⟨Lc8, hQ8, l8, y8, z8⟩, st8⟩ := X7.specialBack hx (y := (⟨"java/lang/String", "<init>", "([C)V"⟩ : MethodName)) rfl hown (mvT hZ (ow hw 8 rfl)) (mvT hZ (ow hw 9 rfl)) (mvT hZ (ow hw 10 rfl)) (by decide) (backOf (W := 1) (rmCA3 l Z a0 hw [] b1 b3 .null (.int (0 : Int32)) s_CS (nar .char ((((p0.toUInt32 >>> ((2 : Int32) &&& 31).toUInt32).toInt32) &&& (255 : Int32)).toUInt32.toUInt16.toUInt32.toInt32)) (nar .char ((((p0.toUInt32 >>> ((10 : Int32) &&& 31).toUInt32).toInt32) &&& (255 : Int32)).toUInt32.toUInt16.toUInt32.toInt32)) (nar .char ((((p0.toUInt32 >>> ((18 : Int32) &&& 31).toUInt32).toInt32) &&& (255 : Int32)).toUInt32.toUInt16.toUInt32.toInt32)) k3 h7 n0 (Nat.le_trans (Nat.le_trans (Nat.le_trans (Nat.le_trans (Nat.le_trans Z0 E1.1) E3.1) (Keep.of_wr W5).1) (Keep.of_wr W6).1) (Keep.of_wr W7).1) f9 hcs V7 (own_g _) (own_g _) (own_g _) f10 f11 f12 (Nat.le_trans Z0 (Nat.le_of_eq g1.symm))) hZ (ow hw 10 rfl) (ow hw 6 rfl) (by decide) (by decide)) (g := (mkF m 113 #[.val (.int p0), .val (.int (3 : Int32)), .val (.int ((((p0.toUInt32 >>> ((2 : Int32) &&& 31).toUInt32).toInt32) &&& (255 : Int32)).toUInt32.toUInt16.toUInt32.toInt32)), .val (.int ((((p0.toUInt32 >>> ((10 : Int32) &&& 31).toUInt32).toInt32) &&& (255 : Int32)).toUInt32.toUInt16.toUInt32.toInt32)), .val (.int ((((p0.toUInt32 >>> ((18 : Int32) &&& 31).toUInt32).toInt32) &&& (255 : Int32)).toUInt32.toUInt16.toUInt32.toInt32))] [(.ref b3), (.ref b1), (.ref b1)])) rfl (by rw [hml]; rfl) (Steps.refl _) (a := b1) (argsL := [(.ref b3)]) (rest := [(.ref b1)]) (lenOf pd_4 rfl) rfl (by show 2 * 0 + _ ≤ _; exact Nat.le_of_eq rfl) (hb hby d6_113) (fun _ _ => ⟨rfl, e7, (by decide : 2 + 1 ≤ _), (by decide : 7 + 3 ≤ _)⟩)
  dsimp only [Pt.U, Pt.locs, Pt.cells, Pt.slots] at X8 l8 y8 z8 st8 hQ8
  subst l8 y8 z8
  obtain ⟨vb_8, kb_8, rfl, Nq8, gb8_0, Kp8, Fq8_0, Fq8_1, Fq8_2, Fq8_3⟩ := hQ8
  have N8 := Fr.app N7 Nq8
  have Vz : Arv Z T8.heap vb_8 kb_8 .byte (p0 &&& (3 : Int32)) (own_vs p0) (.int (0 : Int32)) := by rw [hn, own_vs_3 hn]; exact Fq8_3
  have CR2_12 := CHr.trans CR1_4 (CHr.wr W5 SN4 CV1_4)
  have SF2_12_b1 := Safe.wr W5 SN4 CV1_4 SF1_4_b1
  have SF2_12_b3 := Safe.wr W5 SN4 CV1_4 SN4
  have CV2_12 := CHv.wr W5 SN4 CV1_4
  have CR3_12 := CHr.trans CR2_12 (CHr.wr W6 SF2_12_b3 CV2_12)
  have SF3_12_b1 := Safe.wr W6 SF2_12_b3 CV2_12 SF2_12_b1
  have SF3_12_b3 := Safe.wr W6 SF2_12_b3 CV2_12 SF2_12_b3
  have CV3_12 := CHv.wr W6 SF2_12_b3 CV2_12
  have CR4_12 := CHr.trans CR3_12 (CHr.wr W7 SF3_12_b3 CV3_12)
  have SF4_12_b1 := Safe.wr W7 SF3_12_b3 CV3_12 SF3_12_b1
  have SF4_12_b3 := Safe.wr W7 SF3_12_b3 CV3_12 SF3_12_b3
  have CV4_12 := CHv.wr W7 SF3_12_b3 CV3_12
  have CR5_12 := CHr.trans CR4_12 (CHr.keep Kp8 (sfS SF4_12_b1 sf0) CV4_12)
  have SF5_12_b1 := Safe.keep Kp8 (sfS SF4_12_b1 sf0) CV4_12 SF4_12_b1
  have SF5_12_b3 := Safe.keep Kp8 (sfS SF4_12_b1 sf0) CV4_12 SF4_12_b3
  have CV5_12 := CHv.keep Kp8 (sfS SF4_12_b1 sf0) CV4_12
  obtain ⟨fs, hr, hrun, hended, hRW⟩ := X8.leaveW (s := s) hS0 (Nat.le_trans (Nat.le_trans (Nat.le_trans (Nat.le_trans (Nat.le_trans (Nat.le_trans (Nat.zero_le _) E1.1) E3.1) (Keep.of_wr W5).1) (Keep.of_wr W6).1) (Keep.of_wr W7).1) Kp8.1) (v := some (.ref b1)) (fun h => by rw [Bd.returns] at h; cases h)
  refine ⟨_, _, pre0 _ ?_, hrun, hended, _, _, rfl, ?_, (by show CHr Z own_EL s.vm s.heap T8.vm T8.heap; rw [hh]; exact CHr.trans CR5_12 (CHv.at (s := s) (vm0 := s.vm) X8 hZ (own_EW hw) CV5_12)), hRW.1, hRW.2.1, hRW.2.2.1, hRW.2.2.2.mono (by decide) (by decide)⟩
  · refine sh (mkF m 0 #[.val (.int p0), .unset, .unset, .unset, .unset] []) ?_
    refine XS.iloadN X0.here hx rfl (hb hby d6_0) rfl ?_
    refine sh (mkF m 1 #[.val (.int p0), .unset, .unset, .unset, .unset] [(.int p0)]) ?_
    refine XS.iconst X0.here hx rfl (hb hby d6_1) ?_
    refine sh (mkF m 2 #[.val (.int p0), .unset, .unset, .unset, .unset] [(.int (3 : Int32)), (.int p0)]) ?_
    refine XS.iand X0.here hx rfl (hb hby d6_2) rfl ?_
    refine sh (mkF m 3 #[.val (.int p0), .unset, .unset, .unset, .unset] [(.int (p0 &&& (3 : Int32)))]) ?_
    rw [hn]
    refine sh (mkF m 3 #[.val (.int p0), .unset, .unset, .unset, .unset] [(.int (3 : Int32))]) ?_
    refine XS.istoreN X0.here hx rfl (hb hby d6_3) rfl (l' := #[.val (.int p0), .val (.int (3 : Int32)), .unset, .unset, .unset]) rfl ?_
    refine sh (mkF m 4 #[.val (.int p0), .val (.int (3 : Int32)), .unset, .unset, .unset] []) ?_
    refine XS.iloadN X0.here hx rfl (hb hby d6_4) rfl ?_
    refine sh (mkF m 5 #[.val (.int p0), .val (.int (3 : Int32)), .unset, .unset, .unset] [(.int p0)]) ?_
    refine XS.iconst X0.here hx rfl (hb hby d6_5) ?_
    refine sh (mkF m 6 #[.val (.int p0), .val (.int (3 : Int32)), .unset, .unset, .unset] [(.int (2 : Int32)), (.int p0)]) ?_
    refine XS.iushr X0.here hx rfl (hb hby d6_6) rfl ?_
    refine sh (mkF m 7 #[.val (.int p0), .val (.int (3 : Int32)), .unset, .unset, .unset] [(.int ((p0.toUInt32 >>> ((2 : Int32) &&& 31).toUInt32).toInt32))]) ?_
    refine XS.sipush X0.here hx rfl (hb hby d6_7) ?_
    refine sh (mkF m 10 #[.val (.int p0), .val (.int (3 : Int32)), .unset, .unset, .unset] [(.int (255 : Int32)), (.int ((p0.toUInt32 >>> ((2 : Int32) &&& 31).toUInt32).toInt32))]) ?_
    refine XS.iand X0.here hx rfl (hb hby d6_10) rfl ?_
    refine sh (mkF m 11 #[.val (.int p0), .val (.int (3 : Int32)), .unset, .unset, .unset] [(.int (((p0.toUInt32 >>> ((2 : Int32) &&& 31).toUInt32).toInt32) &&& (255 : Int32)))]) ?_
    refine XS.i2c X0.here hx rfl (hb hby d6_11) rfl ?_
    refine sh (mkF m 12 #[.val (.int p0), .val (.int (3 : Int32)), .unset, .unset, .unset] [(.int ((((p0.toUInt32 >>> ((2 : Int32) &&& 31).toUInt32).toInt32) &&& (255 : Int32)).toUInt32.toUInt16.toUInt32.toInt32))]) ?_
    refine XS.istoreN X0.here hx rfl (hb hby d6_12) rfl (l' := #[.val (.int p0), .val (.int (3 : Int32)), .val (.int ((((p0.toUInt32 >>> ((2 : Int32) &&& 31).toUInt32).toInt32) &&& (255 : Int32)).toUInt32.toUInt16.toUInt32.toInt32)), .unset, .unset]) rfl ?_
    refine sh (mkF m 13 #[.val (.int p0), .val (.int (3 : Int32)), .val (.int ((((p0.toUInt32 >>> ((2 : Int32) &&& 31).toUInt32).toInt32) &&& (255 : Int32)).toUInt32.toUInt16.toUInt32.toInt32)), .unset, .unset] []) ?_
    refine XS.iloadN X0.here hx rfl (hb hby d6_13) rfl ?_
    refine sh (mkF m 14 #[.val (.int p0), .val (.int (3 : Int32)), .val (.int ((((p0.toUInt32 >>> ((2 : Int32) &&& 31).toUInt32).toInt32) &&& (255 : Int32)).toUInt32.toUInt16.toUInt32.toInt32)), .unset, .unset] [(.int p0)]) ?_
    refine XS.bipush X0.here hx rfl (hb hby d6_14) ?_
    refine sh (mkF m 16 #[.val (.int p0), .val (.int (3 : Int32)), .val (.int ((((p0.toUInt32 >>> ((2 : Int32) &&& 31).toUInt32).toInt32) &&& (255 : Int32)).toUInt32.toUInt16.toUInt32.toInt32)), .unset, .unset] [(.int (10 : Int32)), (.int p0)]) ?_
    refine XS.iushr X0.here hx rfl (hb hby d6_16) rfl ?_
    refine sh (mkF m 17 #[.val (.int p0), .val (.int (3 : Int32)), .val (.int ((((p0.toUInt32 >>> ((2 : Int32) &&& 31).toUInt32).toInt32) &&& (255 : Int32)).toUInt32.toUInt16.toUInt32.toInt32)), .unset, .unset] [(.int ((p0.toUInt32 >>> ((10 : Int32) &&& 31).toUInt32).toInt32))]) ?_
    refine XS.sipush X0.here hx rfl (hb hby d6_17) ?_
    refine sh (mkF m 20 #[.val (.int p0), .val (.int (3 : Int32)), .val (.int ((((p0.toUInt32 >>> ((2 : Int32) &&& 31).toUInt32).toInt32) &&& (255 : Int32)).toUInt32.toUInt16.toUInt32.toInt32)), .unset, .unset] [(.int (255 : Int32)), (.int ((p0.toUInt32 >>> ((10 : Int32) &&& 31).toUInt32).toInt32))]) ?_
    refine XS.iand X0.here hx rfl (hb hby d6_20) rfl ?_
    refine sh (mkF m 21 #[.val (.int p0), .val (.int (3 : Int32)), .val (.int ((((p0.toUInt32 >>> ((2 : Int32) &&& 31).toUInt32).toInt32) &&& (255 : Int32)).toUInt32.toUInt16.toUInt32.toInt32)), .unset, .unset] [(.int (((p0.toUInt32 >>> ((10 : Int32) &&& 31).toUInt32).toInt32) &&& (255 : Int32)))]) ?_
    refine XS.i2c X0.here hx rfl (hb hby d6_21) rfl ?_
    refine sh (mkF m 22 #[.val (.int p0), .val (.int (3 : Int32)), .val (.int ((((p0.toUInt32 >>> ((2 : Int32) &&& 31).toUInt32).toInt32) &&& (255 : Int32)).toUInt32.toUInt16.toUInt32.toInt32)), .unset, .unset] [(.int ((((p0.toUInt32 >>> ((10 : Int32) &&& 31).toUInt32).toInt32) &&& (255 : Int32)).toUInt32.toUInt16.toUInt32.toInt32))]) ?_
    refine XS.istoreN X0.here hx rfl (hb hby d6_22) rfl (l' := #[.val (.int p0), .val (.int (3 : Int32)), .val (.int ((((p0.toUInt32 >>> ((2 : Int32) &&& 31).toUInt32).toInt32) &&& (255 : Int32)).toUInt32.toUInt16.toUInt32.toInt32)), .val (.int ((((p0.toUInt32 >>> ((10 : Int32) &&& 31).toUInt32).toInt32) &&& (255 : Int32)).toUInt32.toUInt16.toUInt32.toInt32)), .unset]) rfl ?_
    refine sh (mkF m 23 #[.val (.int p0), .val (.int (3 : Int32)), .val (.int ((((p0.toUInt32 >>> ((2 : Int32) &&& 31).toUInt32).toInt32) &&& (255 : Int32)).toUInt32.toUInt16.toUInt32.toInt32)), .val (.int ((((p0.toUInt32 >>> ((10 : Int32) &&& 31).toUInt32).toInt32) &&& (255 : Int32)).toUInt32.toUInt16.toUInt32.toInt32)), .unset] []) ?_
    refine XS.iloadN X0.here hx rfl (hb hby d6_23) rfl ?_
    refine sh (mkF m 24 #[.val (.int p0), .val (.int (3 : Int32)), .val (.int ((((p0.toUInt32 >>> ((2 : Int32) &&& 31).toUInt32).toInt32) &&& (255 : Int32)).toUInt32.toUInt16.toUInt32.toInt32)), .val (.int ((((p0.toUInt32 >>> ((10 : Int32) &&& 31).toUInt32).toInt32) &&& (255 : Int32)).toUInt32.toUInt16.toUInt32.toInt32)), .unset] [(.int p0)]) ?_
    refine XS.bipush X0.here hx rfl (hb hby d6_24) ?_
    refine sh (mkF m 26 #[.val (.int p0), .val (.int (3 : Int32)), .val (.int ((((p0.toUInt32 >>> ((2 : Int32) &&& 31).toUInt32).toInt32) &&& (255 : Int32)).toUInt32.toUInt16.toUInt32.toInt32)), .val (.int ((((p0.toUInt32 >>> ((10 : Int32) &&& 31).toUInt32).toInt32) &&& (255 : Int32)).toUInt32.toUInt16.toUInt32.toInt32)), .unset] [(.int (18 : Int32)), (.int p0)]) ?_
    refine XS.iushr X0.here hx rfl (hb hby d6_26) rfl ?_
    refine sh (mkF m 27 #[.val (.int p0), .val (.int (3 : Int32)), .val (.int ((((p0.toUInt32 >>> ((2 : Int32) &&& 31).toUInt32).toInt32) &&& (255 : Int32)).toUInt32.toUInt16.toUInt32.toInt32)), .val (.int ((((p0.toUInt32 >>> ((10 : Int32) &&& 31).toUInt32).toInt32) &&& (255 : Int32)).toUInt32.toUInt16.toUInt32.toInt32)), .unset] [(.int ((p0.toUInt32 >>> ((18 : Int32) &&& 31).toUInt32).toInt32))]) ?_
    refine XS.sipush X0.here hx rfl (hb hby d6_27) ?_
    refine sh (mkF m 30 #[.val (.int p0), .val (.int (3 : Int32)), .val (.int ((((p0.toUInt32 >>> ((2 : Int32) &&& 31).toUInt32).toInt32) &&& (255 : Int32)).toUInt32.toUInt16.toUInt32.toInt32)), .val (.int ((((p0.toUInt32 >>> ((10 : Int32) &&& 31).toUInt32).toInt32) &&& (255 : Int32)).toUInt32.toUInt16.toUInt32.toInt32)), .unset] [(.int (255 : Int32)), (.int ((p0.toUInt32 >>> ((18 : Int32) &&& 31).toUInt32).toInt32))]) ?_
    refine XS.iand X0.here hx rfl (hb hby d6_30) rfl ?_
    refine sh (mkF m 31 #[.val (.int p0), .val (.int (3 : Int32)), .val (.int ((((p0.toUInt32 >>> ((2 : Int32) &&& 31).toUInt32).toInt32) &&& (255 : Int32)).toUInt32.toUInt16.toUInt32.toInt32)), .val (.int ((((p0.toUInt32 >>> ((10 : Int32) &&& 31).toUInt32).toInt32) &&& (255 : Int32)).toUInt32.toUInt16.toUInt32.toInt32)), .unset] [(.int (((p0.toUInt32 >>> ((18 : Int32) &&& 31).toUInt32).toInt32) &&& (255 : Int32)))]) ?_
    refine XS.i2c X0.here hx rfl (hb hby d6_31) rfl ?_
    refine sh (mkF m 32 #[.val (.int p0), .val (.int (3 : Int32)), .val (.int ((((p0.toUInt32 >>> ((2 : Int32) &&& 31).toUInt32).toInt32) &&& (255 : Int32)).toUInt32.toUInt16.toUInt32.toInt32)), .val (.int ((((p0.toUInt32 >>> ((10 : Int32) &&& 31).toUInt32).toInt32) &&& (255 : Int32)).toUInt32.toUInt16.toUInt32.toInt32)), .unset] [(.int ((((p0.toUInt32 >>> ((18 : Int32) &&& 31).toUInt32).toInt32) &&& (255 : Int32)).toUInt32.toUInt16.toUInt32.toInt32))]) ?_
    refine XS.istore X0.here hx rfl (hb hby d6_32) rfl (l' := #[.val (.int p0), .val (.int (3 : Int32)), .val (.int ((((p0.toUInt32 >>> ((2 : Int32) &&& 31).toUInt32).toInt32) &&& (255 : Int32)).toUInt32.toUInt16.toUInt32.toInt32)), .val (.int ((((p0.toUInt32 >>> ((10 : Int32) &&& 31).toUInt32).toInt32) &&& (255 : Int32)).toUInt32.toUInt16.toUInt32.toInt32)), .val (.int ((((p0.toUInt32 >>> ((18 : Int32) &&& 31).toUInt32).toInt32) &&& (255 : Int32)).toUInt32.toUInt16.toUInt32.toInt32))]) rfl ?_
    refine sh (mkF m 34 #[.val (.int p0), .val (.int (3 : Int32)), .val (.int ((((p0.toUInt32 >>> ((2 : Int32) &&& 31).toUInt32).toInt32) &&& (255 : Int32)).toUInt32.toUInt16.toUInt32.toInt32)), .val (.int ((((p0.toUInt32 >>> ((10 : Int32) &&& 31).toUInt32).toInt32) &&& (255 : Int32)).toUInt32.toUInt16.toUInt32.toInt32)), .val (.int ((((p0.toUInt32 >>> ((18 : Int32) &&& 31).toUInt32).toInt32) &&& (255 : Int32)).toUInt32.toUInt16.toUInt32.toInt32))] []) ?_
    refine XS.iloadN X0.here hx rfl (hb hby d6_34) rfl ?_
    refine sh (mkF m 35 #[.val (.int p0), .val (.int (3 : Int32)), .val (.int ((((p0.toUInt32 >>> ((2 : Int32) &&& 31).toUInt32).toInt32) &&& (255 : Int32)).toUInt32.toUInt16.toUInt32.toInt32)), .val (.int ((((p0.toUInt32 >>> ((10 : Int32) &&& 31).toUInt32).toInt32) &&& (255 : Int32)).toUInt32.toUInt16.toUInt32.toInt32)), .val (.int ((((p0.toUInt32 >>> ((18 : Int32) &&& 31).toUInt32).toInt32) &&& (255 : Int32)).toUInt32.toUInt16.toUInt32.toInt32))] [(.int (3 : Int32))]) ?_
    refine XS.ifYes X0.here hx rfl (pc0 := 35) (pc' := 49) rfl (hb hby d6_35) rfl ((if0 _ _).trans (feq (by decide : ¬ ((3 : Int32) = (0 : Int32)))).2) (by decide) (by decide) ?_
    refine sh (mkF m 49 #[.val (.int p0), .val (.int (3 : Int32)), .val (.int ((((p0.toUInt32 >>> ((2 : Int32) &&& 31).toUInt32).toInt32) &&& (255 : Int32)).toUInt32.toUInt16.toUInt32.toInt32)), .val (.int ((((p0.toUInt32 >>> ((10 : Int32) &&& 31).toUInt32).toInt32) &&& (255 : Int32)).toUInt32.toUInt16.toUInt32.toInt32)), .val (.int ((((p0.toUInt32 >>> ((18 : Int32) &&& 31).toUInt32).toInt32) &&& (255 : Int32)).toUInt32.toUInt16.toUInt32.toInt32))] []) ?_
    refine XS.iloadN X0.here hx rfl (hb hby d6_49) rfl ?_
    refine sh (mkF m 50 #[.val (.int p0), .val (.int (3 : Int32)), .val (.int ((((p0.toUInt32 >>> ((2 : Int32) &&& 31).toUInt32).toInt32) &&& (255 : Int32)).toUInt32.toUInt16.toUInt32.toInt32)), .val (.int ((((p0.toUInt32 >>> ((10 : Int32) &&& 31).toUInt32).toInt32) &&& (255 : Int32)).toUInt32.toUInt16.toUInt32.toInt32)), .val (.int ((((p0.toUInt32 >>> ((18 : Int32) &&& 31).toUInt32).toInt32) &&& (255 : Int32)).toUInt32.toUInt16.toUInt32.toInt32))] [(.int (3 : Int32))]) ?_
    refine XS.iconst X0.here hx rfl (hb hby d6_50) ?_
    refine sh (mkF m 51 #[.val (.int p0), .val (.int (3 : Int32)), .val (.int ((((p0.toUInt32 >>> ((2 : Int32) &&& 31).toUInt32).toInt32) &&& (255 : Int32)).toUInt32.toUInt16.toUInt32.toInt32)), .val (.int ((((p0.toUInt32 >>> ((10 : Int32) &&& 31).toUInt32).toInt32) &&& (255 : Int32)).toUInt32.toUInt16.toUInt32.toInt32)), .val (.int ((((p0.toUInt32 >>> ((18 : Int32) &&& 31).toUInt32).toInt32) &&& (255 : Int32)).toUInt32.toUInt16.toUInt32.toInt32))] [(.int (1 : Int32)), (.int (3 : Int32))]) ?_
    refine XS.icmpYes X0.here hx rfl (pc0 := 51) (pc' := 69) rfl (hb hby d6_51) rfl (feq (by decide : ¬ ((3 : Int32) = (1 : Int32)))).2 (by decide) (by decide) ?_
    refine sh (mkF m 69 #[.val (.int p0), .val (.int (3 : Int32)), .val (.int ((((p0.toUInt32 >>> ((2 : Int32) &&& 31).toUInt32).toInt32) &&& (255 : Int32)).toUInt32.toUInt16.toUInt32.toInt32)), .val (.int ((((p0.toUInt32 >>> ((10 : Int32) &&& 31).toUInt32).toInt32) &&& (255 : Int32)).toUInt32.toUInt16.toUInt32.toInt32)), .val (.int ((((p0.toUInt32 >>> ((18 : Int32) &&& 31).toUInt32).toInt32) &&& (255 : Int32)).toUInt32.toUInt16.toUInt32.toInt32))] []) ?_
    refine XS.iloadN X0.here hx rfl (hb hby d6_69) rfl ?_
    refine sh (mkF m 70 #[.val (.int p0), .val (.int (3 : Int32)), .val (.int ((((p0.toUInt32 >>> ((2 : Int32) &&& 31).toUInt32).toInt32) &&& (255 : Int32)).toUInt32.toUInt16.toUInt32.toInt32)), .val (.int ((((p0.toUInt32 >>> ((10 : Int32) &&& 31).toUInt32).toInt32) &&& (255 : Int32)).toUInt32.toUInt16.toUInt32.toInt32)), .val (.int ((((p0.toUInt32 >>> ((18 : Int32) &&& 31).toUInt32).toInt32) &&& (255 : Int32)).toUInt32.toUInt16.toUInt32.toInt32))] [(.int (3 : Int32))]) ?_
    refine XS.iconst X0.here hx rfl (hb hby d6_70) ?_
    refine sh (mkF m 71 #[.val (.int p0), .val (.int (3 : Int32)), .val (.int ((((p0.toUInt32 >>> ((2 : Int32) &&& 31).toUInt32).toInt32) &&& (255 : Int32)).toUInt32.toUInt16.toUInt32.toInt32)), .val (.int ((((p0.toUInt32 >>> ((10 : Int32) &&& 31).toUInt32).toInt32) &&& (255 : Int32)).toUInt32.toUInt16.toUInt32.toInt32)), .val (.int ((((p0.toUInt32 >>> ((18 : Int32) &&& 31).toUInt32).toInt32) &&& (255 : Int32)).toUInt32.toUInt16.toUInt32.toInt32))] [(.int (2 : Int32)), (.int (3 : Int32))]) ?_
    refine XS.icmpYes X0.here hx rfl (pc0 := 71) (pc' := 93) rfl (hb hby d6_71) rfl (feq (by decide : ¬ ((3 : Int32) = (2 : Int32)))).2 (by decide) (by decide) ?_
    refine sh (mkF m 93 #[.val (.int p0), .val (.int (3 : Int32)), .val (.int ((((p0.toUInt32 >>> ((2 : Int32) &&& 31).toUInt32).toInt32) &&& (255 : Int32)).toUInt32.toUInt16.toUInt32.toInt32)), .val (.int ((((p0.toUInt32 >>> ((10 : Int32) &&& 31).toUInt32).toInt32) &&& (255 : Int32)).toUInt32.toUInt16.toUInt32.toInt32)), .val (.int ((((p0.toUInt32 >>> ((18 : Int32) &&& 31).toUInt32).toInt32) &&& (255 : Int32)).toUInt32.toUInt16.toUInt32.toInt32))] []) ?_
    refine st1 _ ?_
    refine sh (mkF m 96 #[.val (.int p0), .val (.int (3 : Int32)), .val (.int ((((p0.toUInt32 >>> ((2 : Int32) &&& 31).toUInt32).toInt32) &&& (255 : Int32)).toUInt32.toUInt16.toUInt32.toInt32)), .val (.int ((((p0.toUInt32 >>> ((10 : Int32) &&& 31).toUInt32).toInt32) &&& (255 : Int32)).toUInt32.toUInt16.toUInt32.toInt32)), .val (.int ((((p0.toUInt32 >>> ((18 : Int32) &&& 31).toUInt32).toInt32) &&& (255 : Int32)).toUInt32.toUInt16.toUInt32.toInt32))] [(.ref b1)]) ?_
    refine XS.dup X1.here hx rfl (hb hby d6_96) rfl rfl ?_
    refine sh (mkF m 97 #[.val (.int p0), .val (.int (3 : Int32)), .val (.int ((((p0.toUInt32 >>> ((2 : Int32) &&& 31).toUInt32).toInt32) &&& (255 : Int32)).toUInt32.toUInt16.toUInt32.toInt32)), .val (.int ((((p0.toUInt32 >>> ((10 : Int32) &&& 31).toUInt32).toInt32) &&& (255 : Int32)).toUInt32.toUInt16.toUInt32.toInt32)), .val (.int ((((p0.toUInt32 >>> ((18 : Int32) &&& 31).toUInt32).toInt32) &&& (255 : Int32)).toUInt32.toUInt16.toUInt32.toInt32))] [(.ref b1), (.ref b1)]) ?_
    refine XS.iconst X1.here hx rfl (hb hby d6_97) ?_
    refine sh (mkF m 98 #[.val (.int p0), .val (.int (3 : Int32)), .val (.int ((((p0.toUInt32 >>> ((2 : Int32) &&& 31).toUInt32).toInt32) &&& (255 : Int32)).toUInt32.toUInt16.toUInt32.toInt32)), .val (.int ((((p0.toUInt32 >>> ((10 : Int32) &&& 31).toUInt32).toInt32) &&& (255 : Int32)).toUInt32.toUInt16.toUInt32.toInt32)), .val (.int ((((p0.toUInt32 >>> ((18 : Int32) &&& 31).toUInt32).toInt32) &&& (255 : Int32)).toUInt32.toUInt16.toUInt32.toInt32))] [(.int (3 : Int32)), (.ref b1), (.ref b1)]) ?_
    refine st3 _ ?_
    refine sh (mkF m 100 #[.val (.int p0), .val (.int (3 : Int32)), .val (.int ((((p0.toUInt32 >>> ((2 : Int32) &&& 31).toUInt32).toInt32) &&& (255 : Int32)).toUInt32.toUInt16.toUInt32.toInt32)), .val (.int ((((p0.toUInt32 >>> ((10 : Int32) &&& 31).toUInt32).toInt32) &&& (255 : Int32)).toUInt32.toUInt16.toUInt32.toInt32)), .val (.int ((((p0.toUInt32 >>> ((18 : Int32) &&& 31).toUInt32).toInt32) &&& (255 : Int32)).toUInt32.toUInt16.toUInt32.toInt32))] [(.ref b3), (.ref b1), (.ref b1)]) ?_
    refine XS.dup X3.here hx rfl (hb hby d6_100) rfl rfl ?_
    refine sh (mkF m 101 #[.val (.int p0), .val (.int (3 : Int32)), .val (.int ((((p0.toUInt32 >>> ((2 : Int32) &&& 31).toUInt32).toInt32) &&& (255 : Int32)).toUInt32.toUInt16.toUInt32.toInt32)), .val (.int ((((p0.toUInt32 >>> ((10 : Int32) &&& 31).toUInt32).toInt32) &&& (255 : Int32)).toUInt32.toUInt16.toUInt32.toInt32)), .val (.int ((((p0.toUInt32 >>> ((18 : Int32) &&& 31).toUInt32).toInt32) &&& (255 : Int32)).toUInt32.toUInt16.toUInt32.toInt32))] [(.ref b3), (.ref b3), (.ref b1), (.ref b1)]) ?_
    refine XS.iconst X3.here hx rfl (hb hby d6_101) ?_
    refine sh (mkF m 102 #[.val (.int p0), .val (.int (3 : Int32)), .val (.int ((((p0.toUInt32 >>> ((2 : Int32) &&& 31).toUInt32).toInt32) &&& (255 : Int32)).toUInt32.toUInt16.toUInt32.toInt32)), .val (.int ((((p0.toUInt32 >>> ((10 : Int32) &&& 31).toUInt32).toInt32) &&& (255 : Int32)).toUInt32.toUInt16.toUInt32.toInt32)), .val (.int ((((p0.toUInt32 >>> ((18 : Int32) &&& 31).toUInt32).toInt32) &&& (255 : Int32)).toUInt32.toUInt16.toUInt32.toInt32))] [(.int (0 : Int32)), (.ref b3), (.ref b3), (.ref b1), (.ref b1)]) ?_
    refine XS.iloadN X3.here hx rfl (hb hby d6_102) rfl ?_
    refine sh (mkF m 103 #[.val (.int p0), .val (.int (3 : Int32)), .val (.int ((((p0.toUInt32 >>> ((2 : Int32) &&& 31).toUInt32).toInt32) &&& (255 : Int32)).toUInt32.toUInt16.toUInt32.toInt32)), .val (.int ((((p0.toUInt32 >>> ((10 : Int32) &&& 31).toUInt32).toInt32) &&& (255 : Int32)).toUInt32.toUInt16.toUInt32.toInt32)), .val (.int ((((p0.toUInt32 >>> ((18 : Int32) &&& 31).toUInt32).toInt32) &&& (255 : Int32)).toUInt32.toUInt16.toUInt32.toInt32))] [(.int ((((p0.toUInt32 >>> ((2 : Int32) &&& 31).toUInt32).toInt32) &&& (255 : Int32)).toUInt32.toUInt16.toUInt32.toInt32)), (.int (0 : Int32)), (.ref b3), (.ref b3), (.ref b1), (.ref b1)]) ?_
    refine st5 _ ?_
    refine sh (mkF m 104 #[.val (.int p0), .val (.int (3 : Int32)), .val (.int ((((p0.toUInt32 >>> ((2 : Int32) &&& 31).toUInt32).toInt32) &&& (255 : Int32)).toUInt32.toUInt16.toUInt32.toInt32)), .val (.int ((((p0.toUInt32 >>> ((10 : Int32) &&& 31).toUInt32).toInt32) &&& (255 : Int32)).toUInt32.toUInt16.toUInt32.toInt32)), .val (.int ((((p0.toUInt32 >>> ((18 : Int32) &&& 31).toUInt32).toInt32) &&& (255 : Int32)).toUInt32.toUInt16.toUInt32.toInt32))] [(.ref b3), (.ref b1), (.ref b1)]) ?_
    refine XS.dup X5.here hx rfl (hb hby d6_104) rfl rfl ?_
    refine sh (mkF m 105 #[.val (.int p0), .val (.int (3 : Int32)), .val (.int ((((p0.toUInt32 >>> ((2 : Int32) &&& 31).toUInt32).toInt32) &&& (255 : Int32)).toUInt32.toUInt16.toUInt32.toInt32)), .val (.int ((((p0.toUInt32 >>> ((10 : Int32) &&& 31).toUInt32).toInt32) &&& (255 : Int32)).toUInt32.toUInt16.toUInt32.toInt32)), .val (.int ((((p0.toUInt32 >>> ((18 : Int32) &&& 31).toUInt32).toInt32) &&& (255 : Int32)).toUInt32.toUInt16.toUInt32.toInt32))] [(.ref b3), (.ref b3), (.ref b1), (.ref b1)]) ?_
    refine XS.iconst X5.here hx rfl (hb hby d6_105) ?_
    refine sh (mkF m 106 #[.val (.int p0), .val (.int (3 : Int32)), .val (.int ((((p0.toUInt32 >>> ((2 : Int32) &&& 31).toUInt32).toInt32) &&& (255 : Int32)).toUInt32.toUInt16.toUInt32.toInt32)), .val (.int ((((p0.toUInt32 >>> ((10 : Int32) &&& 31).toUInt32).toInt32) &&& (255 : Int32)).toUInt32.toUInt16.toUInt32.toInt32)), .val (.int ((((p0.toUInt32 >>> ((18 : Int32) &&& 31).toUInt32).toInt32) &&& (255 : Int32)).toUInt32.toUInt16.toUInt32.toInt32))] [(.int (1 : Int32)), (.ref b3), (.ref b3), (.ref b1), (.ref b1)]) ?_
    refine XS.iloadN X5.here hx rfl (hb hby d6_106) rfl ?_
    refine sh (mkF m 107 #[.val (.int p0), .val (.int (3 : Int32)), .val (.int ((((p0.toUInt32 >>> ((2 : Int32) &&& 31).toUInt32).toInt32) &&& (255 : Int32)).toUInt32.toUInt16.toUInt32.toInt32)), .val (.int ((((p0.toUInt32 >>> ((10 : Int32) &&& 31).toUInt32).toInt32) &&& (255 : Int32)).toUInt32.toUInt16.toUInt32.toInt32)), .val (.int ((((p0.toUInt32 >>> ((18 : Int32) &&& 31).toUInt32).toInt32) &&& (255 : Int32)).toUInt32.toUInt16.toUInt32.toInt32))] [(.int ((((p0.toUInt32 >>> ((10 : Int32) &&& 31).toUInt32).toInt32) &&& (255 : Int32)).toUInt32.toUInt16.toUInt32.toInt32)), (.int (1 : Int32)), (.ref b3), (.ref b3), (.ref b1), (.ref b1)]) ?_
    refine st6 _ ?_
    refine sh (mkF m 108 #[.val (.int p0), .val (.int (3 : Int32)), .val (.int ((((p0.toUInt32 >>> ((2 : Int32) &&& 31).toUInt32).toInt32) &&& (255 : Int32)).toUInt32.toUInt16.toUInt32.toInt32)), .val (.int ((((p0.toUInt32 >>> ((10 : Int32) &&& 31).toUInt32).toInt32) &&& (255 : Int32)).toUInt32.toUInt16.toUInt32.toInt32)), .val (.int ((((p0.toUInt32 >>> ((18 : Int32) &&& 31).toUInt32).toInt32) &&& (255 : Int32)).toUInt32.toUInt16.toUInt32.toInt32))] [(.ref b3), (.ref b1), (.ref b1)]) ?_
    refine XS.dup X6.here hx rfl (hb hby d6_108) rfl rfl ?_
    refine sh (mkF m 109 #[.val (.int p0), .val (.int (3 : Int32)), .val (.int ((((p0.toUInt32 >>> ((2 : Int32) &&& 31).toUInt32).toInt32) &&& (255 : Int32)).toUInt32.toUInt16.toUInt32.toInt32)), .val (.int ((((p0.toUInt32 >>> ((10 : Int32) &&& 31).toUInt32).toInt32) &&& (255 : Int32)).toUInt32.toUInt16.toUInt32.toInt32)), .val (.int ((((p0.toUInt32 >>> ((18 : Int32) &&& 31).toUInt32).toInt32) &&& (255 : Int32)).toUInt32.toUInt16.toUInt32.toInt32))] [(.ref b3), (.ref b3), (.ref b1), (.ref b1)]) ?_
    refine XS.iconst X6.here hx rfl (hb hby d6_109) ?_
    refine sh (mkF m 110 #[.val (.int p0), .val (.int (3 : Int32)), .val (.int ((((p0.toUInt32 >>> ((2 : Int32) &&& 31).toUInt32).toInt32) &&& (255 : Int32)).toUInt32.toUInt16.toUInt32.toInt32)), .val (.int ((((p0.toUInt32 >>> ((10 : Int32) &&& 31).toUInt32).toInt32) &&& (255 : Int32)).toUInt32.toUInt16.toUInt32.toInt32)), .val (.int ((((p0.toUInt32 >>> ((18 : Int32) &&& 31).toUInt32).toInt32) &&& (255 : Int32)).toUInt32.toUInt16.toUInt32.toInt32))] [(.int (2 : Int32)), (.ref b3), (.ref b3), (.ref b1), (.ref b1)]) ?_
    refine XS.iload X6.here hx rfl (hb hby d6_110) rfl ?_
    refine sh (mkF m 112 #[.val (.int p0), .val (.int (3 : Int32)), .val (.int ((((p0.toUInt32 >>> ((2 : Int32) &&& 31).toUInt32).toInt32) &&& (255 : Int32)).toUInt32.toUInt16.toUInt32.toInt32)), .val (.int ((((p0.toUInt32 >>> ((10 : Int32) &&& 31).toUInt32).toInt32) &&& (255 : Int32)).toUInt32.toUInt16.toUInt32.toInt32)), .val (.int ((((p0.toUInt32 >>> ((18 : Int32) &&& 31).toUInt32).toInt32) &&& (255 : Int32)).toUInt32.toUInt16.toUInt32.toInt32))] [(.int ((((p0.toUInt32 >>> ((18 : Int32) &&& 31).toUInt32).toInt32) &&& (255 : Int32)).toUInt32.toUInt16.toUInt32.toInt32)), (.int (2 : Int32)), (.ref b3), (.ref b3), (.ref b1), (.ref b1)]) ?_
    refine st7 _ ?_
    refine sh (mkF m 113 #[.val (.int p0), .val (.int (3 : Int32)), .val (.int ((((p0.toUInt32 >>> ((2 : Int32) &&& 31).toUInt32).toInt32) &&& (255 : Int32)).toUInt32.toUInt16.toUInt32.toInt32)), .val (.int ((((p0.toUInt32 >>> ((10 : Int32) &&& 31).toUInt32).toInt32) &&& (255 : Int32)).toUInt32.toUInt16.toUInt32.toInt32)), .val (.int ((((p0.toUInt32 >>> ((18 : Int32) &&& 31).toUInt32).toInt32) &&& (255 : Int32)).toUInt32.toUInt16.toUInt32.toInt32))] [(.ref b3), (.ref b1), (.ref b1)]) ?_
    refine st8.trans ?_
    refine sh (mkF m 116 #[.val (.int p0), .val (.int (3 : Int32)), .val (.int ((((p0.toUInt32 >>> ((2 : Int32) &&& 31).toUInt32).toInt32) &&& (255 : Int32)).toUInt32.toUInt16.toUInt32.toInt32)), .val (.int ((((p0.toUInt32 >>> ((10 : Int32) &&& 31).toUInt32).toInt32) &&& (255 : Int32)).toUInt32.toUInt16.toUInt32.toInt32)), .val (.int ((((p0.toUInt32 >>> ((18 : Int32) &&& 31).toUInt32).toInt32) &&& (255 : Int32)).toUInt32.toUInt16.toUInt32.toInt32))] [(.ref b1)]) ?_
    exact retOut X8 hx Bd.returns rfl (Or.inr (Or.inr (Or.inr (Or.inr ⟨rfl, rfl, rfl⟩)))) (hb hby d6_116) hr
  · show Q_rmTX3 Z p0 s_CS h0 n0 _ T8.heap _
    exact ⟨b1, vb_8, kb_8, rfl, N8, (Nat.le_trans (Nat.le_refl h0.size) (Nat.le_of_eq g1.symm)), (((((((Keep.refl h0 []).ext E1).ext E3).wr W5 (Or.inr (Nat.le_trans (Nat.le_trans (Nat.le_refl h0.size) E1.1) (Nat.le_of_eq g3.symm)))).wr W6 (Or.inr (Nat.le_trans (Nat.le_trans (Nat.le_refl h0.size) E1.1) (Nat.le_of_eq g3.symm)))).wr W7 (Or.inr (Nat.le_trans (Nat.le_trans (Nat.le_refl h0.size) E1.1) (Nat.le_of_eq g3.symm)))).trans Kp8 (allS (Or.inr (Nat.le_trans (Nat.le_refl h0.size) (Nat.le_of_eq g1.symm))) all0)), Fq8_0, Fq8_1, Fq8_2, Vz⟩
set_option maxRecDepth 65536 in
set_option maxHeartbeats 40000000 in
theorem rmTX (l : Launch) (Z : State) (a0 : Array Value) (hw : ∀ d ∈ tables_1, d.before a0 Z = true) (ws : List Jvm.Cond) (p0 : Int32) (s_CS : Int32) (h0 : Heap) (n0 : Nat) (Z0 : n0 ≤ h0.size) (hwS : ∀ a ∈ Bundle.stringAtoms, a.before a0 Z = true) (S_CS : Sta Z h0 "java/lang/String" "COMPACT_STRINGS" "Z" (.int s_CS)) (hcs : ¬ (s_CS = (0 : Int32))) :
    MetFree l (⟨"com/example/wirewright/bench/RunPrintedPinLaw", "text", "(I)Ljava/lang/String;"⟩ : MethodName) (head1 (Jvm.Cond.code (⟨"com/example/wirewright/bench/RunPrintedPinLaw", "text", "(I)Ljava/lang/String;"⟩ : MethodName) method_2_code 5 (some (.object "java/lang/String")) :: ws) ({ frames := 4, cells := 6, slots := 12, locals := 66 } : Room)) (fun a U => a = #[(.int p0)] ∧ Z.Warmed39 U.vm ∧ U.heap = h0 ∧ CHv Z own_EL U.vm h0) (fun _ _ _ _ _ => True) (fun _ U o U' => ∃ v L, o = .returned v ∧ Q_rmTX1 Z p0 s_CS h0 n0 v U'.heap L ∧ CHr Z own_EL U.vm U.heap U'.vm U'.heap ∧ ReturnedEndW U o U' L ({ frames := 4, cells := 6, slots := 12, locals := 66 } : Room).cells ({ frames := 4, cells := 6, slots := 12, locals := 66 } : Room).slots) := by
  rcases own_cases p0 with hn | hn | hn | hn
  · exact rmTX0 l Z a0 hw ws p0 h0 n0 Z0 hwS hn
  · exact rmTX1 l Z a0 hw ws p0 s_CS h0 n0 Z0 S_CS hcs hn
  · exact rmTX2 l Z a0 hw ws p0 s_CS h0 n0 Z0 S_CS hcs hn
  · exact rmTX3 l Z a0 hw ws p0 s_CS h0 n0 Z0 S_CS hcs hn
theorem d10_0 : decode jdk_41_method_11_code 0 = .ok (.iload_n 0, 1) := by decide +kernel
theorem d10_1 : decode jdk_41_method_11_code 1 = .ok (.ifCond .lt 8, 3) := by decide +kernel
theorem d10_4 : decode jdk_41_method_11_code 4 = .ok (.iload_n 0, 1) := by decide +kernel
theorem d10_5 : decode jdk_41_method_11_code 5 = .ok (.iload_n 1, 1) := by decide +kernel
theorem d10_6 : decode jdk_41_method_11_code 6 = .ok (.if_icmp .lt 10, 3) := by decide +kernel
theorem d10_16 : decode jdk_41_method_11_code 16 = .ok (.iload_n 0, 1) := by decide +kernel
theorem d10_17 : decode jdk_41_method_11_code 17 = .ok (.ireturn, 1) := by decide +kernel
theorem pn_4 : plainName "jdk/internal/util/Preconditions" = true := by first | (simp [plainName, overriddenIn]; done) | decide +kernel
def Q_rmCXN (Z : State) (p0 : Int32) (p1 : Int32) (h0 : Heap) (n0 : Nat) (v : Option Value) (h : Heap) (L : List Loc) : Prop := v = some (.int p0) ∧ Fr n0 L ∧ h = h0
theorem ef_rmCXN (m : MethodId) (p0 : Int32) (p1 : Int32) : entryFrame m #[(.int p0), (.int p1), .null] 3 = mkF m 0 #[.val (.int p0), .val (.int p1), .val .null] [] := by first | (simp [entryFrame, mkF, argsToLocals, Value.category]; done) | rfl
set_option maxRecDepth 65536 in
set_option maxHeartbeats 40000000 in
theorem rmCXN (l : Launch) (Z : State) (a0 : Array Value) (hw : ∀ d ∈ tables_1, d.before a0 Z = true) (ws : List Jvm.Cond) (p0 : Int32) (p1 : Int32) (h0 : Heap) (n0 : Nat) (Z0 : n0 ≤ h0.size) (hix0 : ¬ (p0 < (0 : Int32))) (hix1 : p0 < p1) :
    MetFree l (⟨"jdk/internal/util/Preconditions", "checkIndex", "(IILjava/util/function/BiFunction;)I"⟩ : MethodName) (head1 (Jvm.Cond.code (⟨"jdk/internal/util/Preconditions", "checkIndex", "(IILjava/util/function/BiFunction;)I"⟩ : MethodName) jdk_41_method_11_code 3 (some .int) :: ws) ({ frames := 0, cells := 0, slots := 0, locals := 0 } : Room)) (fun a U => a = #[(.int p0), (.int p1), .null] ∧ Z.Warmed39 U.vm ∧ U.heap = h0) (fun _ _ _ _ _ => True) (fun _ U o U' => ∃ v L, o = .returned v ∧ Q_rmCXN Z p0 p1 h0 n0 v U'.heap L ∧ FrameEnd U o U' L ({ frames := 0, cells := 0, slots := 0, locals := 0 } : Room).cells ({ frames := 0, cells := 0, slots := 0, locals := 0 } : Room).slots) := by
  refine MetFree.of_bodySF (plainFor_of_name pn_4) hisR ?_
  intro p e s m args below meth c s₁ Bd hml0 hP hK
  obtain ⟨rfl, hZ, hh⟩ := hP
  have hx := Bd.exec
  have hby := Bd.bytes
  have hml : c.maxLocals = 3 := hml0
  have hown : s.vm.findClass "jdk/internal/util/Preconditions" = some m.cls := findClass_of_methodNamed Bd.named
  have hnm := (name_of_methodNamed Bd.named Bd.method).1
  have X0 : Stand p l e ({ frames := 0, cells := 0, slots := 0, locals := 0 } : Room) s m #[(.int p0), (.int p1), .null] below meth c s₁ [] 0 0 := Stand.of_body Bd
  have e0 : s₁.heap = h0 := by rw [← hh, Bd.state]; rfl
  have N0 := Fr.nil n0
  have pre0 : ∀ t, Steps p.tables e below (s₁.setTop (mkF m 0 #[.val (.int p0), .val (.int p1), .val .null] [])) t → Steps p.tables e below (s₁.setTop (entryFrame m #[(.int p0), (.int p1), .null] 3)) t := fun t k => castTop (ef_rmCXN m p0 p1) k
  obtain ⟨fs, hr, hrun, hended, hW, hsame⟩ := X0.leave (v := some (.int p0)) (fun h => by rw [Bd.returns] at h; cases h)
  refine ⟨_, _, pre0 _ ?_, hrun, hended, _, _, rfl, ?_, ⟨_, rfl⟩, hW, hsame.mono (by decide) (by decide)⟩
  · refine sh (mkF m 0 #[.val (.int p0), .val (.int p1), .val .null] []) ?_
    refine XS.iloadN X0.here hx rfl (hb hby d10_0) rfl ?_
    refine sh (mkF m 1 #[.val (.int p0), .val (.int p1), .val .null] [(.int p0)]) ?_
    refine XS.ifNo X0.here hx rfl (hb hby d10_1) rfl ((if0 _ _).trans (flt hix0).1) ?_
    refine sh (mkF m 4 #[.val (.int p0), .val (.int p1), .val .null] []) ?_
    refine XS.iloadN X0.here hx rfl (hb hby d10_4) rfl ?_
    refine sh (mkF m 5 #[.val (.int p0), .val (.int p1), .val .null] [(.int p0)]) ?_
    refine XS.iloadN X0.here hx rfl (hb hby d10_5) rfl ?_
    refine sh (mkF m 6 #[.val (.int p0), .val (.int p1), .val .null] [(.int p1), (.int p0)]) ?_
    refine XS.icmpYes X0.here hx rfl (pc0 := 6) (pc' := 16) rfl (hb hby d10_6) rfl (tlt hix1).1 (by decide) (by decide) ?_
    refine sh (mkF m 16 #[.val (.int p0), .val (.int p1), .val .null] []) ?_
    refine XS.iloadN X0.here hx rfl (hb hby d10_16) rfl ?_
    refine sh (mkF m 17 #[.val (.int p0), .val (.int p1), .val .null] [(.int p0)]) ?_
    exact retI X0 hx Bd.returns (hb hby d10_17) hr
  · show Q_rmCXN Z p0 p1 h0 n0 _ s₁.heap _
    rw [e0]
    exact ⟨rfl, N0, rfl⟩
theorem d11_0 : decode jdk_42_method_155_code 0 = .ok (.iload_n 0, 1) := by decide +kernel
theorem d11_1 : decode jdk_42_method_155_code 1 = .ok (.iload_n 1, 1) := by decide +kernel
theorem d11_2 : decode jdk_42_method_155_code 2 = .ok (.getstatic 1053, 3) := by decide +kernel
theorem d11_5 : decode jdk_42_method_155_code 5 = .ok (.invokestatic 1059, 3) := by decide +kernel
theorem pd_8 : parseMethodDescriptor "(IILjava/util/function/BiFunction;)I" = some ⟨[.int, .int, (.object "java/util/function/BiFunction")], some .int⟩ := by decide +kernel
theorem d11_8 : decode jdk_42_method_155_code 8 = .ok (.pop, 1) := by decide +kernel
theorem d11_9 : decode jdk_42_method_155_code 9 = .ok (.return_, 1) := by decide +kernel
def Q_rmCKN (Z : State) (p0 : Int32) (p1 : Int32) (h0 : Heap) (n0 : Nat) (v : Option Value) (h : Heap) (L : List Loc) : Prop := v = none ∧ Fr n0 L ∧ h = h0
theorem ef_rmCKN (m : MethodId) (p0 : Int32) (p1 : Int32) : entryFrame m #[(.int p0), (.int p1)] 2 = mkF m 0 #[.val (.int p0), .val (.int p1)] [] := by first | (simp [entryFrame, mkF, argsToLocals, Value.category]; done) | rfl
set_option maxRecDepth 65536 in
set_option maxHeartbeats 40000000 in
theorem rmCKN (l : Launch) (Z : State) (a0 : Array Value) (hw : ∀ d ∈ tables_1, d.before a0 Z = true) (ws : List Jvm.Cond) (p0 : Int32) (p1 : Int32) (h0 : Heap) (n0 : Nat) (Z0 : n0 ≤ h0.size) (hix0 : ¬ (p0 < (0 : Int32))) (hix1 : p0 < p1) (S_SF : Sta Z h0 "jdk/internal/util/Preconditions" "SIOOBE_FORMATTER" "Ljava/util/function/BiFunction;" .null) :
    MetFree l (⟨"java/lang/String", "checkIndex", "(II)V"⟩ : MethodName) (head1 (Jvm.Cond.code (⟨"java/lang/String", "checkIndex", "(II)V"⟩ : MethodName) jdk_42_method_155_code 2 none :: ws) ({ frames := 1, cells := 0, slots := 0, locals := 14 } : Room)) (fun a U => a = #[(.int p0), (.int p1)] ∧ Z.Warmed39 U.vm ∧ U.heap = h0) (fun _ _ _ _ _ => True) (fun _ U o U' => ∃ v L, o = .returned v ∧ Q_rmCKN Z p0 p1 h0 n0 v U'.heap L ∧ FrameEnd U o U' L ({ frames := 1, cells := 0, slots := 0, locals := 14 } : Room).cells ({ frames := 1, cells := 0, slots := 0, locals := 14 } : Room).slots) := by
  refine MetFree.of_bodySF (plainFor_of_name pn_1) hisR ?_
  intro p e s m args below meth c s₁ Bd hml0 hP hK
  obtain ⟨rfl, hZ, hh⟩ := hP
  have hx := Bd.exec
  have hby := Bd.bytes
  have hml : c.maxLocals = 2 := hml0
  have hown : s.vm.findClass "java/lang/String" = some m.cls := findClass_of_methodNamed Bd.named
  have hnm := (name_of_methodNamed Bd.named Bd.method).1
  have X0 : Stand p l e ({ frames := 1, cells := 0, slots := 0, locals := 14 } : Room) s m #[(.int p0), (.int p1)] below meth c s₁ [] 0 0 := Stand.of_body Bd
  have e0 : s₁.heap = h0 := by rw [← hh, Bd.state]; rfl
  have N0 := Fr.nil n0
  have pre0 : ∀ t, Steps p.tables e below (s₁.setTop (mkF m 0 #[.val (.int p0), .val (.int p1)] [])) t → Steps p.tables e below (s₁.setTop (entryFrame m #[(.int p0), (.int p1)] 2)) t := fun t k => castTop (ef_rmCKN m p0 p1) k
  obtain ⟨T1, X1, e1, st1⟩ := getS2 X0 hx hZ hown (host := "") (Or.inl (ow hw 111 rfl)) Via.refl e0 S_SF (g := (mkF m 2 #[.val (.int p0), .val (.int p1)] [(.int p1), (.int p0)])) rfl (hb hby d11_2)
  obtain ⟨_, _, ⟨T2, L2, k2, n2⟩, -, X2, ⟨Lc2, hQ2, l2, y2, z2⟩, st2⟩ := Jvm.LawKit.callS X1 hx (y := (⟨"jdk/internal/util/Preconditions", "checkIndex", "(IILjava/util/function/BiFunction;)I"⟩ : MethodName)) hown (mvT hZ (ow hw 113 rfl)) (mvT hZ (ow hw 114 rfl)) (mvT hZ (ow hw 112 rfl)) (mvT hZ (ow hw 115 rfl)) (by decide) (backOf (W := 0) (rmCXN l Z a0 hw [] p0 p1 h0 n0 Z0 hix0 hix1) hZ (ow hw 115 rfl) (ow hw 112 rfl) (by decide) (by decide)) (g := (mkF m 5 #[.val (.int p0), .val (.int p1)] [.null, (.int p1), (.int p0)])) rfl (by rw [hml]; rfl) (argsL := [(.int p0), (.int p1), .null]) (rest := []) (lenOf pd_8 rfl) rfl (by show 2 * 0 + _ ≤ _; exact Nat.le_of_eq rfl) (hb hby d11_5) (fun _ _ => ⟨rfl, e1, (by decide : 0 + 0 ≤ _), (by decide : 0 + 0 ≤ _)⟩)
  dsimp only [Pt.U, Pt.locs, Pt.cells, Pt.slots] at X2 l2 y2 z2 st2 hQ2
  subst l2 y2 z2
  obtain ⟨rfl, Nq2, e2⟩ := hQ2
  have N2 := Fr.app N0 Nq2
  obtain ⟨fs, hr, hrun, hended, hW, hsame⟩ := X2.leave (v := none) (fun _ => rfl)
  refine ⟨_, _, pre0 _ ?_, hrun, hended, _, _, rfl, ?_, ⟨_, rfl⟩, hW, hsame.mono (by decide) (by decide)⟩
  · refine sh (mkF m 0 #[.val (.int p0), .val (.int p1)] []) ?_
    refine XS.iloadN X0.here hx rfl (hb hby d11_0) rfl ?_
    refine sh (mkF m 1 #[.val (.int p0), .val (.int p1)] [(.int p0)]) ?_
    refine XS.iloadN X0.here hx rfl (hb hby d11_1) rfl ?_
    refine sh (mkF m 2 #[.val (.int p0), .val (.int p1)] [(.int p1), (.int p0)]) ?_
    refine st1 _ ?_
    refine sh (mkF m 5 #[.val (.int p0), .val (.int p1)] [.null, (.int p1), (.int p0)]) ?_
    refine st2 _ ?_
    refine sh (mkF m 8 #[.val (.int p0), .val (.int p1)] [(.int p0)]) ?_
    refine XS.pop X2.here hx rfl (hb hby d11_8) rfl rfl ?_
    refine sh (mkF m 9 #[.val (.int p0), .val (.int p1)] []) ?_
    exact X2.returnOut hx Bd.returns (hb hby d11_9) hr
  · show Q_rmCKN Z p0 p1 h0 n0 _ T2.heap _
    rw [e2]
    exact ⟨rfl, N2, rfl⟩
def Q_rmCXR (Z : State) (p0 : Int32) (p1 : Int32) (wf : Addr) (h0 : Heap) (n0 : Nat) (v : Option Value) (h : Heap) (L : List Loc) : Prop := v = some (.int p0) ∧ Fr n0 L ∧ h = h0
theorem ef_rmCXR (m : MethodId) (p0 : Int32) (p1 : Int32) (wf : Addr) : entryFrame m #[(.int p0), (.int p1), (.ref wf)] 3 = mkF m 0 #[.val (.int p0), .val (.int p1), .val (.ref wf)] [] := by first | (simp [entryFrame, mkF, argsToLocals, Value.category]; done) | rfl
set_option maxRecDepth 65536 in
set_option maxHeartbeats 40000000 in
theorem rmCXR (l : Launch) (Z : State) (a0 : Array Value) (hw : ∀ d ∈ tables_1, d.before a0 Z = true) (ws : List Jvm.Cond) (p0 : Int32) (p1 : Int32) (wf : Addr) (h0 : Heap) (n0 : Nat) (Z0 : n0 ≤ h0.size) (hix0 : ¬ (p0 < (0 : Int32))) (hix1 : p0 < p1) :
    MetFree l (⟨"jdk/internal/util/Preconditions", "checkIndex", "(IILjava/util/function/BiFunction;)I"⟩ : MethodName) (head1 (Jvm.Cond.code (⟨"jdk/internal/util/Preconditions", "checkIndex", "(IILjava/util/function/BiFunction;)I"⟩ : MethodName) jdk_41_method_11_code 3 (some .int) :: ws) ({ frames := 0, cells := 0, slots := 0, locals := 0 } : Room)) (fun a U => a = #[(.int p0), (.int p1), (.ref wf)] ∧ Z.Warmed39 U.vm ∧ U.heap = h0) (fun _ _ _ _ _ => True) (fun _ U o U' => ∃ v L, o = .returned v ∧ Q_rmCXR Z p0 p1 wf h0 n0 v U'.heap L ∧ FrameEnd U o U' L ({ frames := 0, cells := 0, slots := 0, locals := 0 } : Room).cells ({ frames := 0, cells := 0, slots := 0, locals := 0 } : Room).slots) := by
  refine MetFree.of_bodySF (plainFor_of_name pn_4) hisR ?_
  intro p e s m args below meth c s₁ Bd hml0 hP hK
  obtain ⟨rfl, hZ, hh⟩ := hP
  have hx := Bd.exec
  have hby := Bd.bytes
  have hml : c.maxLocals = 3 := hml0
  have hown : s.vm.findClass "jdk/internal/util/Preconditions" = some m.cls := findClass_of_methodNamed Bd.named
  have hnm := (name_of_methodNamed Bd.named Bd.method).1
  have X0 : Stand p l e ({ frames := 0, cells := 0, slots := 0, locals := 0 } : Room) s m #[(.int p0), (.int p1), (.ref wf)] below meth c s₁ [] 0 0 := Stand.of_body Bd
  have e0 : s₁.heap = h0 := by rw [← hh, Bd.state]; rfl
  have N0 := Fr.nil n0
  have pre0 : ∀ t, Steps p.tables e below (s₁.setTop (mkF m 0 #[.val (.int p0), .val (.int p1), .val (.ref wf)] [])) t → Steps p.tables e below (s₁.setTop (entryFrame m #[(.int p0), (.int p1), (.ref wf)] 3)) t := fun t k => castTop (ef_rmCXR m p0 p1 wf) k
  obtain ⟨fs, hr, hrun, hended, hW, hsame⟩ := X0.leave (v := some (.int p0)) (fun h => by rw [Bd.returns] at h; cases h)
  refine ⟨_, _, pre0 _ ?_, hrun, hended, _, _, rfl, ?_, ⟨_, rfl⟩, hW, hsame.mono (by decide) (by decide)⟩
  · refine sh (mkF m 0 #[.val (.int p0), .val (.int p1), .val (.ref wf)] []) ?_
    refine XS.iloadN X0.here hx rfl (hb hby d10_0) rfl ?_
    refine sh (mkF m 1 #[.val (.int p0), .val (.int p1), .val (.ref wf)] [(.int p0)]) ?_
    refine XS.ifNo X0.here hx rfl (hb hby d10_1) rfl ((if0 _ _).trans (flt hix0).1) ?_
    refine sh (mkF m 4 #[.val (.int p0), .val (.int p1), .val (.ref wf)] []) ?_
    refine XS.iloadN X0.here hx rfl (hb hby d10_4) rfl ?_
    refine sh (mkF m 5 #[.val (.int p0), .val (.int p1), .val (.ref wf)] [(.int p0)]) ?_
    refine XS.iloadN X0.here hx rfl (hb hby d10_5) rfl ?_
    refine sh (mkF m 6 #[.val (.int p0), .val (.int p1), .val (.ref wf)] [(.int p1), (.int p0)]) ?_
    refine XS.icmpYes X0.here hx rfl (pc0 := 6) (pc' := 16) rfl (hb hby d10_6) rfl (tlt hix1).1 (by decide) (by decide) ?_
    refine sh (mkF m 16 #[.val (.int p0), .val (.int p1), .val (.ref wf)] []) ?_
    refine XS.iloadN X0.here hx rfl (hb hby d10_16) rfl ?_
    refine sh (mkF m 17 #[.val (.int p0), .val (.int p1), .val (.ref wf)] [(.int p0)]) ?_
    exact retI X0 hx Bd.returns (hb hby d10_17) hr
  · show Q_rmCXR Z p0 p1 wf h0 n0 _ s₁.heap _
    rw [e0]
    exact ⟨rfl, N0, rfl⟩
def Q_rmCKR (Z : State) (p0 : Int32) (p1 : Int32) (wf : Addr) (h0 : Heap) (n0 : Nat) (v : Option Value) (h : Heap) (L : List Loc) : Prop := v = none ∧ Fr n0 L ∧ h = h0
theorem ef_rmCKR (m : MethodId) (p0 : Int32) (p1 : Int32) : entryFrame m #[(.int p0), (.int p1)] 2 = mkF m 0 #[.val (.int p0), .val (.int p1)] [] := by first | (simp [entryFrame, mkF, argsToLocals, Value.category]; done) | rfl
set_option maxRecDepth 65536 in
set_option maxHeartbeats 40000000 in
theorem rmCKR (l : Launch) (Z : State) (a0 : Array Value) (hw : ∀ d ∈ tables_1, d.before a0 Z = true) (ws : List Jvm.Cond) (p0 : Int32) (p1 : Int32) (wf : Addr) (h0 : Heap) (n0 : Nat) (Z0 : n0 ≤ h0.size) (hix0 : ¬ (p0 < (0 : Int32))) (hix1 : p0 < p1) (S_SF : Sta Z h0 "jdk/internal/util/Preconditions" "SIOOBE_FORMATTER" "Ljava/util/function/BiFunction;" (.ref wf)) :
    MetFree l (⟨"java/lang/String", "checkIndex", "(II)V"⟩ : MethodName) (head1 (Jvm.Cond.code (⟨"java/lang/String", "checkIndex", "(II)V"⟩ : MethodName) jdk_42_method_155_code 2 none :: ws) ({ frames := 1, cells := 0, slots := 0, locals := 14 } : Room)) (fun a U => a = #[(.int p0), (.int p1)] ∧ Z.Warmed39 U.vm ∧ U.heap = h0) (fun _ _ _ _ _ => True) (fun _ U o U' => ∃ v L, o = .returned v ∧ Q_rmCKR Z p0 p1 wf h0 n0 v U'.heap L ∧ FrameEnd U o U' L ({ frames := 1, cells := 0, slots := 0, locals := 14 } : Room).cells ({ frames := 1, cells := 0, slots := 0, locals := 14 } : Room).slots) := by
  refine MetFree.of_bodySF (plainFor_of_name pn_1) hisR ?_
  intro p e s m args below meth c s₁ Bd hml0 hP hK
  obtain ⟨rfl, hZ, hh⟩ := hP
  have hx := Bd.exec
  have hby := Bd.bytes
  have hml : c.maxLocals = 2 := hml0
  have hown : s.vm.findClass "java/lang/String" = some m.cls := findClass_of_methodNamed Bd.named
  have hnm := (name_of_methodNamed Bd.named Bd.method).1
  have X0 : Stand p l e ({ frames := 1, cells := 0, slots := 0, locals := 14 } : Room) s m #[(.int p0), (.int p1)] below meth c s₁ [] 0 0 := Stand.of_body Bd
  have e0 : s₁.heap = h0 := by rw [← hh, Bd.state]; rfl
  have N0 := Fr.nil n0
  have pre0 : ∀ t, Steps p.tables e below (s₁.setTop (mkF m 0 #[.val (.int p0), .val (.int p1)] [])) t → Steps p.tables e below (s₁.setTop (entryFrame m #[(.int p0), (.int p1)] 2)) t := fun t k => castTop (ef_rmCKR m p0 p1) k
  obtain ⟨T1, X1, e1, st1⟩ := getS2 X0 hx hZ hown (host := "") (Or.inl (ow hw 111 rfl)) Via.refl e0 S_SF (g := (mkF m 2 #[.val (.int p0), .val (.int p1)] [(.int p1), (.int p0)])) rfl (hb hby d11_2)
  obtain ⟨_, _, ⟨T2, L2, k2, n2⟩, -, X2, ⟨Lc2, hQ2, l2, y2, z2⟩, st2⟩ := Jvm.LawKit.callS X1 hx (y := (⟨"jdk/internal/util/Preconditions", "checkIndex", "(IILjava/util/function/BiFunction;)I"⟩ : MethodName)) hown (mvT hZ (ow hw 113 rfl)) (mvT hZ (ow hw 114 rfl)) (mvT hZ (ow hw 112 rfl)) (mvT hZ (ow hw 115 rfl)) (by decide) (backOf (W := 0) (rmCXR l Z a0 hw [] p0 p1 wf h0 n0 Z0 hix0 hix1) hZ (ow hw 115 rfl) (ow hw 112 rfl) (by decide) (by decide)) (g := (mkF m 5 #[.val (.int p0), .val (.int p1)] [(.ref wf), (.int p1), (.int p0)])) rfl (by rw [hml]; rfl) (argsL := [(.int p0), (.int p1), (.ref wf)]) (rest := []) (lenOf pd_8 rfl) rfl (by show 2 * 0 + _ ≤ _; exact Nat.le_of_eq rfl) (hb hby d11_5) (fun _ _ => ⟨rfl, e1, (by decide : 0 + 0 ≤ _), (by decide : 0 + 0 ≤ _)⟩)
  dsimp only [Pt.U, Pt.locs, Pt.cells, Pt.slots] at X2 l2 y2 z2 st2 hQ2
  subst l2 y2 z2
  obtain ⟨rfl, Nq2, e2⟩ := hQ2
  have N2 := Fr.app N0 Nq2
  obtain ⟨fs, hr, hrun, hended, hW, hsame⟩ := X2.leave (v := none) (fun _ => rfl)
  refine ⟨_, _, pre0 _ ?_, hrun, hended, _, _, rfl, ?_, ⟨_, rfl⟩, hW, hsame.mono (by decide) (by decide)⟩
  · refine sh (mkF m 0 #[.val (.int p0), .val (.int p1)] []) ?_
    refine XS.iloadN X0.here hx rfl (hb hby d11_0) rfl ?_
    refine sh (mkF m 1 #[.val (.int p0), .val (.int p1)] [(.int p0)]) ?_
    refine XS.iloadN X0.here hx rfl (hb hby d11_1) rfl ?_
    refine sh (mkF m 2 #[.val (.int p0), .val (.int p1)] [(.int p1), (.int p0)]) ?_
    refine st1 _ ?_
    refine sh (mkF m 5 #[.val (.int p0), .val (.int p1)] [(.ref wf), (.int p1), (.int p0)]) ?_
    refine st2 _ ?_
    refine sh (mkF m 8 #[.val (.int p0), .val (.int p1)] [(.int p0)]) ?_
    refine XS.pop X2.here hx rfl (hb hby d11_8) rfl rfl ?_
    refine sh (mkF m 9 #[.val (.int p0), .val (.int p1)] []) ?_
    exact X2.returnOut hx Bd.returns (hb hby d11_9) hr
  · show Q_rmCKR Z p0 p1 wf h0 n0 _ T2.heap _
    rw [e2]
    exact ⟨rfl, N2, rfl⟩
def Q_rmCK (Z : State) (h0 : Heap) (n0 : Nat) (v : Option Value) (h : Heap) (L : List Loc) : Prop := v = none ∧ Fr n0 L ∧ h = h0
theorem rmCK (l : Launch) (Z : State) (a0 : Array Value) (hw : ∀ d ∈ tables_1, d.before a0 Z = true) (ws : List Jvm.Cond) (p0 : Int32) (p1 : Int32) (wf : Value) (h0 : Heap) (n0 : Nat) (Z0 : n0 ≤ h0.size) (hwf : wf.isRef = true) (S_SF : Sta Z h0 "jdk/internal/util/Preconditions" "SIOOBE_FORMATTER" "Ljava/util/function/BiFunction;" wf) (hix0 : ¬ (p0 < (0 : Int32))) (hix1 : p0 < p1) :
    MetFree l (⟨"java/lang/String", "checkIndex", "(II)V"⟩ : MethodName) (head1 (Jvm.Cond.code (⟨"java/lang/String", "checkIndex", "(II)V"⟩ : MethodName) jdk_42_method_155_code 2 none :: ws) ({ frames := 1, cells := 0, slots := 0, locals := 14 } : Room)) (fun a U => a = #[(.int p0), (.int p1)] ∧ Z.Warmed39 U.vm ∧ U.heap = h0) (fun _ _ _ _ _ => True) (fun _ U o U' => ∃ v L, o = .returned v ∧ Q_rmCK Z h0 n0 v U'.heap L ∧ FrameEnd U o U' L ({ frames := 1, cells := 0, slots := 0, locals := 14 } : Room).cells ({ frames := 1, cells := 0, slots := 0, locals := 14 } : Room).slots) := by
  rcases ref_cases hwf with rfl | ⟨q, rfl⟩
  · exact rmCKN l Z a0 hw ws p0 p1 h0 n0 Z0 hix0 hix1 S_SF
  · exact rmCKR l Z a0 hw ws p0 p1 q h0 n0 Z0 hix0 hix1 S_SF
theorem d12_0 : decode jdk_42_method_152_code 0 = .ok (.getstatic 38, 3) := by decide +kernel
theorem d12_3 : decode jdk_42_method_152_code 3 = .ok (.ifCond .eq 10, 3) := by decide +kernel
theorem d12_6 : decode jdk_42_method_152_code 6 = .ok (.aload_n 0, 1) := by decide +kernel
theorem d12_7 : decode jdk_42_method_152_code 7 = .ok (.getfield 15, 3) := by decide +kernel
theorem d12_10 : decode jdk_42_method_152_code 10 = .ok (.goto 4, 3) := by decide +kernel
theorem d12_14 : decode jdk_42_method_152_code 14 = .ok (.ireturn, 1) := by decide +kernel
def Q_rmCo (Z : State) (ob : Addr) (s_CS : Int32) (h0 : Heap) (n0 : Nat) (v : Option Value) (h : Heap) (L : List Loc) : Prop := v = some (.int (0 : Int32)) ∧ Fr n0 L ∧ h = h0
theorem ef_rmCo (m : MethodId) (ob : Addr) : entryFrame m #[(.ref ob)] 1 = mkF m 0 #[.val (.ref ob)] [] := by first | (simp [entryFrame, mkF, argsToLocals, Value.category]; done) | rfl
set_option maxRecDepth 65536 in
set_option maxHeartbeats 40000000 in
theorem rmCo (l : Launch) (Z : State) (a0 : Array Value) (hw : ∀ d ∈ tables_1, d.before a0 Z = true) (ws : List Jvm.Cond) (ob : Addr) (s_CS : Int32) (h0 : Heap) (n0 : Nat) (Z0 : n0 ≤ h0.size) (S_CS : Sta Z h0 "java/lang/String" "COMPACT_STRINGS" "Z" (.int s_CS)) (hcs : ¬ (s_CS = (0 : Int32))) (E_ob : Exa Z h0 ob "java/lang/String") (F_coder_ob : Fld Z h0 ob "java/lang/String" "coder" "B" (.int (0 : Int32))) :
    MetFree l (⟨"java/lang/String", "coder", "()B"⟩ : MethodName) (head1 (Jvm.Cond.code (⟨"java/lang/String", "coder", "()B"⟩ : MethodName) jdk_42_method_152_code 1 (some .byte) :: ws) ({ frames := 0, cells := 0, slots := 0, locals := 0 } : Room)) (fun a U => a = #[(.ref ob)] ∧ Z.Warmed39 U.vm ∧ U.heap = h0) (fun _ _ _ _ _ => True) (fun _ U o U' => ∃ v L, o = .returned v ∧ Q_rmCo Z ob s_CS h0 n0 v U'.heap L ∧ FrameEnd U o U' L ({ frames := 0, cells := 0, slots := 0, locals := 0 } : Room).cells ({ frames := 0, cells := 0, slots := 0, locals := 0 } : Room).slots) := by
  refine MetFree.of_bodySF (plainFor_of_name pn_1) hisR ?_
  intro p e s m args below meth c s₁ Bd hml0 hP hK
  obtain ⟨rfl, hZ, hh⟩ := hP
  have hx := Bd.exec
  have hby := Bd.bytes
  have hml : c.maxLocals = 1 := hml0
  have hown : s.vm.findClass "java/lang/String" = some m.cls := findClass_of_methodNamed Bd.named
  have hnm := (name_of_methodNamed Bd.named Bd.method).1
  have X0 : Stand p l e ({ frames := 0, cells := 0, slots := 0, locals := 0 } : Room) s m #[(.ref ob)] below meth c s₁ [] 0 0 := Stand.of_body Bd
  have e0 : s₁.heap = h0 := by rw [← hh, Bd.state]; rfl
  have N0 := Fr.nil n0
  have pre0 : ∀ t, Steps p.tables e below (s₁.setTop (mkF m 0 #[.val (.ref ob)] [])) t → Steps p.tables e below (s₁.setTop (entryFrame m #[(.ref ob)] 1)) t := fun t k => castTop (ef_rmCo m ob) k
  obtain ⟨T1, X1, e1, st1⟩ := getS2 X0 hx hZ hown (host := "") (Or.inl (ow hw 18 rfl)) Via.refl e0 S_CS (g := (mkF m 0 #[.val (.ref ob)] [])) rfl (hb hby d12_0)
  obtain ⟨T2, X2, e2, st2⟩ := getF X1 hx hZ hown (host := "") (Or.inl (ow hw 30 rfl)) Via.refl e1 F_coder_ob (g := (mkF m 7 #[.val (.ref ob)] [(.ref ob)])) rfl rfl (hb hby d12_7)
  obtain ⟨fs, hr, hrun, hended, hW, hsame⟩ := X2.leave (v := some (.int (0 : Int32))) (fun h => by rw [Bd.returns] at h; cases h)
  refine ⟨_, _, pre0 _ ?_, hrun, hended, _, _, rfl, ?_, ⟨_, rfl⟩, hW, hsame.mono (by decide) (by decide)⟩
  · refine sh (mkF m 0 #[.val (.ref ob)] []) ?_
    refine st1 _ ?_
    refine sh (mkF m 3 #[.val (.ref ob)] [(.int s_CS)]) ?_
    refine XS.ifNo X1.here hx rfl (hb hby d12_3) rfl ((if0 _ _).trans (feq hcs).1) ?_
    refine sh (mkF m 6 #[.val (.ref ob)] []) ?_
    refine XS.aloadN X1.here hx rfl (hb hby d12_6) rfl rfl ?_
    refine sh (mkF m 7 #[.val (.ref ob)] [(.ref ob)]) ?_
    refine st2 _ ?_
    refine sh (mkF m 10 #[.val (.ref ob)] [(.int (0 : Int32))]) ?_
    refine XS.goto X2.here hx rfl (pc0 := 10) (pc' := 14) rfl (hb hby d12_10) (by decide) (by decide) ?_
    refine sh (mkF m 14 #[.val (.ref ob)] [(.int (0 : Int32))]) ?_
    exact retN X2 hx (t := .byte) Bd.returns (by simp) (hb hby d12_14) hr
  · show Q_rmCo Z ob s_CS h0 n0 _ T2.heap _
    rw [e2]
    exact ⟨rfl, N0, rfl⟩
theorem d13_0 : decode jdk_42_method_154_code 0 = .ok (.getstatic 38, 3) := by decide +kernel
theorem d13_3 : decode jdk_42_method_154_code 3 = .ok (.ifCond .eq 14, 3) := by decide +kernel
theorem d13_6 : decode jdk_42_method_154_code 6 = .ok (.aload_n 0, 1) := by decide +kernel
theorem d13_7 : decode jdk_42_method_154_code 7 = .ok (.getfield 15, 3) := by decide +kernel
theorem d13_10 : decode jdk_42_method_154_code 10 = .ok (.ifCond .ne 7, 3) := by decide +kernel
theorem d13_13 : decode jdk_42_method_154_code 13 = .ok (.iconst 1, 1) := by decide +kernel
theorem d13_14 : decode jdk_42_method_154_code 14 = .ok (.goto 4, 3) := by decide +kernel
theorem d13_18 : decode jdk_42_method_154_code 18 = .ok (.ireturn, 1) := by decide +kernel
def Q_rmIL (Z : State) (ob : Addr) (s_CS : Int32) (h0 : Heap) (n0 : Nat) (v : Option Value) (h : Heap) (L : List Loc) : Prop := v = some (.int (1 : Int32)) ∧ Fr n0 L ∧ h = h0
theorem ef_rmIL (m : MethodId) (ob : Addr) : entryFrame m #[(.ref ob)] 1 = mkF m 0 #[.val (.ref ob)] [] := by first | (simp [entryFrame, mkF, argsToLocals, Value.category]; done) | rfl
set_option maxRecDepth 65536 in
set_option maxHeartbeats 40000000 in
theorem rmIL (l : Launch) (Z : State) (a0 : Array Value) (hw : ∀ d ∈ tables_1, d.before a0 Z = true) (ws : List Jvm.Cond) (ob : Addr) (s_CS : Int32) (h0 : Heap) (n0 : Nat) (Z0 : n0 ≤ h0.size) (S_CS : Sta Z h0 "java/lang/String" "COMPACT_STRINGS" "Z" (.int s_CS)) (hcs : ¬ (s_CS = (0 : Int32))) (E_ob : Exa Z h0 ob "java/lang/String") (F_coder_ob : Fld Z h0 ob "java/lang/String" "coder" "B" (.int (0 : Int32))) :
    MetFree l (⟨"java/lang/String", "isLatin1", "()Z"⟩ : MethodName) (head1 (Jvm.Cond.code (⟨"java/lang/String", "isLatin1", "()Z"⟩ : MethodName) jdk_42_method_154_code 1 (some .boolean) :: ws) ({ frames := 0, cells := 0, slots := 0, locals := 0 } : Room)) (fun a U => a = #[(.ref ob)] ∧ Z.Warmed39 U.vm ∧ U.heap = h0) (fun _ _ _ _ _ => True) (fun _ U o U' => ∃ v L, o = .returned v ∧ Q_rmIL Z ob s_CS h0 n0 v U'.heap L ∧ FrameEnd U o U' L ({ frames := 0, cells := 0, slots := 0, locals := 0 } : Room).cells ({ frames := 0, cells := 0, slots := 0, locals := 0 } : Room).slots) := by
  refine MetFree.of_bodySF (plainFor_of_name pn_1) hisR ?_
  intro p e s m args below meth c s₁ Bd hml0 hP hK
  obtain ⟨rfl, hZ, hh⟩ := hP
  have hx := Bd.exec
  have hby := Bd.bytes
  have hml : c.maxLocals = 1 := hml0
  have hown : s.vm.findClass "java/lang/String" = some m.cls := findClass_of_methodNamed Bd.named
  have hnm := (name_of_methodNamed Bd.named Bd.method).1
  have X0 : Stand p l e ({ frames := 0, cells := 0, slots := 0, locals := 0 } : Room) s m #[(.ref ob)] below meth c s₁ [] 0 0 := Stand.of_body Bd
  have e0 : s₁.heap = h0 := by rw [← hh, Bd.state]; rfl
  have N0 := Fr.nil n0
  have pre0 : ∀ t, Steps p.tables e below (s₁.setTop (mkF m 0 #[.val (.ref ob)] [])) t → Steps p.tables e below (s₁.setTop (entryFrame m #[(.ref ob)] 1)) t := fun t k => castTop (ef_rmIL m ob) k
  obtain ⟨T1, X1, e1, st1⟩ := getS2 X0 hx hZ hown (host := "") (Or.inl (ow hw 18 rfl)) Via.refl e0 S_CS (g := (mkF m 0 #[.val (.ref ob)] [])) rfl (hb hby d13_0)
  obtain ⟨T2, X2, e2, st2⟩ := getF X1 hx hZ hown (host := "") (Or.inl (ow hw 30 rfl)) Via.refl e1 F_coder_ob (g := (mkF m 7 #[.val (.ref ob)] [(.ref ob)])) rfl rfl (hb hby d13_7)
  obtain ⟨fs, hr, hrun, hended, hW, hsame⟩ := X2.leave (v := some (.int (1 : Int32))) (fun h => by rw [Bd.returns] at h; cases h)
  refine ⟨_, _, pre0 _ ?_, hrun, hended, _, _, rfl, ?_, ⟨_, rfl⟩, hW, hsame.mono (by decide) (by decide)⟩
  · refine sh (mkF m 0 #[.val (.ref ob)] []) ?_
    refine st1 _ ?_
    refine sh (mkF m 3 #[.val (.ref ob)] [(.int s_CS)]) ?_
    refine XS.ifNo X1.here hx rfl (hb hby d13_3) rfl ((if0 _ _).trans (feq hcs).1) ?_
    refine sh (mkF m 6 #[.val (.ref ob)] []) ?_
    refine XS.aloadN X1.here hx rfl (hb hby d13_6) rfl rfl ?_
    refine sh (mkF m 7 #[.val (.ref ob)] [(.ref ob)]) ?_
    refine st2 _ ?_
    refine sh (mkF m 10 #[.val (.ref ob)] [(.int (0 : Int32))]) ?_
    refine XS.ifNo X2.here hx rfl (hb hby d13_10) rfl ((if0 _ _).trans (teq (rfl : (0 : Int32) = (0 : Int32))).2) ?_
    refine sh (mkF m 13 #[.val (.ref ob)] []) ?_
    refine XS.iconst X2.here hx rfl (hb hby d13_13) ?_
    refine sh (mkF m 14 #[.val (.ref ob)] [(.int (1 : Int32))]) ?_
    refine XS.goto X2.here hx rfl (pc0 := 14) (pc' := 18) rfl (hb hby d13_14) (by decide) (by decide) ?_
    refine sh (mkF m 18 #[.val (.ref ob)] [(.int (1 : Int32))]) ?_
    exact retN X2 hx (t := .boolean) Bd.returns (by simp) (hb hby d13_18) hr
  · show Q_rmIL Z ob s_CS h0 n0 _ T2.heap _
    rw [e2]
    exact ⟨rfl, N0, rfl⟩
theorem d14_0 : decode jdk_42_method_54_code 0 = .ok (.aload_n 0, 1) := by decide +kernel
theorem d14_1 : decode jdk_42_method_54_code 1 = .ok (.getfield 9, 3) := by decide +kernel
theorem d14_4 : decode jdk_42_method_54_code 4 = .ok (.arraylength, 1) := by decide +kernel
theorem d14_5 : decode jdk_42_method_54_code 5 = .ok (.aload_n 0, 1) := by decide +kernel
theorem d14_6 : decode jdk_42_method_54_code 6 = .ok (.invokevirtual 335, 3) := by decide +kernel
theorem pd_9 : parseMethodDescriptor "()B" = some ⟨[], some .byte⟩ := by decide +kernel
theorem d14_9 : decode jdk_42_method_54_code 9 = .ok (.ishr, 1) := by decide +kernel
theorem d14_10 : decode jdk_42_method_54_code 10 = .ok (.ireturn, 1) := by decide +kernel
def Q_rmLe (Z : State) (ob : Addr) (zz : Int32) (vs : List Value) (s_CS : Int32) (va : Addr) (ka : ClassId) (h0 : Heap) (n0 : Nat) (v : Option Value) (h : Heap) (L : List Loc) : Prop := v = some (.int zz) ∧ Fr n0 L ∧ h = h0
theorem ef_rmLe (m : MethodId) (ob : Addr) : entryFrame m #[(.ref ob)] 1 = mkF m 0 #[.val (.ref ob)] [] := by first | (simp [entryFrame, mkF, argsToLocals, Value.category]; done) | rfl
set_option maxRecDepth 65536 in
set_option maxHeartbeats 40000000 in
theorem rmLe (l : Launch) (Z : State) (a0 : Array Value) (hw : ∀ d ∈ tables_1, d.before a0 Z = true) (ws : List Jvm.Cond) (ob : Addr) (zz : Int32) (vs : List Value) (s_CS : Int32) (va : Addr) (ka : ClassId) (h0 : Heap) (n0 : Nat) (Z0 : n0 ≤ h0.size) (S_CS : Sta Z h0 "java/lang/String" "COMPACT_STRINGS" "Z" (.int s_CS)) (hcs : ¬ (s_CS = (0 : Int32))) (E_ob : Exa Z h0 ob "java/lang/String") (F_coder_ob : Fld Z h0 ob "java/lang/String" "coder" "B" (.int (0 : Int32))) (F_value_ob : Fld Z h0 ob "java/lang/String" "value" "[B" (.ref va)) (V_va : Arv Z h0 va ka .byte zz vs (.int (0 : Int32))) :
    MetFree l (⟨"java/lang/String", "length", "()I"⟩ : MethodName) (head1 (Jvm.Cond.code (⟨"java/lang/String", "length", "()I"⟩ : MethodName) jdk_42_method_54_code 1 (some .int) :: ws) ({ frames := 1, cells := 0, slots := 0, locals := 13 } : Room)) (fun a U => a = #[(.ref ob)] ∧ Z.Warmed39 U.vm ∧ U.heap = h0) (fun _ _ _ _ _ => True) (fun _ U o U' => ∃ v L, o = .returned v ∧ Q_rmLe Z ob zz vs s_CS va ka h0 n0 v U'.heap L ∧ FrameEnd U o U' L ({ frames := 1, cells := 0, slots := 0, locals := 13 } : Room).cells ({ frames := 1, cells := 0, slots := 0, locals := 13 } : Room).slots) := by
  refine MetFree.of_bodySF (plainFor_of_name pn_1) hisR ?_
  intro p e s m args below meth c s₁ Bd hml0 hP hK
  obtain ⟨rfl, hZ, hh⟩ := hP
  have hx := Bd.exec
  have hby := Bd.bytes
  have hml : c.maxLocals = 1 := hml0
  have hown : s.vm.findClass "java/lang/String" = some m.cls := findClass_of_methodNamed Bd.named
  have hnm := (name_of_methodNamed Bd.named Bd.method).1
  have X0 : Stand p l e ({ frames := 1, cells := 0, slots := 0, locals := 13 } : Room) s m #[(.ref ob)] below meth c s₁ [] 0 0 := Stand.of_body Bd
  have e0 : s₁.heap = h0 := by rw [← hh, Bd.state]; rfl
  have N0 := Fr.nil n0
  have pre0 : ∀ t, Steps p.tables e below (s₁.setTop (mkF m 0 #[.val (.ref ob)] [])) t → Steps p.tables e below (s₁.setTop (entryFrame m #[(.ref ob)] 1)) t := fun t k => castTop (ef_rmLe m ob) k
  obtain ⟨T1, X1, e1, st1⟩ := getF X0 hx hZ hown (host := "") (Or.inl (ow hw 32 rfl)) Via.refl e0 F_value_ob (g := (mkF m 1 #[.val (.ref ob)] [(.ref ob)])) rfl rfl (hb hby d14_1)
  have Vc2 := V_va
  obtain ⟨cl2, Ar2, -, S2, M2, -, -⟩ := Vc2
  obtain ⟨cq3, kq3, q3a, q3b, q3c⟩ := isOf hZ e1 E_ob
  obtain ⟨_, _, ⟨T3, L3, k3, n3⟩, -, X3, ⟨Lc3, hQ3, l3, y3, z3⟩, st3⟩ := X1.virtualBack hx (y := (⟨"java/lang/String", "coder", "()B"⟩ : MethodName)) (z := (⟨"java/lang/String", "coder", "()B"⟩ : MethodName)) hown (mvT hZ (ow hw 74 rfl)) (mvT hZ (ow hw 75 rfl)) (notFace_of_selects (args := #[]) (mvT hZ (ow hw 77 rfl))) (mvT hZ (ow hw 77 rfl)) (mvT hZ (ow hw 76 rfl)) (by decide) (backOf (W := 1) (rmCo l Z a0 hw [] ob s_CS h0 n0 Z0 S_CS hcs E_ob F_coder_ob) hZ (ow hw 78 rfl) (ow hw 6 rfl) (by decide) (by decide)) q3a q3c (g := (mkF m 6 #[.val (.ref ob)] [(.ref ob), (.int zz)])) rfl (by rw [hml]; rfl) (Steps.refl _) (argsL := []) (rest := [(.int zz)]) (lenOf pd_9 rfl) rfl (by show 2 * 0 + _ ≤ _; exact Nat.le_of_eq rfl) (hb hby d14_6) (fun _ _ => ⟨rfl, e1, (by decide : 0 + 0 ≤ _), (by decide : 0 + 0 ≤ _)⟩)
  dsimp only [Pt.U, Pt.locs, Pt.cells, Pt.slots] at X3 l3 y3 z3 st3 hQ3
  subst l3 y3 z3
  obtain ⟨rfl, Nq3, e3⟩ := hQ3
  have N3 := Fr.app N0 Nq3
  obtain ⟨fs, hr, hrun, hended, hW, hsame⟩ := X3.leave (v := some (.int zz)) (fun h => by rw [Bd.returns] at h; cases h)
  refine ⟨_, _, pre0 _ ?_, hrun, hended, _, _, rfl, ?_, ⟨_, rfl⟩, hW, hsame.mono (by decide) (by decide)⟩
  · refine sh (mkF m 0 #[.val (.ref ob)] []) ?_
    refine XS.aloadN X0.here hx rfl (hb hby d14_0) rfl rfl ?_
    refine sh (mkF m 1 #[.val (.ref ob)] [(.ref ob)]) ?_
    refine st1 _ ?_
    refine sh (mkF m 4 #[.val (.ref ob)] [(.ref va)]) ?_
    refine X1.arraylength hx (cell := cl2) (by rw [e1]; exact Ar2.1) (State.isArrayOf_alike hZ.alike Ar2.2.1) (g := (mkF m 4 #[.val (.ref ob)] [(.ref va)])) rfl (rest := []) rfl (hb hby d14_4) _ ?_
    rw [len_of S2 M2]
    refine sh (mkF m 5 #[.val (.ref ob)] [(.int zz)]) ?_
    refine XS.aloadN X1.here hx rfl (hb hby d14_5) rfl rfl ?_
    refine sh (mkF m 6 #[.val (.ref ob)] [(.ref ob), (.int zz)]) ?_
    refine st3.trans ?_
    refine sh (mkF m 9 #[.val (.ref ob)] [(.int (0 : Int32)), (.int zz)]) ?_
    refine XS.ishr X3.here hx rfl (hb hby d14_9) rfl ?_
    refine sh (mkF m 10 #[.val (.ref ob)] [(.int (zz >>> ((0 : Int32) &&& 31)))]) ?_
    rw [own_shr0 zz]
    refine sh (mkF m 10 #[.val (.ref ob)] [(.int zz)]) ?_
    exact retI X3 hx Bd.returns (hb hby d14_10) hr
  · show Q_rmLe Z ob zz vs s_CS va ka h0 n0 _ T3.heap _
    rw [e3]
    exact ⟨rfl, N3, rfl⟩
theorem d15_0 : decode jdk_43_method_2_code 0 = .ok (.iload_n 1, 1) := by decide +kernel
theorem d15_1 : decode jdk_43_method_2_code 1 = .ok (.aload_n 0, 1) := by decide +kernel
theorem d15_2 : decode jdk_43_method_2_code 2 = .ok (.arraylength, 1) := by decide +kernel
theorem d15_3 : decode jdk_43_method_2_code 3 = .ok (.invokestatic 9, 3) := by decide +kernel
theorem pd_10 : parseMethodDescriptor "(II)V" = some ⟨[.int, .int], none⟩ := by decide +kernel
theorem d15_6 : decode jdk_43_method_2_code 6 = .ok (.aload_n 0, 1) := by decide +kernel
theorem d15_7 : decode jdk_43_method_2_code 7 = .ok (.iload_n 1, 1) := by decide +kernel
theorem d15_8 : decode jdk_43_method_2_code 8 = .ok (.baload, 1) := by decide +kernel
theorem d15_9 : decode jdk_43_method_2_code 9 = .ok (.sipush 255, 3) := by decide +kernel
theorem d15_12 : decode jdk_43_method_2_code 12 = .ok (.iand, 1) := by decide +kernel
theorem d15_13 : decode jdk_43_method_2_code 13 = .ok (.i2c, 1) := by decide +kernel
theorem d15_14 : decode jdk_43_method_2_code 14 = .ok (.ireturn, 1) := by decide +kernel
def Q_rmLC (Z : State) (va : Addr) (ix : Int32) (ka : ClassId) (wf : Value) (zz : Int32) (vs : List Value) (xx : Int32) (h0 : Heap) (n0 : Nat) (v : Option Value) (h : Heap) (L : List Loc) : Prop := v = some (.int (nar .char ((xx &&& (255 : Int32)).toUInt32.toUInt16.toUInt32.toInt32))) ∧ Fr n0 L ∧ h = h0
theorem ef_rmLC (m : MethodId) (va : Addr) (ix : Int32) : entryFrame m #[(.ref va), (.int ix)] 2 = mkF m 0 #[.val (.ref va), .val (.int ix)] [] := by first | (simp [entryFrame, mkF, argsToLocals, Value.category]; done) | rfl
set_option maxRecDepth 65536 in
set_option maxHeartbeats 40000000 in
theorem rmLC (l : Launch) (Z : State) (a0 : Array Value) (hw : ∀ d ∈ tables_1, d.before a0 Z = true) (ws : List Jvm.Cond) (va : Addr) (ix : Int32) (ka : ClassId) (wf : Value) (zz : Int32) (vs : List Value) (xx : Int32) (h0 : Heap) (n0 : Nat) (Z0 : n0 ≤ h0.size) (S_SF : Sta Z h0 "jdk/internal/util/Preconditions" "SIOOBE_FORMATTER" "Ljava/util/function/BiFunction;" wf) (hwf : wf.isRef = true) (hi0 : ¬ (ix < (0 : Int32))) (hi1 : ix < zz) (hgt : vs.getD ix.toNatClampNeg (.int (0 : Int32)) = (.int xx)) (V_va : Arv Z h0 va ka .byte zz vs (.int (0 : Int32))) :
    MetFree l (⟨"java/lang/StringLatin1", "charAt", "([BI)C"⟩ : MethodName) (head1 (Jvm.Cond.code (⟨"java/lang/StringLatin1", "charAt", "([BI)C"⟩ : MethodName) jdk_43_method_2_code 2 (some .char) :: ws) ({ frames := 2, cells := 0, slots := 0, locals := 27 } : Room)) (fun a U => a = #[(.ref va), (.int ix)] ∧ Z.Warmed39 U.vm ∧ U.heap = h0) (fun _ _ _ _ _ => True) (fun _ U o U' => ∃ v L, o = .returned v ∧ Q_rmLC Z va ix ka wf zz vs xx h0 n0 v U'.heap L ∧ FrameEnd U o U' L ({ frames := 2, cells := 0, slots := 0, locals := 27 } : Room).cells ({ frames := 2, cells := 0, slots := 0, locals := 27 } : Room).slots) := by
  refine MetFree.of_bodySF (plainFor_of_name pn_0) hisR ?_
  intro p e s m args below meth c s₁ Bd hml0 hP hK
  obtain ⟨rfl, hZ, hh⟩ := hP
  have hx := Bd.exec
  have hby := Bd.bytes
  have hml : c.maxLocals = 2 := hml0
  have hown : s.vm.findClass "java/lang/StringLatin1" = some m.cls := findClass_of_methodNamed Bd.named
  have hnm := (name_of_methodNamed Bd.named Bd.method).1
  have X0 : Stand p l e ({ frames := 2, cells := 0, slots := 0, locals := 27 } : Room) s m #[(.ref va), (.int ix)] below meth c s₁ [] 0 0 := Stand.of_body Bd
  have e0 : s₁.heap = h0 := by rw [← hh, Bd.state]; rfl
  have N0 := Fr.nil n0
  have pre0 : ∀ t, Steps p.tables e below (s₁.setTop (mkF m 0 #[.val (.ref va), .val (.int ix)] [])) t → Steps p.tables e below (s₁.setTop (entryFrame m #[(.ref va), (.int ix)] 2)) t := fun t k => castTop (ef_rmLC m va ix) k
  have Vc1 := V_va
  obtain ⟨cl1, Ar1, -, S1, M1, -, -⟩ := Vc1
  obtain ⟨_, _, ⟨T2, L2, k2, n2⟩, -, X2, ⟨Lc2, hQ2, l2, y2, z2⟩, st2⟩ := Jvm.LawKit.callS X0 hx (y := (⟨"java/lang/String", "checkIndex", "(II)V"⟩ : MethodName)) hown (mvT hZ (ow hw 108 rfl)) (mvT hZ (ow hw 109 rfl)) (mvT hZ (ow hw 6 rfl)) (mvT hZ (ow hw 110 rfl)) (by decide) (backOf (W := 0) (rmCK l Z a0 hw [] ix zz wf h0 n0 Z0 hwf S_SF hi0 hi1) hZ (ow hw 110 rfl) (ow hw 6 rfl) (by decide) (by decide)) (g := (mkF m 3 #[.val (.ref va), .val (.int ix)] [(.int zz), (.int ix)])) rfl (by rw [hml]; rfl) (argsL := [(.int ix), (.int zz)]) (rest := []) (lenOf pd_10 rfl) rfl (by show 2 * 0 + _ ≤ _; exact Nat.le_of_eq rfl) (hb hby d15_3) (fun _ _ => ⟨rfl, e0, (by decide : 0 + 0 ≤ _), (by decide : 0 + 0 ≤ _)⟩)
  dsimp only [Pt.U, Pt.locs, Pt.cells, Pt.slots] at X2 l2 y2 z2 st2 hQ2
  subst l2 y2 z2
  obtain ⟨rfl, Nq2, e2⟩ := hQ2
  have N2 := Fr.app N0 Nq2
  have Vc3 := V_va
  obtain ⟨cl3, Ar3, q3, S3, M3, H3, G3⟩ := Vc3
  have hin3 : ¬ (ix < 0 ∨ cl3.slots.size ≤ (ix).toNatClampNeg) := inb_of S3 ⟨hi0, hi1⟩
  have hat3 : cl3.slots[(ix).toNatClampNeg]? = some (.int xx) := Has.at H3 hin3 hgt
  obtain ⟨fs, hr, hrun, hended, hW, hsame⟩ := X2.leave (v := some (.int (nar .char ((xx &&& (255 : Int32)).toUInt32.toUInt16.toUInt32.toInt32)))) (fun h => by rw [Bd.returns] at h; cases h)
  refine ⟨_, _, pre0 _ ?_, hrun, hended, _, _, rfl, ?_, ⟨_, rfl⟩, hW, hsame.mono (by decide) (by decide)⟩
  · refine sh (mkF m 0 #[.val (.ref va), .val (.int ix)] []) ?_
    refine XS.iloadN X0.here hx rfl (hb hby d15_0) rfl ?_
    refine sh (mkF m 1 #[.val (.ref va), .val (.int ix)] [(.int ix)]) ?_
    refine XS.aloadN X0.here hx rfl (hb hby d15_1) rfl rfl ?_
    refine sh (mkF m 2 #[.val (.ref va), .val (.int ix)] [(.ref va), (.int ix)]) ?_
    refine X0.arraylength hx (cell := cl1) (by rw [e0]; exact Ar1.1) (State.isArrayOf_alike hZ.alike Ar1.2.1) (g := (mkF m 2 #[.val (.ref va), .val (.int ix)] [(.ref va), (.int ix)])) rfl (rest := [(.int ix)]) rfl (hb hby d15_2) _ ?_
    rw [len_of S1 M1]
    refine sh (mkF m 3 #[.val (.ref va), .val (.int ix)] [(.int zz), (.int ix)]) ?_
    refine st2 _ ?_
    refine sh (mkF m 6 #[.val (.ref va), .val (.int ix)] []) ?_
    refine XS.aloadN X2.here hx rfl (hb hby d15_6) rfl rfl ?_
    refine sh (mkF m 7 #[.val (.ref va), .val (.int ix)] [(.ref va)]) ?_
    refine XS.iloadN X2.here hx rfl (hb hby d15_7) rfl ?_
    refine sh (mkF m 8 #[.val (.ref va), .val (.int ix)] [(.int ix), (.ref va)]) ?_
    refine X2.baloadBytes hx (j := ix) (v := (.int xx)) (by rw [e2]; exact Ar3.1) (State.isArrayOf_alike hZ.alike Ar3.2.1) Ar3.2.2 hin3 hat3 (g := (mkF m 8 #[.val (.ref va), .val (.int ix)] [(.int ix), (.ref va)])) rfl rfl (hb hby d15_8) _ ?_
    refine sh (mkF m 9 #[.val (.ref va), .val (.int ix)] [(.int xx)]) ?_
    refine XS.sipush X2.here hx rfl (hb hby d15_9) ?_
    refine sh (mkF m 12 #[.val (.ref va), .val (.int ix)] [(.int (255 : Int32)), (.int xx)]) ?_
    refine XS.iand X2.here hx rfl (hb hby d15_12) rfl ?_
    refine sh (mkF m 13 #[.val (.ref va), .val (.int ix)] [(.int (xx &&& (255 : Int32)))]) ?_
    refine XS.i2c X2.here hx rfl (hb hby d15_13) rfl ?_
    refine sh (mkF m 14 #[.val (.ref va), .val (.int ix)] [(.int ((xx &&& (255 : Int32)).toUInt32.toUInt16.toUInt32.toInt32))]) ?_
    exact retN X2 hx (t := .char) Bd.returns (by simp) (hb hby d15_14) hr
  · show Q_rmLC Z va ix ka wf zz vs xx h0 n0 _ T2.heap _
    rw [e2]
    exact ⟨rfl, N2, rfl⟩
theorem d16_0 : decode jdk_42_method_56_code 0 = .ok (.aload_n 0, 1) := by decide +kernel
theorem d16_1 : decode jdk_42_method_56_code 1 = .ok (.invokevirtual 492, 3) := by decide +kernel
theorem pd_11 : parseMethodDescriptor "()Z" = some ⟨[], some .boolean⟩ := by decide +kernel
theorem d16_4 : decode jdk_42_method_56_code 4 = .ok (.ifCond .eq 12, 3) := by decide +kernel
theorem d16_7 : decode jdk_42_method_56_code 7 = .ok (.aload_n 0, 1) := by decide +kernel
theorem d16_8 : decode jdk_42_method_56_code 8 = .ok (.getfield 9, 3) := by decide +kernel
theorem d16_11 : decode jdk_42_method_56_code 11 = .ok (.iload_n 1, 1) := by decide +kernel
theorem d16_12 : decode jdk_42_method_56_code 12 = .ok (.invokestatic 495, 3) := by decide +kernel
theorem pd_12 : parseMethodDescriptor "([BI)C" = some ⟨[(.array .byte), .int], some .char⟩ := by decide +kernel
theorem d16_15 : decode jdk_42_method_56_code 15 = .ok (.ireturn, 1) := by decide +kernel
def Q_rmCH (Z : State) (ob : Addr) (ix : Int32) (s_CS : Int32) (wf : Value) (zz : Int32) (vs : List Value) (xx : Int32) (va : Addr) (ka : ClassId) (h0 : Heap) (n0 : Nat) (v : Option Value) (h : Heap) (L : List Loc) : Prop := v = some (.int (own_ch xx)) ∧ Fr n0 L ∧ h = h0
theorem ef_rmCH (m : MethodId) (ob : Addr) (ix : Int32) : entryFrame m #[(.ref ob), (.int ix)] 2 = mkF m 0 #[.val (.ref ob), .val (.int ix)] [] := by first | (simp [entryFrame, mkF, argsToLocals, Value.category]; done) | rfl
set_option maxRecDepth 65536 in
set_option maxHeartbeats 40000000 in
theorem rmCH (l : Launch) (Z : State) (a0 : Array Value) (hw : ∀ d ∈ tables_1, d.before a0 Z = true) (ws : List Jvm.Cond) (ob : Addr) (ix : Int32) (s_CS : Int32) (wf : Value) (zz : Int32) (vs : List Value) (xx : Int32) (va : Addr) (ka : ClassId) (h0 : Heap) (n0 : Nat) (Z0 : n0 ≤ h0.size) (S_CS : Sta Z h0 "java/lang/String" "COMPACT_STRINGS" "Z" (.int s_CS)) (hcs : ¬ (s_CS = (0 : Int32))) (S_SF : Sta Z h0 "jdk/internal/util/Preconditions" "SIOOBE_FORMATTER" "Ljava/util/function/BiFunction;" wf) (hwf : wf.isRef = true) (hi0 : ¬ (ix < (0 : Int32))) (hi1 : ix < zz) (hgt : vs.getD ix.toNatClampNeg (.int (0 : Int32)) = (.int xx)) (E_ob : Exa Z h0 ob "java/lang/String") (F_coder_ob : Fld Z h0 ob "java/lang/String" "coder" "B" (.int (0 : Int32))) (F_value_ob : Fld Z h0 ob "java/lang/String" "value" "[B" (.ref va)) (V_va : Arv Z h0 va ka .byte zz vs (.int (0 : Int32))) :
    MetFree l (⟨"java/lang/String", "charAt", "(I)C"⟩ : MethodName) (head1 (Jvm.Cond.code (⟨"java/lang/String", "charAt", "(I)C"⟩ : MethodName) jdk_42_method_56_code 2 (some .char) :: ws) ({ frames := 3, cells := 0, slots := 0, locals := 40 } : Room)) (fun a U => a = #[(.ref ob), (.int ix)] ∧ Z.Warmed39 U.vm ∧ U.heap = h0) (fun _ _ _ _ _ => True) (fun _ U o U' => ∃ v L, o = .returned v ∧ Q_rmCH Z ob ix s_CS wf zz vs xx va ka h0 n0 v U'.heap L ∧ FrameEnd U o U' L ({ frames := 3, cells := 0, slots := 0, locals := 40 } : Room).cells ({ frames := 3, cells := 0, slots := 0, locals := 40 } : Room).slots) := by
  refine MetFree.of_bodySF (plainFor_of_name pn_1) hisR ?_
  intro p e s m args below meth c s₁ Bd hml0 hP hK
  obtain ⟨rfl, hZ, hh⟩ := hP
  have hx := Bd.exec
  have hby := Bd.bytes
  have hml : c.maxLocals = 2 := hml0
  have hown : s.vm.findClass "java/lang/String" = some m.cls := findClass_of_methodNamed Bd.named
  have hnm := (name_of_methodNamed Bd.named Bd.method).1
  have X0 : Stand p l e ({ frames := 3, cells := 0, slots := 0, locals := 40 } : Room) s m #[(.ref ob), (.int ix)] below meth c s₁ [] 0 0 := Stand.of_body Bd
  have e0 : s₁.heap = h0 := by rw [← hh, Bd.state]; rfl
  have N0 := Fr.nil n0
  have pre0 : ∀ t, Steps p.tables e below (s₁.setTop (mkF m 0 #[.val (.ref ob), .val (.int ix)] [])) t → Steps p.tables e below (s₁.setTop (entryFrame m #[(.ref ob), (.int ix)] 2)) t := fun t k => castTop (ef_rmCH m ob ix) k
  obtain ⟨cq1, kq1, q1a, q1b, q1c⟩ := isOf hZ e0 E_ob
  obtain ⟨_, _, ⟨T1, L1, k1, n1⟩, -, X1, ⟨Lc1, hQ1, l1, y1, z1⟩, st1⟩ := X0.virtualBack hx (y := (⟨"java/lang/String", "isLatin1", "()Z"⟩ : MethodName)) (z := (⟨"java/lang/String", "isLatin1", "()Z"⟩ : MethodName)) hown (mvT hZ (ow hw 100 rfl)) (mvT hZ (ow hw 101 rfl)) (notFace_of_selects (args := #[]) (mvT hZ (ow hw 103 rfl))) (mvT hZ (ow hw 103 rfl)) (mvT hZ (ow hw 102 rfl)) (by decide) (backOf (W := 0) (rmIL l Z a0 hw [] ob s_CS h0 n0 Z0 S_CS hcs E_ob F_coder_ob) hZ (ow hw 104 rfl) (ow hw 6 rfl) (by decide) (by decide)) q1a q1c (g := (mkF m 1 #[.val (.ref ob), .val (.int ix)] [(.ref ob)])) rfl (by rw [hml]; rfl) (Steps.refl _) (argsL := []) (rest := []) (lenOf pd_11 rfl) rfl (by show 2 * 0 + _ ≤ _; exact Nat.le_of_eq rfl) (hb hby d16_1) (fun _ _ => ⟨rfl, e0, (by decide : 0 + 0 ≤ _), (by decide : 0 + 0 ≤ _)⟩)
  dsimp only [Pt.U, Pt.locs, Pt.cells, Pt.slots] at X1 l1 y1 z1 st1 hQ1
  subst l1 y1 z1
  obtain ⟨rfl, Nq1, e1⟩ := hQ1
  have N1 := Fr.app N0 Nq1
  obtain ⟨T2, X2, e2, st2⟩ := getF X1 hx hZ hown (host := "") (Or.inl (ow hw 32 rfl)) Via.refl e1 F_value_ob (g := (mkF m 8 #[.val (.ref ob), .val (.int ix)] [(.ref ob)])) rfl rfl (hb hby d16_8)
  obtain ⟨_, _, ⟨T3, L3, k3, n3⟩, -, X3, ⟨Lc3, hQ3, l3, y3, z3⟩, st3⟩ := Jvm.LawKit.callS X2 hx (y := (⟨"java/lang/StringLatin1", "charAt", "([BI)C"⟩ : MethodName)) hown (mvT hZ (ow hw 105 rfl)) (mvT hZ (ow hw 106 rfl)) (mvT hZ (ow hw 39 rfl)) (mvT hZ (ow hw 107 rfl)) (by decide) (backOf (W := 0) (rmLC l Z a0 hw [] va ix ka wf zz vs xx h0 n0 Z0 S_SF hwf hi0 hi1 hgt V_va) hZ (ow hw 107 rfl) (ow hw 39 rfl) (by decide) (by decide)) (g := (mkF m 12 #[.val (.ref ob), .val (.int ix)] [(.int ix), (.ref va)])) rfl (by rw [hml]; rfl) (argsL := [(.ref va), (.int ix)]) (rest := []) (lenOf pd_12 rfl) rfl (by show 2 * 0 + _ ≤ _; exact Nat.le_of_eq rfl) (hb hby d16_12) (fun _ _ => ⟨rfl, e2, (by decide : 0 + 0 ≤ _), (by decide : 0 + 0 ≤ _)⟩)
  dsimp only [Pt.U, Pt.locs, Pt.cells, Pt.slots] at X3 l3 y3 z3 st3 hQ3
  subst l3 y3 z3
  obtain ⟨rfl, Nq3, e3⟩ := hQ3
  have N3 := Fr.app N1 Nq3
  obtain ⟨fs, hr, hrun, hended, hW, hsame⟩ := X3.leave (v := some (.int (nar .char (nar .char ((xx &&& (255 : Int32)).toUInt32.toUInt16.toUInt32.toInt32))))) (fun h => by rw [Bd.returns] at h; cases h)
  refine ⟨_, _, pre0 _ ?_, hrun, hended, _, _, rfl, ?_, ⟨_, rfl⟩, hW, hsame.mono (by decide) (by decide)⟩
  · refine sh (mkF m 0 #[.val (.ref ob), .val (.int ix)] []) ?_
    refine XS.aloadN X0.here hx rfl (hb hby d16_0) rfl rfl ?_
    refine sh (mkF m 1 #[.val (.ref ob), .val (.int ix)] [(.ref ob)]) ?_
    refine st1.trans ?_
    refine sh (mkF m 4 #[.val (.ref ob), .val (.int ix)] [(.int (1 : Int32))]) ?_
    refine XS.ifNo X1.here hx rfl (hb hby d16_4) rfl ((if0 _ _).trans (feq (by decide : ¬ ((1 : Int32) = (0 : Int32)))).1) ?_
    refine sh (mkF m 7 #[.val (.ref ob), .val (.int ix)] []) ?_
    refine XS.aloadN X1.here hx rfl (hb hby d16_7) rfl rfl ?_
    refine sh (mkF m 8 #[.val (.ref ob), .val (.int ix)] [(.ref ob)]) ?_
    refine st2 _ ?_
    refine sh (mkF m 11 #[.val (.ref ob), .val (.int ix)] [(.ref va)]) ?_
    refine XS.iloadN X2.here hx rfl (hb hby d16_11) rfl ?_
    refine sh (mkF m 12 #[.val (.ref ob), .val (.int ix)] [(.int ix), (.ref va)]) ?_
    refine st3 _ ?_
    refine sh (mkF m 15 #[.val (.ref ob), .val (.int ix)] [(.int (nar .char ((xx &&& (255 : Int32)).toUInt32.toUInt16.toUInt32.toInt32)))]) ?_
    exact retN X3 hx (t := .char) Bd.returns (by simp) (hb hby d16_15) hr
  · show Q_rmCH Z ob ix s_CS wf zz vs xx va ka h0 n0 _ T3.heap _
    rw [e3]
    exact ⟨rfl, N3, rfl⟩
theorem d17_34 : decode method_3_code 34 = .ok (.if_icmp .eq 5, 3) := by decide +kernel
set_option maxRecDepth 65536 in
set_option maxHeartbeats 40000000 in
theorem pC0t {p : Program} {l : Launch} {e : Env} {R : Room} {s : State} {m : MethodId} {args : Array Value} {below : List Frame} {meth : Method} {c : Code} {T0 : State} {locs : List Loc} {cells slots : Nat} {Z : State} {a0 : Array Value} (sa : Addr) (sb : Addr) (nn : Int32) (rr : Int32) (cy : Int32) (cx : Int32)
    (X0 : Stand p l e R s m args below meth c T0 locs cells slots) (hx : p.tables.exec = Jvm.exec) (hZ : Z.Warmed39 s.vm) (hw : ∀ d ∈ tables_1, d.before a0 Z = true) (hby : c.code = method_3_code) (hown : s.vm.findClass "com/example/wirewright/bench/RunPrintedPinLaw" = some m.cls) (hc34 : cx = cy) :
    ∀ target, Steps p.tables e below (T0.setTop (mkF m 39 #[.val (.ref sa), .val (.ref sb), .val (.int nn), .val (.int rr)] [])) target → Steps p.tables e below (T0.setTop (mkF m 34 #[.val (.ref sa), .val (.ref sb), .val (.int nn), .val (.int rr)] [(.int cy), (.int cx)])) target := by
  intro target kt
  refine sh (mkF m 34 #[.val (.ref sa), .val (.ref sb), .val (.int nn), .val (.int rr)] [(.int cy), (.int cx)]) ?_
  refine XS.icmpYes X0.here hx rfl (pc0 := 34) (pc' := 39) rfl (hb hby d17_34) rfl (teq hc34).1 (by decide) (by decide) ?_
  exact kt
theorem d17_37 : decode method_3_code 37 = .ok (.iconst 0, 1) := by decide +kernel
theorem d17_38 : decode method_3_code 38 = .ok (.istore_n 3, 1) := by decide +kernel
set_option maxRecDepth 65536 in
set_option maxHeartbeats 40000000 in
theorem pC0f {p : Program} {l : Launch} {e : Env} {R : Room} {s : State} {m : MethodId} {args : Array Value} {below : List Frame} {meth : Method} {c : Code} {T0 : State} {locs : List Loc} {cells slots : Nat} {Z : State} {a0 : Array Value} (sa : Addr) (sb : Addr) (nn : Int32) (rr : Int32) (cy : Int32) (cx : Int32)
    (X0 : Stand p l e R s m args below meth c T0 locs cells slots) (hx : p.tables.exec = Jvm.exec) (hZ : Z.Warmed39 s.vm) (hw : ∀ d ∈ tables_1, d.before a0 Z = true) (hby : c.code = method_3_code) (hown : s.vm.findClass "com/example/wirewright/bench/RunPrintedPinLaw" = some m.cls) (hc34 : ¬ (cx = cy)) :
    ∀ target, Steps p.tables e below (T0.setTop (mkF m 39 #[.val (.ref sa), .val (.ref sb), .val (.int nn), .val (.int (0 : Int32))] [])) target → Steps p.tables e below (T0.setTop (mkF m 34 #[.val (.ref sa), .val (.ref sb), .val (.int nn), .val (.int rr)] [(.int cy), (.int cx)])) target := by
  intro target kt
  refine sh (mkF m 34 #[.val (.ref sa), .val (.ref sb), .val (.int nn), .val (.int rr)] [(.int cy), (.int cx)]) ?_
  refine XS.icmpNo X0.here hx rfl (hb hby d17_34) rfl (feq hc34).1 ?_
  refine sh (mkF m 37 #[.val (.ref sa), .val (.ref sb), .val (.int nn), .val (.int rr)] []) ?_
  refine XS.iconst X0.here hx rfl (hb hby d17_37) ?_
  refine sh (mkF m 38 #[.val (.ref sa), .val (.ref sb), .val (.int nn), .val (.int rr)] [(.int (0 : Int32))]) ?_
  refine XS.istoreN X0.here hx rfl (hb hby d17_38) rfl (l' := #[.val (.ref sa), .val (.ref sb), .val (.int nn), .val (.int (0 : Int32))]) rfl ?_
  exact kt
theorem own_cmp0 {p : Program} {l : Launch} {e : Env} {R : Room} {s : State} {m : MethodId} {args : Array Value} {below : List Frame} {meth : Method} {c : Code} {T0 : State} {locs : List Loc} {cells slots : Nat} {Z : State} {a0 : Array Value} (sa sb : Addr) (nn rr cy cx : Int32) (X0 : Stand p l e R s m args below meth c T0 locs cells slots) (hx : p.tables.exec = Jvm.exec) (hZ : Z.Warmed39 s.vm) (hw : ∀ d ∈ tables_1, d.before a0 Z = true) (hby : c.code = method_3_code) (hown : s.vm.findClass "com/example/wirewright/bench/RunPrintedPinLaw" = some m.cls) : ∀ target, Steps p.tables e below (T0.setTop (mkF m 39 #[.val (.ref sa), .val (.ref sb), .val (.int nn), .val (.int (if cx = cy then rr else (0 : Int32)))] [])) target → Steps p.tables e below (T0.setTop (mkF m 34 #[.val (.ref sa), .val (.ref sb), .val (.int nn), .val (.int rr)] [(.int cy), (.int cx)])) target := by
  by_cases h : cx = cy
  · rw [if_pos h]; exact pC0t sa sb nn rr cy cx X0 hx hZ hw hby hown h
  · rw [if_neg h]; exact pC0f sa sb nn rr cy cx X0 hx hZ hw hby hown h
theorem d17_54 : decode method_3_code 54 = .ok (.if_icmp .eq 5, 3) := by decide +kernel
set_option maxRecDepth 65536 in
set_option maxHeartbeats 40000000 in
theorem pC1t {p : Program} {l : Launch} {e : Env} {R : Room} {s : State} {m : MethodId} {args : Array Value} {below : List Frame} {meth : Method} {c : Code} {T0 : State} {locs : List Loc} {cells slots : Nat} {Z : State} {a0 : Array Value} (sa : Addr) (sb : Addr) (nn : Int32) (rr : Int32) (cy : Int32) (cx : Int32)
    (X0 : Stand p l e R s m args below meth c T0 locs cells slots) (hx : p.tables.exec = Jvm.exec) (hZ : Z.Warmed39 s.vm) (hw : ∀ d ∈ tables_1, d.before a0 Z = true) (hby : c.code = method_3_code) (hown : s.vm.findClass "com/example/wirewright/bench/RunPrintedPinLaw" = some m.cls) (hc54 : cx = cy) :
    ∀ target, Steps p.tables e below (T0.setTop (mkF m 59 #[.val (.ref sa), .val (.ref sb), .val (.int nn), .val (.int rr)] [])) target → Steps p.tables e below (T0.setTop (mkF m 54 #[.val (.ref sa), .val (.ref sb), .val (.int nn), .val (.int rr)] [(.int cy), (.int cx)])) target := by
  intro target kt
  refine sh (mkF m 54 #[.val (.ref sa), .val (.ref sb), .val (.int nn), .val (.int rr)] [(.int cy), (.int cx)]) ?_
  refine XS.icmpYes X0.here hx rfl (pc0 := 54) (pc' := 59) rfl (hb hby d17_54) rfl (teq hc54).1 (by decide) (by decide) ?_
  exact kt
theorem d17_57 : decode method_3_code 57 = .ok (.iconst 0, 1) := by decide +kernel
theorem d17_58 : decode method_3_code 58 = .ok (.istore_n 3, 1) := by decide +kernel
set_option maxRecDepth 65536 in
set_option maxHeartbeats 40000000 in
theorem pC1f {p : Program} {l : Launch} {e : Env} {R : Room} {s : State} {m : MethodId} {args : Array Value} {below : List Frame} {meth : Method} {c : Code} {T0 : State} {locs : List Loc} {cells slots : Nat} {Z : State} {a0 : Array Value} (sa : Addr) (sb : Addr) (nn : Int32) (rr : Int32) (cy : Int32) (cx : Int32)
    (X0 : Stand p l e R s m args below meth c T0 locs cells slots) (hx : p.tables.exec = Jvm.exec) (hZ : Z.Warmed39 s.vm) (hw : ∀ d ∈ tables_1, d.before a0 Z = true) (hby : c.code = method_3_code) (hown : s.vm.findClass "com/example/wirewright/bench/RunPrintedPinLaw" = some m.cls) (hc54 : ¬ (cx = cy)) :
    ∀ target, Steps p.tables e below (T0.setTop (mkF m 59 #[.val (.ref sa), .val (.ref sb), .val (.int nn), .val (.int (0 : Int32))] [])) target → Steps p.tables e below (T0.setTop (mkF m 54 #[.val (.ref sa), .val (.ref sb), .val (.int nn), .val (.int rr)] [(.int cy), (.int cx)])) target := by
  intro target kt
  refine sh (mkF m 54 #[.val (.ref sa), .val (.ref sb), .val (.int nn), .val (.int rr)] [(.int cy), (.int cx)]) ?_
  refine XS.icmpNo X0.here hx rfl (hb hby d17_54) rfl (feq hc54).1 ?_
  refine sh (mkF m 57 #[.val (.ref sa), .val (.ref sb), .val (.int nn), .val (.int rr)] []) ?_
  refine XS.iconst X0.here hx rfl (hb hby d17_57) ?_
  refine sh (mkF m 58 #[.val (.ref sa), .val (.ref sb), .val (.int nn), .val (.int rr)] [(.int (0 : Int32))]) ?_
  refine XS.istoreN X0.here hx rfl (hb hby d17_58) rfl (l' := #[.val (.ref sa), .val (.ref sb), .val (.int nn), .val (.int (0 : Int32))]) rfl ?_
  exact kt
theorem own_cmp1 {p : Program} {l : Launch} {e : Env} {R : Room} {s : State} {m : MethodId} {args : Array Value} {below : List Frame} {meth : Method} {c : Code} {T0 : State} {locs : List Loc} {cells slots : Nat} {Z : State} {a0 : Array Value} (sa sb : Addr) (nn rr cy cx : Int32) (X0 : Stand p l e R s m args below meth c T0 locs cells slots) (hx : p.tables.exec = Jvm.exec) (hZ : Z.Warmed39 s.vm) (hw : ∀ d ∈ tables_1, d.before a0 Z = true) (hby : c.code = method_3_code) (hown : s.vm.findClass "com/example/wirewright/bench/RunPrintedPinLaw" = some m.cls) : ∀ target, Steps p.tables e below (T0.setTop (mkF m 59 #[.val (.ref sa), .val (.ref sb), .val (.int nn), .val (.int (if cx = cy then rr else (0 : Int32)))] [])) target → Steps p.tables e below (T0.setTop (mkF m 54 #[.val (.ref sa), .val (.ref sb), .val (.int nn), .val (.int rr)] [(.int cy), (.int cx)])) target := by
  by_cases h : cx = cy
  · rw [if_pos h]; exact pC1t sa sb nn rr cy cx X0 hx hZ hw hby hown h
  · rw [if_neg h]; exact pC1f sa sb nn rr cy cx X0 hx hZ hw hby hown h
theorem d17_74 : decode method_3_code 74 = .ok (.if_icmp .eq 5, 3) := by decide +kernel
set_option maxRecDepth 65536 in
set_option maxHeartbeats 40000000 in
theorem pC2t {p : Program} {l : Launch} {e : Env} {R : Room} {s : State} {m : MethodId} {args : Array Value} {below : List Frame} {meth : Method} {c : Code} {T0 : State} {locs : List Loc} {cells slots : Nat} {Z : State} {a0 : Array Value} (sa : Addr) (sb : Addr) (nn : Int32) (rr : Int32) (cy : Int32) (cx : Int32)
    (X0 : Stand p l e R s m args below meth c T0 locs cells slots) (hx : p.tables.exec = Jvm.exec) (hZ : Z.Warmed39 s.vm) (hw : ∀ d ∈ tables_1, d.before a0 Z = true) (hby : c.code = method_3_code) (hown : s.vm.findClass "com/example/wirewright/bench/RunPrintedPinLaw" = some m.cls) (hc74 : cx = cy) :
    ∀ target, Steps p.tables e below (T0.setTop (mkF m 79 #[.val (.ref sa), .val (.ref sb), .val (.int nn), .val (.int rr)] [])) target → Steps p.tables e below (T0.setTop (mkF m 74 #[.val (.ref sa), .val (.ref sb), .val (.int nn), .val (.int rr)] [(.int cy), (.int cx)])) target := by
  intro target kt
  refine sh (mkF m 74 #[.val (.ref sa), .val (.ref sb), .val (.int nn), .val (.int rr)] [(.int cy), (.int cx)]) ?_
  refine XS.icmpYes X0.here hx rfl (pc0 := 74) (pc' := 79) rfl (hb hby d17_74) rfl (teq hc74).1 (by decide) (by decide) ?_
  exact kt
theorem d17_77 : decode method_3_code 77 = .ok (.iconst 0, 1) := by decide +kernel
theorem d17_78 : decode method_3_code 78 = .ok (.istore_n 3, 1) := by decide +kernel
set_option maxRecDepth 65536 in
set_option maxHeartbeats 40000000 in
theorem pC2f {p : Program} {l : Launch} {e : Env} {R : Room} {s : State} {m : MethodId} {args : Array Value} {below : List Frame} {meth : Method} {c : Code} {T0 : State} {locs : List Loc} {cells slots : Nat} {Z : State} {a0 : Array Value} (sa : Addr) (sb : Addr) (nn : Int32) (rr : Int32) (cy : Int32) (cx : Int32)
    (X0 : Stand p l e R s m args below meth c T0 locs cells slots) (hx : p.tables.exec = Jvm.exec) (hZ : Z.Warmed39 s.vm) (hw : ∀ d ∈ tables_1, d.before a0 Z = true) (hby : c.code = method_3_code) (hown : s.vm.findClass "com/example/wirewright/bench/RunPrintedPinLaw" = some m.cls) (hc74 : ¬ (cx = cy)) :
    ∀ target, Steps p.tables e below (T0.setTop (mkF m 79 #[.val (.ref sa), .val (.ref sb), .val (.int nn), .val (.int (0 : Int32))] [])) target → Steps p.tables e below (T0.setTop (mkF m 74 #[.val (.ref sa), .val (.ref sb), .val (.int nn), .val (.int rr)] [(.int cy), (.int cx)])) target := by
  intro target kt
  refine sh (mkF m 74 #[.val (.ref sa), .val (.ref sb), .val (.int nn), .val (.int rr)] [(.int cy), (.int cx)]) ?_
  refine XS.icmpNo X0.here hx rfl (hb hby d17_74) rfl (feq hc74).1 ?_
  refine sh (mkF m 77 #[.val (.ref sa), .val (.ref sb), .val (.int nn), .val (.int rr)] []) ?_
  refine XS.iconst X0.here hx rfl (hb hby d17_77) ?_
  refine sh (mkF m 78 #[.val (.ref sa), .val (.ref sb), .val (.int nn), .val (.int rr)] [(.int (0 : Int32))]) ?_
  refine XS.istoreN X0.here hx rfl (hb hby d17_78) rfl (l' := #[.val (.ref sa), .val (.ref sb), .val (.int nn), .val (.int (0 : Int32))]) rfl ?_
  exact kt
theorem own_cmp2 {p : Program} {l : Launch} {e : Env} {R : Room} {s : State} {m : MethodId} {args : Array Value} {below : List Frame} {meth : Method} {c : Code} {T0 : State} {locs : List Loc} {cells slots : Nat} {Z : State} {a0 : Array Value} (sa sb : Addr) (nn rr cy cx : Int32) (X0 : Stand p l e R s m args below meth c T0 locs cells slots) (hx : p.tables.exec = Jvm.exec) (hZ : Z.Warmed39 s.vm) (hw : ∀ d ∈ tables_1, d.before a0 Z = true) (hby : c.code = method_3_code) (hown : s.vm.findClass "com/example/wirewright/bench/RunPrintedPinLaw" = some m.cls) : ∀ target, Steps p.tables e below (T0.setTop (mkF m 79 #[.val (.ref sa), .val (.ref sb), .val (.int nn), .val (.int (if cx = cy then rr else (0 : Int32)))] [])) target → Steps p.tables e below (T0.setTop (mkF m 74 #[.val (.ref sa), .val (.ref sb), .val (.int nn), .val (.int rr)] [(.int cy), (.int cx)])) target := by
  by_cases h : cx = cy
  · rw [if_pos h]; exact pC2t sa sb nn rr cy cx X0 hx hZ hw hby hown h
  · rw [if_neg h]; exact pC2f sa sb nn rr cy cx X0 hx hZ hw hby hown h
theorem d17_0 : decode method_3_code 0 = .ok (.aload_n 0, 1) := by decide +kernel
theorem d17_1 : decode method_3_code 1 = .ok (.invokevirtual 12, 3) := by decide +kernel
theorem pd_13 : parseMethodDescriptor "()I" = some ⟨[], some .int⟩ := by decide +kernel
theorem d17_4 : decode method_3_code 4 = .ok (.aload_n 1, 1) := by decide +kernel
theorem d17_5 : decode method_3_code 5 = .ok (.invokevirtual 12, 3) := by decide +kernel
theorem d17_8 : decode method_3_code 8 = .ok (.if_icmp .eq 5, 3) := by decide +kernel
theorem d17_11 : decode method_3_code 11 = .ok (.iconst 0, 1) := by decide +kernel
theorem d17_12 : decode method_3_code 12 = .ok (.ireturn, 1) := by decide +kernel
theorem d17_13 : decode method_3_code 13 = .ok (.aload_n 0, 1) := by decide +kernel
theorem d17_14 : decode method_3_code 14 = .ok (.invokevirtual 12, 3) := by decide +kernel
theorem d17_17 : decode method_3_code 17 = .ok (.istore_n 2, 1) := by decide +kernel
theorem d17_18 : decode method_3_code 18 = .ok (.iconst 1, 1) := by decide +kernel
theorem d17_19 : decode method_3_code 19 = .ok (.istore_n 3, 1) := by decide +kernel
theorem d17_20 : decode method_3_code 20 = .ok (.iload_n 2, 1) := by decide +kernel
theorem d17_21 : decode method_3_code 21 = .ok (.ifCond .le 18, 3) := by decide +kernel
theorem d17_39 : decode method_3_code 39 = .ok (.iload_n 2, 1) := by decide +kernel
theorem d17_40 : decode method_3_code 40 = .ok (.iconst 1, 1) := by decide +kernel
theorem d17_41 : decode method_3_code 41 = .ok (.if_icmp .le 18, 3) := by decide +kernel
theorem d17_59 : decode method_3_code 59 = .ok (.iload_n 2, 1) := by decide +kernel
theorem d17_60 : decode method_3_code 60 = .ok (.iconst 2, 1) := by decide +kernel
theorem d17_61 : decode method_3_code 61 = .ok (.if_icmp .le 18, 3) := by decide +kernel
theorem d17_79 : decode method_3_code 79 = .ok (.iload_n 3, 1) := by decide +kernel
theorem d17_80 : decode method_3_code 80 = .ok (.ireturn, 1) := by decide +kernel
theorem d17_24 : decode method_3_code 24 = .ok (.aload_n 0, 1) := by decide +kernel
theorem d17_25 : decode method_3_code 25 = .ok (.iconst 0, 1) := by decide +kernel
theorem d17_26 : decode method_3_code 26 = .ok (.invokevirtual 16, 3) := by decide +kernel
theorem pd_14 : parseMethodDescriptor "(I)C" = some ⟨[.int], some .char⟩ := by decide +kernel
theorem d17_29 : decode method_3_code 29 = .ok (.aload_n 1, 1) := by decide +kernel
theorem d17_30 : decode method_3_code 30 = .ok (.iconst 0, 1) := by decide +kernel
theorem d17_31 : decode method_3_code 31 = .ok (.invokevirtual 16, 3) := by decide +kernel
theorem d17_44 : decode method_3_code 44 = .ok (.aload_n 0, 1) := by decide +kernel
theorem d17_45 : decode method_3_code 45 = .ok (.iconst 1, 1) := by decide +kernel
theorem d17_46 : decode method_3_code 46 = .ok (.invokevirtual 16, 3) := by decide +kernel
theorem d17_49 : decode method_3_code 49 = .ok (.aload_n 1, 1) := by decide +kernel
theorem d17_50 : decode method_3_code 50 = .ok (.iconst 1, 1) := by decide +kernel
theorem d17_51 : decode method_3_code 51 = .ok (.invokevirtual 16, 3) := by decide +kernel
theorem d17_64 : decode method_3_code 64 = .ok (.aload_n 0, 1) := by decide +kernel
theorem d17_65 : decode method_3_code 65 = .ok (.iconst 2, 1) := by decide +kernel
theorem d17_66 : decode method_3_code 66 = .ok (.invokevirtual 16, 3) := by decide +kernel
theorem d17_69 : decode method_3_code 69 = .ok (.aload_n 1, 1) := by decide +kernel
theorem d17_70 : decode method_3_code 70 = .ok (.iconst 2, 1) := by decide +kernel
theorem d17_71 : decode method_3_code 71 = .ok (.invokevirtual 16, 3) := by decide +kernel
def Q_rmST_ne (Z : State) (sa : Addr) (sb : Addr) (s_CS : Int32) (zx : Int32) (vx : List Value) (va : Addr) (ka : ClassId) (zy : Int32) (vy : List Value) (vb : Addr) (kb : ClassId) (h0 : Heap) (n0 : Nat) (v : Option Value) (h : Heap) (L : List Loc) : Prop := v = some (.int (0 : Int32)) ∧ Fr n0 L ∧ h = h0
theorem ef_rmST_ne (m : MethodId) (sa : Addr) (sb : Addr) : entryFrame m #[(.ref sa), (.ref sb)] 4 = mkF m 0 #[.val (.ref sa), .val (.ref sb), .unset, .unset] [] := by first | (simp [entryFrame, mkF, argsToLocals, Value.category]; done) | rfl
set_option maxRecDepth 65536 in
set_option maxHeartbeats 40000000 in
theorem rmST_ne (l : Launch) (Z : State) (a0 : Array Value) (hw : ∀ d ∈ tables_1, d.before a0 Z = true) (ws : List Jvm.Cond) (sa : Addr) (sb : Addr) (s_CS : Int32) (zx : Int32) (vx : List Value) (va : Addr) (ka : ClassId) (zy : Int32) (vy : List Value) (vb : Addr) (kb : ClassId) (h0 : Heap) (n0 : Nat) (Z0 : n0 ≤ h0.size) (S_CS : Sta Z h0 "java/lang/String" "COMPACT_STRINGS" "Z" (.int s_CS)) (hcs : ¬ (s_CS = (0 : Int32))) (E_sa : Exa Z h0 sa "java/lang/String") (F_coder_sa : Fld Z h0 sa "java/lang/String" "coder" "B" (.int (0 : Int32))) (F_value_sa : Fld Z h0 sa "java/lang/String" "value" "[B" (.ref va)) (V_va : Arv Z h0 va ka .byte zx vx (.int (0 : Int32))) (E_sb : Exa Z h0 sb "java/lang/String") (F_coder_sb : Fld Z h0 sb "java/lang/String" "coder" "B" (.int (0 : Int32))) (F_value_sb : Fld Z h0 sb "java/lang/String" "value" "[B" (.ref vb)) (V_vb : Arv Z h0 vb kb .byte zy vy (.int (0 : Int32))) (hz : ¬ (zx = zy)) :
    MetFree l (⟨"com/example/wirewright/bench/RunPrintedPinLaw", "sameText", "(Ljava/lang/String;Ljava/lang/String;)Z"⟩ : MethodName) (head1 (Jvm.Cond.code (⟨"com/example/wirewright/bench/RunPrintedPinLaw", "sameText", "(Ljava/lang/String;Ljava/lang/String;)Z"⟩ : MethodName) method_3_code 4 (some .boolean) :: ws) ({ frames := 4, cells := 0, slots := 0, locals := 54 } : Room)) (fun a U => a = #[(.ref sa), (.ref sb)] ∧ Z.Warmed39 U.vm ∧ U.heap = h0) (fun _ _ _ _ _ => True) (fun _ U o U' => ∃ v L, o = .returned v ∧ Q_rmST_ne Z sa sb s_CS zx vx va ka zy vy vb kb h0 n0 v U'.heap L ∧ FrameEnd U o U' L ({ frames := 4, cells := 0, slots := 0, locals := 54 } : Room).cells ({ frames := 4, cells := 0, slots := 0, locals := 54 } : Room).slots) := by
  refine MetFree.of_bodySF (plainFor_of_name pn_3) hisR ?_
  intro p e s m args below meth c s₁ Bd hml0 hP hK
  obtain ⟨rfl, hZ, hh⟩ := hP
  have hx := Bd.exec
  have hby := Bd.bytes
  have hml : c.maxLocals = 4 := hml0
  have hown : s.vm.findClass "com/example/wirewright/bench/RunPrintedPinLaw" = some m.cls := findClass_of_methodNamed Bd.named
  have hnm := (name_of_methodNamed Bd.named Bd.method).1
  have X0 : Stand p l e ({ frames := 4, cells := 0, slots := 0, locals := 54 } : Room) s m #[(.ref sa), (.ref sb)] below meth c s₁ [] 0 0 := Stand.of_body Bd
  have e0 : s₁.heap = h0 := by rw [← hh, Bd.state]; rfl
  have N0 := Fr.nil n0
  have pre0 : ∀ t, Steps p.tables e below (s₁.setTop (mkF m 0 #[.val (.ref sa), .val (.ref sb), .unset, .unset] [])) t → Steps p.tables e below (s₁.setTop (entryFrame m #[(.ref sa), (.ref sb)] 4)) t := fun t k => castTop (ef_rmST_ne m sa sb) k
  obtain ⟨cq1, kq1, q1a, q1b, q1c⟩ := isOf hZ e0 E_sa
  obtain ⟨_, _, ⟨T1, L1, k1, n1⟩, -, X1, ⟨Lc1, hQ1, l1, y1, z1⟩, st1⟩ := X0.virtualBack hx (y := (⟨"java/lang/String", "length", "()I"⟩ : MethodName)) (z := (⟨"java/lang/String", "length", "()I"⟩ : MethodName)) hown (mvT hZ (ow hw 69 rfl)) (mvT hZ (ow hw 70 rfl)) (notFace_of_selects (args := #[]) (mvT hZ (ow hw 72 rfl))) (mvT hZ (ow hw 72 rfl)) (mvT hZ (ow hw 71 rfl)) (by decide) (backOf (W := 0) (rmLe l Z a0 hw [] sa zx vx s_CS va ka h0 n0 Z0 S_CS hcs E_sa F_coder_sa F_value_sa V_va) hZ (ow hw 73 rfl) (ow hw 6 rfl) (by decide) (by decide)) q1a q1c (g := (mkF m 1 #[.val (.ref sa), .val (.ref sb), .unset, .unset] [(.ref sa)])) rfl (by rw [hml]; rfl) (Steps.refl _) (argsL := []) (rest := []) (lenOf pd_13 rfl) rfl (by show 2 * 0 + _ ≤ _; exact Nat.le_of_eq rfl) (hb hby d17_1) (fun _ _ => ⟨rfl, e0, (by decide : 0 + 0 ≤ _), (by decide : 0 + 0 ≤ _)⟩)
  dsimp only [Pt.U, Pt.locs, Pt.cells, Pt.slots] at X1 l1 y1 z1 st1 hQ1
  subst l1 y1 z1
  obtain ⟨rfl, Nq1, e1⟩ := hQ1
  have N1 := Fr.app N0 Nq1
  obtain ⟨cq2, kq2, q2a, q2b, q2c⟩ := isOf hZ e1 E_sb
  obtain ⟨_, _, ⟨T2, L2, k2, n2⟩, -, X2, ⟨Lc2, hQ2, l2, y2, z2⟩, st2⟩ := X1.virtualBack hx (y := (⟨"java/lang/String", "length", "()I"⟩ : MethodName)) (z := (⟨"java/lang/String", "length", "()I"⟩ : MethodName)) hown (mvT hZ (ow hw 69 rfl)) (mvT hZ (ow hw 70 rfl)) (notFace_of_selects (args := #[]) (mvT hZ (ow hw 72 rfl))) (mvT hZ (ow hw 72 rfl)) (mvT hZ (ow hw 71 rfl)) (by decide) (backOf (W := 1) (rmLe l Z a0 hw [] sb zy vy s_CS vb kb h0 n0 Z0 S_CS hcs E_sb F_coder_sb F_value_sb V_vb) hZ (ow hw 73 rfl) (ow hw 6 rfl) (by decide) (by decide)) q2a q2c (g := (mkF m 5 #[.val (.ref sa), .val (.ref sb), .unset, .unset] [(.ref sb), (.int zx)])) rfl (by rw [hml]; rfl) (Steps.refl _) (argsL := []) (rest := [(.int zx)]) (lenOf pd_13 rfl) rfl (by show 2 * 0 + _ ≤ _; exact Nat.le_of_eq rfl) (hb hby d17_5) (fun _ _ => ⟨rfl, e1, (by decide : 0 + 0 ≤ _), (by decide : 0 + 0 ≤ _)⟩)
  dsimp only [Pt.U, Pt.locs, Pt.cells, Pt.slots] at X2 l2 y2 z2 st2 hQ2
  subst l2 y2 z2
  obtain ⟨rfl, Nq2, e2⟩ := hQ2
  have N2 := Fr.app N1 Nq2
  obtain ⟨fs, hr, hrun, hended, hW, hsame⟩ := X2.leave (v := some (.int (0 : Int32))) (fun h => by rw [Bd.returns] at h; cases h)
  refine ⟨_, _, pre0 _ ?_, hrun, hended, _, _, rfl, ?_, ⟨_, rfl⟩, hW, hsame.mono (by decide) (by decide)⟩
  · refine sh (mkF m 0 #[.val (.ref sa), .val (.ref sb), .unset, .unset] []) ?_
    refine XS.aloadN X0.here hx rfl (hb hby d17_0) rfl rfl ?_
    refine sh (mkF m 1 #[.val (.ref sa), .val (.ref sb), .unset, .unset] [(.ref sa)]) ?_
    refine st1.trans ?_
    refine sh (mkF m 4 #[.val (.ref sa), .val (.ref sb), .unset, .unset] [(.int zx)]) ?_
    refine XS.aloadN X1.here hx rfl (hb hby d17_4) rfl rfl ?_
    refine sh (mkF m 5 #[.val (.ref sa), .val (.ref sb), .unset, .unset] [(.ref sb), (.int zx)]) ?_
    refine st2.trans ?_
    refine sh (mkF m 8 #[.val (.ref sa), .val (.ref sb), .unset, .unset] [(.int zy), (.int zx)]) ?_
    refine XS.icmpNo X2.here hx rfl (hb hby d17_8) rfl (feq hz).1 ?_
    refine sh (mkF m 11 #[.val (.ref sa), .val (.ref sb), .unset, .unset] []) ?_
    refine XS.iconst X2.here hx rfl (hb hby d17_11) ?_
    refine sh (mkF m 12 #[.val (.ref sa), .val (.ref sb), .unset, .unset] [(.int (0 : Int32))]) ?_
    exact retN X2 hx (t := .boolean) Bd.returns (by simp) (hb hby d17_12) hr
  · show Q_rmST_ne Z sa sb s_CS zx vx va ka zy vy vb kb h0 n0 _ T2.heap _
    rw [e2]
    exact ⟨rfl, N2, rfl⟩
def Q_rmST_0 (Z : State) (sa : Addr) (sb : Addr) (s_CS : Int32) (va : Addr) (ka : ClassId) (vb : Addr) (kb : ClassId) (h0 : Heap) (n0 : Nat) (v : Option Value) (h : Heap) (L : List Loc) : Prop := v = some (.int (1 : Int32)) ∧ Fr n0 L ∧ h = h0
theorem ef_rmST_0 (m : MethodId) (sa : Addr) (sb : Addr) : entryFrame m #[(.ref sa), (.ref sb)] 4 = mkF m 0 #[.val (.ref sa), .val (.ref sb), .unset, .unset] [] := by first | (simp [entryFrame, mkF, argsToLocals, Value.category]; done) | rfl
set_option maxRecDepth 65536 in
set_option maxHeartbeats 40000000 in
theorem rmST_0 (l : Launch) (Z : State) (a0 : Array Value) (hw : ∀ d ∈ tables_1, d.before a0 Z = true) (ws : List Jvm.Cond) (sa : Addr) (sb : Addr) (s_CS : Int32) (va : Addr) (ka : ClassId) (vb : Addr) (kb : ClassId) (h0 : Heap) (n0 : Nat) (Z0 : n0 ≤ h0.size) (S_CS : Sta Z h0 "java/lang/String" "COMPACT_STRINGS" "Z" (.int s_CS)) (hcs : ¬ (s_CS = (0 : Int32))) (E_sa : Exa Z h0 sa "java/lang/String") (F_coder_sa : Fld Z h0 sa "java/lang/String" "coder" "B" (.int (0 : Int32))) (F_value_sa : Fld Z h0 sa "java/lang/String" "value" "[B" (.ref va)) (V_va : Arv Z h0 va ka .byte (0 : Int32) [] (.int (0 : Int32))) (E_sb : Exa Z h0 sb "java/lang/String") (F_coder_sb : Fld Z h0 sb "java/lang/String" "coder" "B" (.int (0 : Int32))) (F_value_sb : Fld Z h0 sb "java/lang/String" "value" "[B" (.ref vb)) (V_vb : Arv Z h0 vb kb .byte (0 : Int32) [] (.int (0 : Int32))) :
    MetFree l (⟨"com/example/wirewright/bench/RunPrintedPinLaw", "sameText", "(Ljava/lang/String;Ljava/lang/String;)Z"⟩ : MethodName) (head1 (Jvm.Cond.code (⟨"com/example/wirewright/bench/RunPrintedPinLaw", "sameText", "(Ljava/lang/String;Ljava/lang/String;)Z"⟩ : MethodName) method_3_code 4 (some .boolean) :: ws) ({ frames := 4, cells := 0, slots := 0, locals := 54 } : Room)) (fun a U => a = #[(.ref sa), (.ref sb)] ∧ Z.Warmed39 U.vm ∧ U.heap = h0) (fun _ _ _ _ _ => True) (fun _ U o U' => ∃ v L, o = .returned v ∧ Q_rmST_0 Z sa sb s_CS va ka vb kb h0 n0 v U'.heap L ∧ FrameEnd U o U' L ({ frames := 4, cells := 0, slots := 0, locals := 54 } : Room).cells ({ frames := 4, cells := 0, slots := 0, locals := 54 } : Room).slots) := by
  refine MetFree.of_bodySF (plainFor_of_name pn_3) hisR ?_
  intro p e s m args below meth c s₁ Bd hml0 hP hK
  obtain ⟨rfl, hZ, hh⟩ := hP
  have hx := Bd.exec
  have hby := Bd.bytes
  have hml : c.maxLocals = 4 := hml0
  have hown : s.vm.findClass "com/example/wirewright/bench/RunPrintedPinLaw" = some m.cls := findClass_of_methodNamed Bd.named
  have hnm := (name_of_methodNamed Bd.named Bd.method).1
  have X0 : Stand p l e ({ frames := 4, cells := 0, slots := 0, locals := 54 } : Room) s m #[(.ref sa), (.ref sb)] below meth c s₁ [] 0 0 := Stand.of_body Bd
  have e0 : s₁.heap = h0 := by rw [← hh, Bd.state]; rfl
  have N0 := Fr.nil n0
  have pre0 : ∀ t, Steps p.tables e below (s₁.setTop (mkF m 0 #[.val (.ref sa), .val (.ref sb), .unset, .unset] [])) t → Steps p.tables e below (s₁.setTop (entryFrame m #[(.ref sa), (.ref sb)] 4)) t := fun t k => castTop (ef_rmST_0 m sa sb) k
  obtain ⟨cq1, kq1, q1a, q1b, q1c⟩ := isOf hZ e0 E_sa
  obtain ⟨_, _, ⟨T1, L1, k1, n1⟩, -, X1, ⟨Lc1, hQ1, l1, y1, z1⟩, st1⟩ := X0.virtualBack hx (y := (⟨"java/lang/String", "length", "()I"⟩ : MethodName)) (z := (⟨"java/lang/String", "length", "()I"⟩ : MethodName)) hown (mvT hZ (ow hw 69 rfl)) (mvT hZ (ow hw 70 rfl)) (notFace_of_selects (args := #[]) (mvT hZ (ow hw 72 rfl))) (mvT hZ (ow hw 72 rfl)) (mvT hZ (ow hw 71 rfl)) (by decide) (backOf (W := 0) (rmLe l Z a0 hw [] sa (0 : Int32) [] s_CS va ka h0 n0 Z0 S_CS hcs E_sa F_coder_sa F_value_sa V_va) hZ (ow hw 73 rfl) (ow hw 6 rfl) (by decide) (by decide)) q1a q1c (g := (mkF m 1 #[.val (.ref sa), .val (.ref sb), .unset, .unset] [(.ref sa)])) rfl (by rw [hml]; rfl) (Steps.refl _) (argsL := []) (rest := []) (lenOf pd_13 rfl) rfl (by show 2 * 0 + _ ≤ _; exact Nat.le_of_eq rfl) (hb hby d17_1) (fun _ _ => ⟨rfl, e0, (by decide : 0 + 0 ≤ _), (by decide : 0 + 0 ≤ _)⟩)
  dsimp only [Pt.U, Pt.locs, Pt.cells, Pt.slots] at X1 l1 y1 z1 st1 hQ1
  subst l1 y1 z1
  obtain ⟨rfl, Nq1, e1⟩ := hQ1
  have N1 := Fr.app N0 Nq1
  obtain ⟨cq2, kq2, q2a, q2b, q2c⟩ := isOf hZ e1 E_sb
  obtain ⟨_, _, ⟨T2, L2, k2, n2⟩, -, X2, ⟨Lc2, hQ2, l2, y2, z2⟩, st2⟩ := X1.virtualBack hx (y := (⟨"java/lang/String", "length", "()I"⟩ : MethodName)) (z := (⟨"java/lang/String", "length", "()I"⟩ : MethodName)) hown (mvT hZ (ow hw 69 rfl)) (mvT hZ (ow hw 70 rfl)) (notFace_of_selects (args := #[]) (mvT hZ (ow hw 72 rfl))) (mvT hZ (ow hw 72 rfl)) (mvT hZ (ow hw 71 rfl)) (by decide) (backOf (W := 1) (rmLe l Z a0 hw [] sb (0 : Int32) [] s_CS vb kb h0 n0 Z0 S_CS hcs E_sb F_coder_sb F_value_sb V_vb) hZ (ow hw 73 rfl) (ow hw 6 rfl) (by decide) (by decide)) q2a q2c (g := (mkF m 5 #[.val (.ref sa), .val (.ref sb), .unset, .unset] [(.ref sb), (.int (0 : Int32))])) rfl (by rw [hml]; rfl) (Steps.refl _) (argsL := []) (rest := [(.int (0 : Int32))]) (lenOf pd_13 rfl) rfl (by show 2 * 0 + _ ≤ _; exact Nat.le_of_eq rfl) (hb hby d17_5) (fun _ _ => ⟨rfl, e1, (by decide : 0 + 0 ≤ _), (by decide : 0 + 0 ≤ _)⟩)
  dsimp only [Pt.U, Pt.locs, Pt.cells, Pt.slots] at X2 l2 y2 z2 st2 hQ2
  subst l2 y2 z2
  obtain ⟨rfl, Nq2, e2⟩ := hQ2
  have N2 := Fr.app N1 Nq2
  obtain ⟨cq3, kq3, q3a, q3b, q3c⟩ := isOf hZ e2 E_sa
  obtain ⟨_, _, ⟨T3, L3, k3, n3⟩, -, X3, ⟨Lc3, hQ3, l3, y3, z3⟩, st3⟩ := X2.virtualBack hx (y := (⟨"java/lang/String", "length", "()I"⟩ : MethodName)) (z := (⟨"java/lang/String", "length", "()I"⟩ : MethodName)) hown (mvT hZ (ow hw 69 rfl)) (mvT hZ (ow hw 70 rfl)) (notFace_of_selects (args := #[]) (mvT hZ (ow hw 72 rfl))) (mvT hZ (ow hw 72 rfl)) (mvT hZ (ow hw 71 rfl)) (by decide) (backOf (W := 0) (rmLe l Z a0 hw [] sa (0 : Int32) [] s_CS va ka h0 n0 Z0 S_CS hcs E_sa F_coder_sa F_value_sa V_va) hZ (ow hw 73 rfl) (ow hw 6 rfl) (by decide) (by decide)) q3a q3c (g := (mkF m 14 #[.val (.ref sa), .val (.ref sb), .unset, .unset] [(.ref sa)])) rfl (by rw [hml]; rfl) (Steps.refl _) (argsL := []) (rest := []) (lenOf pd_13 rfl) rfl (by show 2 * 0 + _ ≤ _; exact Nat.le_of_eq rfl) (hb hby d17_14) (fun _ _ => ⟨rfl, e2, (by decide : 0 + 0 ≤ _), (by decide : 0 + 0 ≤ _)⟩)
  dsimp only [Pt.U, Pt.locs, Pt.cells, Pt.slots] at X3 l3 y3 z3 st3 hQ3
  subst l3 y3 z3
  obtain ⟨rfl, Nq3, e3⟩ := hQ3
  have N3 := Fr.app N2 Nq3
  obtain ⟨fs, hr, hrun, hended, hW, hsame⟩ := X3.leave (v := some (.int (1 : Int32))) (fun h => by rw [Bd.returns] at h; cases h)
  refine ⟨_, _, pre0 _ ?_, hrun, hended, _, _, rfl, ?_, ⟨_, rfl⟩, hW, hsame.mono (by decide) (by decide)⟩
  · refine sh (mkF m 0 #[.val (.ref sa), .val (.ref sb), .unset, .unset] []) ?_
    refine XS.aloadN X0.here hx rfl (hb hby d17_0) rfl rfl ?_
    refine sh (mkF m 1 #[.val (.ref sa), .val (.ref sb), .unset, .unset] [(.ref sa)]) ?_
    refine st1.trans ?_
    refine sh (mkF m 4 #[.val (.ref sa), .val (.ref sb), .unset, .unset] [(.int (0 : Int32))]) ?_
    refine XS.aloadN X1.here hx rfl (hb hby d17_4) rfl rfl ?_
    refine sh (mkF m 5 #[.val (.ref sa), .val (.ref sb), .unset, .unset] [(.ref sb), (.int (0 : Int32))]) ?_
    refine st2.trans ?_
    refine sh (mkF m 8 #[.val (.ref sa), .val (.ref sb), .unset, .unset] [(.int (0 : Int32)), (.int (0 : Int32))]) ?_
    refine XS.icmpYes X2.here hx rfl (pc0 := 8) (pc' := 13) rfl (hb hby d17_8) rfl (teq (rfl : (0 : Int32) = (0 : Int32))).1 (by decide) (by decide) ?_
    refine sh (mkF m 13 #[.val (.ref sa), .val (.ref sb), .unset, .unset] []) ?_
    refine XS.aloadN X2.here hx rfl (hb hby d17_13) rfl rfl ?_
    refine sh (mkF m 14 #[.val (.ref sa), .val (.ref sb), .unset, .unset] [(.ref sa)]) ?_
    refine st3.trans ?_
    refine sh (mkF m 17 #[.val (.ref sa), .val (.ref sb), .unset, .unset] [(.int (0 : Int32))]) ?_
    refine XS.istoreN X3.here hx rfl (hb hby d17_17) rfl (l' := #[.val (.ref sa), .val (.ref sb), .val (.int (0 : Int32)), .unset]) rfl ?_
    refine sh (mkF m 18 #[.val (.ref sa), .val (.ref sb), .val (.int (0 : Int32)), .unset] []) ?_
    refine XS.iconst X3.here hx rfl (hb hby d17_18) ?_
    refine sh (mkF m 19 #[.val (.ref sa), .val (.ref sb), .val (.int (0 : Int32)), .unset] [(.int (1 : Int32))]) ?_
    refine XS.istoreN X3.here hx rfl (hb hby d17_19) rfl (l' := #[.val (.ref sa), .val (.ref sb), .val (.int (0 : Int32)), .val (.int (1 : Int32))]) rfl ?_
    refine sh (mkF m 20 #[.val (.ref sa), .val (.ref sb), .val (.int (0 : Int32)), .val (.int (1 : Int32))] []) ?_
    refine XS.iloadN X3.here hx rfl (hb hby d17_20) rfl ?_
    refine sh (mkF m 21 #[.val (.ref sa), .val (.ref sb), .val (.int (0 : Int32)), .val (.int (1 : Int32))] [(.int (0 : Int32))]) ?_
    refine XS.ifYes X3.here hx rfl (pc0 := 21) (pc' := 39) rfl (hb hby d17_21) rfl ((if0 _ _).trans (flt (by decide : ¬ ((0 : Int32) < (0 : Int32)))).2.2.2) (by decide) (by decide) ?_
    refine sh (mkF m 39 #[.val (.ref sa), .val (.ref sb), .val (.int (0 : Int32)), .val (.int (1 : Int32))] []) ?_
    refine XS.iloadN X3.here hx rfl (hb hby d17_39) rfl ?_
    refine sh (mkF m 40 #[.val (.ref sa), .val (.ref sb), .val (.int (0 : Int32)), .val (.int (1 : Int32))] [(.int (0 : Int32))]) ?_
    refine XS.iconst X3.here hx rfl (hb hby d17_40) ?_
    refine sh (mkF m 41 #[.val (.ref sa), .val (.ref sb), .val (.int (0 : Int32)), .val (.int (1 : Int32))] [(.int (1 : Int32)), (.int (0 : Int32))]) ?_
    refine XS.icmpYes X3.here hx rfl (pc0 := 41) (pc' := 59) rfl (hb hby d17_41) rfl (flt (by decide : ¬ ((1 : Int32) < (0 : Int32)))).2.2.2 (by decide) (by decide) ?_
    refine sh (mkF m 59 #[.val (.ref sa), .val (.ref sb), .val (.int (0 : Int32)), .val (.int (1 : Int32))] []) ?_
    refine XS.iloadN X3.here hx rfl (hb hby d17_59) rfl ?_
    refine sh (mkF m 60 #[.val (.ref sa), .val (.ref sb), .val (.int (0 : Int32)), .val (.int (1 : Int32))] [(.int (0 : Int32))]) ?_
    refine XS.iconst X3.here hx rfl (hb hby d17_60) ?_
    refine sh (mkF m 61 #[.val (.ref sa), .val (.ref sb), .val (.int (0 : Int32)), .val (.int (1 : Int32))] [(.int (2 : Int32)), (.int (0 : Int32))]) ?_
    refine XS.icmpYes X3.here hx rfl (pc0 := 61) (pc' := 79) rfl (hb hby d17_61) rfl (flt (by decide : ¬ ((2 : Int32) < (0 : Int32)))).2.2.2 (by decide) (by decide) ?_
    refine sh (mkF m 79 #[.val (.ref sa), .val (.ref sb), .val (.int (0 : Int32)), .val (.int (1 : Int32))] []) ?_
    refine XS.iloadN X3.here hx rfl (hb hby d17_79) rfl ?_
    refine sh (mkF m 80 #[.val (.ref sa), .val (.ref sb), .val (.int (0 : Int32)), .val (.int (1 : Int32))] [(.int (1 : Int32))]) ?_
    exact retN X3 hx (t := .boolean) Bd.returns (by simp) (hb hby d17_80) hr
  · show Q_rmST_0 Z sa sb s_CS va ka vb kb h0 n0 _ T3.heap _
    rw [e3]
    exact ⟨rfl, N3, rfl⟩
def Q_rmST_1 (Z : State) (sa : Addr) (sb : Addr) (s_CS : Int32) (wf : Value) (x0 : Int32) (va : Addr) (ka : ClassId) (y0 : Int32) (vb : Addr) (kb : ClassId) (h0 : Heap) (n0 : Nat) (v : Option Value) (h : Heap) (L : List Loc) : Prop := v = some (.int (nar .boolean (if (own_ch x0) = (own_ch y0) then (1 : Int32) else (0 : Int32)))) ∧ Fr n0 L ∧ h = h0
theorem ef_rmST_1 (m : MethodId) (sa : Addr) (sb : Addr) : entryFrame m #[(.ref sa), (.ref sb)] 4 = mkF m 0 #[.val (.ref sa), .val (.ref sb), .unset, .unset] [] := by first | (simp [entryFrame, mkF, argsToLocals, Value.category]; done) | rfl
set_option maxRecDepth 65536 in
set_option maxHeartbeats 40000000 in
theorem rmST_1 (l : Launch) (Z : State) (a0 : Array Value) (hw : ∀ d ∈ tables_1, d.before a0 Z = true) (ws : List Jvm.Cond) (sa : Addr) (sb : Addr) (s_CS : Int32) (wf : Value) (x0 : Int32) (va : Addr) (ka : ClassId) (y0 : Int32) (vb : Addr) (kb : ClassId) (h0 : Heap) (n0 : Nat) (Z0 : n0 ≤ h0.size) (S_CS : Sta Z h0 "java/lang/String" "COMPACT_STRINGS" "Z" (.int s_CS)) (hcs : ¬ (s_CS = (0 : Int32))) (S_SF : Sta Z h0 "jdk/internal/util/Preconditions" "SIOOBE_FORMATTER" "Ljava/util/function/BiFunction;" wf) (hwf : wf.isRef = true) (E_sa : Exa Z h0 sa "java/lang/String") (F_coder_sa : Fld Z h0 sa "java/lang/String" "coder" "B" (.int (0 : Int32))) (F_value_sa : Fld Z h0 sa "java/lang/String" "value" "[B" (.ref va)) (V_va : Arv Z h0 va ka .byte (1 : Int32) [(.int x0)] (.int (0 : Int32))) (E_sb : Exa Z h0 sb "java/lang/String") (F_coder_sb : Fld Z h0 sb "java/lang/String" "coder" "B" (.int (0 : Int32))) (F_value_sb : Fld Z h0 sb "java/lang/String" "value" "[B" (.ref vb)) (V_vb : Arv Z h0 vb kb .byte (1 : Int32) [(.int y0)] (.int (0 : Int32))) :
    MetFree l (⟨"com/example/wirewright/bench/RunPrintedPinLaw", "sameText", "(Ljava/lang/String;Ljava/lang/String;)Z"⟩ : MethodName) (head1 (Jvm.Cond.code (⟨"com/example/wirewright/bench/RunPrintedPinLaw", "sameText", "(Ljava/lang/String;Ljava/lang/String;)Z"⟩ : MethodName) method_3_code 4 (some .boolean) :: ws) ({ frames := 4, cells := 0, slots := 0, locals := 54 } : Room)) (fun a U => a = #[(.ref sa), (.ref sb)] ∧ Z.Warmed39 U.vm ∧ U.heap = h0) (fun _ _ _ _ _ => True) (fun _ U o U' => ∃ v L, o = .returned v ∧ Q_rmST_1 Z sa sb s_CS wf x0 va ka y0 vb kb h0 n0 v U'.heap L ∧ FrameEnd U o U' L ({ frames := 4, cells := 0, slots := 0, locals := 54 } : Room).cells ({ frames := 4, cells := 0, slots := 0, locals := 54 } : Room).slots) := by
  refine MetFree.of_bodySF (plainFor_of_name pn_3) hisR ?_
  intro p e s m args below meth c s₁ Bd hml0 hP hK
  obtain ⟨rfl, hZ, hh⟩ := hP
  have hx := Bd.exec
  have hby := Bd.bytes
  have hml : c.maxLocals = 4 := hml0
  have hown : s.vm.findClass "com/example/wirewright/bench/RunPrintedPinLaw" = some m.cls := findClass_of_methodNamed Bd.named
  have hnm := (name_of_methodNamed Bd.named Bd.method).1
  have X0 : Stand p l e ({ frames := 4, cells := 0, slots := 0, locals := 54 } : Room) s m #[(.ref sa), (.ref sb)] below meth c s₁ [] 0 0 := Stand.of_body Bd
  have e0 : s₁.heap = h0 := by rw [← hh, Bd.state]; rfl
  have N0 := Fr.nil n0
  have pre0 : ∀ t, Steps p.tables e below (s₁.setTop (mkF m 0 #[.val (.ref sa), .val (.ref sb), .unset, .unset] [])) t → Steps p.tables e below (s₁.setTop (entryFrame m #[(.ref sa), (.ref sb)] 4)) t := fun t k => castTop (ef_rmST_1 m sa sb) k
  obtain ⟨cq1, kq1, q1a, q1b, q1c⟩ := isOf hZ e0 E_sa
  obtain ⟨_, _, ⟨T1, L1, k1, n1⟩, -, X1, ⟨Lc1, hQ1, l1, y1, z1⟩, st1⟩ := X0.virtualBack hx (y := (⟨"java/lang/String", "length", "()I"⟩ : MethodName)) (z := (⟨"java/lang/String", "length", "()I"⟩ : MethodName)) hown (mvT hZ (ow hw 69 rfl)) (mvT hZ (ow hw 70 rfl)) (notFace_of_selects (args := #[]) (mvT hZ (ow hw 72 rfl))) (mvT hZ (ow hw 72 rfl)) (mvT hZ (ow hw 71 rfl)) (by decide) (backOf (W := 0) (rmLe l Z a0 hw [] sa (1 : Int32) [(.int x0)] s_CS va ka h0 n0 Z0 S_CS hcs E_sa F_coder_sa F_value_sa V_va) hZ (ow hw 73 rfl) (ow hw 6 rfl) (by decide) (by decide)) q1a q1c (g := (mkF m 1 #[.val (.ref sa), .val (.ref sb), .unset, .unset] [(.ref sa)])) rfl (by rw [hml]; rfl) (Steps.refl _) (argsL := []) (rest := []) (lenOf pd_13 rfl) rfl (by show 2 * 0 + _ ≤ _; exact Nat.le_of_eq rfl) (hb hby d17_1) (fun _ _ => ⟨rfl, e0, (by decide : 0 + 0 ≤ _), (by decide : 0 + 0 ≤ _)⟩)
  dsimp only [Pt.U, Pt.locs, Pt.cells, Pt.slots] at X1 l1 y1 z1 st1 hQ1
  subst l1 y1 z1
  obtain ⟨rfl, Nq1, e1⟩ := hQ1
  have N1 := Fr.app N0 Nq1
  obtain ⟨cq2, kq2, q2a, q2b, q2c⟩ := isOf hZ e1 E_sb
  obtain ⟨_, _, ⟨T2, L2, k2, n2⟩, -, X2, ⟨Lc2, hQ2, l2, y2, z2⟩, st2⟩ := X1.virtualBack hx (y := (⟨"java/lang/String", "length", "()I"⟩ : MethodName)) (z := (⟨"java/lang/String", "length", "()I"⟩ : MethodName)) hown (mvT hZ (ow hw 69 rfl)) (mvT hZ (ow hw 70 rfl)) (notFace_of_selects (args := #[]) (mvT hZ (ow hw 72 rfl))) (mvT hZ (ow hw 72 rfl)) (mvT hZ (ow hw 71 rfl)) (by decide) (backOf (W := 1) (rmLe l Z a0 hw [] sb (1 : Int32) [(.int y0)] s_CS vb kb h0 n0 Z0 S_CS hcs E_sb F_coder_sb F_value_sb V_vb) hZ (ow hw 73 rfl) (ow hw 6 rfl) (by decide) (by decide)) q2a q2c (g := (mkF m 5 #[.val (.ref sa), .val (.ref sb), .unset, .unset] [(.ref sb), (.int (1 : Int32))])) rfl (by rw [hml]; rfl) (Steps.refl _) (argsL := []) (rest := [(.int (1 : Int32))]) (lenOf pd_13 rfl) rfl (by show 2 * 0 + _ ≤ _; exact Nat.le_of_eq rfl) (hb hby d17_5) (fun _ _ => ⟨rfl, e1, (by decide : 0 + 0 ≤ _), (by decide : 0 + 0 ≤ _)⟩)
  dsimp only [Pt.U, Pt.locs, Pt.cells, Pt.slots] at X2 l2 y2 z2 st2 hQ2
  subst l2 y2 z2
  obtain ⟨rfl, Nq2, e2⟩ := hQ2
  have N2 := Fr.app N1 Nq2
  obtain ⟨cq3, kq3, q3a, q3b, q3c⟩ := isOf hZ e2 E_sa
  obtain ⟨_, _, ⟨T3, L3, k3, n3⟩, -, X3, ⟨Lc3, hQ3, l3, y3, z3⟩, st3⟩ := X2.virtualBack hx (y := (⟨"java/lang/String", "length", "()I"⟩ : MethodName)) (z := (⟨"java/lang/String", "length", "()I"⟩ : MethodName)) hown (mvT hZ (ow hw 69 rfl)) (mvT hZ (ow hw 70 rfl)) (notFace_of_selects (args := #[]) (mvT hZ (ow hw 72 rfl))) (mvT hZ (ow hw 72 rfl)) (mvT hZ (ow hw 71 rfl)) (by decide) (backOf (W := 0) (rmLe l Z a0 hw [] sa (1 : Int32) [(.int x0)] s_CS va ka h0 n0 Z0 S_CS hcs E_sa F_coder_sa F_value_sa V_va) hZ (ow hw 73 rfl) (ow hw 6 rfl) (by decide) (by decide)) q3a q3c (g := (mkF m 14 #[.val (.ref sa), .val (.ref sb), .unset, .unset] [(.ref sa)])) rfl (by rw [hml]; rfl) (Steps.refl _) (argsL := []) (rest := []) (lenOf pd_13 rfl) rfl (by show 2 * 0 + _ ≤ _; exact Nat.le_of_eq rfl) (hb hby d17_14) (fun _ _ => ⟨rfl, e2, (by decide : 0 + 0 ≤ _), (by decide : 0 + 0 ≤ _)⟩)
  dsimp only [Pt.U, Pt.locs, Pt.cells, Pt.slots] at X3 l3 y3 z3 st3 hQ3
  subst l3 y3 z3
  obtain ⟨rfl, Nq3, e3⟩ := hQ3
  have N3 := Fr.app N2 Nq3
  obtain ⟨cq4, kq4, q4a, q4b, q4c⟩ := isOf hZ e3 E_sa
  obtain ⟨_, _, ⟨T4, L4, k4, n4⟩, -, X4, ⟨Lc4, hQ4, l4, y4, z4⟩, st4⟩ := X3.virtualBack hx (y := (⟨"java/lang/String", "charAt", "(I)C"⟩ : MethodName)) (z := (⟨"java/lang/String", "charAt", "(I)C"⟩ : MethodName)) hown (mvT hZ (ow hw 95 rfl)) (mvT hZ (ow hw 96 rfl)) (notFace_of_selects (args := #[]) (mvT hZ (ow hw 98 rfl))) (mvT hZ (ow hw 98 rfl)) (mvT hZ (ow hw 97 rfl)) (by decide) (backOf (W := 0) (rmCH l Z a0 hw [] sa (0 : Int32) s_CS wf (1 : Int32) [(.int x0)] x0 va ka h0 n0 Z0 S_CS hcs S_SF hwf (by decide) (by decide) rfl E_sa F_coder_sa F_value_sa V_va) hZ (ow hw 99 rfl) (ow hw 6 rfl) (by decide) (by decide)) q4a q4c (g := (mkF m 26 #[.val (.ref sa), .val (.ref sb), .val (.int (1 : Int32)), .val (.int (1 : Int32))] [(.int (0 : Int32)), (.ref sa)])) rfl (by rw [hml]; rfl) (Steps.refl _) (argsL := [(.int (0 : Int32))]) (rest := []) (lenOf pd_14 rfl) rfl (by show 2 * 0 + _ ≤ _; exact Nat.le_of_eq rfl) (hb hby d17_26) (fun _ _ => ⟨rfl, e3, (by decide : 0 + 0 ≤ _), (by decide : 0 + 0 ≤ _)⟩)
  dsimp only [Pt.U, Pt.locs, Pt.cells, Pt.slots] at X4 l4 y4 z4 st4 hQ4
  subst l4 y4 z4
  obtain ⟨rfl, Nq4, e4⟩ := hQ4
  have N4 := Fr.app N3 Nq4
  obtain ⟨cq5, kq5, q5a, q5b, q5c⟩ := isOf hZ e4 E_sb
  obtain ⟨_, _, ⟨T5, L5, k5, n5⟩, -, X5, ⟨Lc5, hQ5, l5, y5, z5⟩, st5⟩ := X4.virtualBack hx (y := (⟨"java/lang/String", "charAt", "(I)C"⟩ : MethodName)) (z := (⟨"java/lang/String", "charAt", "(I)C"⟩ : MethodName)) hown (mvT hZ (ow hw 95 rfl)) (mvT hZ (ow hw 96 rfl)) (notFace_of_selects (args := #[]) (mvT hZ (ow hw 98 rfl))) (mvT hZ (ow hw 98 rfl)) (mvT hZ (ow hw 97 rfl)) (by decide) (backOf (W := 1) (rmCH l Z a0 hw [] sb (0 : Int32) s_CS wf (1 : Int32) [(.int y0)] y0 vb kb h0 n0 Z0 S_CS hcs S_SF hwf (by decide) (by decide) rfl E_sb F_coder_sb F_value_sb V_vb) hZ (ow hw 99 rfl) (ow hw 6 rfl) (by decide) (by decide)) q5a q5c (g := (mkF m 31 #[.val (.ref sa), .val (.ref sb), .val (.int (1 : Int32)), .val (.int (1 : Int32))] [(.int (0 : Int32)), (.ref sb), (.int (own_ch x0))])) rfl (by rw [hml]; rfl) (Steps.refl _) (argsL := [(.int (0 : Int32))]) (rest := [(.int (own_ch x0))]) (lenOf pd_14 rfl) rfl (by show 2 * 0 + _ ≤ _; exact Nat.le_of_eq rfl) (hb hby d17_31) (fun _ _ => ⟨rfl, e4, (by decide : 0 + 0 ≤ _), (by decide : 0 + 0 ≤ _)⟩)
  dsimp only [Pt.U, Pt.locs, Pt.cells, Pt.slots] at X5 l5 y5 z5 st5 hQ5
  subst l5 y5 z5
  obtain ⟨rfl, Nq5, e5⟩ := hQ5
  have N5 := Fr.app N4 Nq5
  obtain ⟨fs, hr, hrun, hended, hW, hsame⟩ := X5.leave (v := some (.int (nar .boolean (if (own_ch x0) = (own_ch y0) then (1 : Int32) else (0 : Int32))))) (fun h => by rw [Bd.returns] at h; cases h)
  refine ⟨_, _, pre0 _ ?_, hrun, hended, _, _, rfl, ?_, ⟨_, rfl⟩, hW, hsame.mono (by decide) (by decide)⟩
  · refine sh (mkF m 0 #[.val (.ref sa), .val (.ref sb), .unset, .unset] []) ?_
    refine XS.aloadN X0.here hx rfl (hb hby d17_0) rfl rfl ?_
    refine sh (mkF m 1 #[.val (.ref sa), .val (.ref sb), .unset, .unset] [(.ref sa)]) ?_
    refine st1.trans ?_
    refine sh (mkF m 4 #[.val (.ref sa), .val (.ref sb), .unset, .unset] [(.int (1 : Int32))]) ?_
    refine XS.aloadN X1.here hx rfl (hb hby d17_4) rfl rfl ?_
    refine sh (mkF m 5 #[.val (.ref sa), .val (.ref sb), .unset, .unset] [(.ref sb), (.int (1 : Int32))]) ?_
    refine st2.trans ?_
    refine sh (mkF m 8 #[.val (.ref sa), .val (.ref sb), .unset, .unset] [(.int (1 : Int32)), (.int (1 : Int32))]) ?_
    refine XS.icmpYes X2.here hx rfl (pc0 := 8) (pc' := 13) rfl (hb hby d17_8) rfl (teq (rfl : (1 : Int32) = (1 : Int32))).1 (by decide) (by decide) ?_
    refine sh (mkF m 13 #[.val (.ref sa), .val (.ref sb), .unset, .unset] []) ?_
    refine XS.aloadN X2.here hx rfl (hb hby d17_13) rfl rfl ?_
    refine sh (mkF m 14 #[.val (.ref sa), .val (.ref sb), .unset, .unset] [(.ref sa)]) ?_
    refine st3.trans ?_
    refine sh (mkF m 17 #[.val (.ref sa), .val (.ref sb), .unset, .unset] [(.int (1 : Int32))]) ?_
    refine XS.istoreN X3.here hx rfl (hb hby d17_17) rfl (l' := #[.val (.ref sa), .val (.ref sb), .val (.int (1 : Int32)), .unset]) rfl ?_
    refine sh (mkF m 18 #[.val (.ref sa), .val (.ref sb), .val (.int (1 : Int32)), .unset] []) ?_
    refine XS.iconst X3.here hx rfl (hb hby d17_18) ?_
    refine sh (mkF m 19 #[.val (.ref sa), .val (.ref sb), .val (.int (1 : Int32)), .unset] [(.int (1 : Int32))]) ?_
    refine XS.istoreN X3.here hx rfl (hb hby d17_19) rfl (l' := #[.val (.ref sa), .val (.ref sb), .val (.int (1 : Int32)), .val (.int (1 : Int32))]) rfl ?_
    refine sh (mkF m 20 #[.val (.ref sa), .val (.ref sb), .val (.int (1 : Int32)), .val (.int (1 : Int32))] []) ?_
    refine XS.iloadN X3.here hx rfl (hb hby d17_20) rfl ?_
    refine sh (mkF m 21 #[.val (.ref sa), .val (.ref sb), .val (.int (1 : Int32)), .val (.int (1 : Int32))] [(.int (1 : Int32))]) ?_
    refine XS.ifNo X3.here hx rfl (hb hby d17_21) rfl ((if0 _ _).trans (tlt (by decide : (0 : Int32) < (1 : Int32))).2.2.2) ?_
    refine sh (mkF m 24 #[.val (.ref sa), .val (.ref sb), .val (.int (1 : Int32)), .val (.int (1 : Int32))] []) ?_
    refine XS.aloadN X3.here hx rfl (hb hby d17_24) rfl rfl ?_
    refine sh (mkF m 25 #[.val (.ref sa), .val (.ref sb), .val (.int (1 : Int32)), .val (.int (1 : Int32))] [(.ref sa)]) ?_
    refine XS.iconst X3.here hx rfl (hb hby d17_25) ?_
    refine sh (mkF m 26 #[.val (.ref sa), .val (.ref sb), .val (.int (1 : Int32)), .val (.int (1 : Int32))] [(.int (0 : Int32)), (.ref sa)]) ?_
    refine st4.trans ?_
    refine sh (mkF m 29 #[.val (.ref sa), .val (.ref sb), .val (.int (1 : Int32)), .val (.int (1 : Int32))] [(.int (own_ch x0))]) ?_
    refine XS.aloadN X4.here hx rfl (hb hby d17_29) rfl rfl ?_
    refine sh (mkF m 30 #[.val (.ref sa), .val (.ref sb), .val (.int (1 : Int32)), .val (.int (1 : Int32))] [(.ref sb), (.int (own_ch x0))]) ?_
    refine XS.iconst X4.here hx rfl (hb hby d17_30) ?_
    refine sh (mkF m 31 #[.val (.ref sa), .val (.ref sb), .val (.int (1 : Int32)), .val (.int (1 : Int32))] [(.int (0 : Int32)), (.ref sb), (.int (own_ch x0))]) ?_
    refine st5.trans ?_
    refine sh (mkF m 34 #[.val (.ref sa), .val (.ref sb), .val (.int (1 : Int32)), .val (.int (1 : Int32))] [(.int (own_ch y0)), (.int (own_ch x0))]) ?_
    refine own_cmp0 sa sb (1 : Int32) (1 : Int32) (own_ch y0) (own_ch x0) X5 hx hZ hw hby hown _ ?_
    refine sh (mkF m 39 #[.val (.ref sa), .val (.ref sb), .val (.int (1 : Int32)), .val (.int (if (own_ch x0) = (own_ch y0) then (1 : Int32) else (0 : Int32)))] []) ?_
    refine XS.iloadN X5.here hx rfl (hb hby d17_39) rfl ?_
    refine sh (mkF m 40 #[.val (.ref sa), .val (.ref sb), .val (.int (1 : Int32)), .val (.int (if (own_ch x0) = (own_ch y0) then (1 : Int32) else (0 : Int32)))] [(.int (1 : Int32))]) ?_
    refine XS.iconst X5.here hx rfl (hb hby d17_40) ?_
    refine sh (mkF m 41 #[.val (.ref sa), .val (.ref sb), .val (.int (1 : Int32)), .val (.int (if (own_ch x0) = (own_ch y0) then (1 : Int32) else (0 : Int32)))] [(.int (1 : Int32)), (.int (1 : Int32))]) ?_
    refine XS.icmpYes X5.here hx rfl (pc0 := 41) (pc' := 59) rfl (hb hby d17_41) rfl (flt (by decide : ¬ ((1 : Int32) < (1 : Int32)))).2.2.2 (by decide) (by decide) ?_
    refine sh (mkF m 59 #[.val (.ref sa), .val (.ref sb), .val (.int (1 : Int32)), .val (.int (if (own_ch x0) = (own_ch y0) then (1 : Int32) else (0 : Int32)))] []) ?_
    refine XS.iloadN X5.here hx rfl (hb hby d17_59) rfl ?_
    refine sh (mkF m 60 #[.val (.ref sa), .val (.ref sb), .val (.int (1 : Int32)), .val (.int (if (own_ch x0) = (own_ch y0) then (1 : Int32) else (0 : Int32)))] [(.int (1 : Int32))]) ?_
    refine XS.iconst X5.here hx rfl (hb hby d17_60) ?_
    refine sh (mkF m 61 #[.val (.ref sa), .val (.ref sb), .val (.int (1 : Int32)), .val (.int (if (own_ch x0) = (own_ch y0) then (1 : Int32) else (0 : Int32)))] [(.int (2 : Int32)), (.int (1 : Int32))]) ?_
    refine XS.icmpYes X5.here hx rfl (pc0 := 61) (pc' := 79) rfl (hb hby d17_61) rfl (flt (by decide : ¬ ((2 : Int32) < (1 : Int32)))).2.2.2 (by decide) (by decide) ?_
    refine sh (mkF m 79 #[.val (.ref sa), .val (.ref sb), .val (.int (1 : Int32)), .val (.int (if (own_ch x0) = (own_ch y0) then (1 : Int32) else (0 : Int32)))] []) ?_
    refine XS.iloadN X5.here hx rfl (hb hby d17_79) rfl ?_
    refine sh (mkF m 80 #[.val (.ref sa), .val (.ref sb), .val (.int (1 : Int32)), .val (.int (if (own_ch x0) = (own_ch y0) then (1 : Int32) else (0 : Int32)))] [(.int (if (own_ch x0) = (own_ch y0) then (1 : Int32) else (0 : Int32)))]) ?_
    exact retN X5 hx (t := .boolean) Bd.returns (by simp) (hb hby d17_80) hr
  · show Q_rmST_1 Z sa sb s_CS wf x0 va ka y0 vb kb h0 n0 _ T5.heap _
    rw [e5]
    exact ⟨rfl, N5, rfl⟩
def Q_rmST_2 (Z : State) (sa : Addr) (sb : Addr) (s_CS : Int32) (wf : Value) (x0 : Int32) (x1 : Int32) (va : Addr) (ka : ClassId) (y0 : Int32) (y1 : Int32) (vb : Addr) (kb : ClassId) (h0 : Heap) (n0 : Nat) (v : Option Value) (h : Heap) (L : List Loc) : Prop := v = some (.int (nar .boolean (if (own_ch x1) = (own_ch y1) then (if (own_ch x0) = (own_ch y0) then (1 : Int32) else (0 : Int32)) else (0 : Int32)))) ∧ Fr n0 L ∧ h = h0
theorem ef_rmST_2 (m : MethodId) (sa : Addr) (sb : Addr) : entryFrame m #[(.ref sa), (.ref sb)] 4 = mkF m 0 #[.val (.ref sa), .val (.ref sb), .unset, .unset] [] := by first | (simp [entryFrame, mkF, argsToLocals, Value.category]; done) | rfl
set_option maxRecDepth 65536 in
set_option maxHeartbeats 40000000 in
theorem rmST_2 (l : Launch) (Z : State) (a0 : Array Value) (hw : ∀ d ∈ tables_1, d.before a0 Z = true) (ws : List Jvm.Cond) (sa : Addr) (sb : Addr) (s_CS : Int32) (wf : Value) (x0 : Int32) (x1 : Int32) (va : Addr) (ka : ClassId) (y0 : Int32) (y1 : Int32) (vb : Addr) (kb : ClassId) (h0 : Heap) (n0 : Nat) (Z0 : n0 ≤ h0.size) (S_CS : Sta Z h0 "java/lang/String" "COMPACT_STRINGS" "Z" (.int s_CS)) (hcs : ¬ (s_CS = (0 : Int32))) (S_SF : Sta Z h0 "jdk/internal/util/Preconditions" "SIOOBE_FORMATTER" "Ljava/util/function/BiFunction;" wf) (hwf : wf.isRef = true) (E_sa : Exa Z h0 sa "java/lang/String") (F_coder_sa : Fld Z h0 sa "java/lang/String" "coder" "B" (.int (0 : Int32))) (F_value_sa : Fld Z h0 sa "java/lang/String" "value" "[B" (.ref va)) (V_va : Arv Z h0 va ka .byte (2 : Int32) [(.int x0), (.int x1)] (.int (0 : Int32))) (E_sb : Exa Z h0 sb "java/lang/String") (F_coder_sb : Fld Z h0 sb "java/lang/String" "coder" "B" (.int (0 : Int32))) (F_value_sb : Fld Z h0 sb "java/lang/String" "value" "[B" (.ref vb)) (V_vb : Arv Z h0 vb kb .byte (2 : Int32) [(.int y0), (.int y1)] (.int (0 : Int32))) :
    MetFree l (⟨"com/example/wirewright/bench/RunPrintedPinLaw", "sameText", "(Ljava/lang/String;Ljava/lang/String;)Z"⟩ : MethodName) (head1 (Jvm.Cond.code (⟨"com/example/wirewright/bench/RunPrintedPinLaw", "sameText", "(Ljava/lang/String;Ljava/lang/String;)Z"⟩ : MethodName) method_3_code 4 (some .boolean) :: ws) ({ frames := 4, cells := 0, slots := 0, locals := 54 } : Room)) (fun a U => a = #[(.ref sa), (.ref sb)] ∧ Z.Warmed39 U.vm ∧ U.heap = h0) (fun _ _ _ _ _ => True) (fun _ U o U' => ∃ v L, o = .returned v ∧ Q_rmST_2 Z sa sb s_CS wf x0 x1 va ka y0 y1 vb kb h0 n0 v U'.heap L ∧ FrameEnd U o U' L ({ frames := 4, cells := 0, slots := 0, locals := 54 } : Room).cells ({ frames := 4, cells := 0, slots := 0, locals := 54 } : Room).slots) := by
  refine MetFree.of_bodySF (plainFor_of_name pn_3) hisR ?_
  intro p e s m args below meth c s₁ Bd hml0 hP hK
  obtain ⟨rfl, hZ, hh⟩ := hP
  have hx := Bd.exec
  have hby := Bd.bytes
  have hml : c.maxLocals = 4 := hml0
  have hown : s.vm.findClass "com/example/wirewright/bench/RunPrintedPinLaw" = some m.cls := findClass_of_methodNamed Bd.named
  have hnm := (name_of_methodNamed Bd.named Bd.method).1
  have X0 : Stand p l e ({ frames := 4, cells := 0, slots := 0, locals := 54 } : Room) s m #[(.ref sa), (.ref sb)] below meth c s₁ [] 0 0 := Stand.of_body Bd
  have e0 : s₁.heap = h0 := by rw [← hh, Bd.state]; rfl
  have N0 := Fr.nil n0
  have pre0 : ∀ t, Steps p.tables e below (s₁.setTop (mkF m 0 #[.val (.ref sa), .val (.ref sb), .unset, .unset] [])) t → Steps p.tables e below (s₁.setTop (entryFrame m #[(.ref sa), (.ref sb)] 4)) t := fun t k => castTop (ef_rmST_2 m sa sb) k
  obtain ⟨cq1, kq1, q1a, q1b, q1c⟩ := isOf hZ e0 E_sa
  obtain ⟨_, _, ⟨T1, L1, k1, n1⟩, -, X1, ⟨Lc1, hQ1, l1, y1, z1⟩, st1⟩ := X0.virtualBack hx (y := (⟨"java/lang/String", "length", "()I"⟩ : MethodName)) (z := (⟨"java/lang/String", "length", "()I"⟩ : MethodName)) hown (mvT hZ (ow hw 69 rfl)) (mvT hZ (ow hw 70 rfl)) (notFace_of_selects (args := #[]) (mvT hZ (ow hw 72 rfl))) (mvT hZ (ow hw 72 rfl)) (mvT hZ (ow hw 71 rfl)) (by decide) (backOf (W := 0) (rmLe l Z a0 hw [] sa (2 : Int32) [(.int x0), (.int x1)] s_CS va ka h0 n0 Z0 S_CS hcs E_sa F_coder_sa F_value_sa V_va) hZ (ow hw 73 rfl) (ow hw 6 rfl) (by decide) (by decide)) q1a q1c (g := (mkF m 1 #[.val (.ref sa), .val (.ref sb), .unset, .unset] [(.ref sa)])) rfl (by rw [hml]; rfl) (Steps.refl _) (argsL := []) (rest := []) (lenOf pd_13 rfl) rfl (by show 2 * 0 + _ ≤ _; exact Nat.le_of_eq rfl) (hb hby d17_1) (fun _ _ => ⟨rfl, e0, (by decide : 0 + 0 ≤ _), (by decide : 0 + 0 ≤ _)⟩)
  dsimp only [Pt.U, Pt.locs, Pt.cells, Pt.slots] at X1 l1 y1 z1 st1 hQ1
  subst l1 y1 z1
  obtain ⟨rfl, Nq1, e1⟩ := hQ1
  have N1 := Fr.app N0 Nq1
  obtain ⟨cq2, kq2, q2a, q2b, q2c⟩ := isOf hZ e1 E_sb
  obtain ⟨_, _, ⟨T2, L2, k2, n2⟩, -, X2, ⟨Lc2, hQ2, l2, y2, z2⟩, st2⟩ := X1.virtualBack hx (y := (⟨"java/lang/String", "length", "()I"⟩ : MethodName)) (z := (⟨"java/lang/String", "length", "()I"⟩ : MethodName)) hown (mvT hZ (ow hw 69 rfl)) (mvT hZ (ow hw 70 rfl)) (notFace_of_selects (args := #[]) (mvT hZ (ow hw 72 rfl))) (mvT hZ (ow hw 72 rfl)) (mvT hZ (ow hw 71 rfl)) (by decide) (backOf (W := 1) (rmLe l Z a0 hw [] sb (2 : Int32) [(.int y0), (.int y1)] s_CS vb kb h0 n0 Z0 S_CS hcs E_sb F_coder_sb F_value_sb V_vb) hZ (ow hw 73 rfl) (ow hw 6 rfl) (by decide) (by decide)) q2a q2c (g := (mkF m 5 #[.val (.ref sa), .val (.ref sb), .unset, .unset] [(.ref sb), (.int (2 : Int32))])) rfl (by rw [hml]; rfl) (Steps.refl _) (argsL := []) (rest := [(.int (2 : Int32))]) (lenOf pd_13 rfl) rfl (by show 2 * 0 + _ ≤ _; exact Nat.le_of_eq rfl) (hb hby d17_5) (fun _ _ => ⟨rfl, e1, (by decide : 0 + 0 ≤ _), (by decide : 0 + 0 ≤ _)⟩)
  dsimp only [Pt.U, Pt.locs, Pt.cells, Pt.slots] at X2 l2 y2 z2 st2 hQ2
  subst l2 y2 z2
  obtain ⟨rfl, Nq2, e2⟩ := hQ2
  have N2 := Fr.app N1 Nq2
  obtain ⟨cq3, kq3, q3a, q3b, q3c⟩ := isOf hZ e2 E_sa
  obtain ⟨_, _, ⟨T3, L3, k3, n3⟩, -, X3, ⟨Lc3, hQ3, l3, y3, z3⟩, st3⟩ := X2.virtualBack hx (y := (⟨"java/lang/String", "length", "()I"⟩ : MethodName)) (z := (⟨"java/lang/String", "length", "()I"⟩ : MethodName)) hown (mvT hZ (ow hw 69 rfl)) (mvT hZ (ow hw 70 rfl)) (notFace_of_selects (args := #[]) (mvT hZ (ow hw 72 rfl))) (mvT hZ (ow hw 72 rfl)) (mvT hZ (ow hw 71 rfl)) (by decide) (backOf (W := 0) (rmLe l Z a0 hw [] sa (2 : Int32) [(.int x0), (.int x1)] s_CS va ka h0 n0 Z0 S_CS hcs E_sa F_coder_sa F_value_sa V_va) hZ (ow hw 73 rfl) (ow hw 6 rfl) (by decide) (by decide)) q3a q3c (g := (mkF m 14 #[.val (.ref sa), .val (.ref sb), .unset, .unset] [(.ref sa)])) rfl (by rw [hml]; rfl) (Steps.refl _) (argsL := []) (rest := []) (lenOf pd_13 rfl) rfl (by show 2 * 0 + _ ≤ _; exact Nat.le_of_eq rfl) (hb hby d17_14) (fun _ _ => ⟨rfl, e2, (by decide : 0 + 0 ≤ _), (by decide : 0 + 0 ≤ _)⟩)
  dsimp only [Pt.U, Pt.locs, Pt.cells, Pt.slots] at X3 l3 y3 z3 st3 hQ3
  subst l3 y3 z3
  obtain ⟨rfl, Nq3, e3⟩ := hQ3
  have N3 := Fr.app N2 Nq3
  obtain ⟨cq4, kq4, q4a, q4b, q4c⟩ := isOf hZ e3 E_sa
  obtain ⟨_, _, ⟨T4, L4, k4, n4⟩, -, X4, ⟨Lc4, hQ4, l4, y4, z4⟩, st4⟩ := X3.virtualBack hx (y := (⟨"java/lang/String", "charAt", "(I)C"⟩ : MethodName)) (z := (⟨"java/lang/String", "charAt", "(I)C"⟩ : MethodName)) hown (mvT hZ (ow hw 95 rfl)) (mvT hZ (ow hw 96 rfl)) (notFace_of_selects (args := #[]) (mvT hZ (ow hw 98 rfl))) (mvT hZ (ow hw 98 rfl)) (mvT hZ (ow hw 97 rfl)) (by decide) (backOf (W := 0) (rmCH l Z a0 hw [] sa (0 : Int32) s_CS wf (2 : Int32) [(.int x0), (.int x1)] x0 va ka h0 n0 Z0 S_CS hcs S_SF hwf (by decide) (by decide) rfl E_sa F_coder_sa F_value_sa V_va) hZ (ow hw 99 rfl) (ow hw 6 rfl) (by decide) (by decide)) q4a q4c (g := (mkF m 26 #[.val (.ref sa), .val (.ref sb), .val (.int (2 : Int32)), .val (.int (1 : Int32))] [(.int (0 : Int32)), (.ref sa)])) rfl (by rw [hml]; rfl) (Steps.refl _) (argsL := [(.int (0 : Int32))]) (rest := []) (lenOf pd_14 rfl) rfl (by show 2 * 0 + _ ≤ _; exact Nat.le_of_eq rfl) (hb hby d17_26) (fun _ _ => ⟨rfl, e3, (by decide : 0 + 0 ≤ _), (by decide : 0 + 0 ≤ _)⟩)
  dsimp only [Pt.U, Pt.locs, Pt.cells, Pt.slots] at X4 l4 y4 z4 st4 hQ4
  subst l4 y4 z4
  obtain ⟨rfl, Nq4, e4⟩ := hQ4
  have N4 := Fr.app N3 Nq4
  obtain ⟨cq5, kq5, q5a, q5b, q5c⟩ := isOf hZ e4 E_sb
  obtain ⟨_, _, ⟨T5, L5, k5, n5⟩, -, X5, ⟨Lc5, hQ5, l5, y5, z5⟩, st5⟩ := X4.virtualBack hx (y := (⟨"java/lang/String", "charAt", "(I)C"⟩ : MethodName)) (z := (⟨"java/lang/String", "charAt", "(I)C"⟩ : MethodName)) hown (mvT hZ (ow hw 95 rfl)) (mvT hZ (ow hw 96 rfl)) (notFace_of_selects (args := #[]) (mvT hZ (ow hw 98 rfl))) (mvT hZ (ow hw 98 rfl)) (mvT hZ (ow hw 97 rfl)) (by decide) (backOf (W := 1) (rmCH l Z a0 hw [] sb (0 : Int32) s_CS wf (2 : Int32) [(.int y0), (.int y1)] y0 vb kb h0 n0 Z0 S_CS hcs S_SF hwf (by decide) (by decide) rfl E_sb F_coder_sb F_value_sb V_vb) hZ (ow hw 99 rfl) (ow hw 6 rfl) (by decide) (by decide)) q5a q5c (g := (mkF m 31 #[.val (.ref sa), .val (.ref sb), .val (.int (2 : Int32)), .val (.int (1 : Int32))] [(.int (0 : Int32)), (.ref sb), (.int (own_ch x0))])) rfl (by rw [hml]; rfl) (Steps.refl _) (argsL := [(.int (0 : Int32))]) (rest := [(.int (own_ch x0))]) (lenOf pd_14 rfl) rfl (by show 2 * 0 + _ ≤ _; exact Nat.le_of_eq rfl) (hb hby d17_31) (fun _ _ => ⟨rfl, e4, (by decide : 0 + 0 ≤ _), (by decide : 0 + 0 ≤ _)⟩)
  dsimp only [Pt.U, Pt.locs, Pt.cells, Pt.slots] at X5 l5 y5 z5 st5 hQ5
  subst l5 y5 z5
  obtain ⟨rfl, Nq5, e5⟩ := hQ5
  have N5 := Fr.app N4 Nq5
  obtain ⟨cq6, kq6, q6a, q6b, q6c⟩ := isOf hZ e5 E_sa
  obtain ⟨_, _, ⟨T6, L6, k6, n6⟩, -, X6, ⟨Lc6, hQ6, l6, y6, z6⟩, st6⟩ := X5.virtualBack hx (y := (⟨"java/lang/String", "charAt", "(I)C"⟩ : MethodName)) (z := (⟨"java/lang/String", "charAt", "(I)C"⟩ : MethodName)) hown (mvT hZ (ow hw 95 rfl)) (mvT hZ (ow hw 96 rfl)) (notFace_of_selects (args := #[]) (mvT hZ (ow hw 98 rfl))) (mvT hZ (ow hw 98 rfl)) (mvT hZ (ow hw 97 rfl)) (by decide) (backOf (W := 0) (rmCH l Z a0 hw [] sa (1 : Int32) s_CS wf (2 : Int32) [(.int x0), (.int x1)] x1 va ka h0 n0 Z0 S_CS hcs S_SF hwf (by decide) (by decide) rfl E_sa F_coder_sa F_value_sa V_va) hZ (ow hw 99 rfl) (ow hw 6 rfl) (by decide) (by decide)) q6a q6c (g := (mkF m 46 #[.val (.ref sa), .val (.ref sb), .val (.int (2 : Int32)), .val (.int (if (own_ch x0) = (own_ch y0) then (1 : Int32) else (0 : Int32)))] [(.int (1 : Int32)), (.ref sa)])) rfl (by rw [hml]; rfl) (Steps.refl _) (argsL := [(.int (1 : Int32))]) (rest := []) (lenOf pd_14 rfl) rfl (by show 2 * 0 + _ ≤ _; exact Nat.le_of_eq rfl) (hb hby d17_46) (fun _ _ => ⟨rfl, e5, (by decide : 0 + 0 ≤ _), (by decide : 0 + 0 ≤ _)⟩)
  dsimp only [Pt.U, Pt.locs, Pt.cells, Pt.slots] at X6 l6 y6 z6 st6 hQ6
  subst l6 y6 z6
  obtain ⟨rfl, Nq6, e6⟩ := hQ6
  have N6 := Fr.app N5 Nq6
  obtain ⟨cq7, kq7, q7a, q7b, q7c⟩ := isOf hZ e6 E_sb
  obtain ⟨_, _, ⟨T7, L7, k7, n7⟩, -, X7, ⟨Lc7, hQ7, l7, y7, z7⟩, st7⟩ := X6.virtualBack hx (y := (⟨"java/lang/String", "charAt", "(I)C"⟩ : MethodName)) (z := (⟨"java/lang/String", "charAt", "(I)C"⟩ : MethodName)) hown (mvT hZ (ow hw 95 rfl)) (mvT hZ (ow hw 96 rfl)) (notFace_of_selects (args := #[]) (mvT hZ (ow hw 98 rfl))) (mvT hZ (ow hw 98 rfl)) (mvT hZ (ow hw 97 rfl)) (by decide) (backOf (W := 1) (rmCH l Z a0 hw [] sb (1 : Int32) s_CS wf (2 : Int32) [(.int y0), (.int y1)] y1 vb kb h0 n0 Z0 S_CS hcs S_SF hwf (by decide) (by decide) rfl E_sb F_coder_sb F_value_sb V_vb) hZ (ow hw 99 rfl) (ow hw 6 rfl) (by decide) (by decide)) q7a q7c (g := (mkF m 51 #[.val (.ref sa), .val (.ref sb), .val (.int (2 : Int32)), .val (.int (if (own_ch x0) = (own_ch y0) then (1 : Int32) else (0 : Int32)))] [(.int (1 : Int32)), (.ref sb), (.int (own_ch x1))])) rfl (by rw [hml]; rfl) (Steps.refl _) (argsL := [(.int (1 : Int32))]) (rest := [(.int (own_ch x1))]) (lenOf pd_14 rfl) rfl (by show 2 * 0 + _ ≤ _; exact Nat.le_of_eq rfl) (hb hby d17_51) (fun _ _ => ⟨rfl, e6, (by decide : 0 + 0 ≤ _), (by decide : 0 + 0 ≤ _)⟩)
  dsimp only [Pt.U, Pt.locs, Pt.cells, Pt.slots] at X7 l7 y7 z7 st7 hQ7
  subst l7 y7 z7
  obtain ⟨rfl, Nq7, e7⟩ := hQ7
  have N7 := Fr.app N6 Nq7
  obtain ⟨fs, hr, hrun, hended, hW, hsame⟩ := X7.leave (v := some (.int (nar .boolean (if (own_ch x1) = (own_ch y1) then (if (own_ch x0) = (own_ch y0) then (1 : Int32) else (0 : Int32)) else (0 : Int32))))) (fun h => by rw [Bd.returns] at h; cases h)
  refine ⟨_, _, pre0 _ ?_, hrun, hended, _, _, rfl, ?_, ⟨_, rfl⟩, hW, hsame.mono (by decide) (by decide)⟩
  · refine sh (mkF m 0 #[.val (.ref sa), .val (.ref sb), .unset, .unset] []) ?_
    refine XS.aloadN X0.here hx rfl (hb hby d17_0) rfl rfl ?_
    refine sh (mkF m 1 #[.val (.ref sa), .val (.ref sb), .unset, .unset] [(.ref sa)]) ?_
    refine st1.trans ?_
    refine sh (mkF m 4 #[.val (.ref sa), .val (.ref sb), .unset, .unset] [(.int (2 : Int32))]) ?_
    refine XS.aloadN X1.here hx rfl (hb hby d17_4) rfl rfl ?_
    refine sh (mkF m 5 #[.val (.ref sa), .val (.ref sb), .unset, .unset] [(.ref sb), (.int (2 : Int32))]) ?_
    refine st2.trans ?_
    refine sh (mkF m 8 #[.val (.ref sa), .val (.ref sb), .unset, .unset] [(.int (2 : Int32)), (.int (2 : Int32))]) ?_
    refine XS.icmpYes X2.here hx rfl (pc0 := 8) (pc' := 13) rfl (hb hby d17_8) rfl (teq (rfl : (2 : Int32) = (2 : Int32))).1 (by decide) (by decide) ?_
    refine sh (mkF m 13 #[.val (.ref sa), .val (.ref sb), .unset, .unset] []) ?_
    refine XS.aloadN X2.here hx rfl (hb hby d17_13) rfl rfl ?_
    refine sh (mkF m 14 #[.val (.ref sa), .val (.ref sb), .unset, .unset] [(.ref sa)]) ?_
    refine st3.trans ?_
    refine sh (mkF m 17 #[.val (.ref sa), .val (.ref sb), .unset, .unset] [(.int (2 : Int32))]) ?_
    refine XS.istoreN X3.here hx rfl (hb hby d17_17) rfl (l' := #[.val (.ref sa), .val (.ref sb), .val (.int (2 : Int32)), .unset]) rfl ?_
    refine sh (mkF m 18 #[.val (.ref sa), .val (.ref sb), .val (.int (2 : Int32)), .unset] []) ?_
    refine XS.iconst X3.here hx rfl (hb hby d17_18) ?_
    refine sh (mkF m 19 #[.val (.ref sa), .val (.ref sb), .val (.int (2 : Int32)), .unset] [(.int (1 : Int32))]) ?_
    refine XS.istoreN X3.here hx rfl (hb hby d17_19) rfl (l' := #[.val (.ref sa), .val (.ref sb), .val (.int (2 : Int32)), .val (.int (1 : Int32))]) rfl ?_
    refine sh (mkF m 20 #[.val (.ref sa), .val (.ref sb), .val (.int (2 : Int32)), .val (.int (1 : Int32))] []) ?_
    refine XS.iloadN X3.here hx rfl (hb hby d17_20) rfl ?_
    refine sh (mkF m 21 #[.val (.ref sa), .val (.ref sb), .val (.int (2 : Int32)), .val (.int (1 : Int32))] [(.int (2 : Int32))]) ?_
    refine XS.ifNo X3.here hx rfl (hb hby d17_21) rfl ((if0 _ _).trans (tlt (by decide : (0 : Int32) < (2 : Int32))).2.2.2) ?_
    refine sh (mkF m 24 #[.val (.ref sa), .val (.ref sb), .val (.int (2 : Int32)), .val (.int (1 : Int32))] []) ?_
    refine XS.aloadN X3.here hx rfl (hb hby d17_24) rfl rfl ?_
    refine sh (mkF m 25 #[.val (.ref sa), .val (.ref sb), .val (.int (2 : Int32)), .val (.int (1 : Int32))] [(.ref sa)]) ?_
    refine XS.iconst X3.here hx rfl (hb hby d17_25) ?_
    refine sh (mkF m 26 #[.val (.ref sa), .val (.ref sb), .val (.int (2 : Int32)), .val (.int (1 : Int32))] [(.int (0 : Int32)), (.ref sa)]) ?_
    refine st4.trans ?_
    refine sh (mkF m 29 #[.val (.ref sa), .val (.ref sb), .val (.int (2 : Int32)), .val (.int (1 : Int32))] [(.int (own_ch x0))]) ?_
    refine XS.aloadN X4.here hx rfl (hb hby d17_29) rfl rfl ?_
    refine sh (mkF m 30 #[.val (.ref sa), .val (.ref sb), .val (.int (2 : Int32)), .val (.int (1 : Int32))] [(.ref sb), (.int (own_ch x0))]) ?_
    refine XS.iconst X4.here hx rfl (hb hby d17_30) ?_
    refine sh (mkF m 31 #[.val (.ref sa), .val (.ref sb), .val (.int (2 : Int32)), .val (.int (1 : Int32))] [(.int (0 : Int32)), (.ref sb), (.int (own_ch x0))]) ?_
    refine st5.trans ?_
    refine sh (mkF m 34 #[.val (.ref sa), .val (.ref sb), .val (.int (2 : Int32)), .val (.int (1 : Int32))] [(.int (own_ch y0)), (.int (own_ch x0))]) ?_
    refine own_cmp0 sa sb (2 : Int32) (1 : Int32) (own_ch y0) (own_ch x0) X5 hx hZ hw hby hown _ ?_
    refine sh (mkF m 39 #[.val (.ref sa), .val (.ref sb), .val (.int (2 : Int32)), .val (.int (if (own_ch x0) = (own_ch y0) then (1 : Int32) else (0 : Int32)))] []) ?_
    refine XS.iloadN X5.here hx rfl (hb hby d17_39) rfl ?_
    refine sh (mkF m 40 #[.val (.ref sa), .val (.ref sb), .val (.int (2 : Int32)), .val (.int (if (own_ch x0) = (own_ch y0) then (1 : Int32) else (0 : Int32)))] [(.int (2 : Int32))]) ?_
    refine XS.iconst X5.here hx rfl (hb hby d17_40) ?_
    refine sh (mkF m 41 #[.val (.ref sa), .val (.ref sb), .val (.int (2 : Int32)), .val (.int (if (own_ch x0) = (own_ch y0) then (1 : Int32) else (0 : Int32)))] [(.int (1 : Int32)), (.int (2 : Int32))]) ?_
    refine XS.icmpNo X5.here hx rfl (hb hby d17_41) rfl (tlt (by decide : (1 : Int32) < (2 : Int32))).2.2.2 ?_
    refine sh (mkF m 44 #[.val (.ref sa), .val (.ref sb), .val (.int (2 : Int32)), .val (.int (if (own_ch x0) = (own_ch y0) then (1 : Int32) else (0 : Int32)))] []) ?_
    refine XS.aloadN X5.here hx rfl (hb hby d17_44) rfl rfl ?_
    refine sh (mkF m 45 #[.val (.ref sa), .val (.ref sb), .val (.int (2 : Int32)), .val (.int (if (own_ch x0) = (own_ch y0) then (1 : Int32) else (0 : Int32)))] [(.ref sa)]) ?_
    refine XS.iconst X5.here hx rfl (hb hby d17_45) ?_
    refine sh (mkF m 46 #[.val (.ref sa), .val (.ref sb), .val (.int (2 : Int32)), .val (.int (if (own_ch x0) = (own_ch y0) then (1 : Int32) else (0 : Int32)))] [(.int (1 : Int32)), (.ref sa)]) ?_
    refine st6.trans ?_
    refine sh (mkF m 49 #[.val (.ref sa), .val (.ref sb), .val (.int (2 : Int32)), .val (.int (if (own_ch x0) = (own_ch y0) then (1 : Int32) else (0 : Int32)))] [(.int (own_ch x1))]) ?_
    refine XS.aloadN X6.here hx rfl (hb hby d17_49) rfl rfl ?_
    refine sh (mkF m 50 #[.val (.ref sa), .val (.ref sb), .val (.int (2 : Int32)), .val (.int (if (own_ch x0) = (own_ch y0) then (1 : Int32) else (0 : Int32)))] [(.ref sb), (.int (own_ch x1))]) ?_
    refine XS.iconst X6.here hx rfl (hb hby d17_50) ?_
    refine sh (mkF m 51 #[.val (.ref sa), .val (.ref sb), .val (.int (2 : Int32)), .val (.int (if (own_ch x0) = (own_ch y0) then (1 : Int32) else (0 : Int32)))] [(.int (1 : Int32)), (.ref sb), (.int (own_ch x1))]) ?_
    refine st7.trans ?_
    refine sh (mkF m 54 #[.val (.ref sa), .val (.ref sb), .val (.int (2 : Int32)), .val (.int (if (own_ch x0) = (own_ch y0) then (1 : Int32) else (0 : Int32)))] [(.int (own_ch y1)), (.int (own_ch x1))]) ?_
    refine own_cmp1 sa sb (2 : Int32) (if (own_ch x0) = (own_ch y0) then (1 : Int32) else (0 : Int32)) (own_ch y1) (own_ch x1) X7 hx hZ hw hby hown _ ?_
    refine sh (mkF m 59 #[.val (.ref sa), .val (.ref sb), .val (.int (2 : Int32)), .val (.int (if (own_ch x1) = (own_ch y1) then (if (own_ch x0) = (own_ch y0) then (1 : Int32) else (0 : Int32)) else (0 : Int32)))] []) ?_
    refine XS.iloadN X7.here hx rfl (hb hby d17_59) rfl ?_
    refine sh (mkF m 60 #[.val (.ref sa), .val (.ref sb), .val (.int (2 : Int32)), .val (.int (if (own_ch x1) = (own_ch y1) then (if (own_ch x0) = (own_ch y0) then (1 : Int32) else (0 : Int32)) else (0 : Int32)))] [(.int (2 : Int32))]) ?_
    refine XS.iconst X7.here hx rfl (hb hby d17_60) ?_
    refine sh (mkF m 61 #[.val (.ref sa), .val (.ref sb), .val (.int (2 : Int32)), .val (.int (if (own_ch x1) = (own_ch y1) then (if (own_ch x0) = (own_ch y0) then (1 : Int32) else (0 : Int32)) else (0 : Int32)))] [(.int (2 : Int32)), (.int (2 : Int32))]) ?_
    refine XS.icmpYes X7.here hx rfl (pc0 := 61) (pc' := 79) rfl (hb hby d17_61) rfl (flt (by decide : ¬ ((2 : Int32) < (2 : Int32)))).2.2.2 (by decide) (by decide) ?_
    refine sh (mkF m 79 #[.val (.ref sa), .val (.ref sb), .val (.int (2 : Int32)), .val (.int (if (own_ch x1) = (own_ch y1) then (if (own_ch x0) = (own_ch y0) then (1 : Int32) else (0 : Int32)) else (0 : Int32)))] []) ?_
    refine XS.iloadN X7.here hx rfl (hb hby d17_79) rfl ?_
    refine sh (mkF m 80 #[.val (.ref sa), .val (.ref sb), .val (.int (2 : Int32)), .val (.int (if (own_ch x1) = (own_ch y1) then (if (own_ch x0) = (own_ch y0) then (1 : Int32) else (0 : Int32)) else (0 : Int32)))] [(.int (if (own_ch x1) = (own_ch y1) then (if (own_ch x0) = (own_ch y0) then (1 : Int32) else (0 : Int32)) else (0 : Int32)))]) ?_
    exact retN X7 hx (t := .boolean) Bd.returns (by simp) (hb hby d17_80) hr
  · show Q_rmST_2 Z sa sb s_CS wf x0 x1 va ka y0 y1 vb kb h0 n0 _ T7.heap _
    rw [e7]
    exact ⟨rfl, N7, rfl⟩
def Q_rmST_3 (Z : State) (sa : Addr) (sb : Addr) (s_CS : Int32) (wf : Value) (x0 : Int32) (x1 : Int32) (x2 : Int32) (va : Addr) (ka : ClassId) (y0 : Int32) (y1 : Int32) (y2 : Int32) (vb : Addr) (kb : ClassId) (h0 : Heap) (n0 : Nat) (v : Option Value) (h : Heap) (L : List Loc) : Prop := v = some (.int (nar .boolean (if (own_ch x2) = (own_ch y2) then (if (own_ch x1) = (own_ch y1) then (if (own_ch x0) = (own_ch y0) then (1 : Int32) else (0 : Int32)) else (0 : Int32)) else (0 : Int32)))) ∧ Fr n0 L ∧ h = h0
theorem ef_rmST_3 (m : MethodId) (sa : Addr) (sb : Addr) : entryFrame m #[(.ref sa), (.ref sb)] 4 = mkF m 0 #[.val (.ref sa), .val (.ref sb), .unset, .unset] [] := by first | (simp [entryFrame, mkF, argsToLocals, Value.category]; done) | rfl
set_option maxRecDepth 65536 in
set_option maxHeartbeats 40000000 in
theorem rmST_3 (l : Launch) (Z : State) (a0 : Array Value) (hw : ∀ d ∈ tables_1, d.before a0 Z = true) (ws : List Jvm.Cond) (sa : Addr) (sb : Addr) (s_CS : Int32) (wf : Value) (x0 : Int32) (x1 : Int32) (x2 : Int32) (va : Addr) (ka : ClassId) (y0 : Int32) (y1 : Int32) (y2 : Int32) (vb : Addr) (kb : ClassId) (h0 : Heap) (n0 : Nat) (Z0 : n0 ≤ h0.size) (S_CS : Sta Z h0 "java/lang/String" "COMPACT_STRINGS" "Z" (.int s_CS)) (hcs : ¬ (s_CS = (0 : Int32))) (S_SF : Sta Z h0 "jdk/internal/util/Preconditions" "SIOOBE_FORMATTER" "Ljava/util/function/BiFunction;" wf) (hwf : wf.isRef = true) (E_sa : Exa Z h0 sa "java/lang/String") (F_coder_sa : Fld Z h0 sa "java/lang/String" "coder" "B" (.int (0 : Int32))) (F_value_sa : Fld Z h0 sa "java/lang/String" "value" "[B" (.ref va)) (V_va : Arv Z h0 va ka .byte (3 : Int32) [(.int x0), (.int x1), (.int x2)] (.int (0 : Int32))) (E_sb : Exa Z h0 sb "java/lang/String") (F_coder_sb : Fld Z h0 sb "java/lang/String" "coder" "B" (.int (0 : Int32))) (F_value_sb : Fld Z h0 sb "java/lang/String" "value" "[B" (.ref vb)) (V_vb : Arv Z h0 vb kb .byte (3 : Int32) [(.int y0), (.int y1), (.int y2)] (.int (0 : Int32))) :
    MetFree l (⟨"com/example/wirewright/bench/RunPrintedPinLaw", "sameText", "(Ljava/lang/String;Ljava/lang/String;)Z"⟩ : MethodName) (head1 (Jvm.Cond.code (⟨"com/example/wirewright/bench/RunPrintedPinLaw", "sameText", "(Ljava/lang/String;Ljava/lang/String;)Z"⟩ : MethodName) method_3_code 4 (some .boolean) :: ws) ({ frames := 4, cells := 0, slots := 0, locals := 54 } : Room)) (fun a U => a = #[(.ref sa), (.ref sb)] ∧ Z.Warmed39 U.vm ∧ U.heap = h0) (fun _ _ _ _ _ => True) (fun _ U o U' => ∃ v L, o = .returned v ∧ Q_rmST_3 Z sa sb s_CS wf x0 x1 x2 va ka y0 y1 y2 vb kb h0 n0 v U'.heap L ∧ FrameEnd U o U' L ({ frames := 4, cells := 0, slots := 0, locals := 54 } : Room).cells ({ frames := 4, cells := 0, slots := 0, locals := 54 } : Room).slots) := by
  refine MetFree.of_bodySF (plainFor_of_name pn_3) hisR ?_
  intro p e s m args below meth c s₁ Bd hml0 hP hK
  obtain ⟨rfl, hZ, hh⟩ := hP
  have hx := Bd.exec
  have hby := Bd.bytes
  have hml : c.maxLocals = 4 := hml0
  have hown : s.vm.findClass "com/example/wirewright/bench/RunPrintedPinLaw" = some m.cls := findClass_of_methodNamed Bd.named
  have hnm := (name_of_methodNamed Bd.named Bd.method).1
  have X0 : Stand p l e ({ frames := 4, cells := 0, slots := 0, locals := 54 } : Room) s m #[(.ref sa), (.ref sb)] below meth c s₁ [] 0 0 := Stand.of_body Bd
  have e0 : s₁.heap = h0 := by rw [← hh, Bd.state]; rfl
  have N0 := Fr.nil n0
  have pre0 : ∀ t, Steps p.tables e below (s₁.setTop (mkF m 0 #[.val (.ref sa), .val (.ref sb), .unset, .unset] [])) t → Steps p.tables e below (s₁.setTop (entryFrame m #[(.ref sa), (.ref sb)] 4)) t := fun t k => castTop (ef_rmST_3 m sa sb) k
  obtain ⟨cq1, kq1, q1a, q1b, q1c⟩ := isOf hZ e0 E_sa
  obtain ⟨_, _, ⟨T1, L1, k1, n1⟩, -, X1, ⟨Lc1, hQ1, l1, y1, z1⟩, st1⟩ := X0.virtualBack hx (y := (⟨"java/lang/String", "length", "()I"⟩ : MethodName)) (z := (⟨"java/lang/String", "length", "()I"⟩ : MethodName)) hown (mvT hZ (ow hw 69 rfl)) (mvT hZ (ow hw 70 rfl)) (notFace_of_selects (args := #[]) (mvT hZ (ow hw 72 rfl))) (mvT hZ (ow hw 72 rfl)) (mvT hZ (ow hw 71 rfl)) (by decide) (backOf (W := 0) (rmLe l Z a0 hw [] sa (3 : Int32) [(.int x0), (.int x1), (.int x2)] s_CS va ka h0 n0 Z0 S_CS hcs E_sa F_coder_sa F_value_sa V_va) hZ (ow hw 73 rfl) (ow hw 6 rfl) (by decide) (by decide)) q1a q1c (g := (mkF m 1 #[.val (.ref sa), .val (.ref sb), .unset, .unset] [(.ref sa)])) rfl (by rw [hml]; rfl) (Steps.refl _) (argsL := []) (rest := []) (lenOf pd_13 rfl) rfl (by show 2 * 0 + _ ≤ _; exact Nat.le_of_eq rfl) (hb hby d17_1) (fun _ _ => ⟨rfl, e0, (by decide : 0 + 0 ≤ _), (by decide : 0 + 0 ≤ _)⟩)
  dsimp only [Pt.U, Pt.locs, Pt.cells, Pt.slots] at X1 l1 y1 z1 st1 hQ1
  subst l1 y1 z1
  obtain ⟨rfl, Nq1, e1⟩ := hQ1
  have N1 := Fr.app N0 Nq1
  obtain ⟨cq2, kq2, q2a, q2b, q2c⟩ := isOf hZ e1 E_sb
  obtain ⟨_, _, ⟨T2, L2, k2, n2⟩, -, X2, ⟨Lc2, hQ2, l2, y2, z2⟩, st2⟩ := X1.virtualBack hx (y := (⟨"java/lang/String", "length", "()I"⟩ : MethodName)) (z := (⟨"java/lang/String", "length", "()I"⟩ : MethodName)) hown (mvT hZ (ow hw 69 rfl)) (mvT hZ (ow hw 70 rfl)) (notFace_of_selects (args := #[]) (mvT hZ (ow hw 72 rfl))) (mvT hZ (ow hw 72 rfl)) (mvT hZ (ow hw 71 rfl)) (by decide) (backOf (W := 1) (rmLe l Z a0 hw [] sb (3 : Int32) [(.int y0), (.int y1), (.int y2)] s_CS vb kb h0 n0 Z0 S_CS hcs E_sb F_coder_sb F_value_sb V_vb) hZ (ow hw 73 rfl) (ow hw 6 rfl) (by decide) (by decide)) q2a q2c (g := (mkF m 5 #[.val (.ref sa), .val (.ref sb), .unset, .unset] [(.ref sb), (.int (3 : Int32))])) rfl (by rw [hml]; rfl) (Steps.refl _) (argsL := []) (rest := [(.int (3 : Int32))]) (lenOf pd_13 rfl) rfl (by show 2 * 0 + _ ≤ _; exact Nat.le_of_eq rfl) (hb hby d17_5) (fun _ _ => ⟨rfl, e1, (by decide : 0 + 0 ≤ _), (by decide : 0 + 0 ≤ _)⟩)
  dsimp only [Pt.U, Pt.locs, Pt.cells, Pt.slots] at X2 l2 y2 z2 st2 hQ2
  subst l2 y2 z2
  obtain ⟨rfl, Nq2, e2⟩ := hQ2
  have N2 := Fr.app N1 Nq2
  obtain ⟨cq3, kq3, q3a, q3b, q3c⟩ := isOf hZ e2 E_sa
  obtain ⟨_, _, ⟨T3, L3, k3, n3⟩, -, X3, ⟨Lc3, hQ3, l3, y3, z3⟩, st3⟩ := X2.virtualBack hx (y := (⟨"java/lang/String", "length", "()I"⟩ : MethodName)) (z := (⟨"java/lang/String", "length", "()I"⟩ : MethodName)) hown (mvT hZ (ow hw 69 rfl)) (mvT hZ (ow hw 70 rfl)) (notFace_of_selects (args := #[]) (mvT hZ (ow hw 72 rfl))) (mvT hZ (ow hw 72 rfl)) (mvT hZ (ow hw 71 rfl)) (by decide) (backOf (W := 0) (rmLe l Z a0 hw [] sa (3 : Int32) [(.int x0), (.int x1), (.int x2)] s_CS va ka h0 n0 Z0 S_CS hcs E_sa F_coder_sa F_value_sa V_va) hZ (ow hw 73 rfl) (ow hw 6 rfl) (by decide) (by decide)) q3a q3c (g := (mkF m 14 #[.val (.ref sa), .val (.ref sb), .unset, .unset] [(.ref sa)])) rfl (by rw [hml]; rfl) (Steps.refl _) (argsL := []) (rest := []) (lenOf pd_13 rfl) rfl (by show 2 * 0 + _ ≤ _; exact Nat.le_of_eq rfl) (hb hby d17_14) (fun _ _ => ⟨rfl, e2, (by decide : 0 + 0 ≤ _), (by decide : 0 + 0 ≤ _)⟩)
  dsimp only [Pt.U, Pt.locs, Pt.cells, Pt.slots] at X3 l3 y3 z3 st3 hQ3
  subst l3 y3 z3
  obtain ⟨rfl, Nq3, e3⟩ := hQ3
  have N3 := Fr.app N2 Nq3
  obtain ⟨cq4, kq4, q4a, q4b, q4c⟩ := isOf hZ e3 E_sa
  obtain ⟨_, _, ⟨T4, L4, k4, n4⟩, -, X4, ⟨Lc4, hQ4, l4, y4, z4⟩, st4⟩ := X3.virtualBack hx (y := (⟨"java/lang/String", "charAt", "(I)C"⟩ : MethodName)) (z := (⟨"java/lang/String", "charAt", "(I)C"⟩ : MethodName)) hown (mvT hZ (ow hw 95 rfl)) (mvT hZ (ow hw 96 rfl)) (notFace_of_selects (args := #[]) (mvT hZ (ow hw 98 rfl))) (mvT hZ (ow hw 98 rfl)) (mvT hZ (ow hw 97 rfl)) (by decide) (backOf (W := 0) (rmCH l Z a0 hw [] sa (0 : Int32) s_CS wf (3 : Int32) [(.int x0), (.int x1), (.int x2)] x0 va ka h0 n0 Z0 S_CS hcs S_SF hwf (by decide) (by decide) rfl E_sa F_coder_sa F_value_sa V_va) hZ (ow hw 99 rfl) (ow hw 6 rfl) (by decide) (by decide)) q4a q4c (g := (mkF m 26 #[.val (.ref sa), .val (.ref sb), .val (.int (3 : Int32)), .val (.int (1 : Int32))] [(.int (0 : Int32)), (.ref sa)])) rfl (by rw [hml]; rfl) (Steps.refl _) (argsL := [(.int (0 : Int32))]) (rest := []) (lenOf pd_14 rfl) rfl (by show 2 * 0 + _ ≤ _; exact Nat.le_of_eq rfl) (hb hby d17_26) (fun _ _ => ⟨rfl, e3, (by decide : 0 + 0 ≤ _), (by decide : 0 + 0 ≤ _)⟩)
  dsimp only [Pt.U, Pt.locs, Pt.cells, Pt.slots] at X4 l4 y4 z4 st4 hQ4
  subst l4 y4 z4
  obtain ⟨rfl, Nq4, e4⟩ := hQ4
  have N4 := Fr.app N3 Nq4
  obtain ⟨cq5, kq5, q5a, q5b, q5c⟩ := isOf hZ e4 E_sb
  obtain ⟨_, _, ⟨T5, L5, k5, n5⟩, -, X5, ⟨Lc5, hQ5, l5, y5, z5⟩, st5⟩ := X4.virtualBack hx (y := (⟨"java/lang/String", "charAt", "(I)C"⟩ : MethodName)) (z := (⟨"java/lang/String", "charAt", "(I)C"⟩ : MethodName)) hown (mvT hZ (ow hw 95 rfl)) (mvT hZ (ow hw 96 rfl)) (notFace_of_selects (args := #[]) (mvT hZ (ow hw 98 rfl))) (mvT hZ (ow hw 98 rfl)) (mvT hZ (ow hw 97 rfl)) (by decide) (backOf (W := 1) (rmCH l Z a0 hw [] sb (0 : Int32) s_CS wf (3 : Int32) [(.int y0), (.int y1), (.int y2)] y0 vb kb h0 n0 Z0 S_CS hcs S_SF hwf (by decide) (by decide) rfl E_sb F_coder_sb F_value_sb V_vb) hZ (ow hw 99 rfl) (ow hw 6 rfl) (by decide) (by decide)) q5a q5c (g := (mkF m 31 #[.val (.ref sa), .val (.ref sb), .val (.int (3 : Int32)), .val (.int (1 : Int32))] [(.int (0 : Int32)), (.ref sb), (.int (own_ch x0))])) rfl (by rw [hml]; rfl) (Steps.refl _) (argsL := [(.int (0 : Int32))]) (rest := [(.int (own_ch x0))]) (lenOf pd_14 rfl) rfl (by show 2 * 0 + _ ≤ _; exact Nat.le_of_eq rfl) (hb hby d17_31) (fun _ _ => ⟨rfl, e4, (by decide : 0 + 0 ≤ _), (by decide : 0 + 0 ≤ _)⟩)
  dsimp only [Pt.U, Pt.locs, Pt.cells, Pt.slots] at X5 l5 y5 z5 st5 hQ5
  subst l5 y5 z5
  obtain ⟨rfl, Nq5, e5⟩ := hQ5
  have N5 := Fr.app N4 Nq5
  obtain ⟨cq6, kq6, q6a, q6b, q6c⟩ := isOf hZ e5 E_sa
  obtain ⟨_, _, ⟨T6, L6, k6, n6⟩, -, X6, ⟨Lc6, hQ6, l6, y6, z6⟩, st6⟩ := X5.virtualBack hx (y := (⟨"java/lang/String", "charAt", "(I)C"⟩ : MethodName)) (z := (⟨"java/lang/String", "charAt", "(I)C"⟩ : MethodName)) hown (mvT hZ (ow hw 95 rfl)) (mvT hZ (ow hw 96 rfl)) (notFace_of_selects (args := #[]) (mvT hZ (ow hw 98 rfl))) (mvT hZ (ow hw 98 rfl)) (mvT hZ (ow hw 97 rfl)) (by decide) (backOf (W := 0) (rmCH l Z a0 hw [] sa (1 : Int32) s_CS wf (3 : Int32) [(.int x0), (.int x1), (.int x2)] x1 va ka h0 n0 Z0 S_CS hcs S_SF hwf (by decide) (by decide) rfl E_sa F_coder_sa F_value_sa V_va) hZ (ow hw 99 rfl) (ow hw 6 rfl) (by decide) (by decide)) q6a q6c (g := (mkF m 46 #[.val (.ref sa), .val (.ref sb), .val (.int (3 : Int32)), .val (.int (if (own_ch x0) = (own_ch y0) then (1 : Int32) else (0 : Int32)))] [(.int (1 : Int32)), (.ref sa)])) rfl (by rw [hml]; rfl) (Steps.refl _) (argsL := [(.int (1 : Int32))]) (rest := []) (lenOf pd_14 rfl) rfl (by show 2 * 0 + _ ≤ _; exact Nat.le_of_eq rfl) (hb hby d17_46) (fun _ _ => ⟨rfl, e5, (by decide : 0 + 0 ≤ _), (by decide : 0 + 0 ≤ _)⟩)
  dsimp only [Pt.U, Pt.locs, Pt.cells, Pt.slots] at X6 l6 y6 z6 st6 hQ6
  subst l6 y6 z6
  obtain ⟨rfl, Nq6, e6⟩ := hQ6
  have N6 := Fr.app N5 Nq6
  obtain ⟨cq7, kq7, q7a, q7b, q7c⟩ := isOf hZ e6 E_sb
  obtain ⟨_, _, ⟨T7, L7, k7, n7⟩, -, X7, ⟨Lc7, hQ7, l7, y7, z7⟩, st7⟩ := X6.virtualBack hx (y := (⟨"java/lang/String", "charAt", "(I)C"⟩ : MethodName)) (z := (⟨"java/lang/String", "charAt", "(I)C"⟩ : MethodName)) hown (mvT hZ (ow hw 95 rfl)) (mvT hZ (ow hw 96 rfl)) (notFace_of_selects (args := #[]) (mvT hZ (ow hw 98 rfl))) (mvT hZ (ow hw 98 rfl)) (mvT hZ (ow hw 97 rfl)) (by decide) (backOf (W := 1) (rmCH l Z a0 hw [] sb (1 : Int32) s_CS wf (3 : Int32) [(.int y0), (.int y1), (.int y2)] y1 vb kb h0 n0 Z0 S_CS hcs S_SF hwf (by decide) (by decide) rfl E_sb F_coder_sb F_value_sb V_vb) hZ (ow hw 99 rfl) (ow hw 6 rfl) (by decide) (by decide)) q7a q7c (g := (mkF m 51 #[.val (.ref sa), .val (.ref sb), .val (.int (3 : Int32)), .val (.int (if (own_ch x0) = (own_ch y0) then (1 : Int32) else (0 : Int32)))] [(.int (1 : Int32)), (.ref sb), (.int (own_ch x1))])) rfl (by rw [hml]; rfl) (Steps.refl _) (argsL := [(.int (1 : Int32))]) (rest := [(.int (own_ch x1))]) (lenOf pd_14 rfl) rfl (by show 2 * 0 + _ ≤ _; exact Nat.le_of_eq rfl) (hb hby d17_51) (fun _ _ => ⟨rfl, e6, (by decide : 0 + 0 ≤ _), (by decide : 0 + 0 ≤ _)⟩)
  dsimp only [Pt.U, Pt.locs, Pt.cells, Pt.slots] at X7 l7 y7 z7 st7 hQ7
  subst l7 y7 z7
  obtain ⟨rfl, Nq7, e7⟩ := hQ7
  have N7 := Fr.app N6 Nq7
  obtain ⟨cq8, kq8, q8a, q8b, q8c⟩ := isOf hZ e7 E_sa
  obtain ⟨_, _, ⟨T8, L8, k8, n8⟩, -, X8, ⟨Lc8, hQ8, l8, y8, z8⟩, st8⟩ := X7.virtualBack hx (y := (⟨"java/lang/String", "charAt", "(I)C"⟩ : MethodName)) (z := (⟨"java/lang/String", "charAt", "(I)C"⟩ : MethodName)) hown (mvT hZ (ow hw 95 rfl)) (mvT hZ (ow hw 96 rfl)) (notFace_of_selects (args := #[]) (mvT hZ (ow hw 98 rfl))) (mvT hZ (ow hw 98 rfl)) (mvT hZ (ow hw 97 rfl)) (by decide) (backOf (W := 0) (rmCH l Z a0 hw [] sa (2 : Int32) s_CS wf (3 : Int32) [(.int x0), (.int x1), (.int x2)] x2 va ka h0 n0 Z0 S_CS hcs S_SF hwf (by decide) (by decide) rfl E_sa F_coder_sa F_value_sa V_va) hZ (ow hw 99 rfl) (ow hw 6 rfl) (by decide) (by decide)) q8a q8c (g := (mkF m 66 #[.val (.ref sa), .val (.ref sb), .val (.int (3 : Int32)), .val (.int (if (own_ch x1) = (own_ch y1) then (if (own_ch x0) = (own_ch y0) then (1 : Int32) else (0 : Int32)) else (0 : Int32)))] [(.int (2 : Int32)), (.ref sa)])) rfl (by rw [hml]; rfl) (Steps.refl _) (argsL := [(.int (2 : Int32))]) (rest := []) (lenOf pd_14 rfl) rfl (by show 2 * 0 + _ ≤ _; exact Nat.le_of_eq rfl) (hb hby d17_66) (fun _ _ => ⟨rfl, e7, (by decide : 0 + 0 ≤ _), (by decide : 0 + 0 ≤ _)⟩)
  dsimp only [Pt.U, Pt.locs, Pt.cells, Pt.slots] at X8 l8 y8 z8 st8 hQ8
  subst l8 y8 z8
  obtain ⟨rfl, Nq8, e8⟩ := hQ8
  have N8 := Fr.app N7 Nq8
  obtain ⟨cq9, kq9, q9a, q9b, q9c⟩ := isOf hZ e8 E_sb
  obtain ⟨_, _, ⟨T9, L9, k9, n9⟩, -, X9, ⟨Lc9, hQ9, l9, y9, z9⟩, st9⟩ := X8.virtualBack hx (y := (⟨"java/lang/String", "charAt", "(I)C"⟩ : MethodName)) (z := (⟨"java/lang/String", "charAt", "(I)C"⟩ : MethodName)) hown (mvT hZ (ow hw 95 rfl)) (mvT hZ (ow hw 96 rfl)) (notFace_of_selects (args := #[]) (mvT hZ (ow hw 98 rfl))) (mvT hZ (ow hw 98 rfl)) (mvT hZ (ow hw 97 rfl)) (by decide) (backOf (W := 1) (rmCH l Z a0 hw [] sb (2 : Int32) s_CS wf (3 : Int32) [(.int y0), (.int y1), (.int y2)] y2 vb kb h0 n0 Z0 S_CS hcs S_SF hwf (by decide) (by decide) rfl E_sb F_coder_sb F_value_sb V_vb) hZ (ow hw 99 rfl) (ow hw 6 rfl) (by decide) (by decide)) q9a q9c (g := (mkF m 71 #[.val (.ref sa), .val (.ref sb), .val (.int (3 : Int32)), .val (.int (if (own_ch x1) = (own_ch y1) then (if (own_ch x0) = (own_ch y0) then (1 : Int32) else (0 : Int32)) else (0 : Int32)))] [(.int (2 : Int32)), (.ref sb), (.int (own_ch x2))])) rfl (by rw [hml]; rfl) (Steps.refl _) (argsL := [(.int (2 : Int32))]) (rest := [(.int (own_ch x2))]) (lenOf pd_14 rfl) rfl (by show 2 * 0 + _ ≤ _; exact Nat.le_of_eq rfl) (hb hby d17_71) (fun _ _ => ⟨rfl, e8, (by decide : 0 + 0 ≤ _), (by decide : 0 + 0 ≤ _)⟩)
  dsimp only [Pt.U, Pt.locs, Pt.cells, Pt.slots] at X9 l9 y9 z9 st9 hQ9
  subst l9 y9 z9
  obtain ⟨rfl, Nq9, e9⟩ := hQ9
  have N9 := Fr.app N8 Nq9
  obtain ⟨fs, hr, hrun, hended, hW, hsame⟩ := X9.leave (v := some (.int (nar .boolean (if (own_ch x2) = (own_ch y2) then (if (own_ch x1) = (own_ch y1) then (if (own_ch x0) = (own_ch y0) then (1 : Int32) else (0 : Int32)) else (0 : Int32)) else (0 : Int32))))) (fun h => by rw [Bd.returns] at h; cases h)
  refine ⟨_, _, pre0 _ ?_, hrun, hended, _, _, rfl, ?_, ⟨_, rfl⟩, hW, hsame.mono (by decide) (by decide)⟩
  · refine sh (mkF m 0 #[.val (.ref sa), .val (.ref sb), .unset, .unset] []) ?_
    refine XS.aloadN X0.here hx rfl (hb hby d17_0) rfl rfl ?_
    refine sh (mkF m 1 #[.val (.ref sa), .val (.ref sb), .unset, .unset] [(.ref sa)]) ?_
    refine st1.trans ?_
    refine sh (mkF m 4 #[.val (.ref sa), .val (.ref sb), .unset, .unset] [(.int (3 : Int32))]) ?_
    refine XS.aloadN X1.here hx rfl (hb hby d17_4) rfl rfl ?_
    refine sh (mkF m 5 #[.val (.ref sa), .val (.ref sb), .unset, .unset] [(.ref sb), (.int (3 : Int32))]) ?_
    refine st2.trans ?_
    refine sh (mkF m 8 #[.val (.ref sa), .val (.ref sb), .unset, .unset] [(.int (3 : Int32)), (.int (3 : Int32))]) ?_
    refine XS.icmpYes X2.here hx rfl (pc0 := 8) (pc' := 13) rfl (hb hby d17_8) rfl (teq (rfl : (3 : Int32) = (3 : Int32))).1 (by decide) (by decide) ?_
    refine sh (mkF m 13 #[.val (.ref sa), .val (.ref sb), .unset, .unset] []) ?_
    refine XS.aloadN X2.here hx rfl (hb hby d17_13) rfl rfl ?_
    refine sh (mkF m 14 #[.val (.ref sa), .val (.ref sb), .unset, .unset] [(.ref sa)]) ?_
    refine st3.trans ?_
    refine sh (mkF m 17 #[.val (.ref sa), .val (.ref sb), .unset, .unset] [(.int (3 : Int32))]) ?_
    refine XS.istoreN X3.here hx rfl (hb hby d17_17) rfl (l' := #[.val (.ref sa), .val (.ref sb), .val (.int (3 : Int32)), .unset]) rfl ?_
    refine sh (mkF m 18 #[.val (.ref sa), .val (.ref sb), .val (.int (3 : Int32)), .unset] []) ?_
    refine XS.iconst X3.here hx rfl (hb hby d17_18) ?_
    refine sh (mkF m 19 #[.val (.ref sa), .val (.ref sb), .val (.int (3 : Int32)), .unset] [(.int (1 : Int32))]) ?_
    refine XS.istoreN X3.here hx rfl (hb hby d17_19) rfl (l' := #[.val (.ref sa), .val (.ref sb), .val (.int (3 : Int32)), .val (.int (1 : Int32))]) rfl ?_
    refine sh (mkF m 20 #[.val (.ref sa), .val (.ref sb), .val (.int (3 : Int32)), .val (.int (1 : Int32))] []) ?_
    refine XS.iloadN X3.here hx rfl (hb hby d17_20) rfl ?_
    refine sh (mkF m 21 #[.val (.ref sa), .val (.ref sb), .val (.int (3 : Int32)), .val (.int (1 : Int32))] [(.int (3 : Int32))]) ?_
    refine XS.ifNo X3.here hx rfl (hb hby d17_21) rfl ((if0 _ _).trans (tlt (by decide : (0 : Int32) < (3 : Int32))).2.2.2) ?_
    refine sh (mkF m 24 #[.val (.ref sa), .val (.ref sb), .val (.int (3 : Int32)), .val (.int (1 : Int32))] []) ?_
    refine XS.aloadN X3.here hx rfl (hb hby d17_24) rfl rfl ?_
    refine sh (mkF m 25 #[.val (.ref sa), .val (.ref sb), .val (.int (3 : Int32)), .val (.int (1 : Int32))] [(.ref sa)]) ?_
    refine XS.iconst X3.here hx rfl (hb hby d17_25) ?_
    refine sh (mkF m 26 #[.val (.ref sa), .val (.ref sb), .val (.int (3 : Int32)), .val (.int (1 : Int32))] [(.int (0 : Int32)), (.ref sa)]) ?_
    refine st4.trans ?_
    refine sh (mkF m 29 #[.val (.ref sa), .val (.ref sb), .val (.int (3 : Int32)), .val (.int (1 : Int32))] [(.int (own_ch x0))]) ?_
    refine XS.aloadN X4.here hx rfl (hb hby d17_29) rfl rfl ?_
    refine sh (mkF m 30 #[.val (.ref sa), .val (.ref sb), .val (.int (3 : Int32)), .val (.int (1 : Int32))] [(.ref sb), (.int (own_ch x0))]) ?_
    refine XS.iconst X4.here hx rfl (hb hby d17_30) ?_
    refine sh (mkF m 31 #[.val (.ref sa), .val (.ref sb), .val (.int (3 : Int32)), .val (.int (1 : Int32))] [(.int (0 : Int32)), (.ref sb), (.int (own_ch x0))]) ?_
    refine st5.trans ?_
    refine sh (mkF m 34 #[.val (.ref sa), .val (.ref sb), .val (.int (3 : Int32)), .val (.int (1 : Int32))] [(.int (own_ch y0)), (.int (own_ch x0))]) ?_
    refine own_cmp0 sa sb (3 : Int32) (1 : Int32) (own_ch y0) (own_ch x0) X5 hx hZ hw hby hown _ ?_
    refine sh (mkF m 39 #[.val (.ref sa), .val (.ref sb), .val (.int (3 : Int32)), .val (.int (if (own_ch x0) = (own_ch y0) then (1 : Int32) else (0 : Int32)))] []) ?_
    refine XS.iloadN X5.here hx rfl (hb hby d17_39) rfl ?_
    refine sh (mkF m 40 #[.val (.ref sa), .val (.ref sb), .val (.int (3 : Int32)), .val (.int (if (own_ch x0) = (own_ch y0) then (1 : Int32) else (0 : Int32)))] [(.int (3 : Int32))]) ?_
    refine XS.iconst X5.here hx rfl (hb hby d17_40) ?_
    refine sh (mkF m 41 #[.val (.ref sa), .val (.ref sb), .val (.int (3 : Int32)), .val (.int (if (own_ch x0) = (own_ch y0) then (1 : Int32) else (0 : Int32)))] [(.int (1 : Int32)), (.int (3 : Int32))]) ?_
    refine XS.icmpNo X5.here hx rfl (hb hby d17_41) rfl (tlt (by decide : (1 : Int32) < (3 : Int32))).2.2.2 ?_
    refine sh (mkF m 44 #[.val (.ref sa), .val (.ref sb), .val (.int (3 : Int32)), .val (.int (if (own_ch x0) = (own_ch y0) then (1 : Int32) else (0 : Int32)))] []) ?_
    refine XS.aloadN X5.here hx rfl (hb hby d17_44) rfl rfl ?_
    refine sh (mkF m 45 #[.val (.ref sa), .val (.ref sb), .val (.int (3 : Int32)), .val (.int (if (own_ch x0) = (own_ch y0) then (1 : Int32) else (0 : Int32)))] [(.ref sa)]) ?_
    refine XS.iconst X5.here hx rfl (hb hby d17_45) ?_
    refine sh (mkF m 46 #[.val (.ref sa), .val (.ref sb), .val (.int (3 : Int32)), .val (.int (if (own_ch x0) = (own_ch y0) then (1 : Int32) else (0 : Int32)))] [(.int (1 : Int32)), (.ref sa)]) ?_
    refine st6.trans ?_
    refine sh (mkF m 49 #[.val (.ref sa), .val (.ref sb), .val (.int (3 : Int32)), .val (.int (if (own_ch x0) = (own_ch y0) then (1 : Int32) else (0 : Int32)))] [(.int (own_ch x1))]) ?_
    refine XS.aloadN X6.here hx rfl (hb hby d17_49) rfl rfl ?_
    refine sh (mkF m 50 #[.val (.ref sa), .val (.ref sb), .val (.int (3 : Int32)), .val (.int (if (own_ch x0) = (own_ch y0) then (1 : Int32) else (0 : Int32)))] [(.ref sb), (.int (own_ch x1))]) ?_
    refine XS.iconst X6.here hx rfl (hb hby d17_50) ?_
    refine sh (mkF m 51 #[.val (.ref sa), .val (.ref sb), .val (.int (3 : Int32)), .val (.int (if (own_ch x0) = (own_ch y0) then (1 : Int32) else (0 : Int32)))] [(.int (1 : Int32)), (.ref sb), (.int (own_ch x1))]) ?_
    refine st7.trans ?_
    refine sh (mkF m 54 #[.val (.ref sa), .val (.ref sb), .val (.int (3 : Int32)), .val (.int (if (own_ch x0) = (own_ch y0) then (1 : Int32) else (0 : Int32)))] [(.int (own_ch y1)), (.int (own_ch x1))]) ?_
    refine own_cmp1 sa sb (3 : Int32) (if (own_ch x0) = (own_ch y0) then (1 : Int32) else (0 : Int32)) (own_ch y1) (own_ch x1) X7 hx hZ hw hby hown _ ?_
    refine sh (mkF m 59 #[.val (.ref sa), .val (.ref sb), .val (.int (3 : Int32)), .val (.int (if (own_ch x1) = (own_ch y1) then (if (own_ch x0) = (own_ch y0) then (1 : Int32) else (0 : Int32)) else (0 : Int32)))] []) ?_
    refine XS.iloadN X7.here hx rfl (hb hby d17_59) rfl ?_
    refine sh (mkF m 60 #[.val (.ref sa), .val (.ref sb), .val (.int (3 : Int32)), .val (.int (if (own_ch x1) = (own_ch y1) then (if (own_ch x0) = (own_ch y0) then (1 : Int32) else (0 : Int32)) else (0 : Int32)))] [(.int (3 : Int32))]) ?_
    refine XS.iconst X7.here hx rfl (hb hby d17_60) ?_
    refine sh (mkF m 61 #[.val (.ref sa), .val (.ref sb), .val (.int (3 : Int32)), .val (.int (if (own_ch x1) = (own_ch y1) then (if (own_ch x0) = (own_ch y0) then (1 : Int32) else (0 : Int32)) else (0 : Int32)))] [(.int (2 : Int32)), (.int (3 : Int32))]) ?_
    refine XS.icmpNo X7.here hx rfl (hb hby d17_61) rfl (tlt (by decide : (2 : Int32) < (3 : Int32))).2.2.2 ?_
    refine sh (mkF m 64 #[.val (.ref sa), .val (.ref sb), .val (.int (3 : Int32)), .val (.int (if (own_ch x1) = (own_ch y1) then (if (own_ch x0) = (own_ch y0) then (1 : Int32) else (0 : Int32)) else (0 : Int32)))] []) ?_
    refine XS.aloadN X7.here hx rfl (hb hby d17_64) rfl rfl ?_
    refine sh (mkF m 65 #[.val (.ref sa), .val (.ref sb), .val (.int (3 : Int32)), .val (.int (if (own_ch x1) = (own_ch y1) then (if (own_ch x0) = (own_ch y0) then (1 : Int32) else (0 : Int32)) else (0 : Int32)))] [(.ref sa)]) ?_
    refine XS.iconst X7.here hx rfl (hb hby d17_65) ?_
    refine sh (mkF m 66 #[.val (.ref sa), .val (.ref sb), .val (.int (3 : Int32)), .val (.int (if (own_ch x1) = (own_ch y1) then (if (own_ch x0) = (own_ch y0) then (1 : Int32) else (0 : Int32)) else (0 : Int32)))] [(.int (2 : Int32)), (.ref sa)]) ?_
    refine st8.trans ?_
    refine sh (mkF m 69 #[.val (.ref sa), .val (.ref sb), .val (.int (3 : Int32)), .val (.int (if (own_ch x1) = (own_ch y1) then (if (own_ch x0) = (own_ch y0) then (1 : Int32) else (0 : Int32)) else (0 : Int32)))] [(.int (own_ch x2))]) ?_
    refine XS.aloadN X8.here hx rfl (hb hby d17_69) rfl rfl ?_
    refine sh (mkF m 70 #[.val (.ref sa), .val (.ref sb), .val (.int (3 : Int32)), .val (.int (if (own_ch x1) = (own_ch y1) then (if (own_ch x0) = (own_ch y0) then (1 : Int32) else (0 : Int32)) else (0 : Int32)))] [(.ref sb), (.int (own_ch x2))]) ?_
    refine XS.iconst X8.here hx rfl (hb hby d17_70) ?_
    refine sh (mkF m 71 #[.val (.ref sa), .val (.ref sb), .val (.int (3 : Int32)), .val (.int (if (own_ch x1) = (own_ch y1) then (if (own_ch x0) = (own_ch y0) then (1 : Int32) else (0 : Int32)) else (0 : Int32)))] [(.int (2 : Int32)), (.ref sb), (.int (own_ch x2))]) ?_
    refine st9.trans ?_
    refine sh (mkF m 74 #[.val (.ref sa), .val (.ref sb), .val (.int (3 : Int32)), .val (.int (if (own_ch x1) = (own_ch y1) then (if (own_ch x0) = (own_ch y0) then (1 : Int32) else (0 : Int32)) else (0 : Int32)))] [(.int (own_ch y2)), (.int (own_ch x2))]) ?_
    refine own_cmp2 sa sb (3 : Int32) (if (own_ch x1) = (own_ch y1) then (if (own_ch x0) = (own_ch y0) then (1 : Int32) else (0 : Int32)) else (0 : Int32)) (own_ch y2) (own_ch x2) X9 hx hZ hw hby hown _ ?_
    refine sh (mkF m 79 #[.val (.ref sa), .val (.ref sb), .val (.int (3 : Int32)), .val (.int (if (own_ch x2) = (own_ch y2) then (if (own_ch x1) = (own_ch y1) then (if (own_ch x0) = (own_ch y0) then (1 : Int32) else (0 : Int32)) else (0 : Int32)) else (0 : Int32)))] []) ?_
    refine XS.iloadN X9.here hx rfl (hb hby d17_79) rfl ?_
    refine sh (mkF m 80 #[.val (.ref sa), .val (.ref sb), .val (.int (3 : Int32)), .val (.int (if (own_ch x2) = (own_ch y2) then (if (own_ch x1) = (own_ch y1) then (if (own_ch x0) = (own_ch y0) then (1 : Int32) else (0 : Int32)) else (0 : Int32)) else (0 : Int32)))] [(.int (if (own_ch x2) = (own_ch y2) then (if (own_ch x1) = (own_ch y1) then (if (own_ch x0) = (own_ch y0) then (1 : Int32) else (0 : Int32)) else (0 : Int32)) else (0 : Int32)))]) ?_
    exact retN X9 hx (t := .boolean) Bd.returns (by simp) (hb hby d17_80) hr
  · show Q_rmST_3 Z sa sb s_CS wf x0 x1 x2 va ka y0 y1 y2 vb kb h0 n0 _ T9.heap _
    rw [e9]
    exact ⟨rfl, N9, rfl⟩
theorem own_wk {l : Launch} {y : MethodName} {S : Spec} {P : Array Value → State → Prop} {K : Program → Env → List Frame → State → Array Value → Prop} {Q Q' : Array Value → State → Outcome → State → Prop} (hM : MetFree l y S P K Q) (h : ∀ a U o U', Q a U o U' → Q' a U o U') : MetFree l y S P K Q' := fun p e ha hc hk s m args below hf happ hP hK => by
  obtain ⟨n, o, h1, h2, h3, h4⟩ := hM p e ha hc hk s m args below hf happ hP hK
  exact ⟨n, o, h1, h2, h3, h _ _ _ _ h4⟩
def Q_b (b : Int32) (h0 : Heap) (n0 : Nat) (v : Option Value) (h : Heap) (L : List Loc) : Prop := v = some (.int b) ∧ Fr n0 L ∧ h = h0
set_option maxRecDepth 65536 in
set_option maxHeartbeats 40000000 in
theorem rmST_t (l : Launch) (Z : State) (a0 : Array Value) (hw : ∀ d ∈ tables_1, d.before a0 Z = true) (ws : List Jvm.Cond) (sa : Addr) (sb : Addr) (s_CS : Int32) (wf : Value) (va : Addr) (vb : Addr) (ka : ClassId) (kb : ClassId) (t1 : Int32) (t2 : Int32) (h0 : Heap) (n0 : Nat) (Z0 : n0 ≤ h0.size) (S_CS : Sta Z h0 "java/lang/String" "COMPACT_STRINGS" "Z" (.int s_CS)) (hcs : ¬ (s_CS = (0 : Int32))) (S_SF : Sta Z h0 "jdk/internal/util/Preconditions" "SIOOBE_FORMATTER" "Ljava/util/function/BiFunction;" wf) (hwf : wf.isRef = true) (E_sa : Exa Z h0 sa "java/lang/String") (F_coder_sa : Fld Z h0 sa "java/lang/String" "coder" "B" (.int (0 : Int32))) (F_value_sa : Fld Z h0 sa "java/lang/String" "value" "[B" (.ref va)) (V_va : Arv Z h0 va ka .byte (t1 &&& (3 : Int32)) (own_vs t1) (.int (0 : Int32))) (E_sb : Exa Z h0 sb "java/lang/String") (F_coder_sb : Fld Z h0 sb "java/lang/String" "coder" "B" (.int (0 : Int32))) (F_value_sb : Fld Z h0 sb "java/lang/String" "value" "[B" (.ref vb)) (V_vb : Arv Z h0 vb kb .byte (t2 &&& (3 : Int32)) (own_vs t2) (.int (0 : Int32))) (hs : own_vs t1 = own_vs t2) :
    MetFree l (⟨"com/example/wirewright/bench/RunPrintedPinLaw", "sameText", "(Ljava/lang/String;Ljava/lang/String;)Z"⟩ : MethodName) (head1 (Jvm.Cond.code (⟨"com/example/wirewright/bench/RunPrintedPinLaw", "sameText", "(Ljava/lang/String;Ljava/lang/String;)Z"⟩ : MethodName) method_3_code 4 (some .boolean) :: ws) ({ frames := 4, cells := 0, slots := 0, locals := 54 } : Room)) (fun a U => a = #[(.ref sa), (.ref sb)] ∧ Z.Warmed39 U.vm ∧ U.heap = h0) (fun _ _ _ _ _ => True) (fun _ U o U' => ∃ v L, o = .returned v ∧ Q_b 1 h0 n0 v U'.heap L ∧ FrameEnd U o U' L ({ frames := 4, cells := 0, slots := 0, locals := 54 } : Room).cells ({ frames := 4, cells := 0, slots := 0, locals := 54 } : Room).slots) := by
  by_cases hz : (t1 &&& (3 : Int32)) = (t2 &&& (3 : Int32))
  · rcases own_cases t1 with hn1 | hn1 | hn1 | hn1 <;> have hn2 := hz.symm.trans hn1
    · have A1 := V_va
      have A2 := V_vb
      rw [hn1, own_vs_0 hn1] at A1
      rw [hn2, own_vs_0 hn2] at A2
      rw [own_vs_0 hn1, own_vs_0 hn2] at hs
      exact own_wk (rmST_0 l Z a0 hw ws sa sb s_CS va ka vb kb h0 n0 Z0 S_CS hcs E_sa F_coder_sa F_value_sa A1 E_sb F_coder_sb F_value_sb A2) (fun a U o U' q => by obtain ⟨v, L, h1, ⟨rfl, hF, hh⟩, hE⟩ := q; exact ⟨_, L, h1, ⟨rfl, hF, hh⟩, hE⟩)
    · have A1 := V_va
      have A2 := V_vb
      rw [hn1, own_vs_1 hn1] at A1
      rw [hn2, own_vs_1 hn2] at A2
      rw [own_vs_1 hn1, own_vs_1 hn2] at hs
      simp only [List.cons.injEq, Value.int.injEq, and_true] at hs
      exact own_wk (rmST_1 l Z a0 hw ws sa sb s_CS wf (own_b t1 2) va ka (own_b t2 2) vb kb h0 n0 Z0 S_CS hcs S_SF hwf E_sa F_coder_sa F_value_sa A1 E_sb F_coder_sb F_value_sb A2) (fun a U o U' q => by obtain ⟨v, L, h1, ⟨rfl, hF, hh⟩, hE⟩ := q; exact ⟨_, L, h1, ⟨by rw [if_pos (congrArg own_ch hs)]; rfl, hF, hh⟩, hE⟩)
    · have A1 := V_va
      have A2 := V_vb
      rw [hn1, own_vs_2 hn1] at A1
      rw [hn2, own_vs_2 hn2] at A2
      rw [own_vs_2 hn1, own_vs_2 hn2] at hs
      simp only [List.cons.injEq, Value.int.injEq, and_true] at hs
      exact own_wk (rmST_2 l Z a0 hw ws sa sb s_CS wf (own_b t1 2) (own_b t1 10) va ka (own_b t2 2) (own_b t2 10) vb kb h0 n0 Z0 S_CS hcs S_SF hwf E_sa F_coder_sa F_value_sa A1 E_sb F_coder_sb F_value_sb A2) (fun a U o U' q => by obtain ⟨v, L, h1, ⟨rfl, hF, hh⟩, hE⟩ := q; exact ⟨_, L, h1, ⟨by rw [if_pos (congrArg own_ch hs.2), if_pos (congrArg own_ch hs.1)]; rfl, hF, hh⟩, hE⟩)
    · have A1 := V_va
      have A2 := V_vb
      rw [hn1, own_vs_3 hn1] at A1
      rw [hn2, own_vs_3 hn2] at A2
      rw [own_vs_3 hn1, own_vs_3 hn2] at hs
      simp only [List.cons.injEq, Value.int.injEq, and_true] at hs
      exact own_wk (rmST_3 l Z a0 hw ws sa sb s_CS wf (own_b t1 2) (own_b t1 10) (own_b t1 18) va ka (own_b t2 2) (own_b t2 10) (own_b t2 18) vb kb h0 n0 Z0 S_CS hcs S_SF hwf E_sa F_coder_sa F_value_sa A1 E_sb F_coder_sb F_value_sb A2) (fun a U o U' q => by obtain ⟨v, L, h1, ⟨rfl, hF, hh⟩, hE⟩ := q; exact ⟨_, L, h1, ⟨by rw [if_pos (congrArg own_ch hs.2.2), if_pos (congrArg own_ch hs.2.1), if_pos (congrArg own_ch hs.1)]; rfl, hF, hh⟩, hE⟩)
  · exact absurd (own_len hs) hz
set_option maxRecDepth 65536 in
set_option maxHeartbeats 40000000 in
theorem rmST_f (l : Launch) (Z : State) (a0 : Array Value) (hw : ∀ d ∈ tables_1, d.before a0 Z = true) (ws : List Jvm.Cond) (sa : Addr) (sb : Addr) (s_CS : Int32) (wf : Value) (va : Addr) (vb : Addr) (ka : ClassId) (kb : ClassId) (t1 : Int32) (t2 : Int32) (h0 : Heap) (n0 : Nat) (Z0 : n0 ≤ h0.size) (S_CS : Sta Z h0 "java/lang/String" "COMPACT_STRINGS" "Z" (.int s_CS)) (hcs : ¬ (s_CS = (0 : Int32))) (S_SF : Sta Z h0 "jdk/internal/util/Preconditions" "SIOOBE_FORMATTER" "Ljava/util/function/BiFunction;" wf) (hwf : wf.isRef = true) (E_sa : Exa Z h0 sa "java/lang/String") (F_coder_sa : Fld Z h0 sa "java/lang/String" "coder" "B" (.int (0 : Int32))) (F_value_sa : Fld Z h0 sa "java/lang/String" "value" "[B" (.ref va)) (V_va : Arv Z h0 va ka .byte (t1 &&& (3 : Int32)) (own_vs t1) (.int (0 : Int32))) (E_sb : Exa Z h0 sb "java/lang/String") (F_coder_sb : Fld Z h0 sb "java/lang/String" "coder" "B" (.int (0 : Int32))) (F_value_sb : Fld Z h0 sb "java/lang/String" "value" "[B" (.ref vb)) (V_vb : Arv Z h0 vb kb .byte (t2 &&& (3 : Int32)) (own_vs t2) (.int (0 : Int32))) (hs : ¬ (own_vs t1 = own_vs t2)) :
    MetFree l (⟨"com/example/wirewright/bench/RunPrintedPinLaw", "sameText", "(Ljava/lang/String;Ljava/lang/String;)Z"⟩ : MethodName) (head1 (Jvm.Cond.code (⟨"com/example/wirewright/bench/RunPrintedPinLaw", "sameText", "(Ljava/lang/String;Ljava/lang/String;)Z"⟩ : MethodName) method_3_code 4 (some .boolean) :: ws) ({ frames := 4, cells := 0, slots := 0, locals := 54 } : Room)) (fun a U => a = #[(.ref sa), (.ref sb)] ∧ Z.Warmed39 U.vm ∧ U.heap = h0) (fun _ _ _ _ _ => True) (fun _ U o U' => ∃ v L, o = .returned v ∧ Q_b 0 h0 n0 v U'.heap L ∧ FrameEnd U o U' L ({ frames := 4, cells := 0, slots := 0, locals := 54 } : Room).cells ({ frames := 4, cells := 0, slots := 0, locals := 54 } : Room).slots) := by
  by_cases hz : (t1 &&& (3 : Int32)) = (t2 &&& (3 : Int32))
  · rcases own_cases t1 with hn1 | hn1 | hn1 | hn1 <;> have hn2 := hz.symm.trans hn1
    · have A1 := V_va
      have A2 := V_vb
      rw [hn1, own_vs_0 hn1] at A1
      rw [hn2, own_vs_0 hn2] at A2
      rw [own_vs_0 hn1, own_vs_0 hn2] at hs
      exact absurd rfl hs
    · have A1 := V_va
      have A2 := V_vb
      rw [hn1, own_vs_1 hn1] at A1
      rw [hn2, own_vs_1 hn2] at A2
      rw [own_vs_1 hn1, own_vs_1 hn2] at hs
      have ee : (if (own_ch (own_b t1 2)) = (own_ch (own_b t2 2)) then (1 : Int32) else (0 : Int32)) = (0 : Int32) := by
        by_cases q0 : (own_ch (own_b t1 2)) = (own_ch (own_b t2 2))
        · rw [if_pos q0]
          have r0 : (own_b t1 2) = (own_b t2 2) := own_chb q0
          exact absurd (by rw [r0]) hs
        · rw [if_neg q0]
      exact own_wk (rmST_1 l Z a0 hw ws sa sb s_CS wf (own_b t1 2) va ka (own_b t2 2) vb kb h0 n0 Z0 S_CS hcs S_SF hwf E_sa F_coder_sa F_value_sa A1 E_sb F_coder_sb F_value_sb A2) (fun a U o U' q => by obtain ⟨v, L, h1, ⟨rfl, hF, hh⟩, hE⟩ := q; exact ⟨_, L, h1, ⟨by rw [ee]; rfl, hF, hh⟩, hE⟩)
    · have A1 := V_va
      have A2 := V_vb
      rw [hn1, own_vs_2 hn1] at A1
      rw [hn2, own_vs_2 hn2] at A2
      rw [own_vs_2 hn1, own_vs_2 hn2] at hs
      have ee : (if (own_ch (own_b t1 10)) = (own_ch (own_b t2 10)) then (if (own_ch (own_b t1 2)) = (own_ch (own_b t2 2)) then (1 : Int32) else (0 : Int32)) else (0 : Int32)) = (0 : Int32) := by
        by_cases q1 : (own_ch (own_b t1 10)) = (own_ch (own_b t2 10))
        · rw [if_pos q1]
          have r1 : (own_b t1 10) = (own_b t2 10) := own_chb q1
          by_cases q0 : (own_ch (own_b t1 2)) = (own_ch (own_b t2 2))
          · rw [if_pos q0]
            have r0 : (own_b t1 2) = (own_b t2 2) := own_chb q0
            exact absurd (by rw [r0, r1]) hs
          · rw [if_neg q0]
        · rw [if_neg q1]
      exact own_wk (rmST_2 l Z a0 hw ws sa sb s_CS wf (own_b t1 2) (own_b t1 10) va ka (own_b t2 2) (own_b t2 10) vb kb h0 n0 Z0 S_CS hcs S_SF hwf E_sa F_coder_sa F_value_sa A1 E_sb F_coder_sb F_value_sb A2) (fun a U o U' q => by obtain ⟨v, L, h1, ⟨rfl, hF, hh⟩, hE⟩ := q; exact ⟨_, L, h1, ⟨by rw [ee]; rfl, hF, hh⟩, hE⟩)
    · have A1 := V_va
      have A2 := V_vb
      rw [hn1, own_vs_3 hn1] at A1
      rw [hn2, own_vs_3 hn2] at A2
      rw [own_vs_3 hn1, own_vs_3 hn2] at hs
      have ee : (if (own_ch (own_b t1 18)) = (own_ch (own_b t2 18)) then (if (own_ch (own_b t1 10)) = (own_ch (own_b t2 10)) then (if (own_ch (own_b t1 2)) = (own_ch (own_b t2 2)) then (1 : Int32) else (0 : Int32)) else (0 : Int32)) else (0 : Int32)) = (0 : Int32) := by
        by_cases q2 : (own_ch (own_b t1 18)) = (own_ch (own_b t2 18))
        · rw [if_pos q2]
          have r2 : (own_b t1 18) = (own_b t2 18) := own_chb q2
          by_cases q1 : (own_ch (own_b t1 10)) = (own_ch (own_b t2 10))
          · rw [if_pos q1]
            have r1 : (own_b t1 10) = (own_b t2 10) := own_chb q1
            by_cases q0 : (own_ch (own_b t1 2)) = (own_ch (own_b t2 2))
            · rw [if_pos q0]
              have r0 : (own_b t1 2) = (own_b t2 2) := own_chb q0
              exact absurd (by rw [r0, r1, r2]) hs
            · rw [if_neg q0]
          · rw [if_neg q1]
        · rw [if_neg q2]
      exact own_wk (rmST_3 l Z a0 hw ws sa sb s_CS wf (own_b t1 2) (own_b t1 10) (own_b t1 18) va ka (own_b t2 2) (own_b t2 10) (own_b t2 18) vb kb h0 n0 Z0 S_CS hcs S_SF hwf E_sa F_coder_sa F_value_sa A1 E_sb F_coder_sb F_value_sb A2) (fun a U o U' q => by obtain ⟨v, L, h1, ⟨rfl, hF, hh⟩, hE⟩ := q; exact ⟨_, L, h1, ⟨by rw [ee]; rfl, hF, hh⟩, hE⟩)
  · exact rmST_ne l Z a0 hw ws sa sb s_CS (t1 &&& (3 : Int32)) (own_vs t1) va ka (t2 &&& (3 : Int32)) (own_vs t2) vb kb h0 n0 Z0 S_CS hcs E_sa F_coder_sa F_value_sa V_va E_sb F_coder_sb F_value_sb V_vb hz
theorem d18_0 : decode jdk_43_method_13_code 0 = .ok (.aload_n 0, 1) := by decide +kernel
theorem d18_1 : decode jdk_43_method_13_code 1 = .ok (.arraylength, 1) := by decide +kernel
theorem d18_2 : decode jdk_43_method_13_code 2 = .ok (.aload_n 1, 1) := by decide +kernel
theorem d18_3 : decode jdk_43_method_13_code 3 = .ok (.arraylength, 1) := by decide +kernel
theorem d18_4 : decode jdk_43_method_13_code 4 = .ok (.if_icmp .ne 30, 3) := by decide +kernel
theorem d18_34 : decode jdk_43_method_13_code 34 = .ok (.iconst 0, 1) := by decide +kernel
theorem d18_35 : decode jdk_43_method_13_code 35 = .ok (.ireturn, 1) := by decide +kernel
def Q_rmLE_ne (Z : State) (va : Addr) (vb : Addr) (zx : Int32) (vx : List Value) (ka : ClassId) (zy : Int32) (vy : List Value) (kb : ClassId) (h0 : Heap) (n0 : Nat) (v : Option Value) (h : Heap) (L : List Loc) : Prop := v = some (.int (0 : Int32)) ∧ Fr n0 L ∧ h = h0
theorem ef_rmLE_ne (m : MethodId) (va : Addr) (vb : Addr) : entryFrame m #[(.ref va), (.ref vb)] 3 = mkF m 0 #[.val (.ref va), .val (.ref vb), .unset] [] := by first | (simp [entryFrame, mkF, argsToLocals, Value.category]; done) | rfl
set_option maxRecDepth 65536 in
set_option maxHeartbeats 40000000 in
theorem rmLE_ne (l : Launch) (Z : State) (a0 : Array Value) (hw : ∀ d ∈ tables_1, d.before a0 Z = true) (ws : List Jvm.Cond) (va : Addr) (vb : Addr) (zx : Int32) (vx : List Value) (ka : ClassId) (zy : Int32) (vy : List Value) (kb : ClassId) (h0 : Heap) (n0 : Nat) (Z0 : n0 ≤ h0.size) (V_va : Arv Z h0 va ka .byte zx vx (.int (0 : Int32))) (V_vb : Arv Z h0 vb kb .byte zy vy (.int (0 : Int32))) (hz : ¬ (zx = zy)) :
    MetFree l (⟨"java/lang/StringLatin1", "equals", "([B[B)Z"⟩ : MethodName) (head1 (Jvm.Cond.code (⟨"java/lang/StringLatin1", "equals", "([B[B)Z"⟩ : MethodName) jdk_43_method_13_code 3 (some .boolean) :: ws) ({ frames := 0, cells := 0, slots := 0, locals := 0 } : Room)) (fun a U => a = #[(.ref va), (.ref vb)] ∧ Z.Warmed39 U.vm ∧ U.heap = h0) (fun _ _ _ _ _ => True) (fun _ U o U' => ∃ v L, o = .returned v ∧ Q_rmLE_ne Z va vb zx vx ka zy vy kb h0 n0 v U'.heap L ∧ FrameEnd U o U' L ({ frames := 0, cells := 0, slots := 0, locals := 0 } : Room).cells ({ frames := 0, cells := 0, slots := 0, locals := 0 } : Room).slots) := by
  refine MetFree.of_bodySF (plainFor_of_name pn_0) hisR ?_
  intro p e s m args below meth c s₁ Bd hml0 hP hK
  obtain ⟨rfl, hZ, hh⟩ := hP
  have hx := Bd.exec
  have hby := Bd.bytes
  have hml : c.maxLocals = 3 := hml0
  have hown : s.vm.findClass "java/lang/StringLatin1" = some m.cls := findClass_of_methodNamed Bd.named
  have hnm := (name_of_methodNamed Bd.named Bd.method).1
  have X0 : Stand p l e ({ frames := 0, cells := 0, slots := 0, locals := 0 } : Room) s m #[(.ref va), (.ref vb)] below meth c s₁ [] 0 0 := Stand.of_body Bd
  have e0 : s₁.heap = h0 := by rw [← hh, Bd.state]; rfl
  have N0 := Fr.nil n0
  have pre0 : ∀ t, Steps p.tables e below (s₁.setTop (mkF m 0 #[.val (.ref va), .val (.ref vb), .unset] [])) t → Steps p.tables e below (s₁.setTop (entryFrame m #[(.ref va), (.ref vb)] 3)) t := fun t k => castTop (ef_rmLE_ne m va vb) k
  have Vc1 := V_va
  obtain ⟨cl1, Ar1, -, S1, M1, -, -⟩ := Vc1
  have Vc2 := V_vb
  obtain ⟨cl2, Ar2, -, S2, M2, -, -⟩ := Vc2
  obtain ⟨fs, hr, hrun, hended, hW, hsame⟩ := X0.leave (v := some (.int (0 : Int32))) (fun h => by rw [Bd.returns] at h; cases h)
  refine ⟨_, _, pre0 _ ?_, hrun, hended, _, _, rfl, ?_, ⟨_, rfl⟩, hW, hsame.mono (by decide) (by decide)⟩
  · refine sh (mkF m 0 #[.val (.ref va), .val (.ref vb), .unset] []) ?_
    refine XS.aloadN X0.here hx rfl (hb hby d18_0) rfl rfl ?_
    refine sh (mkF m 1 #[.val (.ref va), .val (.ref vb), .unset] [(.ref va)]) ?_
    refine X0.arraylength hx (cell := cl1) (by rw [e0]; exact Ar1.1) (State.isArrayOf_alike hZ.alike Ar1.2.1) (g := (mkF m 1 #[.val (.ref va), .val (.ref vb), .unset] [(.ref va)])) rfl (rest := []) rfl (hb hby d18_1) _ ?_
    rw [len_of S1 M1]
    refine sh (mkF m 2 #[.val (.ref va), .val (.ref vb), .unset] [(.int zx)]) ?_
    refine XS.aloadN X0.here hx rfl (hb hby d18_2) rfl rfl ?_
    refine sh (mkF m 3 #[.val (.ref va), .val (.ref vb), .unset] [(.ref vb), (.int zx)]) ?_
    refine X0.arraylength hx (cell := cl2) (by rw [e0]; exact Ar2.1) (State.isArrayOf_alike hZ.alike Ar2.2.1) (g := (mkF m 3 #[.val (.ref va), .val (.ref vb), .unset] [(.ref vb), (.int zx)])) rfl (rest := [(.int zx)]) rfl (hb hby d18_3) _ ?_
    rw [len_of S2 M2]
    refine sh (mkF m 4 #[.val (.ref va), .val (.ref vb), .unset] [(.int zy), (.int zx)]) ?_
    refine XS.icmpYes X0.here hx rfl (pc0 := 4) (pc' := 34) rfl (hb hby d18_4) rfl (feq hz).2 (by decide) (by decide) ?_
    refine sh (mkF m 34 #[.val (.ref va), .val (.ref vb), .unset] []) ?_
    refine XS.iconst X0.here hx rfl (hb hby d18_34) ?_
    refine sh (mkF m 35 #[.val (.ref va), .val (.ref vb), .unset] [(.int (0 : Int32))]) ?_
    exact retN X0 hx (t := .boolean) Bd.returns (by simp) (hb hby d18_35) hr
  · show Q_rmLE_ne Z va vb zx vx ka zy vy kb h0 n0 _ s₁.heap _
    rw [e0]
    exact ⟨rfl, N0, rfl⟩
theorem d18_7 : decode jdk_43_method_13_code 7 = .ok (.iconst 0, 1) := by decide +kernel
theorem d18_8 : decode jdk_43_method_13_code 8 = .ok (.istore_n 2, 1) := by decide +kernel
theorem d18_9 : decode jdk_43_method_13_code 9 = .ok (.iload_n 2, 1) := by decide +kernel
theorem d18_10 : decode jdk_43_method_13_code 10 = .ok (.aload_n 0, 1) := by decide +kernel
theorem d18_11 : decode jdk_43_method_13_code 11 = .ok (.arraylength, 1) := by decide +kernel
theorem d18_12 : decode jdk_43_method_13_code 12 = .ok (.if_icmp .ge 20, 3) := by decide +kernel
theorem d18_32 : decode jdk_43_method_13_code 32 = .ok (.iconst 1, 1) := by decide +kernel
theorem d18_33 : decode jdk_43_method_13_code 33 = .ok (.ireturn, 1) := by decide +kernel
def Q_rmLE_00 (Z : State) (va : Addr) (vb : Addr) (ka : ClassId) (kb : ClassId) (h0 : Heap) (n0 : Nat) (v : Option Value) (h : Heap) (L : List Loc) : Prop := v = some (.int (1 : Int32)) ∧ Fr n0 L ∧ h = h0
theorem ef_rmLE_00 (m : MethodId) (va : Addr) (vb : Addr) : entryFrame m #[(.ref va), (.ref vb)] 3 = mkF m 0 #[.val (.ref va), .val (.ref vb), .unset] [] := by first | (simp [entryFrame, mkF, argsToLocals, Value.category]; done) | rfl
set_option maxRecDepth 65536 in
set_option maxHeartbeats 40000000 in
theorem rmLE_00 (l : Launch) (Z : State) (a0 : Array Value) (hw : ∀ d ∈ tables_1, d.before a0 Z = true) (ws : List Jvm.Cond) (va : Addr) (vb : Addr) (ka : ClassId) (kb : ClassId) (h0 : Heap) (n0 : Nat) (Z0 : n0 ≤ h0.size) (V_va : Arv Z h0 va ka .byte (0 : Int32) [] (.int (0 : Int32))) (V_vb : Arv Z h0 vb kb .byte (0 : Int32) [] (.int (0 : Int32))) :
    MetFree l (⟨"java/lang/StringLatin1", "equals", "([B[B)Z"⟩ : MethodName) (head1 (Jvm.Cond.code (⟨"java/lang/StringLatin1", "equals", "([B[B)Z"⟩ : MethodName) jdk_43_method_13_code 3 (some .boolean) :: ws) ({ frames := 0, cells := 0, slots := 0, locals := 0 } : Room)) (fun a U => a = #[(.ref va), (.ref vb)] ∧ Z.Warmed39 U.vm ∧ U.heap = h0) (fun _ _ _ _ _ => True) (fun _ U o U' => ∃ v L, o = .returned v ∧ Q_rmLE_00 Z va vb ka kb h0 n0 v U'.heap L ∧ FrameEnd U o U' L ({ frames := 0, cells := 0, slots := 0, locals := 0 } : Room).cells ({ frames := 0, cells := 0, slots := 0, locals := 0 } : Room).slots) := by
  refine MetFree.of_bodySF (plainFor_of_name pn_0) hisR ?_
  intro p e s m args below meth c s₁ Bd hml0 hP hK
  obtain ⟨rfl, hZ, hh⟩ := hP
  have hx := Bd.exec
  have hby := Bd.bytes
  have hml : c.maxLocals = 3 := hml0
  have hown : s.vm.findClass "java/lang/StringLatin1" = some m.cls := findClass_of_methodNamed Bd.named
  have hnm := (name_of_methodNamed Bd.named Bd.method).1
  have X0 : Stand p l e ({ frames := 0, cells := 0, slots := 0, locals := 0 } : Room) s m #[(.ref va), (.ref vb)] below meth c s₁ [] 0 0 := Stand.of_body Bd
  have e0 : s₁.heap = h0 := by rw [← hh, Bd.state]; rfl
  have N0 := Fr.nil n0
  have pre0 : ∀ t, Steps p.tables e below (s₁.setTop (mkF m 0 #[.val (.ref va), .val (.ref vb), .unset] [])) t → Steps p.tables e below (s₁.setTop (entryFrame m #[(.ref va), (.ref vb)] 3)) t := fun t k => castTop (ef_rmLE_00 m va vb) k
  have Vc1 := V_va
  obtain ⟨cl1, Ar1, -, S1, M1, -, -⟩ := Vc1
  have Vc2 := V_vb
  obtain ⟨cl2, Ar2, -, S2, M2, -, -⟩ := Vc2
  have Vc3 := V_va
  obtain ⟨cl3, Ar3, -, S3, M3, -, -⟩ := Vc3
  obtain ⟨fs, hr, hrun, hended, hW, hsame⟩ := X0.leave (v := some (.int (1 : Int32))) (fun h => by rw [Bd.returns] at h; cases h)
  refine ⟨_, _, pre0 _ ?_, hrun, hended, _, _, rfl, ?_, ⟨_, rfl⟩, hW, hsame.mono (by decide) (by decide)⟩
  · refine sh (mkF m 0 #[.val (.ref va), .val (.ref vb), .unset] []) ?_
    refine XS.aloadN X0.here hx rfl (hb hby d18_0) rfl rfl ?_
    refine sh (mkF m 1 #[.val (.ref va), .val (.ref vb), .unset] [(.ref va)]) ?_
    refine X0.arraylength hx (cell := cl1) (by rw [e0]; exact Ar1.1) (State.isArrayOf_alike hZ.alike Ar1.2.1) (g := (mkF m 1 #[.val (.ref va), .val (.ref vb), .unset] [(.ref va)])) rfl (rest := []) rfl (hb hby d18_1) _ ?_
    rw [len_of S1 M1]
    refine sh (mkF m 2 #[.val (.ref va), .val (.ref vb), .unset] [(.int (0 : Int32))]) ?_
    refine XS.aloadN X0.here hx rfl (hb hby d18_2) rfl rfl ?_
    refine sh (mkF m 3 #[.val (.ref va), .val (.ref vb), .unset] [(.ref vb), (.int (0 : Int32))]) ?_
    refine X0.arraylength hx (cell := cl2) (by rw [e0]; exact Ar2.1) (State.isArrayOf_alike hZ.alike Ar2.2.1) (g := (mkF m 3 #[.val (.ref va), .val (.ref vb), .unset] [(.ref vb), (.int (0 : Int32))])) rfl (rest := [(.int (0 : Int32))]) rfl (hb hby d18_3) _ ?_
    rw [len_of S2 M2]
    refine sh (mkF m 4 #[.val (.ref va), .val (.ref vb), .unset] [(.int (0 : Int32)), (.int (0 : Int32))]) ?_
    refine XS.icmpNo X0.here hx rfl (hb hby d18_4) rfl (teq (rfl : (0 : Int32) = (0 : Int32))).2 ?_
    refine sh (mkF m 7 #[.val (.ref va), .val (.ref vb), .unset] []) ?_
    refine XS.iconst X0.here hx rfl (hb hby d18_7) ?_
    refine sh (mkF m 8 #[.val (.ref va), .val (.ref vb), .unset] [(.int (0 : Int32))]) ?_
    refine XS.istoreN X0.here hx rfl (hb hby d18_8) rfl (l' := #[.val (.ref va), .val (.ref vb), .val (.int (0 : Int32))]) rfl ?_
    refine sh (mkF m 9 #[.val (.ref va), .val (.ref vb), .val (.int (0 : Int32))] []) ?_
    refine XS.iloadN X0.here hx rfl (hb hby d18_9) rfl ?_
    refine sh (mkF m 10 #[.val (.ref va), .val (.ref vb), .val (.int (0 : Int32))] [(.int (0 : Int32))]) ?_
    refine XS.aloadN X0.here hx rfl (hb hby d18_10) rfl rfl ?_
    refine sh (mkF m 11 #[.val (.ref va), .val (.ref vb), .val (.int (0 : Int32))] [(.ref va), (.int (0 : Int32))]) ?_
    refine X0.arraylength hx (cell := cl3) (by rw [e0]; exact Ar3.1) (State.isArrayOf_alike hZ.alike Ar3.2.1) (g := (mkF m 11 #[.val (.ref va), .val (.ref vb), .val (.int (0 : Int32))] [(.ref va), (.int (0 : Int32))])) rfl (rest := [(.int (0 : Int32))]) rfl (hb hby d18_11) _ ?_
    rw [len_of S3 M3]
    refine sh (mkF m 12 #[.val (.ref va), .val (.ref vb), .val (.int (0 : Int32))] [(.int (0 : Int32)), (.int (0 : Int32))]) ?_
    refine XS.icmpYes X0.here hx rfl (pc0 := 12) (pc' := 32) rfl (hb hby d18_12) rfl (flt (by decide : ¬ ((0 : Int32) < (0 : Int32)))).2.1 (by decide) (by decide) ?_
    refine sh (mkF m 32 #[.val (.ref va), .val (.ref vb), .val (.int (0 : Int32))] []) ?_
    refine XS.iconst X0.here hx rfl (hb hby d18_32) ?_
    refine sh (mkF m 33 #[.val (.ref va), .val (.ref vb), .val (.int (0 : Int32))] [(.int (1 : Int32))]) ?_
    exact retN X0 hx (t := .boolean) Bd.returns (by simp) (hb hby d18_33) hr
  · show Q_rmLE_00 Z va vb ka kb h0 n0 _ s₁.heap _
    rw [e0]
    exact ⟨rfl, N0, rfl⟩
theorem d18_15 : decode jdk_43_method_13_code 15 = .ok (.aload_n 0, 1) := by decide +kernel
theorem d18_16 : decode jdk_43_method_13_code 16 = .ok (.iload_n 2, 1) := by decide +kernel
theorem d18_17 : decode jdk_43_method_13_code 17 = .ok (.baload, 1) := by decide +kernel
theorem d18_18 : decode jdk_43_method_13_code 18 = .ok (.aload_n 1, 1) := by decide +kernel
theorem d18_19 : decode jdk_43_method_13_code 19 = .ok (.iload_n 2, 1) := by decide +kernel
theorem d18_20 : decode jdk_43_method_13_code 20 = .ok (.baload, 1) := by decide +kernel
theorem d18_21 : decode jdk_43_method_13_code 21 = .ok (.if_icmp .eq 5, 3) := by decide +kernel
theorem d18_24 : decode jdk_43_method_13_code 24 = .ok (.iconst 0, 1) := by decide +kernel
theorem d18_25 : decode jdk_43_method_13_code 25 = .ok (.ireturn, 1) := by decide +kernel
def Q_rmLE_10 (Z : State) (va : Addr) (vb : Addr) (x0 : Int32) (ka : ClassId) (y0 : Int32) (kb : ClassId) (h0 : Heap) (n0 : Nat) (v : Option Value) (h : Heap) (L : List Loc) : Prop := v = some (.int (0 : Int32)) ∧ Fr n0 L ∧ h = h0
theorem ef_rmLE_10 (m : MethodId) (va : Addr) (vb : Addr) : entryFrame m #[(.ref va), (.ref vb)] 3 = mkF m 0 #[.val (.ref va), .val (.ref vb), .unset] [] := by first | (simp [entryFrame, mkF, argsToLocals, Value.category]; done) | rfl
set_option maxRecDepth 65536 in
set_option maxHeartbeats 40000000 in
theorem rmLE_10 (l : Launch) (Z : State) (a0 : Array Value) (hw : ∀ d ∈ tables_1, d.before a0 Z = true) (ws : List Jvm.Cond) (va : Addr) (vb : Addr) (x0 : Int32) (ka : ClassId) (y0 : Int32) (kb : ClassId) (h0 : Heap) (n0 : Nat) (Z0 : n0 ≤ h0.size) (V_va : Arv Z h0 va ka .byte (1 : Int32) [(.int x0)] (.int (0 : Int32))) (V_vb : Arv Z h0 vb kb .byte (1 : Int32) [(.int y0)] (.int (0 : Int32))) (hq0 : ¬ (x0 = y0)) :
    MetFree l (⟨"java/lang/StringLatin1", "equals", "([B[B)Z"⟩ : MethodName) (head1 (Jvm.Cond.code (⟨"java/lang/StringLatin1", "equals", "([B[B)Z"⟩ : MethodName) jdk_43_method_13_code 3 (some .boolean) :: ws) ({ frames := 0, cells := 0, slots := 0, locals := 0 } : Room)) (fun a U => a = #[(.ref va), (.ref vb)] ∧ Z.Warmed39 U.vm ∧ U.heap = h0) (fun _ _ _ _ _ => True) (fun _ U o U' => ∃ v L, o = .returned v ∧ Q_rmLE_10 Z va vb x0 ka y0 kb h0 n0 v U'.heap L ∧ FrameEnd U o U' L ({ frames := 0, cells := 0, slots := 0, locals := 0 } : Room).cells ({ frames := 0, cells := 0, slots := 0, locals := 0 } : Room).slots) := by
  refine MetFree.of_bodySF (plainFor_of_name pn_0) hisR ?_
  intro p e s m args below meth c s₁ Bd hml0 hP hK
  obtain ⟨rfl, hZ, hh⟩ := hP
  have hx := Bd.exec
  have hby := Bd.bytes
  have hml : c.maxLocals = 3 := hml0
  have hown : s.vm.findClass "java/lang/StringLatin1" = some m.cls := findClass_of_methodNamed Bd.named
  have hnm := (name_of_methodNamed Bd.named Bd.method).1
  have X0 : Stand p l e ({ frames := 0, cells := 0, slots := 0, locals := 0 } : Room) s m #[(.ref va), (.ref vb)] below meth c s₁ [] 0 0 := Stand.of_body Bd
  have e0 : s₁.heap = h0 := by rw [← hh, Bd.state]; rfl
  have N0 := Fr.nil n0
  have pre0 : ∀ t, Steps p.tables e below (s₁.setTop (mkF m 0 #[.val (.ref va), .val (.ref vb), .unset] [])) t → Steps p.tables e below (s₁.setTop (entryFrame m #[(.ref va), (.ref vb)] 3)) t := fun t k => castTop (ef_rmLE_10 m va vb) k
  have Vc1 := V_va
  obtain ⟨cl1, Ar1, -, S1, M1, -, -⟩ := Vc1
  have Vc2 := V_vb
  obtain ⟨cl2, Ar2, -, S2, M2, -, -⟩ := Vc2
  have Vc3 := V_va
  obtain ⟨cl3, Ar3, -, S3, M3, -, -⟩ := Vc3
  have Vc4 := V_va
  obtain ⟨cl4, Ar4, q4, S4, M4, H4, G4⟩ := Vc4
  have hin4 : ¬ ((0 : Int32) < 0 ∨ cl4.slots.size ≤ ((0 : Int32)).toNatClampNeg) := inb_of S4 ⟨by decide, by decide⟩
  have hat4 : cl4.slots[((0 : Int32)).toNatClampNeg]? = some (.int x0) := Has.at H4 hin4 rfl
  have Vc5 := V_vb
  obtain ⟨cl5, Ar5, q5, S5, M5, H5, G5⟩ := Vc5
  have hin5 : ¬ ((0 : Int32) < 0 ∨ cl5.slots.size ≤ ((0 : Int32)).toNatClampNeg) := inb_of S5 ⟨by decide, by decide⟩
  have hat5 : cl5.slots[((0 : Int32)).toNatClampNeg]? = some (.int y0) := Has.at H5 hin5 rfl
  obtain ⟨fs, hr, hrun, hended, hW, hsame⟩ := X0.leave (v := some (.int (0 : Int32))) (fun h => by rw [Bd.returns] at h; cases h)
  refine ⟨_, _, pre0 _ ?_, hrun, hended, _, _, rfl, ?_, ⟨_, rfl⟩, hW, hsame.mono (by decide) (by decide)⟩
  · refine sh (mkF m 0 #[.val (.ref va), .val (.ref vb), .unset] []) ?_
    refine XS.aloadN X0.here hx rfl (hb hby d18_0) rfl rfl ?_
    refine sh (mkF m 1 #[.val (.ref va), .val (.ref vb), .unset] [(.ref va)]) ?_
    refine X0.arraylength hx (cell := cl1) (by rw [e0]; exact Ar1.1) (State.isArrayOf_alike hZ.alike Ar1.2.1) (g := (mkF m 1 #[.val (.ref va), .val (.ref vb), .unset] [(.ref va)])) rfl (rest := []) rfl (hb hby d18_1) _ ?_
    rw [len_of S1 M1]
    refine sh (mkF m 2 #[.val (.ref va), .val (.ref vb), .unset] [(.int (1 : Int32))]) ?_
    refine XS.aloadN X0.here hx rfl (hb hby d18_2) rfl rfl ?_
    refine sh (mkF m 3 #[.val (.ref va), .val (.ref vb), .unset] [(.ref vb), (.int (1 : Int32))]) ?_
    refine X0.arraylength hx (cell := cl2) (by rw [e0]; exact Ar2.1) (State.isArrayOf_alike hZ.alike Ar2.2.1) (g := (mkF m 3 #[.val (.ref va), .val (.ref vb), .unset] [(.ref vb), (.int (1 : Int32))])) rfl (rest := [(.int (1 : Int32))]) rfl (hb hby d18_3) _ ?_
    rw [len_of S2 M2]
    refine sh (mkF m 4 #[.val (.ref va), .val (.ref vb), .unset] [(.int (1 : Int32)), (.int (1 : Int32))]) ?_
    refine XS.icmpNo X0.here hx rfl (hb hby d18_4) rfl (teq (rfl : (1 : Int32) = (1 : Int32))).2 ?_
    refine sh (mkF m 7 #[.val (.ref va), .val (.ref vb), .unset] []) ?_
    refine XS.iconst X0.here hx rfl (hb hby d18_7) ?_
    refine sh (mkF m 8 #[.val (.ref va), .val (.ref vb), .unset] [(.int (0 : Int32))]) ?_
    refine XS.istoreN X0.here hx rfl (hb hby d18_8) rfl (l' := #[.val (.ref va), .val (.ref vb), .val (.int (0 : Int32))]) rfl ?_
    refine sh (mkF m 9 #[.val (.ref va), .val (.ref vb), .val (.int (0 : Int32))] []) ?_
    refine XS.iloadN X0.here hx rfl (hb hby d18_9) rfl ?_
    refine sh (mkF m 10 #[.val (.ref va), .val (.ref vb), .val (.int (0 : Int32))] [(.int (0 : Int32))]) ?_
    refine XS.aloadN X0.here hx rfl (hb hby d18_10) rfl rfl ?_
    refine sh (mkF m 11 #[.val (.ref va), .val (.ref vb), .val (.int (0 : Int32))] [(.ref va), (.int (0 : Int32))]) ?_
    refine X0.arraylength hx (cell := cl3) (by rw [e0]; exact Ar3.1) (State.isArrayOf_alike hZ.alike Ar3.2.1) (g := (mkF m 11 #[.val (.ref va), .val (.ref vb), .val (.int (0 : Int32))] [(.ref va), (.int (0 : Int32))])) rfl (rest := [(.int (0 : Int32))]) rfl (hb hby d18_11) _ ?_
    rw [len_of S3 M3]
    refine sh (mkF m 12 #[.val (.ref va), .val (.ref vb), .val (.int (0 : Int32))] [(.int (1 : Int32)), (.int (0 : Int32))]) ?_
    refine XS.icmpNo X0.here hx rfl (hb hby d18_12) rfl (tlt (by decide : (0 : Int32) < (1 : Int32))).2.1 ?_
    refine sh (mkF m 15 #[.val (.ref va), .val (.ref vb), .val (.int (0 : Int32))] []) ?_
    refine XS.aloadN X0.here hx rfl (hb hby d18_15) rfl rfl ?_
    refine sh (mkF m 16 #[.val (.ref va), .val (.ref vb), .val (.int (0 : Int32))] [(.ref va)]) ?_
    refine XS.iloadN X0.here hx rfl (hb hby d18_16) rfl ?_
    refine sh (mkF m 17 #[.val (.ref va), .val (.ref vb), .val (.int (0 : Int32))] [(.int (0 : Int32)), (.ref va)]) ?_
    refine X0.baloadBytes hx (j := (0 : Int32)) (v := (.int x0)) (by rw [e0]; exact Ar4.1) (State.isArrayOf_alike hZ.alike Ar4.2.1) Ar4.2.2 hin4 hat4 (g := (mkF m 17 #[.val (.ref va), .val (.ref vb), .val (.int (0 : Int32))] [(.int (0 : Int32)), (.ref va)])) rfl rfl (hb hby d18_17) _ ?_
    refine sh (mkF m 18 #[.val (.ref va), .val (.ref vb), .val (.int (0 : Int32))] [(.int x0)]) ?_
    refine XS.aloadN X0.here hx rfl (hb hby d18_18) rfl rfl ?_
    refine sh (mkF m 19 #[.val (.ref va), .val (.ref vb), .val (.int (0 : Int32))] [(.ref vb), (.int x0)]) ?_
    refine XS.iloadN X0.here hx rfl (hb hby d18_19) rfl ?_
    refine sh (mkF m 20 #[.val (.ref va), .val (.ref vb), .val (.int (0 : Int32))] [(.int (0 : Int32)), (.ref vb), (.int x0)]) ?_
    refine X0.baloadBytes hx (j := (0 : Int32)) (v := (.int y0)) (by rw [e0]; exact Ar5.1) (State.isArrayOf_alike hZ.alike Ar5.2.1) Ar5.2.2 hin5 hat5 (g := (mkF m 20 #[.val (.ref va), .val (.ref vb), .val (.int (0 : Int32))] [(.int (0 : Int32)), (.ref vb), (.int x0)])) rfl rfl (hb hby d18_20) _ ?_
    refine sh (mkF m 21 #[.val (.ref va), .val (.ref vb), .val (.int (0 : Int32))] [(.int y0), (.int x0)]) ?_
    refine XS.icmpNo X0.here hx rfl (hb hby d18_21) rfl (feq hq0).1 ?_
    refine sh (mkF m 24 #[.val (.ref va), .val (.ref vb), .val (.int (0 : Int32))] []) ?_
    refine XS.iconst X0.here hx rfl (hb hby d18_24) ?_
    refine sh (mkF m 25 #[.val (.ref va), .val (.ref vb), .val (.int (0 : Int32))] [(.int (0 : Int32))]) ?_
    exact retN X0 hx (t := .boolean) Bd.returns (by simp) (hb hby d18_25) hr
  · show Q_rmLE_10 Z va vb x0 ka y0 kb h0 n0 _ s₁.heap _
    rw [e0]
    exact ⟨rfl, N0, rfl⟩
theorem d18_26 : decode jdk_43_method_13_code 26 = .ok (.iinc 2 1, 3) := by decide +kernel
theorem d18_29 : decode jdk_43_method_13_code 29 = .ok (.goto (-20), 3) := by decide +kernel
def Q_rmLE_11 (Z : State) (va : Addr) (vb : Addr) (x0 : Int32) (ka : ClassId) (y0 : Int32) (kb : ClassId) (h0 : Heap) (n0 : Nat) (v : Option Value) (h : Heap) (L : List Loc) : Prop := v = some (.int (1 : Int32)) ∧ Fr n0 L ∧ h = h0
theorem ef_rmLE_11 (m : MethodId) (va : Addr) (vb : Addr) : entryFrame m #[(.ref va), (.ref vb)] 3 = mkF m 0 #[.val (.ref va), .val (.ref vb), .unset] [] := by first | (simp [entryFrame, mkF, argsToLocals, Value.category]; done) | rfl
set_option maxRecDepth 65536 in
set_option maxHeartbeats 40000000 in
theorem rmLE_11 (l : Launch) (Z : State) (a0 : Array Value) (hw : ∀ d ∈ tables_1, d.before a0 Z = true) (ws : List Jvm.Cond) (va : Addr) (vb : Addr) (x0 : Int32) (ka : ClassId) (y0 : Int32) (kb : ClassId) (h0 : Heap) (n0 : Nat) (Z0 : n0 ≤ h0.size) (V_va : Arv Z h0 va ka .byte (1 : Int32) [(.int x0)] (.int (0 : Int32))) (V_vb : Arv Z h0 vb kb .byte (1 : Int32) [(.int y0)] (.int (0 : Int32))) (hq0 : x0 = y0) :
    MetFree l (⟨"java/lang/StringLatin1", "equals", "([B[B)Z"⟩ : MethodName) (head1 (Jvm.Cond.code (⟨"java/lang/StringLatin1", "equals", "([B[B)Z"⟩ : MethodName) jdk_43_method_13_code 3 (some .boolean) :: ws) ({ frames := 0, cells := 0, slots := 0, locals := 0 } : Room)) (fun a U => a = #[(.ref va), (.ref vb)] ∧ Z.Warmed39 U.vm ∧ U.heap = h0) (fun _ _ _ _ _ => True) (fun _ U o U' => ∃ v L, o = .returned v ∧ Q_rmLE_11 Z va vb x0 ka y0 kb h0 n0 v U'.heap L ∧ FrameEnd U o U' L ({ frames := 0, cells := 0, slots := 0, locals := 0 } : Room).cells ({ frames := 0, cells := 0, slots := 0, locals := 0 } : Room).slots) := by
  refine MetFree.of_bodySF (plainFor_of_name pn_0) hisR ?_
  intro p e s m args below meth c s₁ Bd hml0 hP hK
  obtain ⟨rfl, hZ, hh⟩ := hP
  have hx := Bd.exec
  have hby := Bd.bytes
  have hml : c.maxLocals = 3 := hml0
  have hown : s.vm.findClass "java/lang/StringLatin1" = some m.cls := findClass_of_methodNamed Bd.named
  have hnm := (name_of_methodNamed Bd.named Bd.method).1
  have X0 : Stand p l e ({ frames := 0, cells := 0, slots := 0, locals := 0 } : Room) s m #[(.ref va), (.ref vb)] below meth c s₁ [] 0 0 := Stand.of_body Bd
  have e0 : s₁.heap = h0 := by rw [← hh, Bd.state]; rfl
  have N0 := Fr.nil n0
  have pre0 : ∀ t, Steps p.tables e below (s₁.setTop (mkF m 0 #[.val (.ref va), .val (.ref vb), .unset] [])) t → Steps p.tables e below (s₁.setTop (entryFrame m #[(.ref va), (.ref vb)] 3)) t := fun t k => castTop (ef_rmLE_11 m va vb) k
  have Vc1 := V_va
  obtain ⟨cl1, Ar1, -, S1, M1, -, -⟩ := Vc1
  have Vc2 := V_vb
  obtain ⟨cl2, Ar2, -, S2, M2, -, -⟩ := Vc2
  have Vc3 := V_va
  obtain ⟨cl3, Ar3, -, S3, M3, -, -⟩ := Vc3
  have Vc4 := V_va
  obtain ⟨cl4, Ar4, q4, S4, M4, H4, G4⟩ := Vc4
  have hin4 : ¬ ((0 : Int32) < 0 ∨ cl4.slots.size ≤ ((0 : Int32)).toNatClampNeg) := inb_of S4 ⟨by decide, by decide⟩
  have hat4 : cl4.slots[((0 : Int32)).toNatClampNeg]? = some (.int x0) := Has.at H4 hin4 rfl
  have Vc5 := V_vb
  obtain ⟨cl5, Ar5, q5, S5, M5, H5, G5⟩ := Vc5
  have hin5 : ¬ ((0 : Int32) < 0 ∨ cl5.slots.size ≤ ((0 : Int32)).toNatClampNeg) := inb_of S5 ⟨by decide, by decide⟩
  have hat5 : cl5.slots[((0 : Int32)).toNatClampNeg]? = some (.int y0) := Has.at H5 hin5 rfl
  have Vc6 := V_va
  obtain ⟨cl6, Ar6, -, S6, M6, -, -⟩ := Vc6
  obtain ⟨fs, hr, hrun, hended, hW, hsame⟩ := X0.leave (v := some (.int (1 : Int32))) (fun h => by rw [Bd.returns] at h; cases h)
  refine ⟨_, _, pre0 _ ?_, hrun, hended, _, _, rfl, ?_, ⟨_, rfl⟩, hW, hsame.mono (by decide) (by decide)⟩
  · refine sh (mkF m 0 #[.val (.ref va), .val (.ref vb), .unset] []) ?_
    refine XS.aloadN X0.here hx rfl (hb hby d18_0) rfl rfl ?_
    refine sh (mkF m 1 #[.val (.ref va), .val (.ref vb), .unset] [(.ref va)]) ?_
    refine X0.arraylength hx (cell := cl1) (by rw [e0]; exact Ar1.1) (State.isArrayOf_alike hZ.alike Ar1.2.1) (g := (mkF m 1 #[.val (.ref va), .val (.ref vb), .unset] [(.ref va)])) rfl (rest := []) rfl (hb hby d18_1) _ ?_
    rw [len_of S1 M1]
    refine sh (mkF m 2 #[.val (.ref va), .val (.ref vb), .unset] [(.int (1 : Int32))]) ?_
    refine XS.aloadN X0.here hx rfl (hb hby d18_2) rfl rfl ?_
    refine sh (mkF m 3 #[.val (.ref va), .val (.ref vb), .unset] [(.ref vb), (.int (1 : Int32))]) ?_
    refine X0.arraylength hx (cell := cl2) (by rw [e0]; exact Ar2.1) (State.isArrayOf_alike hZ.alike Ar2.2.1) (g := (mkF m 3 #[.val (.ref va), .val (.ref vb), .unset] [(.ref vb), (.int (1 : Int32))])) rfl (rest := [(.int (1 : Int32))]) rfl (hb hby d18_3) _ ?_
    rw [len_of S2 M2]
    refine sh (mkF m 4 #[.val (.ref va), .val (.ref vb), .unset] [(.int (1 : Int32)), (.int (1 : Int32))]) ?_
    refine XS.icmpNo X0.here hx rfl (hb hby d18_4) rfl (teq (rfl : (1 : Int32) = (1 : Int32))).2 ?_
    refine sh (mkF m 7 #[.val (.ref va), .val (.ref vb), .unset] []) ?_
    refine XS.iconst X0.here hx rfl (hb hby d18_7) ?_
    refine sh (mkF m 8 #[.val (.ref va), .val (.ref vb), .unset] [(.int (0 : Int32))]) ?_
    refine XS.istoreN X0.here hx rfl (hb hby d18_8) rfl (l' := #[.val (.ref va), .val (.ref vb), .val (.int (0 : Int32))]) rfl ?_
    refine sh (mkF m 9 #[.val (.ref va), .val (.ref vb), .val (.int (0 : Int32))] []) ?_
    refine XS.iloadN X0.here hx rfl (hb hby d18_9) rfl ?_
    refine sh (mkF m 10 #[.val (.ref va), .val (.ref vb), .val (.int (0 : Int32))] [(.int (0 : Int32))]) ?_
    refine XS.aloadN X0.here hx rfl (hb hby d18_10) rfl rfl ?_
    refine sh (mkF m 11 #[.val (.ref va), .val (.ref vb), .val (.int (0 : Int32))] [(.ref va), (.int (0 : Int32))]) ?_
    refine X0.arraylength hx (cell := cl3) (by rw [e0]; exact Ar3.1) (State.isArrayOf_alike hZ.alike Ar3.2.1) (g := (mkF m 11 #[.val (.ref va), .val (.ref vb), .val (.int (0 : Int32))] [(.ref va), (.int (0 : Int32))])) rfl (rest := [(.int (0 : Int32))]) rfl (hb hby d18_11) _ ?_
    rw [len_of S3 M3]
    refine sh (mkF m 12 #[.val (.ref va), .val (.ref vb), .val (.int (0 : Int32))] [(.int (1 : Int32)), (.int (0 : Int32))]) ?_
    refine XS.icmpNo X0.here hx rfl (hb hby d18_12) rfl (tlt (by decide : (0 : Int32) < (1 : Int32))).2.1 ?_
    refine sh (mkF m 15 #[.val (.ref va), .val (.ref vb), .val (.int (0 : Int32))] []) ?_
    refine XS.aloadN X0.here hx rfl (hb hby d18_15) rfl rfl ?_
    refine sh (mkF m 16 #[.val (.ref va), .val (.ref vb), .val (.int (0 : Int32))] [(.ref va)]) ?_
    refine XS.iloadN X0.here hx rfl (hb hby d18_16) rfl ?_
    refine sh (mkF m 17 #[.val (.ref va), .val (.ref vb), .val (.int (0 : Int32))] [(.int (0 : Int32)), (.ref va)]) ?_
    refine X0.baloadBytes hx (j := (0 : Int32)) (v := (.int x0)) (by rw [e0]; exact Ar4.1) (State.isArrayOf_alike hZ.alike Ar4.2.1) Ar4.2.2 hin4 hat4 (g := (mkF m 17 #[.val (.ref va), .val (.ref vb), .val (.int (0 : Int32))] [(.int (0 : Int32)), (.ref va)])) rfl rfl (hb hby d18_17) _ ?_
    refine sh (mkF m 18 #[.val (.ref va), .val (.ref vb), .val (.int (0 : Int32))] [(.int x0)]) ?_
    refine XS.aloadN X0.here hx rfl (hb hby d18_18) rfl rfl ?_
    refine sh (mkF m 19 #[.val (.ref va), .val (.ref vb), .val (.int (0 : Int32))] [(.ref vb), (.int x0)]) ?_
    refine XS.iloadN X0.here hx rfl (hb hby d18_19) rfl ?_
    refine sh (mkF m 20 #[.val (.ref va), .val (.ref vb), .val (.int (0 : Int32))] [(.int (0 : Int32)), (.ref vb), (.int x0)]) ?_
    refine X0.baloadBytes hx (j := (0 : Int32)) (v := (.int y0)) (by rw [e0]; exact Ar5.1) (State.isArrayOf_alike hZ.alike Ar5.2.1) Ar5.2.2 hin5 hat5 (g := (mkF m 20 #[.val (.ref va), .val (.ref vb), .val (.int (0 : Int32))] [(.int (0 : Int32)), (.ref vb), (.int x0)])) rfl rfl (hb hby d18_20) _ ?_
    refine sh (mkF m 21 #[.val (.ref va), .val (.ref vb), .val (.int (0 : Int32))] [(.int y0), (.int x0)]) ?_
    refine XS.icmpYes X0.here hx rfl (pc0 := 21) (pc' := 26) rfl (hb hby d18_21) rfl (teq hq0).1 (by decide) (by decide) ?_
    refine sh (mkF m 26 #[.val (.ref va), .val (.ref vb), .val (.int (0 : Int32))] []) ?_
    refine XS.iinc X0.here hx rfl (hb hby d18_26) rfl (l' := #[.val (.ref va), .val (.ref vb), .val (.int ((0 : Int32) + (1 : Int32)))]) rfl ?_
    refine sh (mkF m 29 #[.val (.ref va), .val (.ref vb), .val (.int ((0 : Int32) + (1 : Int32)))] []) ?_
    rw [show ((0 : Int32) + (1 : Int32)) = (1 : Int32) from by decide]
    refine sh (mkF m 29 #[.val (.ref va), .val (.ref vb), .val (.int (1 : Int32))] []) ?_
    refine XS.goto X0.here hx rfl (pc0 := 29) (pc' := 9) rfl (hb hby d18_29) (by decide) (by decide) ?_
    refine sh (mkF m 9 #[.val (.ref va), .val (.ref vb), .val (.int (1 : Int32))] []) ?_
    refine XS.iloadN X0.here hx rfl (hb hby d18_9) rfl ?_
    refine sh (mkF m 10 #[.val (.ref va), .val (.ref vb), .val (.int (1 : Int32))] [(.int (1 : Int32))]) ?_
    refine XS.aloadN X0.here hx rfl (hb hby d18_10) rfl rfl ?_
    refine sh (mkF m 11 #[.val (.ref va), .val (.ref vb), .val (.int (1 : Int32))] [(.ref va), (.int (1 : Int32))]) ?_
    refine X0.arraylength hx (cell := cl6) (by rw [e0]; exact Ar6.1) (State.isArrayOf_alike hZ.alike Ar6.2.1) (g := (mkF m 11 #[.val (.ref va), .val (.ref vb), .val (.int (1 : Int32))] [(.ref va), (.int (1 : Int32))])) rfl (rest := [(.int (1 : Int32))]) rfl (hb hby d18_11) _ ?_
    rw [len_of S6 M6]
    refine sh (mkF m 12 #[.val (.ref va), .val (.ref vb), .val (.int (1 : Int32))] [(.int (1 : Int32)), (.int (1 : Int32))]) ?_
    refine XS.icmpYes X0.here hx rfl (pc0 := 12) (pc' := 32) rfl (hb hby d18_12) rfl (flt (by decide : ¬ ((1 : Int32) < (1 : Int32)))).2.1 (by decide) (by decide) ?_
    refine sh (mkF m 32 #[.val (.ref va), .val (.ref vb), .val (.int (1 : Int32))] []) ?_
    refine XS.iconst X0.here hx rfl (hb hby d18_32) ?_
    refine sh (mkF m 33 #[.val (.ref va), .val (.ref vb), .val (.int (1 : Int32))] [(.int (1 : Int32))]) ?_
    exact retN X0 hx (t := .boolean) Bd.returns (by simp) (hb hby d18_33) hr
  · show Q_rmLE_11 Z va vb x0 ka y0 kb h0 n0 _ s₁.heap _
    rw [e0]
    exact ⟨rfl, N0, rfl⟩
def Q_rmLE_20 (Z : State) (va : Addr) (vb : Addr) (x0 : Int32) (x1 : Int32) (ka : ClassId) (y0 : Int32) (y1 : Int32) (kb : ClassId) (h0 : Heap) (n0 : Nat) (v : Option Value) (h : Heap) (L : List Loc) : Prop := v = some (.int (0 : Int32)) ∧ Fr n0 L ∧ h = h0
theorem ef_rmLE_20 (m : MethodId) (va : Addr) (vb : Addr) : entryFrame m #[(.ref va), (.ref vb)] 3 = mkF m 0 #[.val (.ref va), .val (.ref vb), .unset] [] := by first | (simp [entryFrame, mkF, argsToLocals, Value.category]; done) | rfl
set_option maxRecDepth 65536 in
set_option maxHeartbeats 40000000 in
theorem rmLE_20 (l : Launch) (Z : State) (a0 : Array Value) (hw : ∀ d ∈ tables_1, d.before a0 Z = true) (ws : List Jvm.Cond) (va : Addr) (vb : Addr) (x0 : Int32) (x1 : Int32) (ka : ClassId) (y0 : Int32) (y1 : Int32) (kb : ClassId) (h0 : Heap) (n0 : Nat) (Z0 : n0 ≤ h0.size) (V_va : Arv Z h0 va ka .byte (2 : Int32) [(.int x0), (.int x1)] (.int (0 : Int32))) (V_vb : Arv Z h0 vb kb .byte (2 : Int32) [(.int y0), (.int y1)] (.int (0 : Int32))) (hq0 : ¬ (x0 = y0)) :
    MetFree l (⟨"java/lang/StringLatin1", "equals", "([B[B)Z"⟩ : MethodName) (head1 (Jvm.Cond.code (⟨"java/lang/StringLatin1", "equals", "([B[B)Z"⟩ : MethodName) jdk_43_method_13_code 3 (some .boolean) :: ws) ({ frames := 0, cells := 0, slots := 0, locals := 0 } : Room)) (fun a U => a = #[(.ref va), (.ref vb)] ∧ Z.Warmed39 U.vm ∧ U.heap = h0) (fun _ _ _ _ _ => True) (fun _ U o U' => ∃ v L, o = .returned v ∧ Q_rmLE_20 Z va vb x0 x1 ka y0 y1 kb h0 n0 v U'.heap L ∧ FrameEnd U o U' L ({ frames := 0, cells := 0, slots := 0, locals := 0 } : Room).cells ({ frames := 0, cells := 0, slots := 0, locals := 0 } : Room).slots) := by
  refine MetFree.of_bodySF (plainFor_of_name pn_0) hisR ?_
  intro p e s m args below meth c s₁ Bd hml0 hP hK
  obtain ⟨rfl, hZ, hh⟩ := hP
  have hx := Bd.exec
  have hby := Bd.bytes
  have hml : c.maxLocals = 3 := hml0
  have hown : s.vm.findClass "java/lang/StringLatin1" = some m.cls := findClass_of_methodNamed Bd.named
  have hnm := (name_of_methodNamed Bd.named Bd.method).1
  have X0 : Stand p l e ({ frames := 0, cells := 0, slots := 0, locals := 0 } : Room) s m #[(.ref va), (.ref vb)] below meth c s₁ [] 0 0 := Stand.of_body Bd
  have e0 : s₁.heap = h0 := by rw [← hh, Bd.state]; rfl
  have N0 := Fr.nil n0
  have pre0 : ∀ t, Steps p.tables e below (s₁.setTop (mkF m 0 #[.val (.ref va), .val (.ref vb), .unset] [])) t → Steps p.tables e below (s₁.setTop (entryFrame m #[(.ref va), (.ref vb)] 3)) t := fun t k => castTop (ef_rmLE_20 m va vb) k
  have Vc1 := V_va
  obtain ⟨cl1, Ar1, -, S1, M1, -, -⟩ := Vc1
  have Vc2 := V_vb
  obtain ⟨cl2, Ar2, -, S2, M2, -, -⟩ := Vc2
  have Vc3 := V_va
  obtain ⟨cl3, Ar3, -, S3, M3, -, -⟩ := Vc3
  have Vc4 := V_va
  obtain ⟨cl4, Ar4, q4, S4, M4, H4, G4⟩ := Vc4
  have hin4 : ¬ ((0 : Int32) < 0 ∨ cl4.slots.size ≤ ((0 : Int32)).toNatClampNeg) := inb_of S4 ⟨by decide, by decide⟩
  have hat4 : cl4.slots[((0 : Int32)).toNatClampNeg]? = some (.int x0) := Has.at H4 hin4 rfl
  have Vc5 := V_vb
  obtain ⟨cl5, Ar5, q5, S5, M5, H5, G5⟩ := Vc5
  have hin5 : ¬ ((0 : Int32) < 0 ∨ cl5.slots.size ≤ ((0 : Int32)).toNatClampNeg) := inb_of S5 ⟨by decide, by decide⟩
  have hat5 : cl5.slots[((0 : Int32)).toNatClampNeg]? = some (.int y0) := Has.at H5 hin5 rfl
  obtain ⟨fs, hr, hrun, hended, hW, hsame⟩ := X0.leave (v := some (.int (0 : Int32))) (fun h => by rw [Bd.returns] at h; cases h)
  refine ⟨_, _, pre0 _ ?_, hrun, hended, _, _, rfl, ?_, ⟨_, rfl⟩, hW, hsame.mono (by decide) (by decide)⟩
  · refine sh (mkF m 0 #[.val (.ref va), .val (.ref vb), .unset] []) ?_
    refine XS.aloadN X0.here hx rfl (hb hby d18_0) rfl rfl ?_
    refine sh (mkF m 1 #[.val (.ref va), .val (.ref vb), .unset] [(.ref va)]) ?_
    refine X0.arraylength hx (cell := cl1) (by rw [e0]; exact Ar1.1) (State.isArrayOf_alike hZ.alike Ar1.2.1) (g := (mkF m 1 #[.val (.ref va), .val (.ref vb), .unset] [(.ref va)])) rfl (rest := []) rfl (hb hby d18_1) _ ?_
    rw [len_of S1 M1]
    refine sh (mkF m 2 #[.val (.ref va), .val (.ref vb), .unset] [(.int (2 : Int32))]) ?_
    refine XS.aloadN X0.here hx rfl (hb hby d18_2) rfl rfl ?_
    refine sh (mkF m 3 #[.val (.ref va), .val (.ref vb), .unset] [(.ref vb), (.int (2 : Int32))]) ?_
    refine X0.arraylength hx (cell := cl2) (by rw [e0]; exact Ar2.1) (State.isArrayOf_alike hZ.alike Ar2.2.1) (g := (mkF m 3 #[.val (.ref va), .val (.ref vb), .unset] [(.ref vb), (.int (2 : Int32))])) rfl (rest := [(.int (2 : Int32))]) rfl (hb hby d18_3) _ ?_
    rw [len_of S2 M2]
    refine sh (mkF m 4 #[.val (.ref va), .val (.ref vb), .unset] [(.int (2 : Int32)), (.int (2 : Int32))]) ?_
    refine XS.icmpNo X0.here hx rfl (hb hby d18_4) rfl (teq (rfl : (2 : Int32) = (2 : Int32))).2 ?_
    refine sh (mkF m 7 #[.val (.ref va), .val (.ref vb), .unset] []) ?_
    refine XS.iconst X0.here hx rfl (hb hby d18_7) ?_
    refine sh (mkF m 8 #[.val (.ref va), .val (.ref vb), .unset] [(.int (0 : Int32))]) ?_
    refine XS.istoreN X0.here hx rfl (hb hby d18_8) rfl (l' := #[.val (.ref va), .val (.ref vb), .val (.int (0 : Int32))]) rfl ?_
    refine sh (mkF m 9 #[.val (.ref va), .val (.ref vb), .val (.int (0 : Int32))] []) ?_
    refine XS.iloadN X0.here hx rfl (hb hby d18_9) rfl ?_
    refine sh (mkF m 10 #[.val (.ref va), .val (.ref vb), .val (.int (0 : Int32))] [(.int (0 : Int32))]) ?_
    refine XS.aloadN X0.here hx rfl (hb hby d18_10) rfl rfl ?_
    refine sh (mkF m 11 #[.val (.ref va), .val (.ref vb), .val (.int (0 : Int32))] [(.ref va), (.int (0 : Int32))]) ?_
    refine X0.arraylength hx (cell := cl3) (by rw [e0]; exact Ar3.1) (State.isArrayOf_alike hZ.alike Ar3.2.1) (g := (mkF m 11 #[.val (.ref va), .val (.ref vb), .val (.int (0 : Int32))] [(.ref va), (.int (0 : Int32))])) rfl (rest := [(.int (0 : Int32))]) rfl (hb hby d18_11) _ ?_
    rw [len_of S3 M3]
    refine sh (mkF m 12 #[.val (.ref va), .val (.ref vb), .val (.int (0 : Int32))] [(.int (2 : Int32)), (.int (0 : Int32))]) ?_
    refine XS.icmpNo X0.here hx rfl (hb hby d18_12) rfl (tlt (by decide : (0 : Int32) < (2 : Int32))).2.1 ?_
    refine sh (mkF m 15 #[.val (.ref va), .val (.ref vb), .val (.int (0 : Int32))] []) ?_
    refine XS.aloadN X0.here hx rfl (hb hby d18_15) rfl rfl ?_
    refine sh (mkF m 16 #[.val (.ref va), .val (.ref vb), .val (.int (0 : Int32))] [(.ref va)]) ?_
    refine XS.iloadN X0.here hx rfl (hb hby d18_16) rfl ?_
    refine sh (mkF m 17 #[.val (.ref va), .val (.ref vb), .val (.int (0 : Int32))] [(.int (0 : Int32)), (.ref va)]) ?_
    refine X0.baloadBytes hx (j := (0 : Int32)) (v := (.int x0)) (by rw [e0]; exact Ar4.1) (State.isArrayOf_alike hZ.alike Ar4.2.1) Ar4.2.2 hin4 hat4 (g := (mkF m 17 #[.val (.ref va), .val (.ref vb), .val (.int (0 : Int32))] [(.int (0 : Int32)), (.ref va)])) rfl rfl (hb hby d18_17) _ ?_
    refine sh (mkF m 18 #[.val (.ref va), .val (.ref vb), .val (.int (0 : Int32))] [(.int x0)]) ?_
    refine XS.aloadN X0.here hx rfl (hb hby d18_18) rfl rfl ?_
    refine sh (mkF m 19 #[.val (.ref va), .val (.ref vb), .val (.int (0 : Int32))] [(.ref vb), (.int x0)]) ?_
    refine XS.iloadN X0.here hx rfl (hb hby d18_19) rfl ?_
    refine sh (mkF m 20 #[.val (.ref va), .val (.ref vb), .val (.int (0 : Int32))] [(.int (0 : Int32)), (.ref vb), (.int x0)]) ?_
    refine X0.baloadBytes hx (j := (0 : Int32)) (v := (.int y0)) (by rw [e0]; exact Ar5.1) (State.isArrayOf_alike hZ.alike Ar5.2.1) Ar5.2.2 hin5 hat5 (g := (mkF m 20 #[.val (.ref va), .val (.ref vb), .val (.int (0 : Int32))] [(.int (0 : Int32)), (.ref vb), (.int x0)])) rfl rfl (hb hby d18_20) _ ?_
    refine sh (mkF m 21 #[.val (.ref va), .val (.ref vb), .val (.int (0 : Int32))] [(.int y0), (.int x0)]) ?_
    refine XS.icmpNo X0.here hx rfl (hb hby d18_21) rfl (feq hq0).1 ?_
    refine sh (mkF m 24 #[.val (.ref va), .val (.ref vb), .val (.int (0 : Int32))] []) ?_
    refine XS.iconst X0.here hx rfl (hb hby d18_24) ?_
    refine sh (mkF m 25 #[.val (.ref va), .val (.ref vb), .val (.int (0 : Int32))] [(.int (0 : Int32))]) ?_
    exact retN X0 hx (t := .boolean) Bd.returns (by simp) (hb hby d18_25) hr
  · show Q_rmLE_20 Z va vb x0 x1 ka y0 y1 kb h0 n0 _ s₁.heap _
    rw [e0]
    exact ⟨rfl, N0, rfl⟩
def Q_rmLE_21 (Z : State) (va : Addr) (vb : Addr) (x0 : Int32) (x1 : Int32) (ka : ClassId) (y0 : Int32) (y1 : Int32) (kb : ClassId) (h0 : Heap) (n0 : Nat) (v : Option Value) (h : Heap) (L : List Loc) : Prop := v = some (.int (0 : Int32)) ∧ Fr n0 L ∧ h = h0
theorem ef_rmLE_21 (m : MethodId) (va : Addr) (vb : Addr) : entryFrame m #[(.ref va), (.ref vb)] 3 = mkF m 0 #[.val (.ref va), .val (.ref vb), .unset] [] := by first | (simp [entryFrame, mkF, argsToLocals, Value.category]; done) | rfl
set_option maxRecDepth 65536 in
set_option maxHeartbeats 40000000 in
theorem rmLE_21 (l : Launch) (Z : State) (a0 : Array Value) (hw : ∀ d ∈ tables_1, d.before a0 Z = true) (ws : List Jvm.Cond) (va : Addr) (vb : Addr) (x0 : Int32) (x1 : Int32) (ka : ClassId) (y0 : Int32) (y1 : Int32) (kb : ClassId) (h0 : Heap) (n0 : Nat) (Z0 : n0 ≤ h0.size) (V_va : Arv Z h0 va ka .byte (2 : Int32) [(.int x0), (.int x1)] (.int (0 : Int32))) (V_vb : Arv Z h0 vb kb .byte (2 : Int32) [(.int y0), (.int y1)] (.int (0 : Int32))) (hq0 : x0 = y0) (hq1 : ¬ (x1 = y1)) :
    MetFree l (⟨"java/lang/StringLatin1", "equals", "([B[B)Z"⟩ : MethodName) (head1 (Jvm.Cond.code (⟨"java/lang/StringLatin1", "equals", "([B[B)Z"⟩ : MethodName) jdk_43_method_13_code 3 (some .boolean) :: ws) ({ frames := 0, cells := 0, slots := 0, locals := 0 } : Room)) (fun a U => a = #[(.ref va), (.ref vb)] ∧ Z.Warmed39 U.vm ∧ U.heap = h0) (fun _ _ _ _ _ => True) (fun _ U o U' => ∃ v L, o = .returned v ∧ Q_rmLE_21 Z va vb x0 x1 ka y0 y1 kb h0 n0 v U'.heap L ∧ FrameEnd U o U' L ({ frames := 0, cells := 0, slots := 0, locals := 0 } : Room).cells ({ frames := 0, cells := 0, slots := 0, locals := 0 } : Room).slots) := by
  refine MetFree.of_bodySF (plainFor_of_name pn_0) hisR ?_
  intro p e s m args below meth c s₁ Bd hml0 hP hK
  obtain ⟨rfl, hZ, hh⟩ := hP
  have hx := Bd.exec
  have hby := Bd.bytes
  have hml : c.maxLocals = 3 := hml0
  have hown : s.vm.findClass "java/lang/StringLatin1" = some m.cls := findClass_of_methodNamed Bd.named
  have hnm := (name_of_methodNamed Bd.named Bd.method).1
  have X0 : Stand p l e ({ frames := 0, cells := 0, slots := 0, locals := 0 } : Room) s m #[(.ref va), (.ref vb)] below meth c s₁ [] 0 0 := Stand.of_body Bd
  have e0 : s₁.heap = h0 := by rw [← hh, Bd.state]; rfl
  have N0 := Fr.nil n0
  have pre0 : ∀ t, Steps p.tables e below (s₁.setTop (mkF m 0 #[.val (.ref va), .val (.ref vb), .unset] [])) t → Steps p.tables e below (s₁.setTop (entryFrame m #[(.ref va), (.ref vb)] 3)) t := fun t k => castTop (ef_rmLE_21 m va vb) k
  have Vc1 := V_va
  obtain ⟨cl1, Ar1, -, S1, M1, -, -⟩ := Vc1
  have Vc2 := V_vb
  obtain ⟨cl2, Ar2, -, S2, M2, -, -⟩ := Vc2
  have Vc3 := V_va
  obtain ⟨cl3, Ar3, -, S3, M3, -, -⟩ := Vc3
  have Vc4 := V_va
  obtain ⟨cl4, Ar4, q4, S4, M4, H4, G4⟩ := Vc4
  have hin4 : ¬ ((0 : Int32) < 0 ∨ cl4.slots.size ≤ ((0 : Int32)).toNatClampNeg) := inb_of S4 ⟨by decide, by decide⟩
  have hat4 : cl4.slots[((0 : Int32)).toNatClampNeg]? = some (.int x0) := Has.at H4 hin4 rfl
  have Vc5 := V_vb
  obtain ⟨cl5, Ar5, q5, S5, M5, H5, G5⟩ := Vc5
  have hin5 : ¬ ((0 : Int32) < 0 ∨ cl5.slots.size ≤ ((0 : Int32)).toNatClampNeg) := inb_of S5 ⟨by decide, by decide⟩
  have hat5 : cl5.slots[((0 : Int32)).toNatClampNeg]? = some (.int y0) := Has.at H5 hin5 rfl
  have Vc6 := V_va
  obtain ⟨cl6, Ar6, -, S6, M6, -, -⟩ := Vc6
  have Vc7 := V_va
  obtain ⟨cl7, Ar7, q7, S7, M7, H7, G7⟩ := Vc7
  have hin7 : ¬ ((1 : Int32) < 0 ∨ cl7.slots.size ≤ ((1 : Int32)).toNatClampNeg) := inb_of S7 ⟨by decide, by decide⟩
  have hat7 : cl7.slots[((1 : Int32)).toNatClampNeg]? = some (.int x1) := Has.at H7 hin7 rfl
  have Vc8 := V_vb
  obtain ⟨cl8, Ar8, q8, S8, M8, H8, G8⟩ := Vc8
  have hin8 : ¬ ((1 : Int32) < 0 ∨ cl8.slots.size ≤ ((1 : Int32)).toNatClampNeg) := inb_of S8 ⟨by decide, by decide⟩
  have hat8 : cl8.slots[((1 : Int32)).toNatClampNeg]? = some (.int y1) := Has.at H8 hin8 rfl
  obtain ⟨fs, hr, hrun, hended, hW, hsame⟩ := X0.leave (v := some (.int (0 : Int32))) (fun h => by rw [Bd.returns] at h; cases h)
  refine ⟨_, _, pre0 _ ?_, hrun, hended, _, _, rfl, ?_, ⟨_, rfl⟩, hW, hsame.mono (by decide) (by decide)⟩
  · refine sh (mkF m 0 #[.val (.ref va), .val (.ref vb), .unset] []) ?_
    refine XS.aloadN X0.here hx rfl (hb hby d18_0) rfl rfl ?_
    refine sh (mkF m 1 #[.val (.ref va), .val (.ref vb), .unset] [(.ref va)]) ?_
    refine X0.arraylength hx (cell := cl1) (by rw [e0]; exact Ar1.1) (State.isArrayOf_alike hZ.alike Ar1.2.1) (g := (mkF m 1 #[.val (.ref va), .val (.ref vb), .unset] [(.ref va)])) rfl (rest := []) rfl (hb hby d18_1) _ ?_
    rw [len_of S1 M1]
    refine sh (mkF m 2 #[.val (.ref va), .val (.ref vb), .unset] [(.int (2 : Int32))]) ?_
    refine XS.aloadN X0.here hx rfl (hb hby d18_2) rfl rfl ?_
    refine sh (mkF m 3 #[.val (.ref va), .val (.ref vb), .unset] [(.ref vb), (.int (2 : Int32))]) ?_
    refine X0.arraylength hx (cell := cl2) (by rw [e0]; exact Ar2.1) (State.isArrayOf_alike hZ.alike Ar2.2.1) (g := (mkF m 3 #[.val (.ref va), .val (.ref vb), .unset] [(.ref vb), (.int (2 : Int32))])) rfl (rest := [(.int (2 : Int32))]) rfl (hb hby d18_3) _ ?_
    rw [len_of S2 M2]
    refine sh (mkF m 4 #[.val (.ref va), .val (.ref vb), .unset] [(.int (2 : Int32)), (.int (2 : Int32))]) ?_
    refine XS.icmpNo X0.here hx rfl (hb hby d18_4) rfl (teq (rfl : (2 : Int32) = (2 : Int32))).2 ?_
    refine sh (mkF m 7 #[.val (.ref va), .val (.ref vb), .unset] []) ?_
    refine XS.iconst X0.here hx rfl (hb hby d18_7) ?_
    refine sh (mkF m 8 #[.val (.ref va), .val (.ref vb), .unset] [(.int (0 : Int32))]) ?_
    refine XS.istoreN X0.here hx rfl (hb hby d18_8) rfl (l' := #[.val (.ref va), .val (.ref vb), .val (.int (0 : Int32))]) rfl ?_
    refine sh (mkF m 9 #[.val (.ref va), .val (.ref vb), .val (.int (0 : Int32))] []) ?_
    refine XS.iloadN X0.here hx rfl (hb hby d18_9) rfl ?_
    refine sh (mkF m 10 #[.val (.ref va), .val (.ref vb), .val (.int (0 : Int32))] [(.int (0 : Int32))]) ?_
    refine XS.aloadN X0.here hx rfl (hb hby d18_10) rfl rfl ?_
    refine sh (mkF m 11 #[.val (.ref va), .val (.ref vb), .val (.int (0 : Int32))] [(.ref va), (.int (0 : Int32))]) ?_
    refine X0.arraylength hx (cell := cl3) (by rw [e0]; exact Ar3.1) (State.isArrayOf_alike hZ.alike Ar3.2.1) (g := (mkF m 11 #[.val (.ref va), .val (.ref vb), .val (.int (0 : Int32))] [(.ref va), (.int (0 : Int32))])) rfl (rest := [(.int (0 : Int32))]) rfl (hb hby d18_11) _ ?_
    rw [len_of S3 M3]
    refine sh (mkF m 12 #[.val (.ref va), .val (.ref vb), .val (.int (0 : Int32))] [(.int (2 : Int32)), (.int (0 : Int32))]) ?_
    refine XS.icmpNo X0.here hx rfl (hb hby d18_12) rfl (tlt (by decide : (0 : Int32) < (2 : Int32))).2.1 ?_
    refine sh (mkF m 15 #[.val (.ref va), .val (.ref vb), .val (.int (0 : Int32))] []) ?_
    refine XS.aloadN X0.here hx rfl (hb hby d18_15) rfl rfl ?_
    refine sh (mkF m 16 #[.val (.ref va), .val (.ref vb), .val (.int (0 : Int32))] [(.ref va)]) ?_
    refine XS.iloadN X0.here hx rfl (hb hby d18_16) rfl ?_
    refine sh (mkF m 17 #[.val (.ref va), .val (.ref vb), .val (.int (0 : Int32))] [(.int (0 : Int32)), (.ref va)]) ?_
    refine X0.baloadBytes hx (j := (0 : Int32)) (v := (.int x0)) (by rw [e0]; exact Ar4.1) (State.isArrayOf_alike hZ.alike Ar4.2.1) Ar4.2.2 hin4 hat4 (g := (mkF m 17 #[.val (.ref va), .val (.ref vb), .val (.int (0 : Int32))] [(.int (0 : Int32)), (.ref va)])) rfl rfl (hb hby d18_17) _ ?_
    refine sh (mkF m 18 #[.val (.ref va), .val (.ref vb), .val (.int (0 : Int32))] [(.int x0)]) ?_
    refine XS.aloadN X0.here hx rfl (hb hby d18_18) rfl rfl ?_
    refine sh (mkF m 19 #[.val (.ref va), .val (.ref vb), .val (.int (0 : Int32))] [(.ref vb), (.int x0)]) ?_
    refine XS.iloadN X0.here hx rfl (hb hby d18_19) rfl ?_
    refine sh (mkF m 20 #[.val (.ref va), .val (.ref vb), .val (.int (0 : Int32))] [(.int (0 : Int32)), (.ref vb), (.int x0)]) ?_
    refine X0.baloadBytes hx (j := (0 : Int32)) (v := (.int y0)) (by rw [e0]; exact Ar5.1) (State.isArrayOf_alike hZ.alike Ar5.2.1) Ar5.2.2 hin5 hat5 (g := (mkF m 20 #[.val (.ref va), .val (.ref vb), .val (.int (0 : Int32))] [(.int (0 : Int32)), (.ref vb), (.int x0)])) rfl rfl (hb hby d18_20) _ ?_
    refine sh (mkF m 21 #[.val (.ref va), .val (.ref vb), .val (.int (0 : Int32))] [(.int y0), (.int x0)]) ?_
    refine XS.icmpYes X0.here hx rfl (pc0 := 21) (pc' := 26) rfl (hb hby d18_21) rfl (teq hq0).1 (by decide) (by decide) ?_
    refine sh (mkF m 26 #[.val (.ref va), .val (.ref vb), .val (.int (0 : Int32))] []) ?_
    refine XS.iinc X0.here hx rfl (hb hby d18_26) rfl (l' := #[.val (.ref va), .val (.ref vb), .val (.int ((0 : Int32) + (1 : Int32)))]) rfl ?_
    refine sh (mkF m 29 #[.val (.ref va), .val (.ref vb), .val (.int ((0 : Int32) + (1 : Int32)))] []) ?_
    rw [show ((0 : Int32) + (1 : Int32)) = (1 : Int32) from by decide]
    refine sh (mkF m 29 #[.val (.ref va), .val (.ref vb), .val (.int (1 : Int32))] []) ?_
    refine XS.goto X0.here hx rfl (pc0 := 29) (pc' := 9) rfl (hb hby d18_29) (by decide) (by decide) ?_
    refine sh (mkF m 9 #[.val (.ref va), .val (.ref vb), .val (.int (1 : Int32))] []) ?_
    refine XS.iloadN X0.here hx rfl (hb hby d18_9) rfl ?_
    refine sh (mkF m 10 #[.val (.ref va), .val (.ref vb), .val (.int (1 : Int32))] [(.int (1 : Int32))]) ?_
    refine XS.aloadN X0.here hx rfl (hb hby d18_10) rfl rfl ?_
    refine sh (mkF m 11 #[.val (.ref va), .val (.ref vb), .val (.int (1 : Int32))] [(.ref va), (.int (1 : Int32))]) ?_
    refine X0.arraylength hx (cell := cl6) (by rw [e0]; exact Ar6.1) (State.isArrayOf_alike hZ.alike Ar6.2.1) (g := (mkF m 11 #[.val (.ref va), .val (.ref vb), .val (.int (1 : Int32))] [(.ref va), (.int (1 : Int32))])) rfl (rest := [(.int (1 : Int32))]) rfl (hb hby d18_11) _ ?_
    rw [len_of S6 M6]
    refine sh (mkF m 12 #[.val (.ref va), .val (.ref vb), .val (.int (1 : Int32))] [(.int (2 : Int32)), (.int (1 : Int32))]) ?_
    refine XS.icmpNo X0.here hx rfl (hb hby d18_12) rfl (tlt (by decide : (1 : Int32) < (2 : Int32))).2.1 ?_
    refine sh (mkF m 15 #[.val (.ref va), .val (.ref vb), .val (.int (1 : Int32))] []) ?_
    refine XS.aloadN X0.here hx rfl (hb hby d18_15) rfl rfl ?_
    refine sh (mkF m 16 #[.val (.ref va), .val (.ref vb), .val (.int (1 : Int32))] [(.ref va)]) ?_
    refine XS.iloadN X0.here hx rfl (hb hby d18_16) rfl ?_
    refine sh (mkF m 17 #[.val (.ref va), .val (.ref vb), .val (.int (1 : Int32))] [(.int (1 : Int32)), (.ref va)]) ?_
    refine X0.baloadBytes hx (j := (1 : Int32)) (v := (.int x1)) (by rw [e0]; exact Ar7.1) (State.isArrayOf_alike hZ.alike Ar7.2.1) Ar7.2.2 hin7 hat7 (g := (mkF m 17 #[.val (.ref va), .val (.ref vb), .val (.int (1 : Int32))] [(.int (1 : Int32)), (.ref va)])) rfl rfl (hb hby d18_17) _ ?_
    refine sh (mkF m 18 #[.val (.ref va), .val (.ref vb), .val (.int (1 : Int32))] [(.int x1)]) ?_
    refine XS.aloadN X0.here hx rfl (hb hby d18_18) rfl rfl ?_
    refine sh (mkF m 19 #[.val (.ref va), .val (.ref vb), .val (.int (1 : Int32))] [(.ref vb), (.int x1)]) ?_
    refine XS.iloadN X0.here hx rfl (hb hby d18_19) rfl ?_
    refine sh (mkF m 20 #[.val (.ref va), .val (.ref vb), .val (.int (1 : Int32))] [(.int (1 : Int32)), (.ref vb), (.int x1)]) ?_
    refine X0.baloadBytes hx (j := (1 : Int32)) (v := (.int y1)) (by rw [e0]; exact Ar8.1) (State.isArrayOf_alike hZ.alike Ar8.2.1) Ar8.2.2 hin8 hat8 (g := (mkF m 20 #[.val (.ref va), .val (.ref vb), .val (.int (1 : Int32))] [(.int (1 : Int32)), (.ref vb), (.int x1)])) rfl rfl (hb hby d18_20) _ ?_
    refine sh (mkF m 21 #[.val (.ref va), .val (.ref vb), .val (.int (1 : Int32))] [(.int y1), (.int x1)]) ?_
    refine XS.icmpNo X0.here hx rfl (hb hby d18_21) rfl (feq hq1).1 ?_
    refine sh (mkF m 24 #[.val (.ref va), .val (.ref vb), .val (.int (1 : Int32))] []) ?_
    refine XS.iconst X0.here hx rfl (hb hby d18_24) ?_
    refine sh (mkF m 25 #[.val (.ref va), .val (.ref vb), .val (.int (1 : Int32))] [(.int (0 : Int32))]) ?_
    exact retN X0 hx (t := .boolean) Bd.returns (by simp) (hb hby d18_25) hr
  · show Q_rmLE_21 Z va vb x0 x1 ka y0 y1 kb h0 n0 _ s₁.heap _
    rw [e0]
    exact ⟨rfl, N0, rfl⟩
def Q_rmLE_22 (Z : State) (va : Addr) (vb : Addr) (x0 : Int32) (x1 : Int32) (ka : ClassId) (y0 : Int32) (y1 : Int32) (kb : ClassId) (h0 : Heap) (n0 : Nat) (v : Option Value) (h : Heap) (L : List Loc) : Prop := v = some (.int (1 : Int32)) ∧ Fr n0 L ∧ h = h0
theorem ef_rmLE_22 (m : MethodId) (va : Addr) (vb : Addr) : entryFrame m #[(.ref va), (.ref vb)] 3 = mkF m 0 #[.val (.ref va), .val (.ref vb), .unset] [] := by first | (simp [entryFrame, mkF, argsToLocals, Value.category]; done) | rfl
set_option maxRecDepth 65536 in
set_option maxHeartbeats 40000000 in
theorem rmLE_22 (l : Launch) (Z : State) (a0 : Array Value) (hw : ∀ d ∈ tables_1, d.before a0 Z = true) (ws : List Jvm.Cond) (va : Addr) (vb : Addr) (x0 : Int32) (x1 : Int32) (ka : ClassId) (y0 : Int32) (y1 : Int32) (kb : ClassId) (h0 : Heap) (n0 : Nat) (Z0 : n0 ≤ h0.size) (V_va : Arv Z h0 va ka .byte (2 : Int32) [(.int x0), (.int x1)] (.int (0 : Int32))) (V_vb : Arv Z h0 vb kb .byte (2 : Int32) [(.int y0), (.int y1)] (.int (0 : Int32))) (hq0 : x0 = y0) (hq1 : x1 = y1) :
    MetFree l (⟨"java/lang/StringLatin1", "equals", "([B[B)Z"⟩ : MethodName) (head1 (Jvm.Cond.code (⟨"java/lang/StringLatin1", "equals", "([B[B)Z"⟩ : MethodName) jdk_43_method_13_code 3 (some .boolean) :: ws) ({ frames := 0, cells := 0, slots := 0, locals := 0 } : Room)) (fun a U => a = #[(.ref va), (.ref vb)] ∧ Z.Warmed39 U.vm ∧ U.heap = h0) (fun _ _ _ _ _ => True) (fun _ U o U' => ∃ v L, o = .returned v ∧ Q_rmLE_22 Z va vb x0 x1 ka y0 y1 kb h0 n0 v U'.heap L ∧ FrameEnd U o U' L ({ frames := 0, cells := 0, slots := 0, locals := 0 } : Room).cells ({ frames := 0, cells := 0, slots := 0, locals := 0 } : Room).slots) := by
  refine MetFree.of_bodySF (plainFor_of_name pn_0) hisR ?_
  intro p e s m args below meth c s₁ Bd hml0 hP hK
  obtain ⟨rfl, hZ, hh⟩ := hP
  have hx := Bd.exec
  have hby := Bd.bytes
  have hml : c.maxLocals = 3 := hml0
  have hown : s.vm.findClass "java/lang/StringLatin1" = some m.cls := findClass_of_methodNamed Bd.named
  have hnm := (name_of_methodNamed Bd.named Bd.method).1
  have X0 : Stand p l e ({ frames := 0, cells := 0, slots := 0, locals := 0 } : Room) s m #[(.ref va), (.ref vb)] below meth c s₁ [] 0 0 := Stand.of_body Bd
  have e0 : s₁.heap = h0 := by rw [← hh, Bd.state]; rfl
  have N0 := Fr.nil n0
  have pre0 : ∀ t, Steps p.tables e below (s₁.setTop (mkF m 0 #[.val (.ref va), .val (.ref vb), .unset] [])) t → Steps p.tables e below (s₁.setTop (entryFrame m #[(.ref va), (.ref vb)] 3)) t := fun t k => castTop (ef_rmLE_22 m va vb) k
  have Vc1 := V_va
  obtain ⟨cl1, Ar1, -, S1, M1, -, -⟩ := Vc1
  have Vc2 := V_vb
  obtain ⟨cl2, Ar2, -, S2, M2, -, -⟩ := Vc2
  have Vc3 := V_va
  obtain ⟨cl3, Ar3, -, S3, M3, -, -⟩ := Vc3
  have Vc4 := V_va
  obtain ⟨cl4, Ar4, q4, S4, M4, H4, G4⟩ := Vc4
  have hin4 : ¬ ((0 : Int32) < 0 ∨ cl4.slots.size ≤ ((0 : Int32)).toNatClampNeg) := inb_of S4 ⟨by decide, by decide⟩
  have hat4 : cl4.slots[((0 : Int32)).toNatClampNeg]? = some (.int x0) := Has.at H4 hin4 rfl
  have Vc5 := V_vb
  obtain ⟨cl5, Ar5, q5, S5, M5, H5, G5⟩ := Vc5
  have hin5 : ¬ ((0 : Int32) < 0 ∨ cl5.slots.size ≤ ((0 : Int32)).toNatClampNeg) := inb_of S5 ⟨by decide, by decide⟩
  have hat5 : cl5.slots[((0 : Int32)).toNatClampNeg]? = some (.int y0) := Has.at H5 hin5 rfl
  have Vc6 := V_va
  obtain ⟨cl6, Ar6, -, S6, M6, -, -⟩ := Vc6
  have Vc7 := V_va
  obtain ⟨cl7, Ar7, q7, S7, M7, H7, G7⟩ := Vc7
  have hin7 : ¬ ((1 : Int32) < 0 ∨ cl7.slots.size ≤ ((1 : Int32)).toNatClampNeg) := inb_of S7 ⟨by decide, by decide⟩
  have hat7 : cl7.slots[((1 : Int32)).toNatClampNeg]? = some (.int x1) := Has.at H7 hin7 rfl
  have Vc8 := V_vb
  obtain ⟨cl8, Ar8, q8, S8, M8, H8, G8⟩ := Vc8
  have hin8 : ¬ ((1 : Int32) < 0 ∨ cl8.slots.size ≤ ((1 : Int32)).toNatClampNeg) := inb_of S8 ⟨by decide, by decide⟩
  have hat8 : cl8.slots[((1 : Int32)).toNatClampNeg]? = some (.int y1) := Has.at H8 hin8 rfl
  have Vc9 := V_va
  obtain ⟨cl9, Ar9, -, S9, M9, -, -⟩ := Vc9
  obtain ⟨fs, hr, hrun, hended, hW, hsame⟩ := X0.leave (v := some (.int (1 : Int32))) (fun h => by rw [Bd.returns] at h; cases h)
  refine ⟨_, _, pre0 _ ?_, hrun, hended, _, _, rfl, ?_, ⟨_, rfl⟩, hW, hsame.mono (by decide) (by decide)⟩
  · refine sh (mkF m 0 #[.val (.ref va), .val (.ref vb), .unset] []) ?_
    refine XS.aloadN X0.here hx rfl (hb hby d18_0) rfl rfl ?_
    refine sh (mkF m 1 #[.val (.ref va), .val (.ref vb), .unset] [(.ref va)]) ?_
    refine X0.arraylength hx (cell := cl1) (by rw [e0]; exact Ar1.1) (State.isArrayOf_alike hZ.alike Ar1.2.1) (g := (mkF m 1 #[.val (.ref va), .val (.ref vb), .unset] [(.ref va)])) rfl (rest := []) rfl (hb hby d18_1) _ ?_
    rw [len_of S1 M1]
    refine sh (mkF m 2 #[.val (.ref va), .val (.ref vb), .unset] [(.int (2 : Int32))]) ?_
    refine XS.aloadN X0.here hx rfl (hb hby d18_2) rfl rfl ?_
    refine sh (mkF m 3 #[.val (.ref va), .val (.ref vb), .unset] [(.ref vb), (.int (2 : Int32))]) ?_
    refine X0.arraylength hx (cell := cl2) (by rw [e0]; exact Ar2.1) (State.isArrayOf_alike hZ.alike Ar2.2.1) (g := (mkF m 3 #[.val (.ref va), .val (.ref vb), .unset] [(.ref vb), (.int (2 : Int32))])) rfl (rest := [(.int (2 : Int32))]) rfl (hb hby d18_3) _ ?_
    rw [len_of S2 M2]
    refine sh (mkF m 4 #[.val (.ref va), .val (.ref vb), .unset] [(.int (2 : Int32)), (.int (2 : Int32))]) ?_
    refine XS.icmpNo X0.here hx rfl (hb hby d18_4) rfl (teq (rfl : (2 : Int32) = (2 : Int32))).2 ?_
    refine sh (mkF m 7 #[.val (.ref va), .val (.ref vb), .unset] []) ?_
    refine XS.iconst X0.here hx rfl (hb hby d18_7) ?_
    refine sh (mkF m 8 #[.val (.ref va), .val (.ref vb), .unset] [(.int (0 : Int32))]) ?_
    refine XS.istoreN X0.here hx rfl (hb hby d18_8) rfl (l' := #[.val (.ref va), .val (.ref vb), .val (.int (0 : Int32))]) rfl ?_
    refine sh (mkF m 9 #[.val (.ref va), .val (.ref vb), .val (.int (0 : Int32))] []) ?_
    refine XS.iloadN X0.here hx rfl (hb hby d18_9) rfl ?_
    refine sh (mkF m 10 #[.val (.ref va), .val (.ref vb), .val (.int (0 : Int32))] [(.int (0 : Int32))]) ?_
    refine XS.aloadN X0.here hx rfl (hb hby d18_10) rfl rfl ?_
    refine sh (mkF m 11 #[.val (.ref va), .val (.ref vb), .val (.int (0 : Int32))] [(.ref va), (.int (0 : Int32))]) ?_
    refine X0.arraylength hx (cell := cl3) (by rw [e0]; exact Ar3.1) (State.isArrayOf_alike hZ.alike Ar3.2.1) (g := (mkF m 11 #[.val (.ref va), .val (.ref vb), .val (.int (0 : Int32))] [(.ref va), (.int (0 : Int32))])) rfl (rest := [(.int (0 : Int32))]) rfl (hb hby d18_11) _ ?_
    rw [len_of S3 M3]
    refine sh (mkF m 12 #[.val (.ref va), .val (.ref vb), .val (.int (0 : Int32))] [(.int (2 : Int32)), (.int (0 : Int32))]) ?_
    refine XS.icmpNo X0.here hx rfl (hb hby d18_12) rfl (tlt (by decide : (0 : Int32) < (2 : Int32))).2.1 ?_
    refine sh (mkF m 15 #[.val (.ref va), .val (.ref vb), .val (.int (0 : Int32))] []) ?_
    refine XS.aloadN X0.here hx rfl (hb hby d18_15) rfl rfl ?_
    refine sh (mkF m 16 #[.val (.ref va), .val (.ref vb), .val (.int (0 : Int32))] [(.ref va)]) ?_
    refine XS.iloadN X0.here hx rfl (hb hby d18_16) rfl ?_
    refine sh (mkF m 17 #[.val (.ref va), .val (.ref vb), .val (.int (0 : Int32))] [(.int (0 : Int32)), (.ref va)]) ?_
    refine X0.baloadBytes hx (j := (0 : Int32)) (v := (.int x0)) (by rw [e0]; exact Ar4.1) (State.isArrayOf_alike hZ.alike Ar4.2.1) Ar4.2.2 hin4 hat4 (g := (mkF m 17 #[.val (.ref va), .val (.ref vb), .val (.int (0 : Int32))] [(.int (0 : Int32)), (.ref va)])) rfl rfl (hb hby d18_17) _ ?_
    refine sh (mkF m 18 #[.val (.ref va), .val (.ref vb), .val (.int (0 : Int32))] [(.int x0)]) ?_
    refine XS.aloadN X0.here hx rfl (hb hby d18_18) rfl rfl ?_
    refine sh (mkF m 19 #[.val (.ref va), .val (.ref vb), .val (.int (0 : Int32))] [(.ref vb), (.int x0)]) ?_
    refine XS.iloadN X0.here hx rfl (hb hby d18_19) rfl ?_
    refine sh (mkF m 20 #[.val (.ref va), .val (.ref vb), .val (.int (0 : Int32))] [(.int (0 : Int32)), (.ref vb), (.int x0)]) ?_
    refine X0.baloadBytes hx (j := (0 : Int32)) (v := (.int y0)) (by rw [e0]; exact Ar5.1) (State.isArrayOf_alike hZ.alike Ar5.2.1) Ar5.2.2 hin5 hat5 (g := (mkF m 20 #[.val (.ref va), .val (.ref vb), .val (.int (0 : Int32))] [(.int (0 : Int32)), (.ref vb), (.int x0)])) rfl rfl (hb hby d18_20) _ ?_
    refine sh (mkF m 21 #[.val (.ref va), .val (.ref vb), .val (.int (0 : Int32))] [(.int y0), (.int x0)]) ?_
    refine XS.icmpYes X0.here hx rfl (pc0 := 21) (pc' := 26) rfl (hb hby d18_21) rfl (teq hq0).1 (by decide) (by decide) ?_
    refine sh (mkF m 26 #[.val (.ref va), .val (.ref vb), .val (.int (0 : Int32))] []) ?_
    refine XS.iinc X0.here hx rfl (hb hby d18_26) rfl (l' := #[.val (.ref va), .val (.ref vb), .val (.int ((0 : Int32) + (1 : Int32)))]) rfl ?_
    refine sh (mkF m 29 #[.val (.ref va), .val (.ref vb), .val (.int ((0 : Int32) + (1 : Int32)))] []) ?_
    rw [show ((0 : Int32) + (1 : Int32)) = (1 : Int32) from by decide]
    refine sh (mkF m 29 #[.val (.ref va), .val (.ref vb), .val (.int (1 : Int32))] []) ?_
    refine XS.goto X0.here hx rfl (pc0 := 29) (pc' := 9) rfl (hb hby d18_29) (by decide) (by decide) ?_
    refine sh (mkF m 9 #[.val (.ref va), .val (.ref vb), .val (.int (1 : Int32))] []) ?_
    refine XS.iloadN X0.here hx rfl (hb hby d18_9) rfl ?_
    refine sh (mkF m 10 #[.val (.ref va), .val (.ref vb), .val (.int (1 : Int32))] [(.int (1 : Int32))]) ?_
    refine XS.aloadN X0.here hx rfl (hb hby d18_10) rfl rfl ?_
    refine sh (mkF m 11 #[.val (.ref va), .val (.ref vb), .val (.int (1 : Int32))] [(.ref va), (.int (1 : Int32))]) ?_
    refine X0.arraylength hx (cell := cl6) (by rw [e0]; exact Ar6.1) (State.isArrayOf_alike hZ.alike Ar6.2.1) (g := (mkF m 11 #[.val (.ref va), .val (.ref vb), .val (.int (1 : Int32))] [(.ref va), (.int (1 : Int32))])) rfl (rest := [(.int (1 : Int32))]) rfl (hb hby d18_11) _ ?_
    rw [len_of S6 M6]
    refine sh (mkF m 12 #[.val (.ref va), .val (.ref vb), .val (.int (1 : Int32))] [(.int (2 : Int32)), (.int (1 : Int32))]) ?_
    refine XS.icmpNo X0.here hx rfl (hb hby d18_12) rfl (tlt (by decide : (1 : Int32) < (2 : Int32))).2.1 ?_
    refine sh (mkF m 15 #[.val (.ref va), .val (.ref vb), .val (.int (1 : Int32))] []) ?_
    refine XS.aloadN X0.here hx rfl (hb hby d18_15) rfl rfl ?_
    refine sh (mkF m 16 #[.val (.ref va), .val (.ref vb), .val (.int (1 : Int32))] [(.ref va)]) ?_
    refine XS.iloadN X0.here hx rfl (hb hby d18_16) rfl ?_
    refine sh (mkF m 17 #[.val (.ref va), .val (.ref vb), .val (.int (1 : Int32))] [(.int (1 : Int32)), (.ref va)]) ?_
    refine X0.baloadBytes hx (j := (1 : Int32)) (v := (.int x1)) (by rw [e0]; exact Ar7.1) (State.isArrayOf_alike hZ.alike Ar7.2.1) Ar7.2.2 hin7 hat7 (g := (mkF m 17 #[.val (.ref va), .val (.ref vb), .val (.int (1 : Int32))] [(.int (1 : Int32)), (.ref va)])) rfl rfl (hb hby d18_17) _ ?_
    refine sh (mkF m 18 #[.val (.ref va), .val (.ref vb), .val (.int (1 : Int32))] [(.int x1)]) ?_
    refine XS.aloadN X0.here hx rfl (hb hby d18_18) rfl rfl ?_
    refine sh (mkF m 19 #[.val (.ref va), .val (.ref vb), .val (.int (1 : Int32))] [(.ref vb), (.int x1)]) ?_
    refine XS.iloadN X0.here hx rfl (hb hby d18_19) rfl ?_
    refine sh (mkF m 20 #[.val (.ref va), .val (.ref vb), .val (.int (1 : Int32))] [(.int (1 : Int32)), (.ref vb), (.int x1)]) ?_
    refine X0.baloadBytes hx (j := (1 : Int32)) (v := (.int y1)) (by rw [e0]; exact Ar8.1) (State.isArrayOf_alike hZ.alike Ar8.2.1) Ar8.2.2 hin8 hat8 (g := (mkF m 20 #[.val (.ref va), .val (.ref vb), .val (.int (1 : Int32))] [(.int (1 : Int32)), (.ref vb), (.int x1)])) rfl rfl (hb hby d18_20) _ ?_
    refine sh (mkF m 21 #[.val (.ref va), .val (.ref vb), .val (.int (1 : Int32))] [(.int y1), (.int x1)]) ?_
    refine XS.icmpYes X0.here hx rfl (pc0 := 21) (pc' := 26) rfl (hb hby d18_21) rfl (teq hq1).1 (by decide) (by decide) ?_
    refine sh (mkF m 26 #[.val (.ref va), .val (.ref vb), .val (.int (1 : Int32))] []) ?_
    refine XS.iinc X0.here hx rfl (hb hby d18_26) rfl (l' := #[.val (.ref va), .val (.ref vb), .val (.int ((1 : Int32) + (1 : Int32)))]) rfl ?_
    refine sh (mkF m 29 #[.val (.ref va), .val (.ref vb), .val (.int ((1 : Int32) + (1 : Int32)))] []) ?_
    rw [show ((1 : Int32) + (1 : Int32)) = (2 : Int32) from by decide]
    refine sh (mkF m 29 #[.val (.ref va), .val (.ref vb), .val (.int (2 : Int32))] []) ?_
    refine XS.goto X0.here hx rfl (pc0 := 29) (pc' := 9) rfl (hb hby d18_29) (by decide) (by decide) ?_
    refine sh (mkF m 9 #[.val (.ref va), .val (.ref vb), .val (.int (2 : Int32))] []) ?_
    refine XS.iloadN X0.here hx rfl (hb hby d18_9) rfl ?_
    refine sh (mkF m 10 #[.val (.ref va), .val (.ref vb), .val (.int (2 : Int32))] [(.int (2 : Int32))]) ?_
    refine XS.aloadN X0.here hx rfl (hb hby d18_10) rfl rfl ?_
    refine sh (mkF m 11 #[.val (.ref va), .val (.ref vb), .val (.int (2 : Int32))] [(.ref va), (.int (2 : Int32))]) ?_
    refine X0.arraylength hx (cell := cl9) (by rw [e0]; exact Ar9.1) (State.isArrayOf_alike hZ.alike Ar9.2.1) (g := (mkF m 11 #[.val (.ref va), .val (.ref vb), .val (.int (2 : Int32))] [(.ref va), (.int (2 : Int32))])) rfl (rest := [(.int (2 : Int32))]) rfl (hb hby d18_11) _ ?_
    rw [len_of S9 M9]
    refine sh (mkF m 12 #[.val (.ref va), .val (.ref vb), .val (.int (2 : Int32))] [(.int (2 : Int32)), (.int (2 : Int32))]) ?_
    refine XS.icmpYes X0.here hx rfl (pc0 := 12) (pc' := 32) rfl (hb hby d18_12) rfl (flt (by decide : ¬ ((2 : Int32) < (2 : Int32)))).2.1 (by decide) (by decide) ?_
    refine sh (mkF m 32 #[.val (.ref va), .val (.ref vb), .val (.int (2 : Int32))] []) ?_
    refine XS.iconst X0.here hx rfl (hb hby d18_32) ?_
    refine sh (mkF m 33 #[.val (.ref va), .val (.ref vb), .val (.int (2 : Int32))] [(.int (1 : Int32))]) ?_
    exact retN X0 hx (t := .boolean) Bd.returns (by simp) (hb hby d18_33) hr
  · show Q_rmLE_22 Z va vb x0 x1 ka y0 y1 kb h0 n0 _ s₁.heap _
    rw [e0]
    exact ⟨rfl, N0, rfl⟩
def Q_rmLE_30 (Z : State) (va : Addr) (vb : Addr) (x0 : Int32) (x1 : Int32) (x2 : Int32) (ka : ClassId) (y0 : Int32) (y1 : Int32) (y2 : Int32) (kb : ClassId) (h0 : Heap) (n0 : Nat) (v : Option Value) (h : Heap) (L : List Loc) : Prop := v = some (.int (0 : Int32)) ∧ Fr n0 L ∧ h = h0
theorem ef_rmLE_30 (m : MethodId) (va : Addr) (vb : Addr) : entryFrame m #[(.ref va), (.ref vb)] 3 = mkF m 0 #[.val (.ref va), .val (.ref vb), .unset] [] := by first | (simp [entryFrame, mkF, argsToLocals, Value.category]; done) | rfl
set_option maxRecDepth 65536 in
set_option maxHeartbeats 40000000 in
theorem rmLE_30 (l : Launch) (Z : State) (a0 : Array Value) (hw : ∀ d ∈ tables_1, d.before a0 Z = true) (ws : List Jvm.Cond) (va : Addr) (vb : Addr) (x0 : Int32) (x1 : Int32) (x2 : Int32) (ka : ClassId) (y0 : Int32) (y1 : Int32) (y2 : Int32) (kb : ClassId) (h0 : Heap) (n0 : Nat) (Z0 : n0 ≤ h0.size) (V_va : Arv Z h0 va ka .byte (3 : Int32) [(.int x0), (.int x1), (.int x2)] (.int (0 : Int32))) (V_vb : Arv Z h0 vb kb .byte (3 : Int32) [(.int y0), (.int y1), (.int y2)] (.int (0 : Int32))) (hq0 : ¬ (x0 = y0)) :
    MetFree l (⟨"java/lang/StringLatin1", "equals", "([B[B)Z"⟩ : MethodName) (head1 (Jvm.Cond.code (⟨"java/lang/StringLatin1", "equals", "([B[B)Z"⟩ : MethodName) jdk_43_method_13_code 3 (some .boolean) :: ws) ({ frames := 0, cells := 0, slots := 0, locals := 0 } : Room)) (fun a U => a = #[(.ref va), (.ref vb)] ∧ Z.Warmed39 U.vm ∧ U.heap = h0) (fun _ _ _ _ _ => True) (fun _ U o U' => ∃ v L, o = .returned v ∧ Q_rmLE_30 Z va vb x0 x1 x2 ka y0 y1 y2 kb h0 n0 v U'.heap L ∧ FrameEnd U o U' L ({ frames := 0, cells := 0, slots := 0, locals := 0 } : Room).cells ({ frames := 0, cells := 0, slots := 0, locals := 0 } : Room).slots) := by
  refine MetFree.of_bodySF (plainFor_of_name pn_0) hisR ?_
  intro p e s m args below meth c s₁ Bd hml0 hP hK
  obtain ⟨rfl, hZ, hh⟩ := hP
  have hx := Bd.exec
  have hby := Bd.bytes
  have hml : c.maxLocals = 3 := hml0
  have hown : s.vm.findClass "java/lang/StringLatin1" = some m.cls := findClass_of_methodNamed Bd.named
  have hnm := (name_of_methodNamed Bd.named Bd.method).1
  have X0 : Stand p l e ({ frames := 0, cells := 0, slots := 0, locals := 0 } : Room) s m #[(.ref va), (.ref vb)] below meth c s₁ [] 0 0 := Stand.of_body Bd
  have e0 : s₁.heap = h0 := by rw [← hh, Bd.state]; rfl
  have N0 := Fr.nil n0
  have pre0 : ∀ t, Steps p.tables e below (s₁.setTop (mkF m 0 #[.val (.ref va), .val (.ref vb), .unset] [])) t → Steps p.tables e below (s₁.setTop (entryFrame m #[(.ref va), (.ref vb)] 3)) t := fun t k => castTop (ef_rmLE_30 m va vb) k
  have Vc1 := V_va
  obtain ⟨cl1, Ar1, -, S1, M1, -, -⟩ := Vc1
  have Vc2 := V_vb
  obtain ⟨cl2, Ar2, -, S2, M2, -, -⟩ := Vc2
  have Vc3 := V_va
  obtain ⟨cl3, Ar3, -, S3, M3, -, -⟩ := Vc3
  have Vc4 := V_va
  obtain ⟨cl4, Ar4, q4, S4, M4, H4, G4⟩ := Vc4
  have hin4 : ¬ ((0 : Int32) < 0 ∨ cl4.slots.size ≤ ((0 : Int32)).toNatClampNeg) := inb_of S4 ⟨by decide, by decide⟩
  have hat4 : cl4.slots[((0 : Int32)).toNatClampNeg]? = some (.int x0) := Has.at H4 hin4 rfl
  have Vc5 := V_vb
  obtain ⟨cl5, Ar5, q5, S5, M5, H5, G5⟩ := Vc5
  have hin5 : ¬ ((0 : Int32) < 0 ∨ cl5.slots.size ≤ ((0 : Int32)).toNatClampNeg) := inb_of S5 ⟨by decide, by decide⟩
  have hat5 : cl5.slots[((0 : Int32)).toNatClampNeg]? = some (.int y0) := Has.at H5 hin5 rfl
  obtain ⟨fs, hr, hrun, hended, hW, hsame⟩ := X0.leave (v := some (.int (0 : Int32))) (fun h => by rw [Bd.returns] at h; cases h)
  refine ⟨_, _, pre0 _ ?_, hrun, hended, _, _, rfl, ?_, ⟨_, rfl⟩, hW, hsame.mono (by decide) (by decide)⟩
  · refine sh (mkF m 0 #[.val (.ref va), .val (.ref vb), .unset] []) ?_
    refine XS.aloadN X0.here hx rfl (hb hby d18_0) rfl rfl ?_
    refine sh (mkF m 1 #[.val (.ref va), .val (.ref vb), .unset] [(.ref va)]) ?_
    refine X0.arraylength hx (cell := cl1) (by rw [e0]; exact Ar1.1) (State.isArrayOf_alike hZ.alike Ar1.2.1) (g := (mkF m 1 #[.val (.ref va), .val (.ref vb), .unset] [(.ref va)])) rfl (rest := []) rfl (hb hby d18_1) _ ?_
    rw [len_of S1 M1]
    refine sh (mkF m 2 #[.val (.ref va), .val (.ref vb), .unset] [(.int (3 : Int32))]) ?_
    refine XS.aloadN X0.here hx rfl (hb hby d18_2) rfl rfl ?_
    refine sh (mkF m 3 #[.val (.ref va), .val (.ref vb), .unset] [(.ref vb), (.int (3 : Int32))]) ?_
    refine X0.arraylength hx (cell := cl2) (by rw [e0]; exact Ar2.1) (State.isArrayOf_alike hZ.alike Ar2.2.1) (g := (mkF m 3 #[.val (.ref va), .val (.ref vb), .unset] [(.ref vb), (.int (3 : Int32))])) rfl (rest := [(.int (3 : Int32))]) rfl (hb hby d18_3) _ ?_
    rw [len_of S2 M2]
    refine sh (mkF m 4 #[.val (.ref va), .val (.ref vb), .unset] [(.int (3 : Int32)), (.int (3 : Int32))]) ?_
    refine XS.icmpNo X0.here hx rfl (hb hby d18_4) rfl (teq (rfl : (3 : Int32) = (3 : Int32))).2 ?_
    refine sh (mkF m 7 #[.val (.ref va), .val (.ref vb), .unset] []) ?_
    refine XS.iconst X0.here hx rfl (hb hby d18_7) ?_
    refine sh (mkF m 8 #[.val (.ref va), .val (.ref vb), .unset] [(.int (0 : Int32))]) ?_
    refine XS.istoreN X0.here hx rfl (hb hby d18_8) rfl (l' := #[.val (.ref va), .val (.ref vb), .val (.int (0 : Int32))]) rfl ?_
    refine sh (mkF m 9 #[.val (.ref va), .val (.ref vb), .val (.int (0 : Int32))] []) ?_
    refine XS.iloadN X0.here hx rfl (hb hby d18_9) rfl ?_
    refine sh (mkF m 10 #[.val (.ref va), .val (.ref vb), .val (.int (0 : Int32))] [(.int (0 : Int32))]) ?_
    refine XS.aloadN X0.here hx rfl (hb hby d18_10) rfl rfl ?_
    refine sh (mkF m 11 #[.val (.ref va), .val (.ref vb), .val (.int (0 : Int32))] [(.ref va), (.int (0 : Int32))]) ?_
    refine X0.arraylength hx (cell := cl3) (by rw [e0]; exact Ar3.1) (State.isArrayOf_alike hZ.alike Ar3.2.1) (g := (mkF m 11 #[.val (.ref va), .val (.ref vb), .val (.int (0 : Int32))] [(.ref va), (.int (0 : Int32))])) rfl (rest := [(.int (0 : Int32))]) rfl (hb hby d18_11) _ ?_
    rw [len_of S3 M3]
    refine sh (mkF m 12 #[.val (.ref va), .val (.ref vb), .val (.int (0 : Int32))] [(.int (3 : Int32)), (.int (0 : Int32))]) ?_
    refine XS.icmpNo X0.here hx rfl (hb hby d18_12) rfl (tlt (by decide : (0 : Int32) < (3 : Int32))).2.1 ?_
    refine sh (mkF m 15 #[.val (.ref va), .val (.ref vb), .val (.int (0 : Int32))] []) ?_
    refine XS.aloadN X0.here hx rfl (hb hby d18_15) rfl rfl ?_
    refine sh (mkF m 16 #[.val (.ref va), .val (.ref vb), .val (.int (0 : Int32))] [(.ref va)]) ?_
    refine XS.iloadN X0.here hx rfl (hb hby d18_16) rfl ?_
    refine sh (mkF m 17 #[.val (.ref va), .val (.ref vb), .val (.int (0 : Int32))] [(.int (0 : Int32)), (.ref va)]) ?_
    refine X0.baloadBytes hx (j := (0 : Int32)) (v := (.int x0)) (by rw [e0]; exact Ar4.1) (State.isArrayOf_alike hZ.alike Ar4.2.1) Ar4.2.2 hin4 hat4 (g := (mkF m 17 #[.val (.ref va), .val (.ref vb), .val (.int (0 : Int32))] [(.int (0 : Int32)), (.ref va)])) rfl rfl (hb hby d18_17) _ ?_
    refine sh (mkF m 18 #[.val (.ref va), .val (.ref vb), .val (.int (0 : Int32))] [(.int x0)]) ?_
    refine XS.aloadN X0.here hx rfl (hb hby d18_18) rfl rfl ?_
    refine sh (mkF m 19 #[.val (.ref va), .val (.ref vb), .val (.int (0 : Int32))] [(.ref vb), (.int x0)]) ?_
    refine XS.iloadN X0.here hx rfl (hb hby d18_19) rfl ?_
    refine sh (mkF m 20 #[.val (.ref va), .val (.ref vb), .val (.int (0 : Int32))] [(.int (0 : Int32)), (.ref vb), (.int x0)]) ?_
    refine X0.baloadBytes hx (j := (0 : Int32)) (v := (.int y0)) (by rw [e0]; exact Ar5.1) (State.isArrayOf_alike hZ.alike Ar5.2.1) Ar5.2.2 hin5 hat5 (g := (mkF m 20 #[.val (.ref va), .val (.ref vb), .val (.int (0 : Int32))] [(.int (0 : Int32)), (.ref vb), (.int x0)])) rfl rfl (hb hby d18_20) _ ?_
    refine sh (mkF m 21 #[.val (.ref va), .val (.ref vb), .val (.int (0 : Int32))] [(.int y0), (.int x0)]) ?_
    refine XS.icmpNo X0.here hx rfl (hb hby d18_21) rfl (feq hq0).1 ?_
    refine sh (mkF m 24 #[.val (.ref va), .val (.ref vb), .val (.int (0 : Int32))] []) ?_
    refine XS.iconst X0.here hx rfl (hb hby d18_24) ?_
    refine sh (mkF m 25 #[.val (.ref va), .val (.ref vb), .val (.int (0 : Int32))] [(.int (0 : Int32))]) ?_
    exact retN X0 hx (t := .boolean) Bd.returns (by simp) (hb hby d18_25) hr
  · show Q_rmLE_30 Z va vb x0 x1 x2 ka y0 y1 y2 kb h0 n0 _ s₁.heap _
    rw [e0]
    exact ⟨rfl, N0, rfl⟩
def Q_rmLE_31 (Z : State) (va : Addr) (vb : Addr) (x0 : Int32) (x1 : Int32) (x2 : Int32) (ka : ClassId) (y0 : Int32) (y1 : Int32) (y2 : Int32) (kb : ClassId) (h0 : Heap) (n0 : Nat) (v : Option Value) (h : Heap) (L : List Loc) : Prop := v = some (.int (0 : Int32)) ∧ Fr n0 L ∧ h = h0
theorem ef_rmLE_31 (m : MethodId) (va : Addr) (vb : Addr) : entryFrame m #[(.ref va), (.ref vb)] 3 = mkF m 0 #[.val (.ref va), .val (.ref vb), .unset] [] := by first | (simp [entryFrame, mkF, argsToLocals, Value.category]; done) | rfl
set_option maxRecDepth 65536 in
set_option maxHeartbeats 40000000 in
theorem rmLE_31 (l : Launch) (Z : State) (a0 : Array Value) (hw : ∀ d ∈ tables_1, d.before a0 Z = true) (ws : List Jvm.Cond) (va : Addr) (vb : Addr) (x0 : Int32) (x1 : Int32) (x2 : Int32) (ka : ClassId) (y0 : Int32) (y1 : Int32) (y2 : Int32) (kb : ClassId) (h0 : Heap) (n0 : Nat) (Z0 : n0 ≤ h0.size) (V_va : Arv Z h0 va ka .byte (3 : Int32) [(.int x0), (.int x1), (.int x2)] (.int (0 : Int32))) (V_vb : Arv Z h0 vb kb .byte (3 : Int32) [(.int y0), (.int y1), (.int y2)] (.int (0 : Int32))) (hq0 : x0 = y0) (hq1 : ¬ (x1 = y1)) :
    MetFree l (⟨"java/lang/StringLatin1", "equals", "([B[B)Z"⟩ : MethodName) (head1 (Jvm.Cond.code (⟨"java/lang/StringLatin1", "equals", "([B[B)Z"⟩ : MethodName) jdk_43_method_13_code 3 (some .boolean) :: ws) ({ frames := 0, cells := 0, slots := 0, locals := 0 } : Room)) (fun a U => a = #[(.ref va), (.ref vb)] ∧ Z.Warmed39 U.vm ∧ U.heap = h0) (fun _ _ _ _ _ => True) (fun _ U o U' => ∃ v L, o = .returned v ∧ Q_rmLE_31 Z va vb x0 x1 x2 ka y0 y1 y2 kb h0 n0 v U'.heap L ∧ FrameEnd U o U' L ({ frames := 0, cells := 0, slots := 0, locals := 0 } : Room).cells ({ frames := 0, cells := 0, slots := 0, locals := 0 } : Room).slots) := by
  refine MetFree.of_bodySF (plainFor_of_name pn_0) hisR ?_
  intro p e s m args below meth c s₁ Bd hml0 hP hK
  obtain ⟨rfl, hZ, hh⟩ := hP
  have hx := Bd.exec
  have hby := Bd.bytes
  have hml : c.maxLocals = 3 := hml0
  have hown : s.vm.findClass "java/lang/StringLatin1" = some m.cls := findClass_of_methodNamed Bd.named
  have hnm := (name_of_methodNamed Bd.named Bd.method).1
  have X0 : Stand p l e ({ frames := 0, cells := 0, slots := 0, locals := 0 } : Room) s m #[(.ref va), (.ref vb)] below meth c s₁ [] 0 0 := Stand.of_body Bd
  have e0 : s₁.heap = h0 := by rw [← hh, Bd.state]; rfl
  have N0 := Fr.nil n0
  have pre0 : ∀ t, Steps p.tables e below (s₁.setTop (mkF m 0 #[.val (.ref va), .val (.ref vb), .unset] [])) t → Steps p.tables e below (s₁.setTop (entryFrame m #[(.ref va), (.ref vb)] 3)) t := fun t k => castTop (ef_rmLE_31 m va vb) k
  have Vc1 := V_va
  obtain ⟨cl1, Ar1, -, S1, M1, -, -⟩ := Vc1
  have Vc2 := V_vb
  obtain ⟨cl2, Ar2, -, S2, M2, -, -⟩ := Vc2
  have Vc3 := V_va
  obtain ⟨cl3, Ar3, -, S3, M3, -, -⟩ := Vc3
  have Vc4 := V_va
  obtain ⟨cl4, Ar4, q4, S4, M4, H4, G4⟩ := Vc4
  have hin4 : ¬ ((0 : Int32) < 0 ∨ cl4.slots.size ≤ ((0 : Int32)).toNatClampNeg) := inb_of S4 ⟨by decide, by decide⟩
  have hat4 : cl4.slots[((0 : Int32)).toNatClampNeg]? = some (.int x0) := Has.at H4 hin4 rfl
  have Vc5 := V_vb
  obtain ⟨cl5, Ar5, q5, S5, M5, H5, G5⟩ := Vc5
  have hin5 : ¬ ((0 : Int32) < 0 ∨ cl5.slots.size ≤ ((0 : Int32)).toNatClampNeg) := inb_of S5 ⟨by decide, by decide⟩
  have hat5 : cl5.slots[((0 : Int32)).toNatClampNeg]? = some (.int y0) := Has.at H5 hin5 rfl
  have Vc6 := V_va
  obtain ⟨cl6, Ar6, -, S6, M6, -, -⟩ := Vc6
  have Vc7 := V_va
  obtain ⟨cl7, Ar7, q7, S7, M7, H7, G7⟩ := Vc7
  have hin7 : ¬ ((1 : Int32) < 0 ∨ cl7.slots.size ≤ ((1 : Int32)).toNatClampNeg) := inb_of S7 ⟨by decide, by decide⟩
  have hat7 : cl7.slots[((1 : Int32)).toNatClampNeg]? = some (.int x1) := Has.at H7 hin7 rfl
  have Vc8 := V_vb
  obtain ⟨cl8, Ar8, q8, S8, M8, H8, G8⟩ := Vc8
  have hin8 : ¬ ((1 : Int32) < 0 ∨ cl8.slots.size ≤ ((1 : Int32)).toNatClampNeg) := inb_of S8 ⟨by decide, by decide⟩
  have hat8 : cl8.slots[((1 : Int32)).toNatClampNeg]? = some (.int y1) := Has.at H8 hin8 rfl
  obtain ⟨fs, hr, hrun, hended, hW, hsame⟩ := X0.leave (v := some (.int (0 : Int32))) (fun h => by rw [Bd.returns] at h; cases h)
  refine ⟨_, _, pre0 _ ?_, hrun, hended, _, _, rfl, ?_, ⟨_, rfl⟩, hW, hsame.mono (by decide) (by decide)⟩
  · refine sh (mkF m 0 #[.val (.ref va), .val (.ref vb), .unset] []) ?_
    refine XS.aloadN X0.here hx rfl (hb hby d18_0) rfl rfl ?_
    refine sh (mkF m 1 #[.val (.ref va), .val (.ref vb), .unset] [(.ref va)]) ?_
    refine X0.arraylength hx (cell := cl1) (by rw [e0]; exact Ar1.1) (State.isArrayOf_alike hZ.alike Ar1.2.1) (g := (mkF m 1 #[.val (.ref va), .val (.ref vb), .unset] [(.ref va)])) rfl (rest := []) rfl (hb hby d18_1) _ ?_
    rw [len_of S1 M1]
    refine sh (mkF m 2 #[.val (.ref va), .val (.ref vb), .unset] [(.int (3 : Int32))]) ?_
    refine XS.aloadN X0.here hx rfl (hb hby d18_2) rfl rfl ?_
    refine sh (mkF m 3 #[.val (.ref va), .val (.ref vb), .unset] [(.ref vb), (.int (3 : Int32))]) ?_
    refine X0.arraylength hx (cell := cl2) (by rw [e0]; exact Ar2.1) (State.isArrayOf_alike hZ.alike Ar2.2.1) (g := (mkF m 3 #[.val (.ref va), .val (.ref vb), .unset] [(.ref vb), (.int (3 : Int32))])) rfl (rest := [(.int (3 : Int32))]) rfl (hb hby d18_3) _ ?_
    rw [len_of S2 M2]
    refine sh (mkF m 4 #[.val (.ref va), .val (.ref vb), .unset] [(.int (3 : Int32)), (.int (3 : Int32))]) ?_
    refine XS.icmpNo X0.here hx rfl (hb hby d18_4) rfl (teq (rfl : (3 : Int32) = (3 : Int32))).2 ?_
    refine sh (mkF m 7 #[.val (.ref va), .val (.ref vb), .unset] []) ?_
    refine XS.iconst X0.here hx rfl (hb hby d18_7) ?_
    refine sh (mkF m 8 #[.val (.ref va), .val (.ref vb), .unset] [(.int (0 : Int32))]) ?_
    refine XS.istoreN X0.here hx rfl (hb hby d18_8) rfl (l' := #[.val (.ref va), .val (.ref vb), .val (.int (0 : Int32))]) rfl ?_
    refine sh (mkF m 9 #[.val (.ref va), .val (.ref vb), .val (.int (0 : Int32))] []) ?_
    refine XS.iloadN X0.here hx rfl (hb hby d18_9) rfl ?_
    refine sh (mkF m 10 #[.val (.ref va), .val (.ref vb), .val (.int (0 : Int32))] [(.int (0 : Int32))]) ?_
    refine XS.aloadN X0.here hx rfl (hb hby d18_10) rfl rfl ?_
    refine sh (mkF m 11 #[.val (.ref va), .val (.ref vb), .val (.int (0 : Int32))] [(.ref va), (.int (0 : Int32))]) ?_
    refine X0.arraylength hx (cell := cl3) (by rw [e0]; exact Ar3.1) (State.isArrayOf_alike hZ.alike Ar3.2.1) (g := (mkF m 11 #[.val (.ref va), .val (.ref vb), .val (.int (0 : Int32))] [(.ref va), (.int (0 : Int32))])) rfl (rest := [(.int (0 : Int32))]) rfl (hb hby d18_11) _ ?_
    rw [len_of S3 M3]
    refine sh (mkF m 12 #[.val (.ref va), .val (.ref vb), .val (.int (0 : Int32))] [(.int (3 : Int32)), (.int (0 : Int32))]) ?_
    refine XS.icmpNo X0.here hx rfl (hb hby d18_12) rfl (tlt (by decide : (0 : Int32) < (3 : Int32))).2.1 ?_
    refine sh (mkF m 15 #[.val (.ref va), .val (.ref vb), .val (.int (0 : Int32))] []) ?_
    refine XS.aloadN X0.here hx rfl (hb hby d18_15) rfl rfl ?_
    refine sh (mkF m 16 #[.val (.ref va), .val (.ref vb), .val (.int (0 : Int32))] [(.ref va)]) ?_
    refine XS.iloadN X0.here hx rfl (hb hby d18_16) rfl ?_
    refine sh (mkF m 17 #[.val (.ref va), .val (.ref vb), .val (.int (0 : Int32))] [(.int (0 : Int32)), (.ref va)]) ?_
    refine X0.baloadBytes hx (j := (0 : Int32)) (v := (.int x0)) (by rw [e0]; exact Ar4.1) (State.isArrayOf_alike hZ.alike Ar4.2.1) Ar4.2.2 hin4 hat4 (g := (mkF m 17 #[.val (.ref va), .val (.ref vb), .val (.int (0 : Int32))] [(.int (0 : Int32)), (.ref va)])) rfl rfl (hb hby d18_17) _ ?_
    refine sh (mkF m 18 #[.val (.ref va), .val (.ref vb), .val (.int (0 : Int32))] [(.int x0)]) ?_
    refine XS.aloadN X0.here hx rfl (hb hby d18_18) rfl rfl ?_
    refine sh (mkF m 19 #[.val (.ref va), .val (.ref vb), .val (.int (0 : Int32))] [(.ref vb), (.int x0)]) ?_
    refine XS.iloadN X0.here hx rfl (hb hby d18_19) rfl ?_
    refine sh (mkF m 20 #[.val (.ref va), .val (.ref vb), .val (.int (0 : Int32))] [(.int (0 : Int32)), (.ref vb), (.int x0)]) ?_
    refine X0.baloadBytes hx (j := (0 : Int32)) (v := (.int y0)) (by rw [e0]; exact Ar5.1) (State.isArrayOf_alike hZ.alike Ar5.2.1) Ar5.2.2 hin5 hat5 (g := (mkF m 20 #[.val (.ref va), .val (.ref vb), .val (.int (0 : Int32))] [(.int (0 : Int32)), (.ref vb), (.int x0)])) rfl rfl (hb hby d18_20) _ ?_
    refine sh (mkF m 21 #[.val (.ref va), .val (.ref vb), .val (.int (0 : Int32))] [(.int y0), (.int x0)]) ?_
    refine XS.icmpYes X0.here hx rfl (pc0 := 21) (pc' := 26) rfl (hb hby d18_21) rfl (teq hq0).1 (by decide) (by decide) ?_
    refine sh (mkF m 26 #[.val (.ref va), .val (.ref vb), .val (.int (0 : Int32))] []) ?_
    refine XS.iinc X0.here hx rfl (hb hby d18_26) rfl (l' := #[.val (.ref va), .val (.ref vb), .val (.int ((0 : Int32) + (1 : Int32)))]) rfl ?_
    refine sh (mkF m 29 #[.val (.ref va), .val (.ref vb), .val (.int ((0 : Int32) + (1 : Int32)))] []) ?_
    rw [show ((0 : Int32) + (1 : Int32)) = (1 : Int32) from by decide]
    refine sh (mkF m 29 #[.val (.ref va), .val (.ref vb), .val (.int (1 : Int32))] []) ?_
    refine XS.goto X0.here hx rfl (pc0 := 29) (pc' := 9) rfl (hb hby d18_29) (by decide) (by decide) ?_
    refine sh (mkF m 9 #[.val (.ref va), .val (.ref vb), .val (.int (1 : Int32))] []) ?_
    refine XS.iloadN X0.here hx rfl (hb hby d18_9) rfl ?_
    refine sh (mkF m 10 #[.val (.ref va), .val (.ref vb), .val (.int (1 : Int32))] [(.int (1 : Int32))]) ?_
    refine XS.aloadN X0.here hx rfl (hb hby d18_10) rfl rfl ?_
    refine sh (mkF m 11 #[.val (.ref va), .val (.ref vb), .val (.int (1 : Int32))] [(.ref va), (.int (1 : Int32))]) ?_
    refine X0.arraylength hx (cell := cl6) (by rw [e0]; exact Ar6.1) (State.isArrayOf_alike hZ.alike Ar6.2.1) (g := (mkF m 11 #[.val (.ref va), .val (.ref vb), .val (.int (1 : Int32))] [(.ref va), (.int (1 : Int32))])) rfl (rest := [(.int (1 : Int32))]) rfl (hb hby d18_11) _ ?_
    rw [len_of S6 M6]
    refine sh (mkF m 12 #[.val (.ref va), .val (.ref vb), .val (.int (1 : Int32))] [(.int (3 : Int32)), (.int (1 : Int32))]) ?_
    refine XS.icmpNo X0.here hx rfl (hb hby d18_12) rfl (tlt (by decide : (1 : Int32) < (3 : Int32))).2.1 ?_
    refine sh (mkF m 15 #[.val (.ref va), .val (.ref vb), .val (.int (1 : Int32))] []) ?_
    refine XS.aloadN X0.here hx rfl (hb hby d18_15) rfl rfl ?_
    refine sh (mkF m 16 #[.val (.ref va), .val (.ref vb), .val (.int (1 : Int32))] [(.ref va)]) ?_
    refine XS.iloadN X0.here hx rfl (hb hby d18_16) rfl ?_
    refine sh (mkF m 17 #[.val (.ref va), .val (.ref vb), .val (.int (1 : Int32))] [(.int (1 : Int32)), (.ref va)]) ?_
    refine X0.baloadBytes hx (j := (1 : Int32)) (v := (.int x1)) (by rw [e0]; exact Ar7.1) (State.isArrayOf_alike hZ.alike Ar7.2.1) Ar7.2.2 hin7 hat7 (g := (mkF m 17 #[.val (.ref va), .val (.ref vb), .val (.int (1 : Int32))] [(.int (1 : Int32)), (.ref va)])) rfl rfl (hb hby d18_17) _ ?_
    refine sh (mkF m 18 #[.val (.ref va), .val (.ref vb), .val (.int (1 : Int32))] [(.int x1)]) ?_
    refine XS.aloadN X0.here hx rfl (hb hby d18_18) rfl rfl ?_
    refine sh (mkF m 19 #[.val (.ref va), .val (.ref vb), .val (.int (1 : Int32))] [(.ref vb), (.int x1)]) ?_
    refine XS.iloadN X0.here hx rfl (hb hby d18_19) rfl ?_
    refine sh (mkF m 20 #[.val (.ref va), .val (.ref vb), .val (.int (1 : Int32))] [(.int (1 : Int32)), (.ref vb), (.int x1)]) ?_
    refine X0.baloadBytes hx (j := (1 : Int32)) (v := (.int y1)) (by rw [e0]; exact Ar8.1) (State.isArrayOf_alike hZ.alike Ar8.2.1) Ar8.2.2 hin8 hat8 (g := (mkF m 20 #[.val (.ref va), .val (.ref vb), .val (.int (1 : Int32))] [(.int (1 : Int32)), (.ref vb), (.int x1)])) rfl rfl (hb hby d18_20) _ ?_
    refine sh (mkF m 21 #[.val (.ref va), .val (.ref vb), .val (.int (1 : Int32))] [(.int y1), (.int x1)]) ?_
    refine XS.icmpNo X0.here hx rfl (hb hby d18_21) rfl (feq hq1).1 ?_
    refine sh (mkF m 24 #[.val (.ref va), .val (.ref vb), .val (.int (1 : Int32))] []) ?_
    refine XS.iconst X0.here hx rfl (hb hby d18_24) ?_
    refine sh (mkF m 25 #[.val (.ref va), .val (.ref vb), .val (.int (1 : Int32))] [(.int (0 : Int32))]) ?_
    exact retN X0 hx (t := .boolean) Bd.returns (by simp) (hb hby d18_25) hr
  · show Q_rmLE_31 Z va vb x0 x1 x2 ka y0 y1 y2 kb h0 n0 _ s₁.heap _
    rw [e0]
    exact ⟨rfl, N0, rfl⟩
def Q_rmLE_32 (Z : State) (va : Addr) (vb : Addr) (x0 : Int32) (x1 : Int32) (x2 : Int32) (ka : ClassId) (y0 : Int32) (y1 : Int32) (y2 : Int32) (kb : ClassId) (h0 : Heap) (n0 : Nat) (v : Option Value) (h : Heap) (L : List Loc) : Prop := v = some (.int (0 : Int32)) ∧ Fr n0 L ∧ h = h0
theorem ef_rmLE_32 (m : MethodId) (va : Addr) (vb : Addr) : entryFrame m #[(.ref va), (.ref vb)] 3 = mkF m 0 #[.val (.ref va), .val (.ref vb), .unset] [] := by first | (simp [entryFrame, mkF, argsToLocals, Value.category]; done) | rfl
set_option maxRecDepth 65536 in
set_option maxHeartbeats 40000000 in
theorem rmLE_32 (l : Launch) (Z : State) (a0 : Array Value) (hw : ∀ d ∈ tables_1, d.before a0 Z = true) (ws : List Jvm.Cond) (va : Addr) (vb : Addr) (x0 : Int32) (x1 : Int32) (x2 : Int32) (ka : ClassId) (y0 : Int32) (y1 : Int32) (y2 : Int32) (kb : ClassId) (h0 : Heap) (n0 : Nat) (Z0 : n0 ≤ h0.size) (V_va : Arv Z h0 va ka .byte (3 : Int32) [(.int x0), (.int x1), (.int x2)] (.int (0 : Int32))) (V_vb : Arv Z h0 vb kb .byte (3 : Int32) [(.int y0), (.int y1), (.int y2)] (.int (0 : Int32))) (hq0 : x0 = y0) (hq1 : x1 = y1) (hq2 : ¬ (x2 = y2)) :
    MetFree l (⟨"java/lang/StringLatin1", "equals", "([B[B)Z"⟩ : MethodName) (head1 (Jvm.Cond.code (⟨"java/lang/StringLatin1", "equals", "([B[B)Z"⟩ : MethodName) jdk_43_method_13_code 3 (some .boolean) :: ws) ({ frames := 0, cells := 0, slots := 0, locals := 0 } : Room)) (fun a U => a = #[(.ref va), (.ref vb)] ∧ Z.Warmed39 U.vm ∧ U.heap = h0) (fun _ _ _ _ _ => True) (fun _ U o U' => ∃ v L, o = .returned v ∧ Q_rmLE_32 Z va vb x0 x1 x2 ka y0 y1 y2 kb h0 n0 v U'.heap L ∧ FrameEnd U o U' L ({ frames := 0, cells := 0, slots := 0, locals := 0 } : Room).cells ({ frames := 0, cells := 0, slots := 0, locals := 0 } : Room).slots) := by
  refine MetFree.of_bodySF (plainFor_of_name pn_0) hisR ?_
  intro p e s m args below meth c s₁ Bd hml0 hP hK
  obtain ⟨rfl, hZ, hh⟩ := hP
  have hx := Bd.exec
  have hby := Bd.bytes
  have hml : c.maxLocals = 3 := hml0
  have hown : s.vm.findClass "java/lang/StringLatin1" = some m.cls := findClass_of_methodNamed Bd.named
  have hnm := (name_of_methodNamed Bd.named Bd.method).1
  have X0 : Stand p l e ({ frames := 0, cells := 0, slots := 0, locals := 0 } : Room) s m #[(.ref va), (.ref vb)] below meth c s₁ [] 0 0 := Stand.of_body Bd
  have e0 : s₁.heap = h0 := by rw [← hh, Bd.state]; rfl
  have N0 := Fr.nil n0
  have pre0 : ∀ t, Steps p.tables e below (s₁.setTop (mkF m 0 #[.val (.ref va), .val (.ref vb), .unset] [])) t → Steps p.tables e below (s₁.setTop (entryFrame m #[(.ref va), (.ref vb)] 3)) t := fun t k => castTop (ef_rmLE_32 m va vb) k
  have Vc1 := V_va
  obtain ⟨cl1, Ar1, -, S1, M1, -, -⟩ := Vc1
  have Vc2 := V_vb
  obtain ⟨cl2, Ar2, -, S2, M2, -, -⟩ := Vc2
  have Vc3 := V_va
  obtain ⟨cl3, Ar3, -, S3, M3, -, -⟩ := Vc3
  have Vc4 := V_va
  obtain ⟨cl4, Ar4, q4, S4, M4, H4, G4⟩ := Vc4
  have hin4 : ¬ ((0 : Int32) < 0 ∨ cl4.slots.size ≤ ((0 : Int32)).toNatClampNeg) := inb_of S4 ⟨by decide, by decide⟩
  have hat4 : cl4.slots[((0 : Int32)).toNatClampNeg]? = some (.int x0) := Has.at H4 hin4 rfl
  have Vc5 := V_vb
  obtain ⟨cl5, Ar5, q5, S5, M5, H5, G5⟩ := Vc5
  have hin5 : ¬ ((0 : Int32) < 0 ∨ cl5.slots.size ≤ ((0 : Int32)).toNatClampNeg) := inb_of S5 ⟨by decide, by decide⟩
  have hat5 : cl5.slots[((0 : Int32)).toNatClampNeg]? = some (.int y0) := Has.at H5 hin5 rfl
  have Vc6 := V_va
  obtain ⟨cl6, Ar6, -, S6, M6, -, -⟩ := Vc6
  have Vc7 := V_va
  obtain ⟨cl7, Ar7, q7, S7, M7, H7, G7⟩ := Vc7
  have hin7 : ¬ ((1 : Int32) < 0 ∨ cl7.slots.size ≤ ((1 : Int32)).toNatClampNeg) := inb_of S7 ⟨by decide, by decide⟩
  have hat7 : cl7.slots[((1 : Int32)).toNatClampNeg]? = some (.int x1) := Has.at H7 hin7 rfl
  have Vc8 := V_vb
  obtain ⟨cl8, Ar8, q8, S8, M8, H8, G8⟩ := Vc8
  have hin8 : ¬ ((1 : Int32) < 0 ∨ cl8.slots.size ≤ ((1 : Int32)).toNatClampNeg) := inb_of S8 ⟨by decide, by decide⟩
  have hat8 : cl8.slots[((1 : Int32)).toNatClampNeg]? = some (.int y1) := Has.at H8 hin8 rfl
  have Vc9 := V_va
  obtain ⟨cl9, Ar9, -, S9, M9, -, -⟩ := Vc9
  have Vc10 := V_va
  obtain ⟨cl10, Ar10, q10, S10, M10, H10, G10⟩ := Vc10
  have hin10 : ¬ ((2 : Int32) < 0 ∨ cl10.slots.size ≤ ((2 : Int32)).toNatClampNeg) := inb_of S10 ⟨by decide, by decide⟩
  have hat10 : cl10.slots[((2 : Int32)).toNatClampNeg]? = some (.int x2) := Has.at H10 hin10 rfl
  have Vc11 := V_vb
  obtain ⟨cl11, Ar11, q11, S11, M11, H11, G11⟩ := Vc11
  have hin11 : ¬ ((2 : Int32) < 0 ∨ cl11.slots.size ≤ ((2 : Int32)).toNatClampNeg) := inb_of S11 ⟨by decide, by decide⟩
  have hat11 : cl11.slots[((2 : Int32)).toNatClampNeg]? = some (.int y2) := Has.at H11 hin11 rfl
  obtain ⟨fs, hr, hrun, hended, hW, hsame⟩ := X0.leave (v := some (.int (0 : Int32))) (fun h => by rw [Bd.returns] at h; cases h)
  refine ⟨_, _, pre0 _ ?_, hrun, hended, _, _, rfl, ?_, ⟨_, rfl⟩, hW, hsame.mono (by decide) (by decide)⟩
  · refine sh (mkF m 0 #[.val (.ref va), .val (.ref vb), .unset] []) ?_
    refine XS.aloadN X0.here hx rfl (hb hby d18_0) rfl rfl ?_
    refine sh (mkF m 1 #[.val (.ref va), .val (.ref vb), .unset] [(.ref va)]) ?_
    refine X0.arraylength hx (cell := cl1) (by rw [e0]; exact Ar1.1) (State.isArrayOf_alike hZ.alike Ar1.2.1) (g := (mkF m 1 #[.val (.ref va), .val (.ref vb), .unset] [(.ref va)])) rfl (rest := []) rfl (hb hby d18_1) _ ?_
    rw [len_of S1 M1]
    refine sh (mkF m 2 #[.val (.ref va), .val (.ref vb), .unset] [(.int (3 : Int32))]) ?_
    refine XS.aloadN X0.here hx rfl (hb hby d18_2) rfl rfl ?_
    refine sh (mkF m 3 #[.val (.ref va), .val (.ref vb), .unset] [(.ref vb), (.int (3 : Int32))]) ?_
    refine X0.arraylength hx (cell := cl2) (by rw [e0]; exact Ar2.1) (State.isArrayOf_alike hZ.alike Ar2.2.1) (g := (mkF m 3 #[.val (.ref va), .val (.ref vb), .unset] [(.ref vb), (.int (3 : Int32))])) rfl (rest := [(.int (3 : Int32))]) rfl (hb hby d18_3) _ ?_
    rw [len_of S2 M2]
    refine sh (mkF m 4 #[.val (.ref va), .val (.ref vb), .unset] [(.int (3 : Int32)), (.int (3 : Int32))]) ?_
    refine XS.icmpNo X0.here hx rfl (hb hby d18_4) rfl (teq (rfl : (3 : Int32) = (3 : Int32))).2 ?_
    refine sh (mkF m 7 #[.val (.ref va), .val (.ref vb), .unset] []) ?_
    refine XS.iconst X0.here hx rfl (hb hby d18_7) ?_
    refine sh (mkF m 8 #[.val (.ref va), .val (.ref vb), .unset] [(.int (0 : Int32))]) ?_
    refine XS.istoreN X0.here hx rfl (hb hby d18_8) rfl (l' := #[.val (.ref va), .val (.ref vb), .val (.int (0 : Int32))]) rfl ?_
    refine sh (mkF m 9 #[.val (.ref va), .val (.ref vb), .val (.int (0 : Int32))] []) ?_
    refine XS.iloadN X0.here hx rfl (hb hby d18_9) rfl ?_
    refine sh (mkF m 10 #[.val (.ref va), .val (.ref vb), .val (.int (0 : Int32))] [(.int (0 : Int32))]) ?_
    refine XS.aloadN X0.here hx rfl (hb hby d18_10) rfl rfl ?_
    refine sh (mkF m 11 #[.val (.ref va), .val (.ref vb), .val (.int (0 : Int32))] [(.ref va), (.int (0 : Int32))]) ?_
    refine X0.arraylength hx (cell := cl3) (by rw [e0]; exact Ar3.1) (State.isArrayOf_alike hZ.alike Ar3.2.1) (g := (mkF m 11 #[.val (.ref va), .val (.ref vb), .val (.int (0 : Int32))] [(.ref va), (.int (0 : Int32))])) rfl (rest := [(.int (0 : Int32))]) rfl (hb hby d18_11) _ ?_
    rw [len_of S3 M3]
    refine sh (mkF m 12 #[.val (.ref va), .val (.ref vb), .val (.int (0 : Int32))] [(.int (3 : Int32)), (.int (0 : Int32))]) ?_
    refine XS.icmpNo X0.here hx rfl (hb hby d18_12) rfl (tlt (by decide : (0 : Int32) < (3 : Int32))).2.1 ?_
    refine sh (mkF m 15 #[.val (.ref va), .val (.ref vb), .val (.int (0 : Int32))] []) ?_
    refine XS.aloadN X0.here hx rfl (hb hby d18_15) rfl rfl ?_
    refine sh (mkF m 16 #[.val (.ref va), .val (.ref vb), .val (.int (0 : Int32))] [(.ref va)]) ?_
    refine XS.iloadN X0.here hx rfl (hb hby d18_16) rfl ?_
    refine sh (mkF m 17 #[.val (.ref va), .val (.ref vb), .val (.int (0 : Int32))] [(.int (0 : Int32)), (.ref va)]) ?_
    refine X0.baloadBytes hx (j := (0 : Int32)) (v := (.int x0)) (by rw [e0]; exact Ar4.1) (State.isArrayOf_alike hZ.alike Ar4.2.1) Ar4.2.2 hin4 hat4 (g := (mkF m 17 #[.val (.ref va), .val (.ref vb), .val (.int (0 : Int32))] [(.int (0 : Int32)), (.ref va)])) rfl rfl (hb hby d18_17) _ ?_
    refine sh (mkF m 18 #[.val (.ref va), .val (.ref vb), .val (.int (0 : Int32))] [(.int x0)]) ?_
    refine XS.aloadN X0.here hx rfl (hb hby d18_18) rfl rfl ?_
    refine sh (mkF m 19 #[.val (.ref va), .val (.ref vb), .val (.int (0 : Int32))] [(.ref vb), (.int x0)]) ?_
    refine XS.iloadN X0.here hx rfl (hb hby d18_19) rfl ?_
    refine sh (mkF m 20 #[.val (.ref va), .val (.ref vb), .val (.int (0 : Int32))] [(.int (0 : Int32)), (.ref vb), (.int x0)]) ?_
    refine X0.baloadBytes hx (j := (0 : Int32)) (v := (.int y0)) (by rw [e0]; exact Ar5.1) (State.isArrayOf_alike hZ.alike Ar5.2.1) Ar5.2.2 hin5 hat5 (g := (mkF m 20 #[.val (.ref va), .val (.ref vb), .val (.int (0 : Int32))] [(.int (0 : Int32)), (.ref vb), (.int x0)])) rfl rfl (hb hby d18_20) _ ?_
    refine sh (mkF m 21 #[.val (.ref va), .val (.ref vb), .val (.int (0 : Int32))] [(.int y0), (.int x0)]) ?_
    refine XS.icmpYes X0.here hx rfl (pc0 := 21) (pc' := 26) rfl (hb hby d18_21) rfl (teq hq0).1 (by decide) (by decide) ?_
    refine sh (mkF m 26 #[.val (.ref va), .val (.ref vb), .val (.int (0 : Int32))] []) ?_
    refine XS.iinc X0.here hx rfl (hb hby d18_26) rfl (l' := #[.val (.ref va), .val (.ref vb), .val (.int ((0 : Int32) + (1 : Int32)))]) rfl ?_
    refine sh (mkF m 29 #[.val (.ref va), .val (.ref vb), .val (.int ((0 : Int32) + (1 : Int32)))] []) ?_
    rw [show ((0 : Int32) + (1 : Int32)) = (1 : Int32) from by decide]
    refine sh (mkF m 29 #[.val (.ref va), .val (.ref vb), .val (.int (1 : Int32))] []) ?_
    refine XS.goto X0.here hx rfl (pc0 := 29) (pc' := 9) rfl (hb hby d18_29) (by decide) (by decide) ?_
    refine sh (mkF m 9 #[.val (.ref va), .val (.ref vb), .val (.int (1 : Int32))] []) ?_
    refine XS.iloadN X0.here hx rfl (hb hby d18_9) rfl ?_
    refine sh (mkF m 10 #[.val (.ref va), .val (.ref vb), .val (.int (1 : Int32))] [(.int (1 : Int32))]) ?_
    refine XS.aloadN X0.here hx rfl (hb hby d18_10) rfl rfl ?_
    refine sh (mkF m 11 #[.val (.ref va), .val (.ref vb), .val (.int (1 : Int32))] [(.ref va), (.int (1 : Int32))]) ?_
    refine X0.arraylength hx (cell := cl6) (by rw [e0]; exact Ar6.1) (State.isArrayOf_alike hZ.alike Ar6.2.1) (g := (mkF m 11 #[.val (.ref va), .val (.ref vb), .val (.int (1 : Int32))] [(.ref va), (.int (1 : Int32))])) rfl (rest := [(.int (1 : Int32))]) rfl (hb hby d18_11) _ ?_
    rw [len_of S6 M6]
    refine sh (mkF m 12 #[.val (.ref va), .val (.ref vb), .val (.int (1 : Int32))] [(.int (3 : Int32)), (.int (1 : Int32))]) ?_
    refine XS.icmpNo X0.here hx rfl (hb hby d18_12) rfl (tlt (by decide : (1 : Int32) < (3 : Int32))).2.1 ?_
    refine sh (mkF m 15 #[.val (.ref va), .val (.ref vb), .val (.int (1 : Int32))] []) ?_
    refine XS.aloadN X0.here hx rfl (hb hby d18_15) rfl rfl ?_
    refine sh (mkF m 16 #[.val (.ref va), .val (.ref vb), .val (.int (1 : Int32))] [(.ref va)]) ?_
    refine XS.iloadN X0.here hx rfl (hb hby d18_16) rfl ?_
    refine sh (mkF m 17 #[.val (.ref va), .val (.ref vb), .val (.int (1 : Int32))] [(.int (1 : Int32)), (.ref va)]) ?_
    refine X0.baloadBytes hx (j := (1 : Int32)) (v := (.int x1)) (by rw [e0]; exact Ar7.1) (State.isArrayOf_alike hZ.alike Ar7.2.1) Ar7.2.2 hin7 hat7 (g := (mkF m 17 #[.val (.ref va), .val (.ref vb), .val (.int (1 : Int32))] [(.int (1 : Int32)), (.ref va)])) rfl rfl (hb hby d18_17) _ ?_
    refine sh (mkF m 18 #[.val (.ref va), .val (.ref vb), .val (.int (1 : Int32))] [(.int x1)]) ?_
    refine XS.aloadN X0.here hx rfl (hb hby d18_18) rfl rfl ?_
    refine sh (mkF m 19 #[.val (.ref va), .val (.ref vb), .val (.int (1 : Int32))] [(.ref vb), (.int x1)]) ?_
    refine XS.iloadN X0.here hx rfl (hb hby d18_19) rfl ?_
    refine sh (mkF m 20 #[.val (.ref va), .val (.ref vb), .val (.int (1 : Int32))] [(.int (1 : Int32)), (.ref vb), (.int x1)]) ?_
    refine X0.baloadBytes hx (j := (1 : Int32)) (v := (.int y1)) (by rw [e0]; exact Ar8.1) (State.isArrayOf_alike hZ.alike Ar8.2.1) Ar8.2.2 hin8 hat8 (g := (mkF m 20 #[.val (.ref va), .val (.ref vb), .val (.int (1 : Int32))] [(.int (1 : Int32)), (.ref vb), (.int x1)])) rfl rfl (hb hby d18_20) _ ?_
    refine sh (mkF m 21 #[.val (.ref va), .val (.ref vb), .val (.int (1 : Int32))] [(.int y1), (.int x1)]) ?_
    refine XS.icmpYes X0.here hx rfl (pc0 := 21) (pc' := 26) rfl (hb hby d18_21) rfl (teq hq1).1 (by decide) (by decide) ?_
    refine sh (mkF m 26 #[.val (.ref va), .val (.ref vb), .val (.int (1 : Int32))] []) ?_
    refine XS.iinc X0.here hx rfl (hb hby d18_26) rfl (l' := #[.val (.ref va), .val (.ref vb), .val (.int ((1 : Int32) + (1 : Int32)))]) rfl ?_
    refine sh (mkF m 29 #[.val (.ref va), .val (.ref vb), .val (.int ((1 : Int32) + (1 : Int32)))] []) ?_
    rw [show ((1 : Int32) + (1 : Int32)) = (2 : Int32) from by decide]
    refine sh (mkF m 29 #[.val (.ref va), .val (.ref vb), .val (.int (2 : Int32))] []) ?_
    refine XS.goto X0.here hx rfl (pc0 := 29) (pc' := 9) rfl (hb hby d18_29) (by decide) (by decide) ?_
    refine sh (mkF m 9 #[.val (.ref va), .val (.ref vb), .val (.int (2 : Int32))] []) ?_
    refine XS.iloadN X0.here hx rfl (hb hby d18_9) rfl ?_
    refine sh (mkF m 10 #[.val (.ref va), .val (.ref vb), .val (.int (2 : Int32))] [(.int (2 : Int32))]) ?_
    refine XS.aloadN X0.here hx rfl (hb hby d18_10) rfl rfl ?_
    refine sh (mkF m 11 #[.val (.ref va), .val (.ref vb), .val (.int (2 : Int32))] [(.ref va), (.int (2 : Int32))]) ?_
    refine X0.arraylength hx (cell := cl9) (by rw [e0]; exact Ar9.1) (State.isArrayOf_alike hZ.alike Ar9.2.1) (g := (mkF m 11 #[.val (.ref va), .val (.ref vb), .val (.int (2 : Int32))] [(.ref va), (.int (2 : Int32))])) rfl (rest := [(.int (2 : Int32))]) rfl (hb hby d18_11) _ ?_
    rw [len_of S9 M9]
    refine sh (mkF m 12 #[.val (.ref va), .val (.ref vb), .val (.int (2 : Int32))] [(.int (3 : Int32)), (.int (2 : Int32))]) ?_
    refine XS.icmpNo X0.here hx rfl (hb hby d18_12) rfl (tlt (by decide : (2 : Int32) < (3 : Int32))).2.1 ?_
    refine sh (mkF m 15 #[.val (.ref va), .val (.ref vb), .val (.int (2 : Int32))] []) ?_
    refine XS.aloadN X0.here hx rfl (hb hby d18_15) rfl rfl ?_
    refine sh (mkF m 16 #[.val (.ref va), .val (.ref vb), .val (.int (2 : Int32))] [(.ref va)]) ?_
    refine XS.iloadN X0.here hx rfl (hb hby d18_16) rfl ?_
    refine sh (mkF m 17 #[.val (.ref va), .val (.ref vb), .val (.int (2 : Int32))] [(.int (2 : Int32)), (.ref va)]) ?_
    refine X0.baloadBytes hx (j := (2 : Int32)) (v := (.int x2)) (by rw [e0]; exact Ar10.1) (State.isArrayOf_alike hZ.alike Ar10.2.1) Ar10.2.2 hin10 hat10 (g := (mkF m 17 #[.val (.ref va), .val (.ref vb), .val (.int (2 : Int32))] [(.int (2 : Int32)), (.ref va)])) rfl rfl (hb hby d18_17) _ ?_
    refine sh (mkF m 18 #[.val (.ref va), .val (.ref vb), .val (.int (2 : Int32))] [(.int x2)]) ?_
    refine XS.aloadN X0.here hx rfl (hb hby d18_18) rfl rfl ?_
    refine sh (mkF m 19 #[.val (.ref va), .val (.ref vb), .val (.int (2 : Int32))] [(.ref vb), (.int x2)]) ?_
    refine XS.iloadN X0.here hx rfl (hb hby d18_19) rfl ?_
    refine sh (mkF m 20 #[.val (.ref va), .val (.ref vb), .val (.int (2 : Int32))] [(.int (2 : Int32)), (.ref vb), (.int x2)]) ?_
    refine X0.baloadBytes hx (j := (2 : Int32)) (v := (.int y2)) (by rw [e0]; exact Ar11.1) (State.isArrayOf_alike hZ.alike Ar11.2.1) Ar11.2.2 hin11 hat11 (g := (mkF m 20 #[.val (.ref va), .val (.ref vb), .val (.int (2 : Int32))] [(.int (2 : Int32)), (.ref vb), (.int x2)])) rfl rfl (hb hby d18_20) _ ?_
    refine sh (mkF m 21 #[.val (.ref va), .val (.ref vb), .val (.int (2 : Int32))] [(.int y2), (.int x2)]) ?_
    refine XS.icmpNo X0.here hx rfl (hb hby d18_21) rfl (feq hq2).1 ?_
    refine sh (mkF m 24 #[.val (.ref va), .val (.ref vb), .val (.int (2 : Int32))] []) ?_
    refine XS.iconst X0.here hx rfl (hb hby d18_24) ?_
    refine sh (mkF m 25 #[.val (.ref va), .val (.ref vb), .val (.int (2 : Int32))] [(.int (0 : Int32))]) ?_
    exact retN X0 hx (t := .boolean) Bd.returns (by simp) (hb hby d18_25) hr
  · show Q_rmLE_32 Z va vb x0 x1 x2 ka y0 y1 y2 kb h0 n0 _ s₁.heap _
    rw [e0]
    exact ⟨rfl, N0, rfl⟩
def Q_rmLE_33 (Z : State) (va : Addr) (vb : Addr) (x0 : Int32) (x1 : Int32) (x2 : Int32) (ka : ClassId) (y0 : Int32) (y1 : Int32) (y2 : Int32) (kb : ClassId) (h0 : Heap) (n0 : Nat) (v : Option Value) (h : Heap) (L : List Loc) : Prop := v = some (.int (1 : Int32)) ∧ Fr n0 L ∧ h = h0
theorem ef_rmLE_33 (m : MethodId) (va : Addr) (vb : Addr) : entryFrame m #[(.ref va), (.ref vb)] 3 = mkF m 0 #[.val (.ref va), .val (.ref vb), .unset] [] := by first | (simp [entryFrame, mkF, argsToLocals, Value.category]; done) | rfl
set_option maxRecDepth 65536 in
set_option maxHeartbeats 40000000 in
theorem rmLE_33 (l : Launch) (Z : State) (a0 : Array Value) (hw : ∀ d ∈ tables_1, d.before a0 Z = true) (ws : List Jvm.Cond) (va : Addr) (vb : Addr) (x0 : Int32) (x1 : Int32) (x2 : Int32) (ka : ClassId) (y0 : Int32) (y1 : Int32) (y2 : Int32) (kb : ClassId) (h0 : Heap) (n0 : Nat) (Z0 : n0 ≤ h0.size) (V_va : Arv Z h0 va ka .byte (3 : Int32) [(.int x0), (.int x1), (.int x2)] (.int (0 : Int32))) (V_vb : Arv Z h0 vb kb .byte (3 : Int32) [(.int y0), (.int y1), (.int y2)] (.int (0 : Int32))) (hq0 : x0 = y0) (hq1 : x1 = y1) (hq2 : x2 = y2) :
    MetFree l (⟨"java/lang/StringLatin1", "equals", "([B[B)Z"⟩ : MethodName) (head1 (Jvm.Cond.code (⟨"java/lang/StringLatin1", "equals", "([B[B)Z"⟩ : MethodName) jdk_43_method_13_code 3 (some .boolean) :: ws) ({ frames := 0, cells := 0, slots := 0, locals := 0 } : Room)) (fun a U => a = #[(.ref va), (.ref vb)] ∧ Z.Warmed39 U.vm ∧ U.heap = h0) (fun _ _ _ _ _ => True) (fun _ U o U' => ∃ v L, o = .returned v ∧ Q_rmLE_33 Z va vb x0 x1 x2 ka y0 y1 y2 kb h0 n0 v U'.heap L ∧ FrameEnd U o U' L ({ frames := 0, cells := 0, slots := 0, locals := 0 } : Room).cells ({ frames := 0, cells := 0, slots := 0, locals := 0 } : Room).slots) := by
  refine MetFree.of_bodySF (plainFor_of_name pn_0) hisR ?_
  intro p e s m args below meth c s₁ Bd hml0 hP hK
  obtain ⟨rfl, hZ, hh⟩ := hP
  have hx := Bd.exec
  have hby := Bd.bytes
  have hml : c.maxLocals = 3 := hml0
  have hown : s.vm.findClass "java/lang/StringLatin1" = some m.cls := findClass_of_methodNamed Bd.named
  have hnm := (name_of_methodNamed Bd.named Bd.method).1
  have X0 : Stand p l e ({ frames := 0, cells := 0, slots := 0, locals := 0 } : Room) s m #[(.ref va), (.ref vb)] below meth c s₁ [] 0 0 := Stand.of_body Bd
  have e0 : s₁.heap = h0 := by rw [← hh, Bd.state]; rfl
  have N0 := Fr.nil n0
  have pre0 : ∀ t, Steps p.tables e below (s₁.setTop (mkF m 0 #[.val (.ref va), .val (.ref vb), .unset] [])) t → Steps p.tables e below (s₁.setTop (entryFrame m #[(.ref va), (.ref vb)] 3)) t := fun t k => castTop (ef_rmLE_33 m va vb) k
  have Vc1 := V_va
  obtain ⟨cl1, Ar1, -, S1, M1, -, -⟩ := Vc1
  have Vc2 := V_vb
  obtain ⟨cl2, Ar2, -, S2, M2, -, -⟩ := Vc2
  have Vc3 := V_va
  obtain ⟨cl3, Ar3, -, S3, M3, -, -⟩ := Vc3
  have Vc4 := V_va
  obtain ⟨cl4, Ar4, q4, S4, M4, H4, G4⟩ := Vc4
  have hin4 : ¬ ((0 : Int32) < 0 ∨ cl4.slots.size ≤ ((0 : Int32)).toNatClampNeg) := inb_of S4 ⟨by decide, by decide⟩
  have hat4 : cl4.slots[((0 : Int32)).toNatClampNeg]? = some (.int x0) := Has.at H4 hin4 rfl
  have Vc5 := V_vb
  obtain ⟨cl5, Ar5, q5, S5, M5, H5, G5⟩ := Vc5
  have hin5 : ¬ ((0 : Int32) < 0 ∨ cl5.slots.size ≤ ((0 : Int32)).toNatClampNeg) := inb_of S5 ⟨by decide, by decide⟩
  have hat5 : cl5.slots[((0 : Int32)).toNatClampNeg]? = some (.int y0) := Has.at H5 hin5 rfl
  have Vc6 := V_va
  obtain ⟨cl6, Ar6, -, S6, M6, -, -⟩ := Vc6
  have Vc7 := V_va
  obtain ⟨cl7, Ar7, q7, S7, M7, H7, G7⟩ := Vc7
  have hin7 : ¬ ((1 : Int32) < 0 ∨ cl7.slots.size ≤ ((1 : Int32)).toNatClampNeg) := inb_of S7 ⟨by decide, by decide⟩
  have hat7 : cl7.slots[((1 : Int32)).toNatClampNeg]? = some (.int x1) := Has.at H7 hin7 rfl
  have Vc8 := V_vb
  obtain ⟨cl8, Ar8, q8, S8, M8, H8, G8⟩ := Vc8
  have hin8 : ¬ ((1 : Int32) < 0 ∨ cl8.slots.size ≤ ((1 : Int32)).toNatClampNeg) := inb_of S8 ⟨by decide, by decide⟩
  have hat8 : cl8.slots[((1 : Int32)).toNatClampNeg]? = some (.int y1) := Has.at H8 hin8 rfl
  have Vc9 := V_va
  obtain ⟨cl9, Ar9, -, S9, M9, -, -⟩ := Vc9
  have Vc10 := V_va
  obtain ⟨cl10, Ar10, q10, S10, M10, H10, G10⟩ := Vc10
  have hin10 : ¬ ((2 : Int32) < 0 ∨ cl10.slots.size ≤ ((2 : Int32)).toNatClampNeg) := inb_of S10 ⟨by decide, by decide⟩
  have hat10 : cl10.slots[((2 : Int32)).toNatClampNeg]? = some (.int x2) := Has.at H10 hin10 rfl
  have Vc11 := V_vb
  obtain ⟨cl11, Ar11, q11, S11, M11, H11, G11⟩ := Vc11
  have hin11 : ¬ ((2 : Int32) < 0 ∨ cl11.slots.size ≤ ((2 : Int32)).toNatClampNeg) := inb_of S11 ⟨by decide, by decide⟩
  have hat11 : cl11.slots[((2 : Int32)).toNatClampNeg]? = some (.int y2) := Has.at H11 hin11 rfl
  have Vc12 := V_va
  obtain ⟨cl12, Ar12, -, S12, M12, -, -⟩ := Vc12
  obtain ⟨fs, hr, hrun, hended, hW, hsame⟩ := X0.leave (v := some (.int (1 : Int32))) (fun h => by rw [Bd.returns] at h; cases h)
  refine ⟨_, _, pre0 _ ?_, hrun, hended, _, _, rfl, ?_, ⟨_, rfl⟩, hW, hsame.mono (by decide) (by decide)⟩
  · refine sh (mkF m 0 #[.val (.ref va), .val (.ref vb), .unset] []) ?_
    refine XS.aloadN X0.here hx rfl (hb hby d18_0) rfl rfl ?_
    refine sh (mkF m 1 #[.val (.ref va), .val (.ref vb), .unset] [(.ref va)]) ?_
    refine X0.arraylength hx (cell := cl1) (by rw [e0]; exact Ar1.1) (State.isArrayOf_alike hZ.alike Ar1.2.1) (g := (mkF m 1 #[.val (.ref va), .val (.ref vb), .unset] [(.ref va)])) rfl (rest := []) rfl (hb hby d18_1) _ ?_
    rw [len_of S1 M1]
    refine sh (mkF m 2 #[.val (.ref va), .val (.ref vb), .unset] [(.int (3 : Int32))]) ?_
    refine XS.aloadN X0.here hx rfl (hb hby d18_2) rfl rfl ?_
    refine sh (mkF m 3 #[.val (.ref va), .val (.ref vb), .unset] [(.ref vb), (.int (3 : Int32))]) ?_
    refine X0.arraylength hx (cell := cl2) (by rw [e0]; exact Ar2.1) (State.isArrayOf_alike hZ.alike Ar2.2.1) (g := (mkF m 3 #[.val (.ref va), .val (.ref vb), .unset] [(.ref vb), (.int (3 : Int32))])) rfl (rest := [(.int (3 : Int32))]) rfl (hb hby d18_3) _ ?_
    rw [len_of S2 M2]
    refine sh (mkF m 4 #[.val (.ref va), .val (.ref vb), .unset] [(.int (3 : Int32)), (.int (3 : Int32))]) ?_
    refine XS.icmpNo X0.here hx rfl (hb hby d18_4) rfl (teq (rfl : (3 : Int32) = (3 : Int32))).2 ?_
    refine sh (mkF m 7 #[.val (.ref va), .val (.ref vb), .unset] []) ?_
    refine XS.iconst X0.here hx rfl (hb hby d18_7) ?_
    refine sh (mkF m 8 #[.val (.ref va), .val (.ref vb), .unset] [(.int (0 : Int32))]) ?_
    refine XS.istoreN X0.here hx rfl (hb hby d18_8) rfl (l' := #[.val (.ref va), .val (.ref vb), .val (.int (0 : Int32))]) rfl ?_
    refine sh (mkF m 9 #[.val (.ref va), .val (.ref vb), .val (.int (0 : Int32))] []) ?_
    refine XS.iloadN X0.here hx rfl (hb hby d18_9) rfl ?_
    refine sh (mkF m 10 #[.val (.ref va), .val (.ref vb), .val (.int (0 : Int32))] [(.int (0 : Int32))]) ?_
    refine XS.aloadN X0.here hx rfl (hb hby d18_10) rfl rfl ?_
    refine sh (mkF m 11 #[.val (.ref va), .val (.ref vb), .val (.int (0 : Int32))] [(.ref va), (.int (0 : Int32))]) ?_
    refine X0.arraylength hx (cell := cl3) (by rw [e0]; exact Ar3.1) (State.isArrayOf_alike hZ.alike Ar3.2.1) (g := (mkF m 11 #[.val (.ref va), .val (.ref vb), .val (.int (0 : Int32))] [(.ref va), (.int (0 : Int32))])) rfl (rest := [(.int (0 : Int32))]) rfl (hb hby d18_11) _ ?_
    rw [len_of S3 M3]
    refine sh (mkF m 12 #[.val (.ref va), .val (.ref vb), .val (.int (0 : Int32))] [(.int (3 : Int32)), (.int (0 : Int32))]) ?_
    refine XS.icmpNo X0.here hx rfl (hb hby d18_12) rfl (tlt (by decide : (0 : Int32) < (3 : Int32))).2.1 ?_
    refine sh (mkF m 15 #[.val (.ref va), .val (.ref vb), .val (.int (0 : Int32))] []) ?_
    refine XS.aloadN X0.here hx rfl (hb hby d18_15) rfl rfl ?_
    refine sh (mkF m 16 #[.val (.ref va), .val (.ref vb), .val (.int (0 : Int32))] [(.ref va)]) ?_
    refine XS.iloadN X0.here hx rfl (hb hby d18_16) rfl ?_
    refine sh (mkF m 17 #[.val (.ref va), .val (.ref vb), .val (.int (0 : Int32))] [(.int (0 : Int32)), (.ref va)]) ?_
    refine X0.baloadBytes hx (j := (0 : Int32)) (v := (.int x0)) (by rw [e0]; exact Ar4.1) (State.isArrayOf_alike hZ.alike Ar4.2.1) Ar4.2.2 hin4 hat4 (g := (mkF m 17 #[.val (.ref va), .val (.ref vb), .val (.int (0 : Int32))] [(.int (0 : Int32)), (.ref va)])) rfl rfl (hb hby d18_17) _ ?_
    refine sh (mkF m 18 #[.val (.ref va), .val (.ref vb), .val (.int (0 : Int32))] [(.int x0)]) ?_
    refine XS.aloadN X0.here hx rfl (hb hby d18_18) rfl rfl ?_
    refine sh (mkF m 19 #[.val (.ref va), .val (.ref vb), .val (.int (0 : Int32))] [(.ref vb), (.int x0)]) ?_
    refine XS.iloadN X0.here hx rfl (hb hby d18_19) rfl ?_
    refine sh (mkF m 20 #[.val (.ref va), .val (.ref vb), .val (.int (0 : Int32))] [(.int (0 : Int32)), (.ref vb), (.int x0)]) ?_
    refine X0.baloadBytes hx (j := (0 : Int32)) (v := (.int y0)) (by rw [e0]; exact Ar5.1) (State.isArrayOf_alike hZ.alike Ar5.2.1) Ar5.2.2 hin5 hat5 (g := (mkF m 20 #[.val (.ref va), .val (.ref vb), .val (.int (0 : Int32))] [(.int (0 : Int32)), (.ref vb), (.int x0)])) rfl rfl (hb hby d18_20) _ ?_
    refine sh (mkF m 21 #[.val (.ref va), .val (.ref vb), .val (.int (0 : Int32))] [(.int y0), (.int x0)]) ?_
    refine XS.icmpYes X0.here hx rfl (pc0 := 21) (pc' := 26) rfl (hb hby d18_21) rfl (teq hq0).1 (by decide) (by decide) ?_
    refine sh (mkF m 26 #[.val (.ref va), .val (.ref vb), .val (.int (0 : Int32))] []) ?_
    refine XS.iinc X0.here hx rfl (hb hby d18_26) rfl (l' := #[.val (.ref va), .val (.ref vb), .val (.int ((0 : Int32) + (1 : Int32)))]) rfl ?_
    refine sh (mkF m 29 #[.val (.ref va), .val (.ref vb), .val (.int ((0 : Int32) + (1 : Int32)))] []) ?_
    rw [show ((0 : Int32) + (1 : Int32)) = (1 : Int32) from by decide]
    refine sh (mkF m 29 #[.val (.ref va), .val (.ref vb), .val (.int (1 : Int32))] []) ?_
    refine XS.goto X0.here hx rfl (pc0 := 29) (pc' := 9) rfl (hb hby d18_29) (by decide) (by decide) ?_
    refine sh (mkF m 9 #[.val (.ref va), .val (.ref vb), .val (.int (1 : Int32))] []) ?_
    refine XS.iloadN X0.here hx rfl (hb hby d18_9) rfl ?_
    refine sh (mkF m 10 #[.val (.ref va), .val (.ref vb), .val (.int (1 : Int32))] [(.int (1 : Int32))]) ?_
    refine XS.aloadN X0.here hx rfl (hb hby d18_10) rfl rfl ?_
    refine sh (mkF m 11 #[.val (.ref va), .val (.ref vb), .val (.int (1 : Int32))] [(.ref va), (.int (1 : Int32))]) ?_
    refine X0.arraylength hx (cell := cl6) (by rw [e0]; exact Ar6.1) (State.isArrayOf_alike hZ.alike Ar6.2.1) (g := (mkF m 11 #[.val (.ref va), .val (.ref vb), .val (.int (1 : Int32))] [(.ref va), (.int (1 : Int32))])) rfl (rest := [(.int (1 : Int32))]) rfl (hb hby d18_11) _ ?_
    rw [len_of S6 M6]
    refine sh (mkF m 12 #[.val (.ref va), .val (.ref vb), .val (.int (1 : Int32))] [(.int (3 : Int32)), (.int (1 : Int32))]) ?_
    refine XS.icmpNo X0.here hx rfl (hb hby d18_12) rfl (tlt (by decide : (1 : Int32) < (3 : Int32))).2.1 ?_
    refine sh (mkF m 15 #[.val (.ref va), .val (.ref vb), .val (.int (1 : Int32))] []) ?_
    refine XS.aloadN X0.here hx rfl (hb hby d18_15) rfl rfl ?_
    refine sh (mkF m 16 #[.val (.ref va), .val (.ref vb), .val (.int (1 : Int32))] [(.ref va)]) ?_
    refine XS.iloadN X0.here hx rfl (hb hby d18_16) rfl ?_
    refine sh (mkF m 17 #[.val (.ref va), .val (.ref vb), .val (.int (1 : Int32))] [(.int (1 : Int32)), (.ref va)]) ?_
    refine X0.baloadBytes hx (j := (1 : Int32)) (v := (.int x1)) (by rw [e0]; exact Ar7.1) (State.isArrayOf_alike hZ.alike Ar7.2.1) Ar7.2.2 hin7 hat7 (g := (mkF m 17 #[.val (.ref va), .val (.ref vb), .val (.int (1 : Int32))] [(.int (1 : Int32)), (.ref va)])) rfl rfl (hb hby d18_17) _ ?_
    refine sh (mkF m 18 #[.val (.ref va), .val (.ref vb), .val (.int (1 : Int32))] [(.int x1)]) ?_
    refine XS.aloadN X0.here hx rfl (hb hby d18_18) rfl rfl ?_
    refine sh (mkF m 19 #[.val (.ref va), .val (.ref vb), .val (.int (1 : Int32))] [(.ref vb), (.int x1)]) ?_
    refine XS.iloadN X0.here hx rfl (hb hby d18_19) rfl ?_
    refine sh (mkF m 20 #[.val (.ref va), .val (.ref vb), .val (.int (1 : Int32))] [(.int (1 : Int32)), (.ref vb), (.int x1)]) ?_
    refine X0.baloadBytes hx (j := (1 : Int32)) (v := (.int y1)) (by rw [e0]; exact Ar8.1) (State.isArrayOf_alike hZ.alike Ar8.2.1) Ar8.2.2 hin8 hat8 (g := (mkF m 20 #[.val (.ref va), .val (.ref vb), .val (.int (1 : Int32))] [(.int (1 : Int32)), (.ref vb), (.int x1)])) rfl rfl (hb hby d18_20) _ ?_
    refine sh (mkF m 21 #[.val (.ref va), .val (.ref vb), .val (.int (1 : Int32))] [(.int y1), (.int x1)]) ?_
    refine XS.icmpYes X0.here hx rfl (pc0 := 21) (pc' := 26) rfl (hb hby d18_21) rfl (teq hq1).1 (by decide) (by decide) ?_
    refine sh (mkF m 26 #[.val (.ref va), .val (.ref vb), .val (.int (1 : Int32))] []) ?_
    refine XS.iinc X0.here hx rfl (hb hby d18_26) rfl (l' := #[.val (.ref va), .val (.ref vb), .val (.int ((1 : Int32) + (1 : Int32)))]) rfl ?_
    refine sh (mkF m 29 #[.val (.ref va), .val (.ref vb), .val (.int ((1 : Int32) + (1 : Int32)))] []) ?_
    rw [show ((1 : Int32) + (1 : Int32)) = (2 : Int32) from by decide]
    refine sh (mkF m 29 #[.val (.ref va), .val (.ref vb), .val (.int (2 : Int32))] []) ?_
    refine XS.goto X0.here hx rfl (pc0 := 29) (pc' := 9) rfl (hb hby d18_29) (by decide) (by decide) ?_
    refine sh (mkF m 9 #[.val (.ref va), .val (.ref vb), .val (.int (2 : Int32))] []) ?_
    refine XS.iloadN X0.here hx rfl (hb hby d18_9) rfl ?_
    refine sh (mkF m 10 #[.val (.ref va), .val (.ref vb), .val (.int (2 : Int32))] [(.int (2 : Int32))]) ?_
    refine XS.aloadN X0.here hx rfl (hb hby d18_10) rfl rfl ?_
    refine sh (mkF m 11 #[.val (.ref va), .val (.ref vb), .val (.int (2 : Int32))] [(.ref va), (.int (2 : Int32))]) ?_
    refine X0.arraylength hx (cell := cl9) (by rw [e0]; exact Ar9.1) (State.isArrayOf_alike hZ.alike Ar9.2.1) (g := (mkF m 11 #[.val (.ref va), .val (.ref vb), .val (.int (2 : Int32))] [(.ref va), (.int (2 : Int32))])) rfl (rest := [(.int (2 : Int32))]) rfl (hb hby d18_11) _ ?_
    rw [len_of S9 M9]
    refine sh (mkF m 12 #[.val (.ref va), .val (.ref vb), .val (.int (2 : Int32))] [(.int (3 : Int32)), (.int (2 : Int32))]) ?_
    refine XS.icmpNo X0.here hx rfl (hb hby d18_12) rfl (tlt (by decide : (2 : Int32) < (3 : Int32))).2.1 ?_
    refine sh (mkF m 15 #[.val (.ref va), .val (.ref vb), .val (.int (2 : Int32))] []) ?_
    refine XS.aloadN X0.here hx rfl (hb hby d18_15) rfl rfl ?_
    refine sh (mkF m 16 #[.val (.ref va), .val (.ref vb), .val (.int (2 : Int32))] [(.ref va)]) ?_
    refine XS.iloadN X0.here hx rfl (hb hby d18_16) rfl ?_
    refine sh (mkF m 17 #[.val (.ref va), .val (.ref vb), .val (.int (2 : Int32))] [(.int (2 : Int32)), (.ref va)]) ?_
    refine X0.baloadBytes hx (j := (2 : Int32)) (v := (.int x2)) (by rw [e0]; exact Ar10.1) (State.isArrayOf_alike hZ.alike Ar10.2.1) Ar10.2.2 hin10 hat10 (g := (mkF m 17 #[.val (.ref va), .val (.ref vb), .val (.int (2 : Int32))] [(.int (2 : Int32)), (.ref va)])) rfl rfl (hb hby d18_17) _ ?_
    refine sh (mkF m 18 #[.val (.ref va), .val (.ref vb), .val (.int (2 : Int32))] [(.int x2)]) ?_
    refine XS.aloadN X0.here hx rfl (hb hby d18_18) rfl rfl ?_
    refine sh (mkF m 19 #[.val (.ref va), .val (.ref vb), .val (.int (2 : Int32))] [(.ref vb), (.int x2)]) ?_
    refine XS.iloadN X0.here hx rfl (hb hby d18_19) rfl ?_
    refine sh (mkF m 20 #[.val (.ref va), .val (.ref vb), .val (.int (2 : Int32))] [(.int (2 : Int32)), (.ref vb), (.int x2)]) ?_
    refine X0.baloadBytes hx (j := (2 : Int32)) (v := (.int y2)) (by rw [e0]; exact Ar11.1) (State.isArrayOf_alike hZ.alike Ar11.2.1) Ar11.2.2 hin11 hat11 (g := (mkF m 20 #[.val (.ref va), .val (.ref vb), .val (.int (2 : Int32))] [(.int (2 : Int32)), (.ref vb), (.int x2)])) rfl rfl (hb hby d18_20) _ ?_
    refine sh (mkF m 21 #[.val (.ref va), .val (.ref vb), .val (.int (2 : Int32))] [(.int y2), (.int x2)]) ?_
    refine XS.icmpYes X0.here hx rfl (pc0 := 21) (pc' := 26) rfl (hb hby d18_21) rfl (teq hq2).1 (by decide) (by decide) ?_
    refine sh (mkF m 26 #[.val (.ref va), .val (.ref vb), .val (.int (2 : Int32))] []) ?_
    refine XS.iinc X0.here hx rfl (hb hby d18_26) rfl (l' := #[.val (.ref va), .val (.ref vb), .val (.int ((2 : Int32) + (1 : Int32)))]) rfl ?_
    refine sh (mkF m 29 #[.val (.ref va), .val (.ref vb), .val (.int ((2 : Int32) + (1 : Int32)))] []) ?_
    rw [show ((2 : Int32) + (1 : Int32)) = (3 : Int32) from by decide]
    refine sh (mkF m 29 #[.val (.ref va), .val (.ref vb), .val (.int (3 : Int32))] []) ?_
    refine XS.goto X0.here hx rfl (pc0 := 29) (pc' := 9) rfl (hb hby d18_29) (by decide) (by decide) ?_
    refine sh (mkF m 9 #[.val (.ref va), .val (.ref vb), .val (.int (3 : Int32))] []) ?_
    refine XS.iloadN X0.here hx rfl (hb hby d18_9) rfl ?_
    refine sh (mkF m 10 #[.val (.ref va), .val (.ref vb), .val (.int (3 : Int32))] [(.int (3 : Int32))]) ?_
    refine XS.aloadN X0.here hx rfl (hb hby d18_10) rfl rfl ?_
    refine sh (mkF m 11 #[.val (.ref va), .val (.ref vb), .val (.int (3 : Int32))] [(.ref va), (.int (3 : Int32))]) ?_
    refine X0.arraylength hx (cell := cl12) (by rw [e0]; exact Ar12.1) (State.isArrayOf_alike hZ.alike Ar12.2.1) (g := (mkF m 11 #[.val (.ref va), .val (.ref vb), .val (.int (3 : Int32))] [(.ref va), (.int (3 : Int32))])) rfl (rest := [(.int (3 : Int32))]) rfl (hb hby d18_11) _ ?_
    rw [len_of S12 M12]
    refine sh (mkF m 12 #[.val (.ref va), .val (.ref vb), .val (.int (3 : Int32))] [(.int (3 : Int32)), (.int (3 : Int32))]) ?_
    refine XS.icmpYes X0.here hx rfl (pc0 := 12) (pc' := 32) rfl (hb hby d18_12) rfl (flt (by decide : ¬ ((3 : Int32) < (3 : Int32)))).2.1 (by decide) (by decide) ?_
    refine sh (mkF m 32 #[.val (.ref va), .val (.ref vb), .val (.int (3 : Int32))] []) ?_
    refine XS.iconst X0.here hx rfl (hb hby d18_32) ?_
    refine sh (mkF m 33 #[.val (.ref va), .val (.ref vb), .val (.int (3 : Int32))] [(.int (1 : Int32))]) ?_
    exact retN X0 hx (t := .boolean) Bd.returns (by simp) (hb hby d18_33) hr
  · show Q_rmLE_33 Z va vb x0 x1 x2 ka y0 y1 y2 kb h0 n0 _ s₁.heap _
    rw [e0]
    exact ⟨rfl, N0, rfl⟩
set_option maxRecDepth 65536 in
set_option maxHeartbeats 40000000 in
theorem rmLE_t (l : Launch) (Z : State) (a0 : Array Value) (hw : ∀ d ∈ tables_1, d.before a0 Z = true) (ws : List Jvm.Cond) (va : Addr) (vb : Addr) (ka : ClassId) (kb : ClassId) (t1 : Int32) (t2 : Int32) (h0 : Heap) (n0 : Nat) (Z0 : n0 ≤ h0.size) (V_va : Arv Z h0 va ka .byte (t1 &&& (3 : Int32)) (own_vs t1) (.int (0 : Int32))) (V_vb : Arv Z h0 vb kb .byte (t2 &&& (3 : Int32)) (own_vs t2) (.int (0 : Int32))) (hs : own_vs t1 = own_vs t2) :
    MetFree l (⟨"java/lang/StringLatin1", "equals", "([B[B)Z"⟩ : MethodName) (head1 (Jvm.Cond.code (⟨"java/lang/StringLatin1", "equals", "([B[B)Z"⟩ : MethodName) jdk_43_method_13_code 3 (some .boolean) :: ws) ({ frames := 0, cells := 0, slots := 0, locals := 0 } : Room)) (fun a U => a = #[(.ref va), (.ref vb)] ∧ Z.Warmed39 U.vm ∧ U.heap = h0) (fun _ _ _ _ _ => True) (fun _ U o U' => ∃ v L, o = .returned v ∧ Q_b 1 h0 n0 v U'.heap L ∧ FrameEnd U o U' L ({ frames := 0, cells := 0, slots := 0, locals := 0 } : Room).cells ({ frames := 0, cells := 0, slots := 0, locals := 0 } : Room).slots) := by
  by_cases hz : (t1 &&& (3 : Int32)) = (t2 &&& (3 : Int32))
  · rcases own_cases t1 with hn1 | hn1 | hn1 | hn1 <;> have hn2 := hz.symm.trans hn1
    · have A1 := V_va
      have A2 := V_vb
      rw [hn1, own_vs_0 hn1] at A1
      rw [hn2, own_vs_0 hn2] at A2
      rw [own_vs_0 hn1, own_vs_0 hn2] at hs
      exact rmLE_00 l Z a0 hw ws va vb ka kb h0 n0 Z0 A1 A2
    · have A1 := V_va
      have A2 := V_vb
      rw [hn1, own_vs_1 hn1] at A1
      rw [hn2, own_vs_1 hn2] at A2
      rw [own_vs_1 hn1, own_vs_1 hn2] at hs
      simp only [List.cons.injEq, Value.int.injEq, and_true] at hs
      exact rmLE_11 l Z a0 hw ws va vb (own_b t1 2) ka (own_b t2 2) kb h0 n0 Z0 A1 A2 hs
    · have A1 := V_va
      have A2 := V_vb
      rw [hn1, own_vs_2 hn1] at A1
      rw [hn2, own_vs_2 hn2] at A2
      rw [own_vs_2 hn1, own_vs_2 hn2] at hs
      simp only [List.cons.injEq, Value.int.injEq, and_true] at hs
      exact rmLE_22 l Z a0 hw ws va vb (own_b t1 2) (own_b t1 10) ka (own_b t2 2) (own_b t2 10) kb h0 n0 Z0 A1 A2 hs.1 hs.2
    · have A1 := V_va
      have A2 := V_vb
      rw [hn1, own_vs_3 hn1] at A1
      rw [hn2, own_vs_3 hn2] at A2
      rw [own_vs_3 hn1, own_vs_3 hn2] at hs
      simp only [List.cons.injEq, Value.int.injEq, and_true] at hs
      exact rmLE_33 l Z a0 hw ws va vb (own_b t1 2) (own_b t1 10) (own_b t1 18) ka (own_b t2 2) (own_b t2 10) (own_b t2 18) kb h0 n0 Z0 A1 A2 hs.1 hs.2.1 hs.2.2
  · exact absurd (own_len hs) hz
set_option maxRecDepth 65536 in
set_option maxHeartbeats 40000000 in
theorem rmLE_f (l : Launch) (Z : State) (a0 : Array Value) (hw : ∀ d ∈ tables_1, d.before a0 Z = true) (ws : List Jvm.Cond) (va : Addr) (vb : Addr) (ka : ClassId) (kb : ClassId) (t1 : Int32) (t2 : Int32) (h0 : Heap) (n0 : Nat) (Z0 : n0 ≤ h0.size) (V_va : Arv Z h0 va ka .byte (t1 &&& (3 : Int32)) (own_vs t1) (.int (0 : Int32))) (V_vb : Arv Z h0 vb kb .byte (t2 &&& (3 : Int32)) (own_vs t2) (.int (0 : Int32))) (hs : ¬ (own_vs t1 = own_vs t2)) :
    MetFree l (⟨"java/lang/StringLatin1", "equals", "([B[B)Z"⟩ : MethodName) (head1 (Jvm.Cond.code (⟨"java/lang/StringLatin1", "equals", "([B[B)Z"⟩ : MethodName) jdk_43_method_13_code 3 (some .boolean) :: ws) ({ frames := 0, cells := 0, slots := 0, locals := 0 } : Room)) (fun a U => a = #[(.ref va), (.ref vb)] ∧ Z.Warmed39 U.vm ∧ U.heap = h0) (fun _ _ _ _ _ => True) (fun _ U o U' => ∃ v L, o = .returned v ∧ Q_b 0 h0 n0 v U'.heap L ∧ FrameEnd U o U' L ({ frames := 0, cells := 0, slots := 0, locals := 0 } : Room).cells ({ frames := 0, cells := 0, slots := 0, locals := 0 } : Room).slots) := by
  by_cases hz : (t1 &&& (3 : Int32)) = (t2 &&& (3 : Int32))
  · rcases own_cases t1 with hn1 | hn1 | hn1 | hn1 <;> have hn2 := hz.symm.trans hn1
    · have A1 := V_va
      have A2 := V_vb
      rw [hn1, own_vs_0 hn1] at A1
      rw [hn2, own_vs_0 hn2] at A2
      rw [own_vs_0 hn1, own_vs_0 hn2] at hs
      exact absurd rfl hs
    · have A1 := V_va
      have A2 := V_vb
      rw [hn1, own_vs_1 hn1] at A1
      rw [hn2, own_vs_1 hn2] at A2
      rw [own_vs_1 hn1, own_vs_1 hn2] at hs
      by_cases hq0 : (own_b t1 2) = (own_b t2 2)
      · skip
        exact absurd (by rw [hq0]) hs
      · exact rmLE_10 l Z a0 hw ws va vb (own_b t1 2) ka (own_b t2 2) kb h0 n0 Z0 A1 A2 hq0
    · have A1 := V_va
      have A2 := V_vb
      rw [hn1, own_vs_2 hn1] at A1
      rw [hn2, own_vs_2 hn2] at A2
      rw [own_vs_2 hn1, own_vs_2 hn2] at hs
      by_cases hq0 : (own_b t1 2) = (own_b t2 2)
      · skip
        by_cases hq1 : (own_b t1 10) = (own_b t2 10)
        · skip
          exact absurd (by rw [hq0, hq1]) hs
        · exact rmLE_21 l Z a0 hw ws va vb (own_b t1 2) (own_b t1 10) ka (own_b t2 2) (own_b t2 10) kb h0 n0 Z0 A1 A2 hq0 hq1
      · exact rmLE_20 l Z a0 hw ws va vb (own_b t1 2) (own_b t1 10) ka (own_b t2 2) (own_b t2 10) kb h0 n0 Z0 A1 A2 hq0
    · have A1 := V_va
      have A2 := V_vb
      rw [hn1, own_vs_3 hn1] at A1
      rw [hn2, own_vs_3 hn2] at A2
      rw [own_vs_3 hn1, own_vs_3 hn2] at hs
      by_cases hq0 : (own_b t1 2) = (own_b t2 2)
      · skip
        by_cases hq1 : (own_b t1 10) = (own_b t2 10)
        · skip
          by_cases hq2 : (own_b t1 18) = (own_b t2 18)
          · skip
            exact absurd (by rw [hq0, hq1, hq2]) hs
          · exact rmLE_32 l Z a0 hw ws va vb (own_b t1 2) (own_b t1 10) (own_b t1 18) ka (own_b t2 2) (own_b t2 10) (own_b t2 18) kb h0 n0 Z0 A1 A2 hq0 hq1 hq2
        · exact rmLE_31 l Z a0 hw ws va vb (own_b t1 2) (own_b t1 10) (own_b t1 18) ka (own_b t2 2) (own_b t2 10) (own_b t2 18) kb h0 n0 Z0 A1 A2 hq0 hq1
      · exact rmLE_30 l Z a0 hw ws va vb (own_b t1 2) (own_b t1 10) (own_b t1 18) ka (own_b t2 2) (own_b t2 10) (own_b t2 18) kb h0 n0 Z0 A1 A2 hq0
  · exact rmLE_ne l Z a0 hw ws va vb (t1 &&& (3 : Int32)) (own_vs t1) ka (t2 &&& (3 : Int32)) (own_vs t2) kb h0 n0 Z0 V_va V_vb hz
theorem d19_0 : decode jdk_42_method_66_code 0 = .ok (.aload_n 0, 1) := by decide +kernel
theorem d19_1 : decode jdk_42_method_66_code 1 = .ok (.aload_n 1, 1) := by decide +kernel
theorem d19_2 : decode jdk_42_method_66_code 2 = .ok (.if_acmp .ne 5, 3) := by decide +kernel
theorem d19_7 : decode jdk_42_method_66_code 7 = .ok (.aload_n 1, 1) := by decide +kernel
theorem d19_8 : decode jdk_42_method_66_code 8 = .ok (.instanceof 10, 3) := by decide +kernel
theorem d19_11 : decode jdk_42_method_66_code 11 = .ok (.ifCond .eq 43, 3) := by decide +kernel
theorem d19_14 : decode jdk_42_method_66_code 14 = .ok (.aload_n 1, 1) := by decide +kernel
theorem d19_15 : decode jdk_42_method_66_code 15 = .ok (.checkcast 10, 3) := by decide +kernel
theorem d19_18 : decode jdk_42_method_66_code 18 = .ok (.astore_n 2, 1) := by decide +kernel
theorem d19_19 : decode jdk_42_method_66_code 19 = .ok (.getstatic 38, 3) := by decide +kernel
theorem d19_22 : decode jdk_42_method_66_code 22 = .ok (.ifCond .eq 14, 3) := by decide +kernel
theorem d19_25 : decode jdk_42_method_66_code 25 = .ok (.aload_n 0, 1) := by decide +kernel
theorem d19_26 : decode jdk_42_method_66_code 26 = .ok (.getfield 15, 3) := by decide +kernel
theorem d19_29 : decode jdk_42_method_66_code 29 = .ok (.aload_n 2, 1) := by decide +kernel
theorem d19_30 : decode jdk_42_method_66_code 30 = .ok (.getfield 15, 3) := by decide +kernel
theorem d19_33 : decode jdk_42_method_66_code 33 = .ok (.if_icmp .ne 21, 3) := by decide +kernel
theorem d19_36 : decode jdk_42_method_66_code 36 = .ok (.aload_n 0, 1) := by decide +kernel
theorem d19_37 : decode jdk_42_method_66_code 37 = .ok (.getfield 9, 3) := by decide +kernel
theorem d19_40 : decode jdk_42_method_66_code 40 = .ok (.aload_n 2, 1) := by decide +kernel
theorem d19_41 : decode jdk_42_method_66_code 41 = .ok (.getfield 9, 3) := by decide +kernel
theorem d19_44 : decode jdk_42_method_66_code 44 = .ok (.invokestatic 541, 3) := by decide +kernel
theorem pd_15 : parseMethodDescriptor "([B[B)Z" = some ⟨[(.array .byte), (.array .byte)], some .boolean⟩ := by decide +kernel
theorem d19_47 : decode jdk_42_method_66_code 47 = .ok (.ifCond .eq 7, 3) := by decide +kernel
theorem d19_50 : decode jdk_42_method_66_code 50 = .ok (.iconst 1, 1) := by decide +kernel
theorem d19_51 : decode jdk_42_method_66_code 51 = .ok (.goto 4, 3) := by decide +kernel
theorem d19_55 : decode jdk_42_method_66_code 55 = .ok (.ireturn, 1) := by decide +kernel
def Q_rmSE_t (Z : State) (sa : Addr) (sb : Addr) (s_CS : Int32) (t1 : Int32) (t2 : Int32) (va : Addr) (ka : ClassId) (vb : Addr) (kb : ClassId) (h0 : Heap) (n0 : Nat) (v : Option Value) (h : Heap) (L : List Loc) : Prop := v = some (.int (1 : Int32)) ∧ Fr n0 L ∧ h = h0
theorem ef_rmSE_t (m : MethodId) (sa : Addr) (sb : Addr) : entryFrame m #[(.ref sa), (.ref sb)] 3 = mkF m 0 #[.val (.ref sa), .val (.ref sb), .unset] [] := by first | (simp [entryFrame, mkF, argsToLocals, Value.category]; done) | rfl
set_option maxRecDepth 65536 in
set_option maxHeartbeats 40000000 in
theorem rmSE_t (l : Launch) (Z : State) (a0 : Array Value) (hw : ∀ d ∈ tables_1, d.before a0 Z = true) (ws : List Jvm.Cond) (sa : Addr) (sb : Addr) (s_CS : Int32) (t1 : Int32) (t2 : Int32) (va : Addr) (ka : ClassId) (vb : Addr) (kb : ClassId) (h0 : Heap) (n0 : Nat) (Z0 : n0 ≤ h0.size) (S_CS : Sta Z h0 "java/lang/String" "COMPACT_STRINGS" "Z" (.int s_CS)) (hcs : ¬ (s_CS = (0 : Int32))) (E_sa : Exa Z h0 sa "java/lang/String") (F_coder_sa : Fld Z h0 sa "java/lang/String" "coder" "B" (.int (0 : Int32))) (F_value_sa : Fld Z h0 sa "java/lang/String" "value" "[B" (.ref va)) (V_va : Arv Z h0 va ka .byte (t1 &&& (3 : Int32)) (own_vs t1) (.int (0 : Int32))) (E_sb : Exa Z h0 sb "java/lang/String") (F_coder_sb : Fld Z h0 sb "java/lang/String" "coder" "B" (.int (0 : Int32))) (F_value_sb : Fld Z h0 sb "java/lang/String" "value" "[B" (.ref vb)) (V_vb : Arv Z h0 vb kb .byte (t2 &&& (3 : Int32)) (own_vs t2) (.int (0 : Int32))) (hs : own_vs t1 = own_vs t2) (ne_sa_sb : sa ≠ sb) :
    MetFree l (⟨"java/lang/String", "equals", "(Ljava/lang/Object;)Z"⟩ : MethodName) (head1 (Jvm.Cond.code (⟨"java/lang/String", "equals", "(Ljava/lang/Object;)Z"⟩ : MethodName) jdk_42_method_66_code 3 (some .boolean) :: ws) ({ frames := 1, cells := 0, slots := 0, locals := 14 } : Room)) (fun a U => a = #[(.ref sa), (.ref sb)] ∧ Z.Warmed39 U.vm ∧ U.heap = h0) (fun _ _ _ _ _ => True) (fun _ U o U' => ∃ v L, o = .returned v ∧ Q_rmSE_t Z sa sb s_CS t1 t2 va ka vb kb h0 n0 v U'.heap L ∧ FrameEnd U o U' L ({ frames := 1, cells := 0, slots := 0, locals := 14 } : Room).cells ({ frames := 1, cells := 0, slots := 0, locals := 14 } : Room).slots) := by
  refine MetFree.of_bodySF (plainFor_of_name pn_1) hisR ?_
  intro p e s m args below meth c s₁ Bd hml0 hP hK
  obtain ⟨rfl, hZ, hh⟩ := hP
  have hx := Bd.exec
  have hby := Bd.bytes
  have hml : c.maxLocals = 3 := hml0
  have hown : s.vm.findClass "java/lang/String" = some m.cls := findClass_of_methodNamed Bd.named
  have hnm := (name_of_methodNamed Bd.named Bd.method).1
  have X0 : Stand p l e ({ frames := 1, cells := 0, slots := 0, locals := 14 } : Room) s m #[(.ref sa), (.ref sb)] below meth c s₁ [] 0 0 := Stand.of_body Bd
  have e0 : s₁.heap = h0 := by rw [← hh, Bd.state]; rfl
  have N0 := Fr.nil n0
  have pre0 : ∀ t, Steps p.tables e below (s₁.setTop (mkF m 0 #[.val (.ref sa), .val (.ref sb), .unset] [])) t → Steps p.tables e below (s₁.setTop (entryFrame m #[(.ref sa), (.ref sb)] 3)) t := fun t k => castTop (ef_rmSE_t m sa sb) k
  obtain ⟨T1, X1, e1, st1⟩ := instY X0 hx hZ hown (ow hw 41 rfl) e0 (Ins.self E_sb) (g := (mkF m 8 #[.val (.ref sa), .val (.ref sb), .unset] [(.ref sb)])) rfl rfl (hb hby d19_8)
  obtain ⟨T2, X2, e2, st2⟩ := castY X1 hx hZ hown (ow hw 41 rfl) e1 (Ins.self E_sb) (g := (mkF m 15 #[.val (.ref sa), .val (.ref sb), .unset] [(.ref sb)])) rfl rfl (hb hby d19_15)
  obtain ⟨T3, X3, e3, st3⟩ := getS2 X2 hx hZ hown (host := "") (Or.inl (ow hw 18 rfl)) Via.refl e2 S_CS (g := (mkF m 19 #[.val (.ref sa), .val (.ref sb), .val (.ref sb)] [])) rfl (hb hby d19_19)
  obtain ⟨T4, X4, e4, st4⟩ := getF X3 hx hZ hown (host := "") (Or.inl (ow hw 30 rfl)) Via.refl e3 F_coder_sa (g := (mkF m 26 #[.val (.ref sa), .val (.ref sb), .val (.ref sb)] [(.ref sa)])) rfl rfl (hb hby d19_26)
  obtain ⟨T5, X5, e5, st5⟩ := getF X4 hx hZ hown (host := "") (Or.inl (ow hw 30 rfl)) Via.refl e4 F_coder_sb (g := (mkF m 30 #[.val (.ref sa), .val (.ref sb), .val (.ref sb)] [(.ref sb), (.int (0 : Int32))])) rfl rfl (hb hby d19_30)
  obtain ⟨T6, X6, e6, st6⟩ := getF X5 hx hZ hown (host := "") (Or.inl (ow hw 32 rfl)) Via.refl e5 F_value_sa (g := (mkF m 37 #[.val (.ref sa), .val (.ref sb), .val (.ref sb)] [(.ref sa)])) rfl rfl (hb hby d19_37)
  obtain ⟨T7, X7, e7, st7⟩ := getF X6 hx hZ hown (host := "") (Or.inl (ow hw 32 rfl)) Via.refl e6 F_value_sb (g := (mkF m 41 #[.val (.ref sa), .val (.ref sb), .val (.ref sb)] [(.ref sb), (.ref va)])) rfl rfl (hb hby d19_41)
  obtain ⟨_, _, ⟨T8, L8, k8, n8⟩, -, X8, ⟨Lc8, hQ8, l8, y8, z8⟩, st8⟩ := Jvm.LawKit.callS X7 hx (y := (⟨"java/lang/StringLatin1", "equals", "([B[B)Z"⟩ : MethodName)) hown (mvT hZ (ow hw 89 rfl)) (mvT hZ (ow hw 90 rfl)) (mvT hZ (ow hw 39 rfl)) (mvT hZ (ow hw 91 rfl)) (by decide) (backOf (W := 0) (rmLE_t l Z a0 hw [] va vb ka kb t1 t2 h0 n0 Z0 V_va V_vb hs) hZ (ow hw 91 rfl) (ow hw 39 rfl) (by decide) (by decide)) (g := (mkF m 44 #[.val (.ref sa), .val (.ref sb), .val (.ref sb)] [(.ref vb), (.ref va)])) rfl (by rw [hml]; rfl) (argsL := [(.ref va), (.ref vb)]) (rest := []) (lenOf pd_15 rfl) rfl (by show 2 * 0 + _ ≤ _; exact Nat.le_of_eq rfl) (hb hby d19_44) (fun _ _ => ⟨rfl, e7, (by decide : 0 + 0 ≤ _), (by decide : 0 + 0 ≤ _)⟩)
  dsimp only [Pt.U, Pt.locs, Pt.cells, Pt.slots] at X8 l8 y8 z8 st8 hQ8
  subst l8 y8 z8
  obtain ⟨rfl, Nq8, e8⟩ := hQ8
  have N8 := Fr.app N0 Nq8
  obtain ⟨fs, hr, hrun, hended, hW, hsame⟩ := X8.leave (v := some (.int (1 : Int32))) (fun h => by rw [Bd.returns] at h; cases h)
  refine ⟨_, _, pre0 _ ?_, hrun, hended, _, _, rfl, ?_, ⟨_, rfl⟩, hW, hsame.mono (by decide) (by decide)⟩
  · refine sh (mkF m 0 #[.val (.ref sa), .val (.ref sb), .unset] []) ?_
    refine XS.aloadN X0.here hx rfl (hb hby d19_0) rfl rfl ?_
    refine sh (mkF m 1 #[.val (.ref sa), .val (.ref sb), .unset] [(.ref sa)]) ?_
    refine XS.aloadN X0.here hx rfl (hb hby d19_1) rfl rfl ?_
    refine sh (mkF m 2 #[.val (.ref sa), .val (.ref sb), .unset] [(.ref sb), (.ref sa)]) ?_
    refine Jvm.RoadKit.acmp (g := (mkF m 2 #[.val (.ref sa), .val (.ref sb), .unset] [(.ref sb), (.ref sa)])) X0 hx rfl rfl rfl (pc0 := 2) (pc' := 7) (same := false) rfl (hb hby d19_2) rfl (decide_eq_false fun q => ne_sa_sb (Value.ref.inj q)) (by decide) (by decide) ?_
    refine sh (mkF m 7 #[.val (.ref sa), .val (.ref sb), .unset] []) ?_
    refine XS.aloadN X0.here hx rfl (hb hby d19_7) rfl rfl ?_
    refine sh (mkF m 8 #[.val (.ref sa), .val (.ref sb), .unset] [(.ref sb)]) ?_
    refine st1 _ ?_
    refine sh (mkF m 11 #[.val (.ref sa), .val (.ref sb), .unset] [(.int (1 : Int32))]) ?_
    refine XS.ifNo X1.here hx rfl (hb hby d19_11) rfl ((if0 _ _).trans (feq (by decide : ¬ ((1 : Int32) = (0 : Int32)))).1) ?_
    refine sh (mkF m 14 #[.val (.ref sa), .val (.ref sb), .unset] []) ?_
    refine XS.aloadN X1.here hx rfl (hb hby d19_14) rfl rfl ?_
    refine sh (mkF m 15 #[.val (.ref sa), .val (.ref sb), .unset] [(.ref sb)]) ?_
    refine st2 _ ?_
    refine sh (mkF m 18 #[.val (.ref sa), .val (.ref sb), .unset] [(.ref sb)]) ?_
    refine XS.astoreN X2.here hx rfl (hb hby d19_18) rfl rfl (l' := #[.val (.ref sa), .val (.ref sb), .val (.ref sb)]) rfl ?_
    refine sh (mkF m 19 #[.val (.ref sa), .val (.ref sb), .val (.ref sb)] []) ?_
    refine st3 _ ?_
    refine sh (mkF m 22 #[.val (.ref sa), .val (.ref sb), .val (.ref sb)] [(.int s_CS)]) ?_
    refine XS.ifNo X3.here hx rfl (hb hby d19_22) rfl ((if0 _ _).trans (feq hcs).1) ?_
    refine sh (mkF m 25 #[.val (.ref sa), .val (.ref sb), .val (.ref sb)] []) ?_
    refine XS.aloadN X3.here hx rfl (hb hby d19_25) rfl rfl ?_
    refine sh (mkF m 26 #[.val (.ref sa), .val (.ref sb), .val (.ref sb)] [(.ref sa)]) ?_
    refine st4 _ ?_
    refine sh (mkF m 29 #[.val (.ref sa), .val (.ref sb), .val (.ref sb)] [(.int (0 : Int32))]) ?_
    refine XS.aloadN X4.here hx rfl (hb hby d19_29) rfl rfl ?_
    refine sh (mkF m 30 #[.val (.ref sa), .val (.ref sb), .val (.ref sb)] [(.ref sb), (.int (0 : Int32))]) ?_
    refine st5 _ ?_
    refine sh (mkF m 33 #[.val (.ref sa), .val (.ref sb), .val (.ref sb)] [(.int (0 : Int32)), (.int (0 : Int32))]) ?_
    refine XS.icmpNo X5.here hx rfl (hb hby d19_33) rfl (teq (rfl : (0 : Int32) = (0 : Int32))).2 ?_
    refine sh (mkF m 36 #[.val (.ref sa), .val (.ref sb), .val (.ref sb)] []) ?_
    refine XS.aloadN X5.here hx rfl (hb hby d19_36) rfl rfl ?_
    refine sh (mkF m 37 #[.val (.ref sa), .val (.ref sb), .val (.ref sb)] [(.ref sa)]) ?_
    refine st6 _ ?_
    refine sh (mkF m 40 #[.val (.ref sa), .val (.ref sb), .val (.ref sb)] [(.ref va)]) ?_
    refine XS.aloadN X6.here hx rfl (hb hby d19_40) rfl rfl ?_
    refine sh (mkF m 41 #[.val (.ref sa), .val (.ref sb), .val (.ref sb)] [(.ref sb), (.ref va)]) ?_
    refine st7 _ ?_
    refine sh (mkF m 44 #[.val (.ref sa), .val (.ref sb), .val (.ref sb)] [(.ref vb), (.ref va)]) ?_
    refine st8 _ ?_
    refine sh (mkF m 47 #[.val (.ref sa), .val (.ref sb), .val (.ref sb)] [(.int (1 : Int32))]) ?_
    refine XS.ifNo X8.here hx rfl (hb hby d19_47) rfl ((if0 _ _).trans (feq (by decide : ¬ ((1 : Int32) = (0 : Int32)))).1) ?_
    refine sh (mkF m 50 #[.val (.ref sa), .val (.ref sb), .val (.ref sb)] []) ?_
    refine XS.iconst X8.here hx rfl (hb hby d19_50) ?_
    refine sh (mkF m 51 #[.val (.ref sa), .val (.ref sb), .val (.ref sb)] [(.int (1 : Int32))]) ?_
    refine XS.goto X8.here hx rfl (pc0 := 51) (pc' := 55) rfl (hb hby d19_51) (by decide) (by decide) ?_
    refine sh (mkF m 55 #[.val (.ref sa), .val (.ref sb), .val (.ref sb)] [(.int (1 : Int32))]) ?_
    exact retN X8 hx (t := .boolean) Bd.returns (by simp) (hb hby d19_55) hr
  · show Q_rmSE_t Z sa sb s_CS t1 t2 va ka vb kb h0 n0 _ T8.heap _
    rw [e8]
    exact ⟨rfl, N8, rfl⟩
theorem d20_0 : decode prog_4_method_6_code 0 = .ok (.aload_n 0, 1) := by decide +kernel
theorem d20_1 : decode prog_4_method_6_code 1 = .ok (.getfield 17, 3) := by decide +kernel
theorem d20_4 : decode prog_4_method_6_code 4 = .ok (.ifCond .ne 18, 3) := by decide +kernel
theorem d20_7 : decode prog_4_method_6_code 7 = .ok (.aload_n 0, 1) := by decide +kernel
theorem d20_8 : decode prog_4_method_6_code 8 = .ok (.getfield 21, 3) := by decide +kernel
theorem d20_11 : decode prog_4_method_6_code 11 = .ok (.aload_n 1, 1) := by decide +kernel
theorem d20_12 : decode prog_4_method_6_code 12 = .ok (.invokevirtual 30, 3) := by decide +kernel
theorem pd_16 : parseMethodDescriptor "(Ljava/lang/Object;)Z" = some ⟨[(.object "java/lang/Object")], some .boolean⟩ := by decide +kernel
theorem d20_15 : decode prog_4_method_6_code 15 = .ok (.ifCond .eq 7, 3) := by decide +kernel
theorem d20_18 : decode prog_4_method_6_code 18 = .ok (.iconst 1, 1) := by decide +kernel
theorem d20_19 : decode prog_4_method_6_code 19 = .ok (.goto 4, 3) := by decide +kernel
theorem d20_23 : decode prog_4_method_6_code 23 = .ok (.ireturn, 1) := by decide +kernel
theorem pn_5 : plainName "com/example/wirewright/bench/Run" = true := by first | (simp [plainName, overriddenIn]; done) | decide +kernel
def Q_rmPR_t (Z : State) (ob : Addr) (sb : Addr) (sa : Addr) (s_CS : Int32) (t1 : Int32) (t2 : Int32) (va : Addr) (ka : ClassId) (vb : Addr) (kb : ClassId) (h0 : Heap) (n0 : Nat) (v : Option Value) (h : Heap) (L : List Loc) : Prop := v = some (.int (1 : Int32)) ∧ Fr n0 L ∧ h = h0
theorem ef_rmPR_t (m : MethodId) (ob : Addr) (sb : Addr) : entryFrame m #[(.ref ob), (.ref sb)] 2 = mkF m 0 #[.val (.ref ob), .val (.ref sb)] [] := by first | (simp [entryFrame, mkF, argsToLocals, Value.category]; done) | rfl
set_option maxRecDepth 65536 in
set_option maxHeartbeats 40000000 in
theorem rmPR_t (l : Launch) (Z : State) (a0 : Array Value) (hw : ∀ d ∈ tables_1, d.before a0 Z = true) (ws : List Jvm.Cond) (ob : Addr) (sb : Addr) (sa : Addr) (s_CS : Int32) (t1 : Int32) (t2 : Int32) (va : Addr) (ka : ClassId) (vb : Addr) (kb : ClassId) (h0 : Heap) (n0 : Nat) (Z0 : n0 ≤ h0.size) (S_CS : Sta Z h0 "java/lang/String" "COMPACT_STRINGS" "Z" (.int s_CS)) (hcs : ¬ (s_CS = (0 : Int32))) (F_exitCode_ob : Fld Z h0 ob "com/example/wirewright/bench/Run" "exitCode" "I" (.int (0 : Int32))) (F_output_ob : Fld Z h0 ob "com/example/wirewright/bench/Run" "output" "Ljava/lang/String;" (.ref sa)) (E_sa : Exa Z h0 sa "java/lang/String") (F_coder_sa : Fld Z h0 sa "java/lang/String" "coder" "B" (.int (0 : Int32))) (F_value_sa : Fld Z h0 sa "java/lang/String" "value" "[B" (.ref va)) (V_va : Arv Z h0 va ka .byte (t1 &&& (3 : Int32)) (own_vs t1) (.int (0 : Int32))) (E_sb : Exa Z h0 sb "java/lang/String") (F_coder_sb : Fld Z h0 sb "java/lang/String" "coder" "B" (.int (0 : Int32))) (F_value_sb : Fld Z h0 sb "java/lang/String" "value" "[B" (.ref vb)) (V_vb : Arv Z h0 vb kb .byte (t2 &&& (3 : Int32)) (own_vs t2) (.int (0 : Int32))) (hs : own_vs t1 = own_vs t2) (ne_sa_sb : sa ≠ sb) :
    MetFree l (⟨"com/example/wirewright/bench/Run", "printed", "(Ljava/lang/String;)Z"⟩ : MethodName) (head1 (Jvm.Cond.code (⟨"com/example/wirewright/bench/Run", "printed", "(Ljava/lang/String;)Z"⟩ : MethodName) prog_4_method_6_code 2 (some .boolean) :: ws) ({ frames := 2, cells := 0, slots := 0, locals := 28 } : Room)) (fun a U => a = #[(.ref ob), (.ref sb)] ∧ Z.Warmed39 U.vm ∧ U.heap = h0) (fun _ _ _ _ _ => True) (fun _ U o U' => ∃ v L, o = .returned v ∧ Q_rmPR_t Z ob sb sa s_CS t1 t2 va ka vb kb h0 n0 v U'.heap L ∧ FrameEnd U o U' L ({ frames := 2, cells := 0, slots := 0, locals := 28 } : Room).cells ({ frames := 2, cells := 0, slots := 0, locals := 28 } : Room).slots) := by
  refine MetFree.of_bodySF (plainFor_of_name pn_5) hisR ?_
  intro p e s m args below meth c s₁ Bd hml0 hP hK
  obtain ⟨rfl, hZ, hh⟩ := hP
  have hx := Bd.exec
  have hby := Bd.bytes
  have hml : c.maxLocals = 2 := hml0
  have hown : s.vm.findClass "com/example/wirewright/bench/Run" = some m.cls := findClass_of_methodNamed Bd.named
  have hnm := (name_of_methodNamed Bd.named Bd.method).1
  have X0 : Stand p l e ({ frames := 2, cells := 0, slots := 0, locals := 28 } : Room) s m #[(.ref ob), (.ref sb)] below meth c s₁ [] 0 0 := Stand.of_body Bd
  have e0 : s₁.heap = h0 := by rw [← hh, Bd.state]; rfl
  have N0 := Fr.nil n0
  have pre0 : ∀ t, Steps p.tables e below (s₁.setTop (mkF m 0 #[.val (.ref ob), .val (.ref sb)] [])) t → Steps p.tables e below (s₁.setTop (entryFrame m #[(.ref ob), (.ref sb)] 2)) t := fun t k => castTop (ef_rmPR_t m ob sb) k
  obtain ⟨T1, X1, e1, st1⟩ := getF X0 hx hZ hown (host := "") (Or.inl (ow hw 60 rfl)) Via.refl e0 F_exitCode_ob (g := (mkF m 1 #[.val (.ref ob), .val (.ref sb)] [(.ref ob)])) rfl rfl (hb hby d20_1)
  obtain ⟨T2, X2, e2, st2⟩ := getF X1 hx hZ hown (host := "") (Or.inl (ow hw 62 rfl)) Via.refl e1 F_output_ob (g := (mkF m 8 #[.val (.ref ob), .val (.ref sb)] [(.ref ob)])) rfl rfl (hb hby d20_8)
  obtain ⟨cq3, kq3, q3a, q3b, q3c⟩ := isOf hZ e2 E_sa
  obtain ⟨_, _, ⟨T3, L3, k3, n3⟩, -, X3, ⟨Lc3, hQ3, l3, y3, z3⟩, st3⟩ := X2.virtualBack hx (y := (⟨"java/lang/String", "equals", "(Ljava/lang/Object;)Z"⟩ : MethodName)) (z := (⟨"java/lang/String", "equals", "(Ljava/lang/Object;)Z"⟩ : MethodName)) hown (mvT hZ (ow hw 84 rfl)) (mvT hZ (ow hw 85 rfl)) (notFace_of_selects (args := #[]) (mvT hZ (ow hw 87 rfl))) (mvT hZ (ow hw 87 rfl)) (mvT hZ (ow hw 86 rfl)) (by decide) (backOf (W := 0) (rmSE_t l Z a0 hw [] sa sb s_CS t1 t2 va ka vb kb h0 n0 Z0 S_CS hcs E_sa F_coder_sa F_value_sa V_va E_sb F_coder_sb F_value_sb V_vb hs ne_sa_sb) hZ (ow hw 88 rfl) (ow hw 6 rfl) (by decide) (by decide)) q3a q3c (g := (mkF m 12 #[.val (.ref ob), .val (.ref sb)] [(.ref sb), (.ref sa)])) rfl (by rw [hml]; rfl) (Steps.refl _) (argsL := [(.ref sb)]) (rest := []) (lenOf pd_16 rfl) rfl (by show 2 * 0 + _ ≤ _; exact Nat.le_of_eq rfl) (hb hby d20_12) (fun _ _ => ⟨rfl, e2, (by decide : 0 + 0 ≤ _), (by decide : 0 + 0 ≤ _)⟩)
  dsimp only [Pt.U, Pt.locs, Pt.cells, Pt.slots] at X3 l3 y3 z3 st3 hQ3
  subst l3 y3 z3
  obtain ⟨rfl, Nq3, e3⟩ := hQ3
  have N3 := Fr.app N0 Nq3
  obtain ⟨fs, hr, hrun, hended, hW, hsame⟩ := X3.leave (v := some (.int (1 : Int32))) (fun h => by rw [Bd.returns] at h; cases h)
  refine ⟨_, _, pre0 _ ?_, hrun, hended, _, _, rfl, ?_, ⟨_, rfl⟩, hW, hsame.mono (by decide) (by decide)⟩
  · refine sh (mkF m 0 #[.val (.ref ob), .val (.ref sb)] []) ?_
    refine XS.aloadN X0.here hx rfl (hb hby d20_0) rfl rfl ?_
    refine sh (mkF m 1 #[.val (.ref ob), .val (.ref sb)] [(.ref ob)]) ?_
    refine st1 _ ?_
    refine sh (mkF m 4 #[.val (.ref ob), .val (.ref sb)] [(.int (0 : Int32))]) ?_
    refine XS.ifNo X1.here hx rfl (hb hby d20_4) rfl ((if0 _ _).trans (teq (rfl : (0 : Int32) = (0 : Int32))).2) ?_
    refine sh (mkF m 7 #[.val (.ref ob), .val (.ref sb)] []) ?_
    refine XS.aloadN X1.here hx rfl (hb hby d20_7) rfl rfl ?_
    refine sh (mkF m 8 #[.val (.ref ob), .val (.ref sb)] [(.ref ob)]) ?_
    refine st2 _ ?_
    refine sh (mkF m 11 #[.val (.ref ob), .val (.ref sb)] [(.ref sa)]) ?_
    refine XS.aloadN X2.here hx rfl (hb hby d20_11) rfl rfl ?_
    refine sh (mkF m 12 #[.val (.ref ob), .val (.ref sb)] [(.ref sb), (.ref sa)]) ?_
    refine st3.trans ?_
    refine sh (mkF m 15 #[.val (.ref ob), .val (.ref sb)] [(.int (1 : Int32))]) ?_
    refine XS.ifNo X3.here hx rfl (hb hby d20_15) rfl ((if0 _ _).trans (feq (by decide : ¬ ((1 : Int32) = (0 : Int32)))).1) ?_
    refine sh (mkF m 18 #[.val (.ref ob), .val (.ref sb)] []) ?_
    refine XS.iconst X3.here hx rfl (hb hby d20_18) ?_
    refine sh (mkF m 19 #[.val (.ref ob), .val (.ref sb)] [(.int (1 : Int32))]) ?_
    refine XS.goto X3.here hx rfl (pc0 := 19) (pc' := 23) rfl (hb hby d20_19) (by decide) (by decide) ?_
    refine sh (mkF m 23 #[.val (.ref ob), .val (.ref sb)] [(.int (1 : Int32))]) ?_
    exact retN X3 hx (t := .boolean) Bd.returns (by simp) (hb hby d20_23) hr
  · show Q_rmPR_t Z ob sb sa s_CS t1 t2 va ka vb kb h0 n0 _ T3.heap _
    rw [e3]
    exact ⟨rfl, N3, rfl⟩
theorem d19_54 : decode jdk_42_method_66_code 54 = .ok (.iconst 0, 1) := by decide +kernel
def Q_rmSE_f (Z : State) (sa : Addr) (sb : Addr) (s_CS : Int32) (t1 : Int32) (t2 : Int32) (va : Addr) (ka : ClassId) (vb : Addr) (kb : ClassId) (h0 : Heap) (n0 : Nat) (v : Option Value) (h : Heap) (L : List Loc) : Prop := v = some (.int (0 : Int32)) ∧ Fr n0 L ∧ h = h0
theorem ef_rmSE_f (m : MethodId) (sa : Addr) (sb : Addr) : entryFrame m #[(.ref sa), (.ref sb)] 3 = mkF m 0 #[.val (.ref sa), .val (.ref sb), .unset] [] := by first | (simp [entryFrame, mkF, argsToLocals, Value.category]; done) | rfl
set_option maxRecDepth 65536 in
set_option maxHeartbeats 40000000 in
theorem rmSE_f (l : Launch) (Z : State) (a0 : Array Value) (hw : ∀ d ∈ tables_1, d.before a0 Z = true) (ws : List Jvm.Cond) (sa : Addr) (sb : Addr) (s_CS : Int32) (t1 : Int32) (t2 : Int32) (va : Addr) (ka : ClassId) (vb : Addr) (kb : ClassId) (h0 : Heap) (n0 : Nat) (Z0 : n0 ≤ h0.size) (S_CS : Sta Z h0 "java/lang/String" "COMPACT_STRINGS" "Z" (.int s_CS)) (hcs : ¬ (s_CS = (0 : Int32))) (E_sa : Exa Z h0 sa "java/lang/String") (F_coder_sa : Fld Z h0 sa "java/lang/String" "coder" "B" (.int (0 : Int32))) (F_value_sa : Fld Z h0 sa "java/lang/String" "value" "[B" (.ref va)) (V_va : Arv Z h0 va ka .byte (t1 &&& (3 : Int32)) (own_vs t1) (.int (0 : Int32))) (E_sb : Exa Z h0 sb "java/lang/String") (F_coder_sb : Fld Z h0 sb "java/lang/String" "coder" "B" (.int (0 : Int32))) (F_value_sb : Fld Z h0 sb "java/lang/String" "value" "[B" (.ref vb)) (V_vb : Arv Z h0 vb kb .byte (t2 &&& (3 : Int32)) (own_vs t2) (.int (0 : Int32))) (hs : ¬ (own_vs t1 = own_vs t2)) (ne_sa_sb : sa ≠ sb) :
    MetFree l (⟨"java/lang/String", "equals", "(Ljava/lang/Object;)Z"⟩ : MethodName) (head1 (Jvm.Cond.code (⟨"java/lang/String", "equals", "(Ljava/lang/Object;)Z"⟩ : MethodName) jdk_42_method_66_code 3 (some .boolean) :: ws) ({ frames := 1, cells := 0, slots := 0, locals := 14 } : Room)) (fun a U => a = #[(.ref sa), (.ref sb)] ∧ Z.Warmed39 U.vm ∧ U.heap = h0) (fun _ _ _ _ _ => True) (fun _ U o U' => ∃ v L, o = .returned v ∧ Q_rmSE_f Z sa sb s_CS t1 t2 va ka vb kb h0 n0 v U'.heap L ∧ FrameEnd U o U' L ({ frames := 1, cells := 0, slots := 0, locals := 14 } : Room).cells ({ frames := 1, cells := 0, slots := 0, locals := 14 } : Room).slots) := by
  refine MetFree.of_bodySF (plainFor_of_name pn_1) hisR ?_
  intro p e s m args below meth c s₁ Bd hml0 hP hK
  obtain ⟨rfl, hZ, hh⟩ := hP
  have hx := Bd.exec
  have hby := Bd.bytes
  have hml : c.maxLocals = 3 := hml0
  have hown : s.vm.findClass "java/lang/String" = some m.cls := findClass_of_methodNamed Bd.named
  have hnm := (name_of_methodNamed Bd.named Bd.method).1
  have X0 : Stand p l e ({ frames := 1, cells := 0, slots := 0, locals := 14 } : Room) s m #[(.ref sa), (.ref sb)] below meth c s₁ [] 0 0 := Stand.of_body Bd
  have e0 : s₁.heap = h0 := by rw [← hh, Bd.state]; rfl
  have N0 := Fr.nil n0
  have pre0 : ∀ t, Steps p.tables e below (s₁.setTop (mkF m 0 #[.val (.ref sa), .val (.ref sb), .unset] [])) t → Steps p.tables e below (s₁.setTop (entryFrame m #[(.ref sa), (.ref sb)] 3)) t := fun t k => castTop (ef_rmSE_f m sa sb) k
  obtain ⟨T1, X1, e1, st1⟩ := instY X0 hx hZ hown (ow hw 41 rfl) e0 (Ins.self E_sb) (g := (mkF m 8 #[.val (.ref sa), .val (.ref sb), .unset] [(.ref sb)])) rfl rfl (hb hby d19_8)
  obtain ⟨T2, X2, e2, st2⟩ := castY X1 hx hZ hown (ow hw 41 rfl) e1 (Ins.self E_sb) (g := (mkF m 15 #[.val (.ref sa), .val (.ref sb), .unset] [(.ref sb)])) rfl rfl (hb hby d19_15)
  obtain ⟨T3, X3, e3, st3⟩ := getS2 X2 hx hZ hown (host := "") (Or.inl (ow hw 18 rfl)) Via.refl e2 S_CS (g := (mkF m 19 #[.val (.ref sa), .val (.ref sb), .val (.ref sb)] [])) rfl (hb hby d19_19)
  obtain ⟨T4, X4, e4, st4⟩ := getF X3 hx hZ hown (host := "") (Or.inl (ow hw 30 rfl)) Via.refl e3 F_coder_sa (g := (mkF m 26 #[.val (.ref sa), .val (.ref sb), .val (.ref sb)] [(.ref sa)])) rfl rfl (hb hby d19_26)
  obtain ⟨T5, X5, e5, st5⟩ := getF X4 hx hZ hown (host := "") (Or.inl (ow hw 30 rfl)) Via.refl e4 F_coder_sb (g := (mkF m 30 #[.val (.ref sa), .val (.ref sb), .val (.ref sb)] [(.ref sb), (.int (0 : Int32))])) rfl rfl (hb hby d19_30)
  obtain ⟨T6, X6, e6, st6⟩ := getF X5 hx hZ hown (host := "") (Or.inl (ow hw 32 rfl)) Via.refl e5 F_value_sa (g := (mkF m 37 #[.val (.ref sa), .val (.ref sb), .val (.ref sb)] [(.ref sa)])) rfl rfl (hb hby d19_37)
  obtain ⟨T7, X7, e7, st7⟩ := getF X6 hx hZ hown (host := "") (Or.inl (ow hw 32 rfl)) Via.refl e6 F_value_sb (g := (mkF m 41 #[.val (.ref sa), .val (.ref sb), .val (.ref sb)] [(.ref sb), (.ref va)])) rfl rfl (hb hby d19_41)
  obtain ⟨_, _, ⟨T8, L8, k8, n8⟩, -, X8, ⟨Lc8, hQ8, l8, y8, z8⟩, st8⟩ := Jvm.LawKit.callS X7 hx (y := (⟨"java/lang/StringLatin1", "equals", "([B[B)Z"⟩ : MethodName)) hown (mvT hZ (ow hw 89 rfl)) (mvT hZ (ow hw 90 rfl)) (mvT hZ (ow hw 39 rfl)) (mvT hZ (ow hw 91 rfl)) (by decide) (backOf (W := 0) (rmLE_f l Z a0 hw [] va vb ka kb t1 t2 h0 n0 Z0 V_va V_vb hs) hZ (ow hw 91 rfl) (ow hw 39 rfl) (by decide) (by decide)) (g := (mkF m 44 #[.val (.ref sa), .val (.ref sb), .val (.ref sb)] [(.ref vb), (.ref va)])) rfl (by rw [hml]; rfl) (argsL := [(.ref va), (.ref vb)]) (rest := []) (lenOf pd_15 rfl) rfl (by show 2 * 0 + _ ≤ _; exact Nat.le_of_eq rfl) (hb hby d19_44) (fun _ _ => ⟨rfl, e7, (by decide : 0 + 0 ≤ _), (by decide : 0 + 0 ≤ _)⟩)
  dsimp only [Pt.U, Pt.locs, Pt.cells, Pt.slots] at X8 l8 y8 z8 st8 hQ8
  subst l8 y8 z8
  obtain ⟨rfl, Nq8, e8⟩ := hQ8
  have N8 := Fr.app N0 Nq8
  obtain ⟨fs, hr, hrun, hended, hW, hsame⟩ := X8.leave (v := some (.int (0 : Int32))) (fun h => by rw [Bd.returns] at h; cases h)
  refine ⟨_, _, pre0 _ ?_, hrun, hended, _, _, rfl, ?_, ⟨_, rfl⟩, hW, hsame.mono (by decide) (by decide)⟩
  · refine sh (mkF m 0 #[.val (.ref sa), .val (.ref sb), .unset] []) ?_
    refine XS.aloadN X0.here hx rfl (hb hby d19_0) rfl rfl ?_
    refine sh (mkF m 1 #[.val (.ref sa), .val (.ref sb), .unset] [(.ref sa)]) ?_
    refine XS.aloadN X0.here hx rfl (hb hby d19_1) rfl rfl ?_
    refine sh (mkF m 2 #[.val (.ref sa), .val (.ref sb), .unset] [(.ref sb), (.ref sa)]) ?_
    refine Jvm.RoadKit.acmp (g := (mkF m 2 #[.val (.ref sa), .val (.ref sb), .unset] [(.ref sb), (.ref sa)])) X0 hx rfl rfl rfl (pc0 := 2) (pc' := 7) (same := false) rfl (hb hby d19_2) rfl (decide_eq_false fun q => ne_sa_sb (Value.ref.inj q)) (by decide) (by decide) ?_
    refine sh (mkF m 7 #[.val (.ref sa), .val (.ref sb), .unset] []) ?_
    refine XS.aloadN X0.here hx rfl (hb hby d19_7) rfl rfl ?_
    refine sh (mkF m 8 #[.val (.ref sa), .val (.ref sb), .unset] [(.ref sb)]) ?_
    refine st1 _ ?_
    refine sh (mkF m 11 #[.val (.ref sa), .val (.ref sb), .unset] [(.int (1 : Int32))]) ?_
    refine XS.ifNo X1.here hx rfl (hb hby d19_11) rfl ((if0 _ _).trans (feq (by decide : ¬ ((1 : Int32) = (0 : Int32)))).1) ?_
    refine sh (mkF m 14 #[.val (.ref sa), .val (.ref sb), .unset] []) ?_
    refine XS.aloadN X1.here hx rfl (hb hby d19_14) rfl rfl ?_
    refine sh (mkF m 15 #[.val (.ref sa), .val (.ref sb), .unset] [(.ref sb)]) ?_
    refine st2 _ ?_
    refine sh (mkF m 18 #[.val (.ref sa), .val (.ref sb), .unset] [(.ref sb)]) ?_
    refine XS.astoreN X2.here hx rfl (hb hby d19_18) rfl rfl (l' := #[.val (.ref sa), .val (.ref sb), .val (.ref sb)]) rfl ?_
    refine sh (mkF m 19 #[.val (.ref sa), .val (.ref sb), .val (.ref sb)] []) ?_
    refine st3 _ ?_
    refine sh (mkF m 22 #[.val (.ref sa), .val (.ref sb), .val (.ref sb)] [(.int s_CS)]) ?_
    refine XS.ifNo X3.here hx rfl (hb hby d19_22) rfl ((if0 _ _).trans (feq hcs).1) ?_
    refine sh (mkF m 25 #[.val (.ref sa), .val (.ref sb), .val (.ref sb)] []) ?_
    refine XS.aloadN X3.here hx rfl (hb hby d19_25) rfl rfl ?_
    refine sh (mkF m 26 #[.val (.ref sa), .val (.ref sb), .val (.ref sb)] [(.ref sa)]) ?_
    refine st4 _ ?_
    refine sh (mkF m 29 #[.val (.ref sa), .val (.ref sb), .val (.ref sb)] [(.int (0 : Int32))]) ?_
    refine XS.aloadN X4.here hx rfl (hb hby d19_29) rfl rfl ?_
    refine sh (mkF m 30 #[.val (.ref sa), .val (.ref sb), .val (.ref sb)] [(.ref sb), (.int (0 : Int32))]) ?_
    refine st5 _ ?_
    refine sh (mkF m 33 #[.val (.ref sa), .val (.ref sb), .val (.ref sb)] [(.int (0 : Int32)), (.int (0 : Int32))]) ?_
    refine XS.icmpNo X5.here hx rfl (hb hby d19_33) rfl (teq (rfl : (0 : Int32) = (0 : Int32))).2 ?_
    refine sh (mkF m 36 #[.val (.ref sa), .val (.ref sb), .val (.ref sb)] []) ?_
    refine XS.aloadN X5.here hx rfl (hb hby d19_36) rfl rfl ?_
    refine sh (mkF m 37 #[.val (.ref sa), .val (.ref sb), .val (.ref sb)] [(.ref sa)]) ?_
    refine st6 _ ?_
    refine sh (mkF m 40 #[.val (.ref sa), .val (.ref sb), .val (.ref sb)] [(.ref va)]) ?_
    refine XS.aloadN X6.here hx rfl (hb hby d19_40) rfl rfl ?_
    refine sh (mkF m 41 #[.val (.ref sa), .val (.ref sb), .val (.ref sb)] [(.ref sb), (.ref va)]) ?_
    refine st7 _ ?_
    refine sh (mkF m 44 #[.val (.ref sa), .val (.ref sb), .val (.ref sb)] [(.ref vb), (.ref va)]) ?_
    refine st8 _ ?_
    refine sh (mkF m 47 #[.val (.ref sa), .val (.ref sb), .val (.ref sb)] [(.int (0 : Int32))]) ?_
    refine XS.ifYes X8.here hx rfl (pc0 := 47) (pc' := 54) rfl (hb hby d19_47) rfl ((if0 _ _).trans (teq (rfl : (0 : Int32) = (0 : Int32))).1) (by decide) (by decide) ?_
    refine sh (mkF m 54 #[.val (.ref sa), .val (.ref sb), .val (.ref sb)] []) ?_
    refine XS.iconst X8.here hx rfl (hb hby d19_54) ?_
    refine sh (mkF m 55 #[.val (.ref sa), .val (.ref sb), .val (.ref sb)] [(.int (0 : Int32))]) ?_
    exact retN X8 hx (t := .boolean) Bd.returns (by simp) (hb hby d19_55) hr
  · show Q_rmSE_f Z sa sb s_CS t1 t2 va ka vb kb h0 n0 _ T8.heap _
    rw [e8]
    exact ⟨rfl, N8, rfl⟩
theorem d20_22 : decode prog_4_method_6_code 22 = .ok (.iconst 0, 1) := by decide +kernel
def Q_rmPR_f (Z : State) (ob : Addr) (sb : Addr) (sa : Addr) (s_CS : Int32) (t1 : Int32) (t2 : Int32) (va : Addr) (ka : ClassId) (vb : Addr) (kb : ClassId) (h0 : Heap) (n0 : Nat) (v : Option Value) (h : Heap) (L : List Loc) : Prop := v = some (.int (0 : Int32)) ∧ Fr n0 L ∧ h = h0
theorem ef_rmPR_f (m : MethodId) (ob : Addr) (sb : Addr) : entryFrame m #[(.ref ob), (.ref sb)] 2 = mkF m 0 #[.val (.ref ob), .val (.ref sb)] [] := by first | (simp [entryFrame, mkF, argsToLocals, Value.category]; done) | rfl
set_option maxRecDepth 65536 in
set_option maxHeartbeats 40000000 in
theorem rmPR_f (l : Launch) (Z : State) (a0 : Array Value) (hw : ∀ d ∈ tables_1, d.before a0 Z = true) (ws : List Jvm.Cond) (ob : Addr) (sb : Addr) (sa : Addr) (s_CS : Int32) (t1 : Int32) (t2 : Int32) (va : Addr) (ka : ClassId) (vb : Addr) (kb : ClassId) (h0 : Heap) (n0 : Nat) (Z0 : n0 ≤ h0.size) (S_CS : Sta Z h0 "java/lang/String" "COMPACT_STRINGS" "Z" (.int s_CS)) (hcs : ¬ (s_CS = (0 : Int32))) (F_exitCode_ob : Fld Z h0 ob "com/example/wirewright/bench/Run" "exitCode" "I" (.int (0 : Int32))) (F_output_ob : Fld Z h0 ob "com/example/wirewright/bench/Run" "output" "Ljava/lang/String;" (.ref sa)) (E_sa : Exa Z h0 sa "java/lang/String") (F_coder_sa : Fld Z h0 sa "java/lang/String" "coder" "B" (.int (0 : Int32))) (F_value_sa : Fld Z h0 sa "java/lang/String" "value" "[B" (.ref va)) (V_va : Arv Z h0 va ka .byte (t1 &&& (3 : Int32)) (own_vs t1) (.int (0 : Int32))) (E_sb : Exa Z h0 sb "java/lang/String") (F_coder_sb : Fld Z h0 sb "java/lang/String" "coder" "B" (.int (0 : Int32))) (F_value_sb : Fld Z h0 sb "java/lang/String" "value" "[B" (.ref vb)) (V_vb : Arv Z h0 vb kb .byte (t2 &&& (3 : Int32)) (own_vs t2) (.int (0 : Int32))) (hs : ¬ (own_vs t1 = own_vs t2)) (ne_sa_sb : sa ≠ sb) :
    MetFree l (⟨"com/example/wirewright/bench/Run", "printed", "(Ljava/lang/String;)Z"⟩ : MethodName) (head1 (Jvm.Cond.code (⟨"com/example/wirewright/bench/Run", "printed", "(Ljava/lang/String;)Z"⟩ : MethodName) prog_4_method_6_code 2 (some .boolean) :: ws) ({ frames := 2, cells := 0, slots := 0, locals := 28 } : Room)) (fun a U => a = #[(.ref ob), (.ref sb)] ∧ Z.Warmed39 U.vm ∧ U.heap = h0) (fun _ _ _ _ _ => True) (fun _ U o U' => ∃ v L, o = .returned v ∧ Q_rmPR_f Z ob sb sa s_CS t1 t2 va ka vb kb h0 n0 v U'.heap L ∧ FrameEnd U o U' L ({ frames := 2, cells := 0, slots := 0, locals := 28 } : Room).cells ({ frames := 2, cells := 0, slots := 0, locals := 28 } : Room).slots) := by
  refine MetFree.of_bodySF (plainFor_of_name pn_5) hisR ?_
  intro p e s m args below meth c s₁ Bd hml0 hP hK
  obtain ⟨rfl, hZ, hh⟩ := hP
  have hx := Bd.exec
  have hby := Bd.bytes
  have hml : c.maxLocals = 2 := hml0
  have hown : s.vm.findClass "com/example/wirewright/bench/Run" = some m.cls := findClass_of_methodNamed Bd.named
  have hnm := (name_of_methodNamed Bd.named Bd.method).1
  have X0 : Stand p l e ({ frames := 2, cells := 0, slots := 0, locals := 28 } : Room) s m #[(.ref ob), (.ref sb)] below meth c s₁ [] 0 0 := Stand.of_body Bd
  have e0 : s₁.heap = h0 := by rw [← hh, Bd.state]; rfl
  have N0 := Fr.nil n0
  have pre0 : ∀ t, Steps p.tables e below (s₁.setTop (mkF m 0 #[.val (.ref ob), .val (.ref sb)] [])) t → Steps p.tables e below (s₁.setTop (entryFrame m #[(.ref ob), (.ref sb)] 2)) t := fun t k => castTop (ef_rmPR_f m ob sb) k
  obtain ⟨T1, X1, e1, st1⟩ := getF X0 hx hZ hown (host := "") (Or.inl (ow hw 60 rfl)) Via.refl e0 F_exitCode_ob (g := (mkF m 1 #[.val (.ref ob), .val (.ref sb)] [(.ref ob)])) rfl rfl (hb hby d20_1)
  obtain ⟨T2, X2, e2, st2⟩ := getF X1 hx hZ hown (host := "") (Or.inl (ow hw 62 rfl)) Via.refl e1 F_output_ob (g := (mkF m 8 #[.val (.ref ob), .val (.ref sb)] [(.ref ob)])) rfl rfl (hb hby d20_8)
  obtain ⟨cq3, kq3, q3a, q3b, q3c⟩ := isOf hZ e2 E_sa
  obtain ⟨_, _, ⟨T3, L3, k3, n3⟩, -, X3, ⟨Lc3, hQ3, l3, y3, z3⟩, st3⟩ := X2.virtualBack hx (y := (⟨"java/lang/String", "equals", "(Ljava/lang/Object;)Z"⟩ : MethodName)) (z := (⟨"java/lang/String", "equals", "(Ljava/lang/Object;)Z"⟩ : MethodName)) hown (mvT hZ (ow hw 84 rfl)) (mvT hZ (ow hw 85 rfl)) (notFace_of_selects (args := #[]) (mvT hZ (ow hw 87 rfl))) (mvT hZ (ow hw 87 rfl)) (mvT hZ (ow hw 86 rfl)) (by decide) (backOf (W := 0) (rmSE_f l Z a0 hw [] sa sb s_CS t1 t2 va ka vb kb h0 n0 Z0 S_CS hcs E_sa F_coder_sa F_value_sa V_va E_sb F_coder_sb F_value_sb V_vb hs ne_sa_sb) hZ (ow hw 88 rfl) (ow hw 6 rfl) (by decide) (by decide)) q3a q3c (g := (mkF m 12 #[.val (.ref ob), .val (.ref sb)] [(.ref sb), (.ref sa)])) rfl (by rw [hml]; rfl) (Steps.refl _) (argsL := [(.ref sb)]) (rest := []) (lenOf pd_16 rfl) rfl (by show 2 * 0 + _ ≤ _; exact Nat.le_of_eq rfl) (hb hby d20_12) (fun _ _ => ⟨rfl, e2, (by decide : 0 + 0 ≤ _), (by decide : 0 + 0 ≤ _)⟩)
  dsimp only [Pt.U, Pt.locs, Pt.cells, Pt.slots] at X3 l3 y3 z3 st3 hQ3
  subst l3 y3 z3
  obtain ⟨rfl, Nq3, e3⟩ := hQ3
  have N3 := Fr.app N0 Nq3
  obtain ⟨fs, hr, hrun, hended, hW, hsame⟩ := X3.leave (v := some (.int (0 : Int32))) (fun h => by rw [Bd.returns] at h; cases h)
  refine ⟨_, _, pre0 _ ?_, hrun, hended, _, _, rfl, ?_, ⟨_, rfl⟩, hW, hsame.mono (by decide) (by decide)⟩
  · refine sh (mkF m 0 #[.val (.ref ob), .val (.ref sb)] []) ?_
    refine XS.aloadN X0.here hx rfl (hb hby d20_0) rfl rfl ?_
    refine sh (mkF m 1 #[.val (.ref ob), .val (.ref sb)] [(.ref ob)]) ?_
    refine st1 _ ?_
    refine sh (mkF m 4 #[.val (.ref ob), .val (.ref sb)] [(.int (0 : Int32))]) ?_
    refine XS.ifNo X1.here hx rfl (hb hby d20_4) rfl ((if0 _ _).trans (teq (rfl : (0 : Int32) = (0 : Int32))).2) ?_
    refine sh (mkF m 7 #[.val (.ref ob), .val (.ref sb)] []) ?_
    refine XS.aloadN X1.here hx rfl (hb hby d20_7) rfl rfl ?_
    refine sh (mkF m 8 #[.val (.ref ob), .val (.ref sb)] [(.ref ob)]) ?_
    refine st2 _ ?_
    refine sh (mkF m 11 #[.val (.ref ob), .val (.ref sb)] [(.ref sa)]) ?_
    refine XS.aloadN X2.here hx rfl (hb hby d20_11) rfl rfl ?_
    refine sh (mkF m 12 #[.val (.ref ob), .val (.ref sb)] [(.ref sb), (.ref sa)]) ?_
    refine st3.trans ?_
    refine sh (mkF m 15 #[.val (.ref ob), .val (.ref sb)] [(.int (0 : Int32))]) ?_
    refine XS.ifYes X3.here hx rfl (pc0 := 15) (pc' := 22) rfl (hb hby d20_15) rfl ((if0 _ _).trans (teq (rfl : (0 : Int32) = (0 : Int32))).1) (by decide) (by decide) ?_
    refine sh (mkF m 22 #[.val (.ref ob), .val (.ref sb)] []) ?_
    refine XS.iconst X3.here hx rfl (hb hby d20_22) ?_
    refine sh (mkF m 23 #[.val (.ref ob), .val (.ref sb)] [(.int (0 : Int32))]) ?_
    exact retN X3 hx (t := .boolean) Bd.returns (by simp) (hb hby d20_23) hr
  · show Q_rmPR_f Z ob sb sa s_CS t1 t2 va ka vb kb h0 n0 _ T3.heap _
    rw [e3]
    exact ⟨rfl, N3, rfl⟩
def Q_rmPR_x (Z : State) (ob : Addr) (sb : Addr) (xc : Int32) (h0 : Heap) (n0 : Nat) (v : Option Value) (h : Heap) (L : List Loc) : Prop := v = some (.int (0 : Int32)) ∧ Fr n0 L ∧ h = h0
theorem ef_rmPR_x (m : MethodId) (ob : Addr) (sb : Addr) : entryFrame m #[(.ref ob), (.ref sb)] 2 = mkF m 0 #[.val (.ref ob), .val (.ref sb)] [] := by first | (simp [entryFrame, mkF, argsToLocals, Value.category]; done) | rfl
set_option maxRecDepth 65536 in
set_option maxHeartbeats 40000000 in
theorem rmPR_x (l : Launch) (Z : State) (a0 : Array Value) (hw : ∀ d ∈ tables_1, d.before a0 Z = true) (ws : List Jvm.Cond) (ob : Addr) (sb : Addr) (xc : Int32) (h0 : Heap) (n0 : Nat) (Z0 : n0 ≤ h0.size) (F_exitCode_ob : Fld Z h0 ob "com/example/wirewright/bench/Run" "exitCode" "I" (.int xc)) (hxc : ¬ (xc = (0 : Int32))) :
    MetFree l (⟨"com/example/wirewright/bench/Run", "printed", "(Ljava/lang/String;)Z"⟩ : MethodName) (head1 (Jvm.Cond.code (⟨"com/example/wirewright/bench/Run", "printed", "(Ljava/lang/String;)Z"⟩ : MethodName) prog_4_method_6_code 2 (some .boolean) :: ws) ({ frames := 0, cells := 0, slots := 0, locals := 0 } : Room)) (fun a U => a = #[(.ref ob), (.ref sb)] ∧ Z.Warmed39 U.vm ∧ U.heap = h0) (fun _ _ _ _ _ => True) (fun _ U o U' => ∃ v L, o = .returned v ∧ Q_rmPR_x Z ob sb xc h0 n0 v U'.heap L ∧ FrameEnd U o U' L ({ frames := 0, cells := 0, slots := 0, locals := 0 } : Room).cells ({ frames := 0, cells := 0, slots := 0, locals := 0 } : Room).slots) := by
  refine MetFree.of_bodySF (plainFor_of_name pn_5) hisR ?_
  intro p e s m args below meth c s₁ Bd hml0 hP hK
  obtain ⟨rfl, hZ, hh⟩ := hP
  have hx := Bd.exec
  have hby := Bd.bytes
  have hml : c.maxLocals = 2 := hml0
  have hown : s.vm.findClass "com/example/wirewright/bench/Run" = some m.cls := findClass_of_methodNamed Bd.named
  have hnm := (name_of_methodNamed Bd.named Bd.method).1
  have X0 : Stand p l e ({ frames := 0, cells := 0, slots := 0, locals := 0 } : Room) s m #[(.ref ob), (.ref sb)] below meth c s₁ [] 0 0 := Stand.of_body Bd
  have e0 : s₁.heap = h0 := by rw [← hh, Bd.state]; rfl
  have N0 := Fr.nil n0
  have pre0 : ∀ t, Steps p.tables e below (s₁.setTop (mkF m 0 #[.val (.ref ob), .val (.ref sb)] [])) t → Steps p.tables e below (s₁.setTop (entryFrame m #[(.ref ob), (.ref sb)] 2)) t := fun t k => castTop (ef_rmPR_x m ob sb) k
  obtain ⟨T1, X1, e1, st1⟩ := getF X0 hx hZ hown (host := "") (Or.inl (ow hw 60 rfl)) Via.refl e0 F_exitCode_ob (g := (mkF m 1 #[.val (.ref ob), .val (.ref sb)] [(.ref ob)])) rfl rfl (hb hby d20_1)
  obtain ⟨fs, hr, hrun, hended, hW, hsame⟩ := X1.leave (v := some (.int (0 : Int32))) (fun h => by rw [Bd.returns] at h; cases h)
  refine ⟨_, _, pre0 _ ?_, hrun, hended, _, _, rfl, ?_, ⟨_, rfl⟩, hW, hsame.mono (by decide) (by decide)⟩
  · refine sh (mkF m 0 #[.val (.ref ob), .val (.ref sb)] []) ?_
    refine XS.aloadN X0.here hx rfl (hb hby d20_0) rfl rfl ?_
    refine sh (mkF m 1 #[.val (.ref ob), .val (.ref sb)] [(.ref ob)]) ?_
    refine st1 _ ?_
    refine sh (mkF m 4 #[.val (.ref ob), .val (.ref sb)] [(.int xc)]) ?_
    refine XS.ifYes X1.here hx rfl (pc0 := 4) (pc' := 22) rfl (hb hby d20_4) rfl ((if0 _ _).trans (feq hxc).2) (by decide) (by decide) ?_
    refine sh (mkF m 22 #[.val (.ref ob), .val (.ref sb)] []) ?_
    refine XS.iconst X1.here hx rfl (hb hby d20_22) ?_
    refine sh (mkF m 23 #[.val (.ref ob), .val (.ref sb)] [(.int (0 : Int32))]) ?_
    exact retN X1 hx (t := .boolean) Bd.returns (by simp) (hb hby d20_23) hr
  · show Q_rmPR_x Z ob sb xc h0 n0 _ T1.heap _
    rw [e1]
    exact ⟨rfl, N0, rfl⟩
theorem d21_0 : decode prog_4_method_1_code 0 = .ok (.aload_n 0, 1) := by decide +kernel
theorem d21_1 : decode prog_4_method_1_code 1 = .ok (.invokespecial 1, 3) := by decide +kernel
theorem d21_4 : decode prog_4_method_1_code 4 = .ok (.aload_n 0, 1) := by decide +kernel
theorem d21_5 : decode prog_4_method_1_code 5 = .ok (.dload_n 1, 1) := by decide +kernel
theorem d21_6 : decode prog_4_method_1_code 6 = .ok (.putfield 7, 3) := by decide +kernel
theorem d21_9 : decode prog_4_method_1_code 9 = .ok (.aload_n 0, 1) := by decide +kernel
theorem d21_10 : decode prog_4_method_1_code 10 = .ok (.lload_n 3, 1) := by decide +kernel
theorem d21_11 : decode prog_4_method_1_code 11 = .ok (.putfield 13, 3) := by decide +kernel
theorem d21_14 : decode prog_4_method_1_code 14 = .ok (.aload_n 0, 1) := by decide +kernel
theorem d21_15 : decode prog_4_method_1_code 15 = .ok (.iload 5, 2) := by decide +kernel
theorem d21_17 : decode prog_4_method_1_code 17 = .ok (.putfield 17, 3) := by decide +kernel
theorem d21_20 : decode prog_4_method_1_code 20 = .ok (.aload_n 0, 1) := by decide +kernel
theorem d21_21 : decode prog_4_method_1_code 21 = .ok (.aload 6, 2) := by decide +kernel
theorem d21_23 : decode prog_4_method_1_code 23 = .ok (.putfield 21, 3) := by decide +kernel
theorem d21_26 : decode prog_4_method_1_code 26 = .ok (.aload_n 0, 1) := by decide +kernel
theorem d21_27 : decode prog_4_method_1_code 27 = .ok (.aload 7, 2) := by decide +kernel
theorem d21_29 : decode prog_4_method_1_code 29 = .ok (.putfield 25, 3) := by decide +kernel
theorem d21_32 : decode prog_4_method_1_code 32 = .ok (.return_, 1) := by decide +kernel
def Q_rmRun (Z : State) (ob : Addr) (t1 : UInt64) (q3 : Int64) (p5 : Int32) (o6 : Addr) (o7 : Addr) (u_wallSeconds_ob : Value) (u_peakKib_ob : Value) (u_exitCode_ob : Value) (u_output_ob : Value) (u_errors_ob : Value) (h0 : Heap) (n0 : Nat) (v : Option Value) (h : Heap) (L : List Loc) : Prop := v = none ∧ Fr n0 L ∧ Keep h0 h [ob] ∧ Exa Z h ob "com/example/wirewright/bench/Run" ∧ Fld Z h ob "com/example/wirewright/bench/Run" "exitCode" "I" (.int p5) ∧ Fld Z h ob "com/example/wirewright/bench/Run" "output" "Ljava/lang/String;" (.ref o6)
theorem ef_rmRun (m : MethodId) (ob : Addr) (t1 : UInt64) (q3 : Int64) (p5 : Int32) (o6 : Addr) (o7 : Addr) : entryFrame m #[(.ref ob), (.double t1), (.long q3), (.int p5), (.ref o6), (.ref o7)] 8 = mkF m 0 #[.val (.ref ob), .val (.double t1), .second, .val (.long q3), .second, .val (.int p5), .val (.ref o6), .val (.ref o7)] [] := by first | (simp [entryFrame, mkF, argsToLocals, Value.category]; done) | rfl
set_option maxRecDepth 65536 in
set_option maxHeartbeats 40000000 in
theorem rmRun (l : Launch) (Z : State) (a0 : Array Value) (hw : ∀ d ∈ tables_1, d.before a0 Z = true) (ws : List Jvm.Cond) (ob : Addr) (t1 : UInt64) (q3 : Int64) (p5 : Int32) (o6 : Addr) (o7 : Addr) (u_wallSeconds_ob : Value) (u_peakKib_ob : Value) (u_exitCode_ob : Value) (u_output_ob : Value) (u_errors_ob : Value) (h0 : Heap) (n0 : Nat) (Z0 : n0 ≤ h0.size) (F_wallSeconds_ob : Fld Z h0 ob "com/example/wirewright/bench/Run" "wallSeconds" "D" u_wallSeconds_ob) (E_ob : Exa Z h0 ob "com/example/wirewright/bench/Run") (g_ob : n0 ≤ ob) (F_peakKib_ob : Fld Z h0 ob "com/example/wirewright/bench/Run" "peakKib" "J" u_peakKib_ob) (F_exitCode_ob : Fld Z h0 ob "com/example/wirewright/bench/Run" "exitCode" "I" u_exitCode_ob) (F_output_ob : Fld Z h0 ob "com/example/wirewright/bench/Run" "output" "Ljava/lang/String;" u_output_ob) (F_errors_ob : Fld Z h0 ob "com/example/wirewright/bench/Run" "errors" "Ljava/lang/String;" u_errors_ob) :
    MetFree l (⟨"com/example/wirewright/bench/Run", "<init>", "(DJILjava/lang/String;Ljava/lang/String;)V"⟩ : MethodName) (head1 (Jvm.Cond.code (⟨"com/example/wirewright/bench/Run", "<init>", "(DJILjava/lang/String;Ljava/lang/String;)V"⟩ : MethodName) prog_4_method_1_code 8 none :: ws) ({ frames := 1, cells := 0, slots := 0, locals := 12 } : Room)) (fun a U => a = #[(.ref ob), (.double t1), (.long q3), (.int p5), (.ref o6), (.ref o7)] ∧ Z.Warmed39 U.vm ∧ U.heap = h0) (fun _ _ _ _ _ => True) (fun _ U o U' => ∃ v L, o = .returned v ∧ Q_rmRun Z ob t1 q3 p5 o6 o7 u_wallSeconds_ob u_peakKib_ob u_exitCode_ob u_output_ob u_errors_ob h0 n0 v U'.heap L ∧ FrameEnd U o U' L ({ frames := 1, cells := 0, slots := 0, locals := 12 } : Room).cells ({ frames := 1, cells := 0, slots := 0, locals := 12 } : Room).slots) := by
  refine MetFree.of_bodySF (plainFor_of_name pn_5) hisR ?_
  intro p e s m args below meth c s₁ Bd hml0 hP hK
  obtain ⟨rfl, hZ, hh⟩ := hP
  have hx := Bd.exec
  have hby := Bd.bytes
  have hml : c.maxLocals = 8 := hml0
  have hown : s.vm.findClass "com/example/wirewright/bench/Run" = some m.cls := findClass_of_methodNamed Bd.named
  have hnm := (name_of_methodNamed Bd.named Bd.method).1
  have X0 : Stand p l e ({ frames := 1, cells := 0, slots := 0, locals := 12 } : Room) s m #[(.ref ob), (.double t1), (.long q3), (.int p5), (.ref o6), (.ref o7)] below meth c s₁ [] 0 0 := Stand.of_body Bd
  have e0 : s₁.heap = h0 := by rw [← hh, Bd.state]; rfl
  have N0 := Fr.nil n0
  have pre0 : ∀ t, Steps p.tables e below (s₁.setTop (mkF m 0 #[.val (.ref ob), .val (.double t1), .second, .val (.long q3), .second, .val (.int p5), .val (.ref o6), .val (.ref o7)] [])) t → Steps p.tables e below (s₁.setTop (entryFrame m #[(.ref ob), (.double t1), (.long q3), (.int p5), (.ref o6), (.ref o7)] 8)) t := fun t k => castTop (ef_rmRun m ob t1 q3 p5 o6 o7) k
  obtain ⟨T1, X1, e1, st1⟩ := initO X0 hx hZ hown (ow hw 55 rfl) (ow hw 16 rfl) (ow hw 17 rfl) e0 (g := (mkF m 1 #[.val (.ref ob), .val (.double t1), .second, .val (.long q3), .second, .val (.int p5), .val (.ref o6), .val (.ref o7)] [(.ref ob)])) rfl (by rw [hml]; rfl) rfl (hb hby d21_1) (by decide) (W := 0) (by show 2 * 0 + _ ≤ _; exact Nat.le_of_eq rfl) (by decide)
  obtain ⟨T2, h2, X2, e2, W2, st2⟩ := putF X1 hx hZ hown (host := "") (Or.inl (ow hw 56 rfl)) Via.refl e1 F_wallSeconds_ob E_ob (Or.inr ⟨(ow hw 57 rfl), rfl, hnm⟩) (ow hw 50 rfl) (ty := .double) (by decide) rfl rfl (g := (mkF m 6 #[.val (.ref ob), .val (.double t1), .second, .val (.long q3), .second, .val (.int p5), .val (.ref o6), .val (.ref o7)] [(.double t1), (.ref ob)])) rfl rfl (hb hby d21_6)
  have Fw2 := F_wallSeconds_ob.same W2
  have N2 := Fr.snoc X2 N0 g_ob
  have f3 : Fld Z h2 ob "com/example/wirewright/bench/Run" "peakKib" "J" u_peakKib_ob := (F_peakKib_ob.other W2 (Or.inr (slot_ne (Or.inr (ow hw 59 rfl)) (Or.inr (ow hw 57 rfl)) (by decide) (t := .long) (t' := .double) (by decide) (by decide))))
  have f4 : Exa Z h2 ob "com/example/wirewright/bench/Run" := (E_ob.wr W2)
  obtain ⟨T5, h5, X5, e5, W5, st5⟩ := putF X2 hx hZ hown (host := "") (Or.inl (ow hw 58 rfl)) Via.refl e2 f3 f4 (Or.inr ⟨(ow hw 59 rfl), rfl, hnm⟩) (ow hw 50 rfl) (ty := .long) (by decide) rfl rfl (g := (mkF m 11 #[.val (.ref ob), .val (.double t1), .second, .val (.long q3), .second, .val (.int p5), .val (.ref o6), .val (.ref o7)] [(.long q3), (.ref ob)])) rfl rfl (hb hby d21_11)
  have Fw5 := f3.same W5
  have N5 := Fr.snoc X5 N2 g_ob
  have f6 : Fld Z h5 ob "com/example/wirewright/bench/Run" "exitCode" "I" u_exitCode_ob := ((F_exitCode_ob.other W2 (Or.inr (slot_ne (Or.inr (ow hw 61 rfl)) (Or.inr (ow hw 57 rfl)) (by decide) (t := .int) (t' := .double) (by decide) (by decide)))).other W5 (Or.inr (slot_ne (Or.inr (ow hw 61 rfl)) (Or.inr (ow hw 59 rfl)) (by decide) (t := .int) (t' := .long) (by decide) (by decide))))
  have f7 : Exa Z h5 ob "com/example/wirewright/bench/Run" := (f4.wr W5)
  obtain ⟨T8, h8, X8, e8, W8, st8⟩ := putF X5 hx hZ hown (host := "") (Or.inl (ow hw 60 rfl)) Via.refl e5 f6 f7 (Or.inr ⟨(ow hw 61 rfl), rfl, hnm⟩) (ow hw 50 rfl) (ty := .int) (by decide) rfl rfl (g := (mkF m 17 #[.val (.ref ob), .val (.double t1), .second, .val (.long q3), .second, .val (.int p5), .val (.ref o6), .val (.ref o7)] [(.int p5), (.ref ob)])) rfl rfl (hb hby d21_17)
  have Fw8 := f6.same W8
  have N8 := Fr.snoc X8 N5 g_ob
  have f9 : Fld Z h8 ob "com/example/wirewright/bench/Run" "output" "Ljava/lang/String;" u_output_ob := (((F_output_ob.other W2 (Or.inr (slot_ne (Or.inr (ow hw 63 rfl)) (Or.inr (ow hw 57 rfl)) (by decide) (t := (.object "java/lang/String")) (t' := .double) (by decide) (by decide)))).other W5 (Or.inr (slot_ne (Or.inr (ow hw 63 rfl)) (Or.inr (ow hw 59 rfl)) (by decide) (t := (.object "java/lang/String")) (t' := .long) (by decide) (by decide)))).other W8 (Or.inr (slot_ne (Or.inr (ow hw 63 rfl)) (Or.inr (ow hw 61 rfl)) (by decide) (t := (.object "java/lang/String")) (t' := .int) (by decide) (by decide))))
  have f10 : Exa Z h8 ob "com/example/wirewright/bench/Run" := (f7.wr W8)
  obtain ⟨T11, h11, X11, e11, W11, st11⟩ := putF X8 hx hZ hown (host := "") (Or.inl (ow hw 62 rfl)) Via.refl e8 f9 f10 (Or.inr ⟨(ow hw 63 rfl), rfl, hnm⟩) (ow hw 50 rfl) (ty := (.object "java/lang/String")) (by decide) rfl rfl (g := (mkF m 23 #[.val (.ref ob), .val (.double t1), .second, .val (.long q3), .second, .val (.int p5), .val (.ref o6), .val (.ref o7)] [(.ref o6), (.ref ob)])) rfl rfl (hb hby d21_23)
  have Fw11 := f9.same W11
  have N11 := Fr.snoc X11 N8 g_ob
  have f12 : Fld Z h11 ob "com/example/wirewright/bench/Run" "errors" "Ljava/lang/String;" u_errors_ob := ((((F_errors_ob.other W2 (Or.inr (slot_ne (Or.inr (ow hw 65 rfl)) (Or.inr (ow hw 57 rfl)) (by decide) (t := (.object "java/lang/String")) (t' := .double) (by decide) (by decide)))).other W5 (Or.inr (slot_ne (Or.inr (ow hw 65 rfl)) (Or.inr (ow hw 59 rfl)) (by decide) (t := (.object "java/lang/String")) (t' := .long) (by decide) (by decide)))).other W8 (Or.inr (slot_ne (Or.inr (ow hw 65 rfl)) (Or.inr (ow hw 61 rfl)) (by decide) (t := (.object "java/lang/String")) (t' := .int) (by decide) (by decide)))).other W11 (Or.inr (slot_ne (Or.inr (ow hw 65 rfl)) (Or.inr (ow hw 63 rfl)) (by decide) (t := (.object "java/lang/String")) (t' := (.object "java/lang/String")) (by decide) (by decide))))
  have f13 : Exa Z h11 ob "com/example/wirewright/bench/Run" := (f10.wr W11)
  obtain ⟨T14, h14, X14, e14, W14, st14⟩ := putF X11 hx hZ hown (host := "") (Or.inl (ow hw 64 rfl)) Via.refl e11 f12 f13 (Or.inr ⟨(ow hw 65 rfl), rfl, hnm⟩) (ow hw 50 rfl) (ty := (.object "java/lang/String")) (by decide) rfl rfl (g := (mkF m 29 #[.val (.ref ob), .val (.double t1), .second, .val (.long q3), .second, .val (.int p5), .val (.ref o6), .val (.ref o7)] [(.ref o7), (.ref ob)])) rfl rfl (hb hby d21_29)
  have Fw14 := f12.same W14
  have N14 := Fr.snoc X14 N11 g_ob
  have f15 : Exa Z h14 ob "com/example/wirewright/bench/Run" := (f13.wr W14)
  have f16 : Fld Z h14 ob "com/example/wirewright/bench/Run" "exitCode" "I" (.int p5) := ((Fw8.other W11 (Or.inr (slot_ne (Or.inr (ow hw 61 rfl)) (Or.inr (ow hw 63 rfl)) (by decide) (t := .int) (t' := (.object "java/lang/String")) (by decide) (by decide)))).other W14 (Or.inr (slot_ne (Or.inr (ow hw 61 rfl)) (Or.inr (ow hw 65 rfl)) (by decide) (t := .int) (t' := (.object "java/lang/String")) (by decide) (by decide))))
  have f17 : Fld Z h14 ob "com/example/wirewright/bench/Run" "output" "Ljava/lang/String;" (.ref o6) := (Fw11.other W14 (Or.inr (slot_ne (Or.inr (ow hw 63 rfl)) (Or.inr (ow hw 65 rfl)) (by decide) (t := (.object "java/lang/String")) (t' := (.object "java/lang/String")) (by decide) (by decide))))
  obtain ⟨fs, hr, hrun, hended, hW, hsame⟩ := X14.leave (v := none) (fun _ => rfl)
  refine ⟨_, _, pre0 _ ?_, hrun, hended, _, _, rfl, ?_, ⟨_, rfl⟩, hW, hsame.mono (by decide) (by decide)⟩
  · refine sh (mkF m 0 #[.val (.ref ob), .val (.double t1), .second, .val (.long q3), .second, .val (.int p5), .val (.ref o6), .val (.ref o7)] []) ?_
    refine XS.aloadN X0.here hx rfl (hb hby d21_0) rfl rfl ?_
    refine sh (mkF m 1 #[.val (.ref ob), .val (.double t1), .second, .val (.long q3), .second, .val (.int p5), .val (.ref o6), .val (.ref o7)] [(.ref ob)]) ?_
    refine st1 _ ?_
    refine sh (mkF m 4 #[.val (.ref ob), .val (.double t1), .second, .val (.long q3), .second, .val (.int p5), .val (.ref o6), .val (.ref o7)] []) ?_
    refine XS.aloadN X1.here hx rfl (hb hby d21_4) rfl rfl ?_
    refine sh (mkF m 5 #[.val (.ref ob), .val (.double t1), .second, .val (.long q3), .second, .val (.int p5), .val (.ref o6), .val (.ref o7)] [(.ref ob)]) ?_
    refine XS.dloadN X1.here hx rfl (hb hby d21_5) rfl ?_
    refine sh (mkF m 6 #[.val (.ref ob), .val (.double t1), .second, .val (.long q3), .second, .val (.int p5), .val (.ref o6), .val (.ref o7)] [(.double t1), (.ref ob)]) ?_
    refine st2 _ ?_
    refine sh (mkF m 9 #[.val (.ref ob), .val (.double t1), .second, .val (.long q3), .second, .val (.int p5), .val (.ref o6), .val (.ref o7)] []) ?_
    refine XS.aloadN X2.here hx rfl (hb hby d21_9) rfl rfl ?_
    refine sh (mkF m 10 #[.val (.ref ob), .val (.double t1), .second, .val (.long q3), .second, .val (.int p5), .val (.ref o6), .val (.ref o7)] [(.ref ob)]) ?_
    refine XS.lloadN X2.here hx rfl (hb hby d21_10) rfl ?_
    refine sh (mkF m 11 #[.val (.ref ob), .val (.double t1), .second, .val (.long q3), .second, .val (.int p5), .val (.ref o6), .val (.ref o7)] [(.long q3), (.ref ob)]) ?_
    refine st5 _ ?_
    refine sh (mkF m 14 #[.val (.ref ob), .val (.double t1), .second, .val (.long q3), .second, .val (.int p5), .val (.ref o6), .val (.ref o7)] []) ?_
    refine XS.aloadN X5.here hx rfl (hb hby d21_14) rfl rfl ?_
    refine sh (mkF m 15 #[.val (.ref ob), .val (.double t1), .second, .val (.long q3), .second, .val (.int p5), .val (.ref o6), .val (.ref o7)] [(.ref ob)]) ?_
    refine XS.iload X5.here hx rfl (hb hby d21_15) rfl ?_
    refine sh (mkF m 17 #[.val (.ref ob), .val (.double t1), .second, .val (.long q3), .second, .val (.int p5), .val (.ref o6), .val (.ref o7)] [(.int p5), (.ref ob)]) ?_
    refine st8 _ ?_
    refine sh (mkF m 20 #[.val (.ref ob), .val (.double t1), .second, .val (.long q3), .second, .val (.int p5), .val (.ref o6), .val (.ref o7)] []) ?_
    refine XS.aloadN X8.here hx rfl (hb hby d21_20) rfl rfl ?_
    refine sh (mkF m 21 #[.val (.ref ob), .val (.double t1), .second, .val (.long q3), .second, .val (.int p5), .val (.ref o6), .val (.ref o7)] [(.ref ob)]) ?_
    refine XS.aload X8.here hx rfl (hb hby d21_21) rfl rfl ?_
    refine sh (mkF m 23 #[.val (.ref ob), .val (.double t1), .second, .val (.long q3), .second, .val (.int p5), .val (.ref o6), .val (.ref o7)] [(.ref o6), (.ref ob)]) ?_
    refine st11 _ ?_
    refine sh (mkF m 26 #[.val (.ref ob), .val (.double t1), .second, .val (.long q3), .second, .val (.int p5), .val (.ref o6), .val (.ref o7)] []) ?_
    refine XS.aloadN X11.here hx rfl (hb hby d21_26) rfl rfl ?_
    refine sh (mkF m 27 #[.val (.ref ob), .val (.double t1), .second, .val (.long q3), .second, .val (.int p5), .val (.ref o6), .val (.ref o7)] [(.ref ob)]) ?_
    refine XS.aload X11.here hx rfl (hb hby d21_27) rfl rfl ?_
    refine sh (mkF m 29 #[.val (.ref ob), .val (.double t1), .second, .val (.long q3), .second, .val (.int p5), .val (.ref o6), .val (.ref o7)] [(.ref o7), (.ref ob)]) ?_
    refine st14 _ ?_
    refine sh (mkF m 32 #[.val (.ref ob), .val (.double t1), .second, .val (.long q3), .second, .val (.int p5), .val (.ref o6), .val (.ref o7)] []) ?_
    exact X14.returnOut hx Bd.returns (hb hby d21_32) hr
  · show Q_rmRun Z ob t1 q3 p5 o6 o7 u_wallSeconds_ob u_peakKib_ob u_exitCode_ob u_output_ob u_errors_ob h0 n0 _ T14.heap _
    rw [e14]
    exact ⟨rfl, N14, ((((((Keep.refl h0 [ob]).wr W2 (Or.inl (List.mem_of_getElem? (i := 0) rfl))).wr W5 (Or.inl (List.mem_of_getElem? (i := 0) rfl))).wr W8 (Or.inl (List.mem_of_getElem? (i := 0) rfl))).wr W11 (Or.inl (List.mem_of_getElem? (i := 0) rfl))).wr W14 (Or.inl (List.mem_of_getElem? (i := 0) rfl))), f15, f16, f17⟩
theorem pd_17 : parseMethodDescriptor "(I)Ljava/lang/String;" = some ⟨[.int], some (.object "java/lang/String")⟩ := by decide +kernel
theorem pd_18 : parseMethodDescriptor "(C)Ljava/lang/String;" = some ⟨[.char], some (.object "java/lang/String")⟩ := by decide +kernel
theorem pd_19 : parseMethodDescriptor "(DJILjava/lang/String;Ljava/lang/String;)V" = some ⟨[.double, .long, .int, (.object "java/lang/String"), (.object "java/lang/String")], none⟩ := by decide +kernel
theorem pd_20 : parseMethodDescriptor "(Ljava/lang/String;)Z" = some ⟨[(.object "java/lang/String")], some .boolean⟩ := by decide +kernel
def Q_rm0_x (Z : State) (jx : Int32) (jo : Int32) (jd : Int32) (jp : Int64) (jw : Int32) (s_CS : Int32) (wf : Value) (h0 : Heap) (n0 : Nat) (v : Option Value) (h : Heap) (L : List Loc) : Prop := v = some (.int (1 : Int32)) ∧ Fr n0 L
theorem ef_rm0_x (m : MethodId) (jx : Int32) (jo : Int32) (jd : Int32) (jp : Int64) (jw : Int32) : entryFrame m #[(.int jx), (.int jo), (.int jd), (.long jp), (.int jw)] maxLocals = mkF m 0 #[.val (.int jx), .val (.int jo), .val (.int jd), .val (.long jp), .second, .val (.int jw), .unset, .unset, .unset, .unset, .unset, .unset, .unset] [] := by first | (simp [entryFrame, mkF, argsToLocals, Value.category, maxLocals]; done) | rfl
set_option maxRecDepth 65536 in
set_option maxHeartbeats 40000000 in
theorem rm0_x (l : Launch) (Z : State) (a0 : Array Value) (hw : ∀ d ∈ tables_1, d.before a0 Z = true) (ws : List Jvm.Cond) (jx : Int32) (jo : Int32) (jd : Int32) (jp : Int64) (jw : Int32) (s_CS : Int32) (wf : Value) (h0 : Heap) (n0 : Nat) (Z0 : n0 ≤ h0.size) (hwS : ∀ a ∈ Bundle.stringAtoms, a.before a0 Z = true) (S_CS : Sta Z h0 "java/lang/String" "COMPACT_STRINGS" "Z" (.int s_CS)) (hcs : ¬ (s_CS = (0 : Int32))) (S_SF : Sta Z h0 "jdk/internal/util/Preconditions" "SIOOBE_FORMATTER" "Ljava/util/function/BiFunction;" wf) (hwf : wf.isRef = true) (hxx : ¬ (jx = (0 : Int32))) :
    MetFree l x (head1 (Jvm.Cond.code x code maxLocals ret :: ws) room_1) (fun a U => a = #[(.int jx), (.int jo), (.int jd), (.long jp), (.int jw)] ∧ Z.Warmed39 U.vm ∧ U.heap = h0 ∧ CHv Z own_EL U.vm h0) (fun _ _ _ _ _ => True) (fun _ U o U' => ∃ v L, o = .returned v ∧ Q_rm0_x Z jx jo jd jp jw s_CS wf h0 n0 v U'.heap L ∧ ReturnedEndW U o U' L room_1.cells room_1.slots) := by
  refine MetFree.of_bodySF (plainFor_of_name pn_3) hisR ?_
  intro p e s m args below meth c s₁ Bd hml0 hP hK
  obtain ⟨rfl, hZ, hh, hCH⟩ := hP
  have hx := Bd.exec
  have hby := Bd.bytes
  have hml : c.maxLocals = 13 := hml0
  have hown : s.vm.findClass "com/example/wirewright/bench/RunPrintedPinLaw" = some m.cls := findClass_of_methodNamed Bd.named
  have hnm := (name_of_methodNamed Bd.named Bd.method).1
  have X0 : Stand p l e room_1 s m #[(.int jx), (.int jo), (.int jd), (.long jp), (.int jw)] below meth c s₁ [] 0 0 := Stand.of_body Bd
  have e0 : s₁.heap = h0 := by rw [← hh, Bd.state]; rfl
  have N0 := Fr.nil n0
  have hS0 := (State.WarmedH.refl s).since 0
  have pre0 : ∀ t, Steps p.tables e below (s₁.setTop (mkF m 0 #[.val (.int jx), .val (.int jo), .val (.int jd), .val (.long jp), .second, .val (.int jw), .unset, .unset, .unset, .unset, .unset, .unset, .unset] [])) t → Steps p.tables e below (s₁.setTop (entryFrame m #[(.int jx), (.int jo), (.int jd), (.long jp), (.int jw)] maxLocals)) t := fun t k => castTop (ef_rm0_x m jx jo jd jp jw) k
  obtain ⟨_, _, ⟨T1, L1, k1, n1⟩, -, X1, hSq1, hgq1, ⟨Lc1, hQ1, l1, y1, z1, hC1⟩, st1⟩ := Jvm.RoadKit.callSS X0 hx (y := (⟨"com/example/wirewright/bench/RunPrintedPinLaw", "text", "(I)Ljava/lang/String;"⟩ : MethodName)) hown (mvT hZ (ow hw 0 rfl)) (mvT hZ (ow hw 1 rfl)) (mvT hZ (ow hw 2 rfl)) (mvT hZ (ow hw 3 rfl)) (by decide) (backOfSH (s := s) (vm0 := s.vm) (W := 0) (rmTX l Z a0 hw [] jo s_CS h0 n0 Z0 hwS S_CS hcs) hZ (ow hw 3 rfl) (ow hw 2 rfl) (by decide) (by decide) (own_EW hw) hCH) (g := (mkF m 1 #[.val (.int jx), .val (.int jo), .val (.int jd), .val (.long jp), .second, .val (.int jw), .unset, .unset, .unset, .unset, .unset, .unset, .unset] [(.int jo)])) rfl (by rw [hml]; rfl) (argsL := [(.int jo)]) (rest := []) (lenOf pd_17 rfl) rfl (by show 2 * 0 + _ ≤ _; exact Nat.le_of_eq rfl) (hb hby at_1) (fun _ _ => ⟨rfl, e0, (by decide : 0 + 6 ≤ _), (by decide : 0 + 12 ≤ _)⟩)
  dsimp only [Pt.U, Pt.locs, Pt.cells, Pt.slots] at X1 l1 y1 z1 st1 hQ1 hSq1 hgq1 hC1
  subst l1 y1 z1
  obtain ⟨X1, hS1, hZ1, hown1⟩ := rebS (s := s) (vm0 := s.vm) hS0 (by rw [e0]; exact (Nat.zero_le _)) X1 hSq1 hgq1 hZ hown
  obtain ⟨nb_1, vb_1, kb_1, rfl, Nq1, gb1_0, Kp1, Fq1_0, Fq1_1, Fq1_2, Fq1_3⟩ := hQ1
  have N1 := Fr.app N0 Nq1
  have CR1 := CHr.trans (CHr.refl hCH) hC1
  have f3 : Sta Z T1.heap "java/lang/String" "COMPACT_STRINGS" "Z" (.int s_CS) := (Sta_keep S_CS Kp1 ns0)
  obtain ⟨_, _, ⟨T2, L2, k2, n2⟩, -, X2, hSq2, hgq2, ⟨Lc2, hQ2, l2, y2, z2, hC2⟩, st2⟩ := Jvm.RoadKit.callSS X1 hx (y := (⟨"com/example/wirewright/bench/RunPrintedPinLaw", "text", "(I)Ljava/lang/String;"⟩ : MethodName)) hown1 (mvT hZ1 (ow hw 0 rfl)) (mvT hZ1 (ow hw 1 rfl)) (mvT hZ1 (ow hw 2 rfl)) (mvT hZ1 (ow hw 3 rfl)) (by decide) (backOfSH (s := s) (vm0 := T1.vm) (W := 0) (rmTX l Z a0 hw [] (jo ^^^ jd) s_CS T1.heap n0 (Nat.le_trans Z0 Kp1.1) hwS f3 hcs) hZ1 (ow hw 3 rfl) (ow hw 2 rfl) (by decide) (by decide) (own_EW hw) hC1.1) (g := (mkF m 9 #[.val (.int jx), .val (.int jo), .val (.int jd), .val (.long jp), .second, .val (.int jw), .val (.ref nb_1), .unset, .unset, .unset, .unset, .unset, .unset] [(.int (jo ^^^ jd))])) rfl (by rw [hml]; rfl) (argsL := [(.int (jo ^^^ jd))]) (rest := []) (lenOf pd_17 rfl) rfl (by show 2 * 0 + _ ≤ _; exact Nat.le_of_eq rfl) (hb hby at_9) (fun _ _ => ⟨rfl, rfl, (by decide : 6 + 6 ≤ _), (by decide : 12 + 12 ≤ _)⟩)
  dsimp only [Pt.U, Pt.locs, Pt.cells, Pt.slots] at X2 l2 y2 z2 st2 hQ2 hSq2 hgq2 hC2
  subst l2 y2 z2
  obtain ⟨X2, hS2, hZ2, hown2⟩ := rebS (s := s) (vm0 := T1.vm) hS1 (Nat.le_refl _) X2 hSq2 hgq2 hZ1 hown1
  obtain ⟨nb_2, vb_2, kb_2, rfl, Nq2, gb2_0, Kp2, Fq2_0, Fq2_1, Fq2_2, Fq2_3⟩ := hQ2
  have N2 := Fr.app N1 Nq2
  have CR2 := CHr.trans CR1 hC2
  have f5 : Sta Z T2.heap "java/lang/String" "COMPACT_STRINGS" "Z" (.int s_CS) := (Sta_keep f3 Kp2 ns0)
  obtain ⟨_, _, ⟨T4, L4, k4, n4⟩, -, X4, ⟨Lc4, hQ4, l4, y4, z4⟩, st4⟩ := Jvm.LawKit.callS X2 hx (y := (⟨"java/lang/String", "valueOf", "(C)Ljava/lang/String;"⟩ : MethodName)) hown2 (mvT hZ2 (ow hw 34 rfl)) (mvT hZ2 (ow hw 35 rfl)) (mvT hZ2 (ow hw 6 rfl)) (mvT hZ2 (ow hw 36 rfl)) (by decide) (backOf (W := 0) (rmVO l Z a0 hw [] (jw &&& (255 : Int32)) s_CS T2.heap n0 (Nat.le_trans (Nat.le_trans Z0 Kp1.1) Kp2.1) (own_255 _) f5 hcs) hZ2 (ow hw 36 rfl) (ow hw 6 rfl) (by decide) (by decide)) (g := (mkF m 21 #[.val (.int jx), .val (.int jo), .val (.int jd), .val (.long jp), .second, .val (.int jw), .val (.ref nb_1), .val (.ref nb_2), .unset, .unset, .unset, .unset, .unset] [(.int (jw &&& (255 : Int32)))])) rfl (by rw [hml]; rfl) (argsL := [(.int (jw &&& (255 : Int32)))]) (rest := []) (lenOf pd_18 rfl) rfl (by show 2 * 0 + _ ≤ _; exact Nat.le_of_eq rfl) (hb hby at_21) (fun _ _ => ⟨rfl, rfl, (by decide : 12 + 2 ≤ _), (by decide : 24 + 5 ≤ _)⟩)
  dsimp only [Pt.U, Pt.locs, Pt.cells, Pt.slots] at X4 l4 y4 z4 st4 hQ4
  subst l4 y4 z4
  obtain ⟨nb_4, ab_4, kb_4, rfl, Nq4, gb4_0, gb4_1, Kp4, Fq4_0, Fq4_1, Fq4_2⟩ := hQ4
  have N4 := Fr.app N2 Nq4
  obtain ⟨T6, h6, X6, e6, E6, A6, D6, -, st6⟩ := newO X4 hx hZ2 hown2 (ow hw 49 rfl) (ow hw 50 rfl) (ow hw 51 rfl) rfl (g := (mkF m 37 #[.val (.int jx), .val (.int jo), .val (.int jd), .val (.long jp), .second, .val (.int jw), .val (.ref nb_1), .val (.ref nb_2), .val (.ref nb_4), .val (.double (FP.i2d (((jw.toUInt32 >>> ((8 : Int32) &&& 31).toUInt32).toInt32) &&& (65535 : Int32)))), .second, .unset, .unset] [])) rfl (hb hby at_37) (by decide) (by decide)
  obtain ⟨b6, g6⟩ : ∃ z, z = T4.heap.size := ⟨_, rfl⟩
  rw [← g6] at A6 D6 st6
  have F6_14 : Fld Z h6 b6 "com/example/wirewright/bench/Run" "wallSeconds" "D" (.double 0) := D6 (Or.inr (ow hw 57 rfl)) (ty := .double) (by decide)
  have F6_15 : Fld Z h6 b6 "com/example/wirewright/bench/Run" "peakKib" "J" (.long (0 : Int64)) := D6 (Or.inr (ow hw 59 rfl)) (ty := .long) (by decide)
  have F6_16 : Fld Z h6 b6 "com/example/wirewright/bench/Run" "exitCode" "I" (.int (0 : Int32)) := D6 (Or.inr (ow hw 61 rfl)) (ty := .int) (by decide)
  have F6_17 : Fld Z h6 b6 "com/example/wirewright/bench/Run" "output" "Ljava/lang/String;" .null := D6 (Or.inr (ow hw 63 rfl)) (ty := (.object "java/lang/String")) (by decide)
  have F6_18 : Fld Z h6 b6 "com/example/wirewright/bench/Run" "errors" "Ljava/lang/String;" .null := D6 (Or.inr (ow hw 65 rfl)) (ty := (.object "java/lang/String")) (by decide)
  obtain ⟨_, _, ⟨T7, L7, k7, n7⟩, -, X7, ⟨Lc7, hQ7, l7, y7, z7⟩, st7⟩ := X6.specialBack hx (y := (⟨"com/example/wirewright/bench/Run", "<init>", "(DJILjava/lang/String;Ljava/lang/String;)V"⟩ : MethodName)) rfl hown2 (mvT hZ2 (ow hw 52 rfl)) (mvT hZ2 (ow hw 53 rfl)) (mvT hZ2 (ow hw 54 rfl)) (by decide) (backOf (W := 1) (rmRun l Z a0 hw [] b6 (FP.i2d (((jw.toUInt32 >>> ((8 : Int32) &&& 31).toUInt32).toInt32) &&& (65535 : Int32))) jp jx nb_1 nb_4 (.double 0) (.long (0 : Int64)) (.int (0 : Int32)) .null .null h6 n0 (Nat.le_trans (Nat.le_trans (Nat.le_trans (Nat.le_trans Z0 Kp1.1) Kp2.1) Kp4.1) E6.1) F6_14 A6 (Nat.le_trans (Nat.le_trans (Nat.le_trans (Nat.le_trans Z0 Kp1.1) Kp2.1) Kp4.1) (Nat.le_of_eq g6.symm)) F6_15 F6_16 F6_17 F6_18) hZ2 (ow hw 54 rfl) (ow hw 51 rfl) (by decide) (by decide)) (g := (mkF m 49 #[.val (.int jx), .val (.int jo), .val (.int jd), .val (.long jp), .second, .val (.int jw), .val (.ref nb_1), .val (.ref nb_2), .val (.ref nb_4), .val (.double (FP.i2d (((jw.toUInt32 >>> ((8 : Int32) &&& 31).toUInt32).toInt32) &&& (65535 : Int32)))), .second, .unset, .unset] [(.ref nb_4), (.ref nb_1), (.int jx), (.long jp), (.double (FP.i2d (((jw.toUInt32 >>> ((8 : Int32) &&& 31).toUInt32).toInt32) &&& (65535 : Int32)))), (.ref b6), (.ref b6)])) rfl (by rw [hml]; rfl) (Steps.refl _) (a := b6) (argsL := [(.double (FP.i2d (((jw.toUInt32 >>> ((8 : Int32) &&& 31).toUInt32).toInt32) &&& (65535 : Int32)))), (.long jp), (.int jx), (.ref nb_1), (.ref nb_4)]) (rest := [(.ref b6)]) (lenOf pd_19 rfl) rfl (by show 2 * 0 + _ ≤ _; exact Nat.le_of_eq rfl) (hb hby at_49) (fun _ _ => ⟨rfl, e6, (by decide : 15 + 0 ≤ _), (by decide : 34 + 0 ≤ _)⟩)
  dsimp only [Pt.U, Pt.locs, Pt.cells, Pt.slots] at X7 l7 y7 z7 st7 hQ7
  subst l7 y7 z7
  obtain ⟨rfl, Nq7, Kp7, Fq7_0, Fq7_1, Fq7_2⟩ := hQ7
  have N7 := Fr.app N4 Nq7
  obtain ⟨cq8, kq8, q8a, q8b, q8c⟩ := isOf hZ2 rfl Fq7_0
  obtain ⟨_, _, ⟨T8, L8, k8, n8⟩, -, X8, ⟨Lc8, hQ8, l8, y8, z8⟩, st8⟩ := X7.virtualBack hx (y := (⟨"com/example/wirewright/bench/Run", "printed", "(Ljava/lang/String;)Z"⟩ : MethodName)) (z := (⟨"com/example/wirewright/bench/Run", "printed", "(Ljava/lang/String;)Z"⟩ : MethodName)) hown2 (mvT hZ2 (ow hw 79 rfl)) (mvT hZ2 (ow hw 80 rfl)) (notFace_of_selects (args := #[]) (mvT hZ2 (ow hw 82 rfl))) (mvT hZ2 (ow hw 82 rfl)) (mvT hZ2 (ow hw 81 rfl)) (by decide) (backOf (W := 0) (rmPR_x l Z a0 hw [] b6 nb_2 jx T7.heap n0 (Nat.le_trans (Nat.le_trans (Nat.le_trans (Nat.le_trans (Nat.le_trans Z0 Kp1.1) Kp2.1) Kp4.1) E6.1) Kp7.1) Fq7_1 hxx) hZ2 (ow hw 83 rfl) (ow hw 51 rfl) (by decide) (by decide)) q8a q8c (g := (mkF m 79 #[.val (.int jx), .val (.int jo), .val (.int jd), .val (.long jp), .second, .val (.int jw), .val (.ref nb_1), .val (.ref nb_2), .val (.ref nb_4), .val (.double (FP.i2d (((jw.toUInt32 >>> ((8 : Int32) &&& 31).toUInt32).toInt32) &&& (65535 : Int32)))), .second, .val (.ref b6), .val (.int (0 : Int32))] [(.ref nb_2), (.ref b6)])) rfl (by rw [hml]; rfl) (Steps.refl _) (argsL := [(.ref nb_2)]) (rest := []) (lenOf pd_20 rfl) rfl (by show 2 * 0 + _ ≤ _; exact Nat.le_of_eq rfl) (hb hby at_79) (fun _ _ => ⟨rfl, rfl, (by decide : 15 + 0 ≤ _), (by decide : 34 + 0 ≤ _)⟩)
  dsimp only [Pt.U, Pt.locs, Pt.cells, Pt.slots] at X8 l8 y8 z8 st8 hQ8
  subst l8 y8 z8
  obtain ⟨rfl, Nq8, e8⟩ := hQ8
  have N8 := Fr.app N7 Nq8
  obtain ⟨fs, hr, hrun, hended, hRW⟩ := X8.leaveW (s := s) hS2 (by rw [e8]; exact (Nat.le_trans (Nat.le_trans (Nat.le_trans (Nat.le_refl _) Kp4.1) E6.1) Kp7.1)) (v := some (.int (1 : Int32))) (fun h => by rw [Bd.returns] at h; cases h)
  refine ⟨_, _, pre0 _ ?_, hrun, hended, _, _, rfl, ?_, hRW.1, hRW.2.1, hRW.2.2.1, hRW.2.2.2.mono (by decide) (by decide)⟩
  · refine sh (mkF m 0 #[.val (.int jx), .val (.int jo), .val (.int jd), .val (.long jp), .second, .val (.int jw), .unset, .unset, .unset, .unset, .unset, .unset, .unset] []) ?_
    refine XS.iloadN X0.here hx rfl (hb hby at_0) rfl ?_
    refine sh (mkF m 1 #[.val (.int jx), .val (.int jo), .val (.int jd), .val (.long jp), .second, .val (.int jw), .unset, .unset, .unset, .unset, .unset, .unset, .unset] [(.int jo)]) ?_
    refine st1.trans ?_
    refine sh (mkF m 4 #[.val (.int jx), .val (.int jo), .val (.int jd), .val (.long jp), .second, .val (.int jw), .unset, .unset, .unset, .unset, .unset, .unset, .unset] [(.ref nb_1)]) ?_
    refine XS.astore X1.here hx rfl (hb hby at_4) rfl rfl (l' := #[.val (.int jx), .val (.int jo), .val (.int jd), .val (.long jp), .second, .val (.int jw), .val (.ref nb_1), .unset, .unset, .unset, .unset, .unset, .unset]) rfl ?_
    refine sh (mkF m 6 #[.val (.int jx), .val (.int jo), .val (.int jd), .val (.long jp), .second, .val (.int jw), .val (.ref nb_1), .unset, .unset, .unset, .unset, .unset, .unset] []) ?_
    refine XS.iloadN X1.here hx rfl (hb hby at_6) rfl ?_
    refine sh (mkF m 7 #[.val (.int jx), .val (.int jo), .val (.int jd), .val (.long jp), .second, .val (.int jw), .val (.ref nb_1), .unset, .unset, .unset, .unset, .unset, .unset] [(.int jo)]) ?_
    refine XS.iloadN X1.here hx rfl (hb hby at_7) rfl ?_
    refine sh (mkF m 8 #[.val (.int jx), .val (.int jo), .val (.int jd), .val (.long jp), .second, .val (.int jw), .val (.ref nb_1), .unset, .unset, .unset, .unset, .unset, .unset] [(.int jd), (.int jo)]) ?_
    refine XS.ixor X1.here hx rfl (hb hby at_8) rfl ?_
    refine sh (mkF m 9 #[.val (.int jx), .val (.int jo), .val (.int jd), .val (.long jp), .second, .val (.int jw), .val (.ref nb_1), .unset, .unset, .unset, .unset, .unset, .unset] [(.int (jo ^^^ jd))]) ?_
    refine st2.trans ?_
    refine sh (mkF m 12 #[.val (.int jx), .val (.int jo), .val (.int jd), .val (.long jp), .second, .val (.int jw), .val (.ref nb_1), .unset, .unset, .unset, .unset, .unset, .unset] [(.ref nb_2)]) ?_
    refine XS.astore X2.here hx rfl (hb hby at_12) rfl rfl (l' := #[.val (.int jx), .val (.int jo), .val (.int jd), .val (.long jp), .second, .val (.int jw), .val (.ref nb_1), .val (.ref nb_2), .unset, .unset, .unset, .unset, .unset]) rfl ?_
    refine sh (mkF m 14 #[.val (.int jx), .val (.int jo), .val (.int jd), .val (.long jp), .second, .val (.int jw), .val (.ref nb_1), .val (.ref nb_2), .unset, .unset, .unset, .unset, .unset] []) ?_
    refine XS.iload X2.here hx rfl (hb hby at_14) rfl ?_
    refine sh (mkF m 16 #[.val (.int jx), .val (.int jo), .val (.int jd), .val (.long jp), .second, .val (.int jw), .val (.ref nb_1), .val (.ref nb_2), .unset, .unset, .unset, .unset, .unset] [(.int jw)]) ?_
    refine XS.sipush X2.here hx rfl (hb hby at_16) ?_
    refine sh (mkF m 19 #[.val (.int jx), .val (.int jo), .val (.int jd), .val (.long jp), .second, .val (.int jw), .val (.ref nb_1), .val (.ref nb_2), .unset, .unset, .unset, .unset, .unset] [(.int (255 : Int32)), (.int jw)]) ?_
    refine XS.iand X2.here hx rfl (hb hby at_19) rfl ?_
    refine sh (mkF m 20 #[.val (.int jx), .val (.int jo), .val (.int jd), .val (.long jp), .second, .val (.int jw), .val (.ref nb_1), .val (.ref nb_2), .unset, .unset, .unset, .unset, .unset] [(.int (jw &&& (255 : Int32)))]) ?_
    refine XS.i2c X2.here hx rfl (hb hby at_20) rfl ?_
    refine sh (mkF m 21 #[.val (.int jx), .val (.int jo), .val (.int jd), .val (.long jp), .second, .val (.int jw), .val (.ref nb_1), .val (.ref nb_2), .unset, .unset, .unset, .unset, .unset] [(.int ((jw &&& (255 : Int32)).toUInt32.toUInt16.toUInt32.toInt32))]) ?_
    rw [i2c_mask _]
    refine sh (mkF m 21 #[.val (.int jx), .val (.int jo), .val (.int jd), .val (.long jp), .second, .val (.int jw), .val (.ref nb_1), .val (.ref nb_2), .unset, .unset, .unset, .unset, .unset] [(.int (jw &&& (255 : Int32)))]) ?_
    refine st4 _ ?_
    refine sh (mkF m 24 #[.val (.int jx), .val (.int jo), .val (.int jd), .val (.long jp), .second, .val (.int jw), .val (.ref nb_1), .val (.ref nb_2), .unset, .unset, .unset, .unset, .unset] [(.ref nb_4)]) ?_
    refine XS.astore X4.here hx rfl (hb hby at_24) rfl rfl (l' := #[.val (.int jx), .val (.int jo), .val (.int jd), .val (.long jp), .second, .val (.int jw), .val (.ref nb_1), .val (.ref nb_2), .val (.ref nb_4), .unset, .unset, .unset, .unset]) rfl ?_
    refine sh (mkF m 26 #[.val (.int jx), .val (.int jo), .val (.int jd), .val (.long jp), .second, .val (.int jw), .val (.ref nb_1), .val (.ref nb_2), .val (.ref nb_4), .unset, .unset, .unset, .unset] []) ?_
    refine XS.iload X4.here hx rfl (hb hby at_26) rfl ?_
    refine sh (mkF m 28 #[.val (.int jx), .val (.int jo), .val (.int jd), .val (.long jp), .second, .val (.int jw), .val (.ref nb_1), .val (.ref nb_2), .val (.ref nb_4), .unset, .unset, .unset, .unset] [(.int jw)]) ?_
    refine XS.bipush X4.here hx rfl (hb hby at_28) ?_
    refine sh (mkF m 30 #[.val (.int jx), .val (.int jo), .val (.int jd), .val (.long jp), .second, .val (.int jw), .val (.ref nb_1), .val (.ref nb_2), .val (.ref nb_4), .unset, .unset, .unset, .unset] [(.int (8 : Int32)), (.int jw)]) ?_
    refine XS.iushr X4.here hx rfl (hb hby at_30) rfl ?_
    refine sh (mkF m 31 #[.val (.int jx), .val (.int jo), .val (.int jd), .val (.long jp), .second, .val (.int jw), .val (.ref nb_1), .val (.ref nb_2), .val (.ref nb_4), .unset, .unset, .unset, .unset] [(.int ((jw.toUInt32 >>> ((8 : Int32) &&& 31).toUInt32).toInt32))]) ?_
    refine X4.ldcInt hx hown2 (mvT hZ2 (ow hw 48 rfl)) (g := (mkF m 31 #[.val (.int jx), .val (.int jo), .val (.int jd), .val (.long jp), .second, .val (.int jw), .val (.ref nb_1), .val (.ref nb_2), .val (.ref nb_4), .unset, .unset, .unset, .unset] [(.int ((jw.toUInt32 >>> ((8 : Int32) &&& 31).toUInt32).toInt32))])) rfl (hb hby at_31) _ ?_
    refine sh (mkF m 33 #[.val (.int jx), .val (.int jo), .val (.int jd), .val (.long jp), .second, .val (.int jw), .val (.ref nb_1), .val (.ref nb_2), .val (.ref nb_4), .unset, .unset, .unset, .unset] [(.int (65535 : Int32)), (.int ((jw.toUInt32 >>> ((8 : Int32) &&& 31).toUInt32).toInt32))]) ?_
    refine XS.iand X4.here hx rfl (hb hby at_33) rfl ?_
    refine sh (mkF m 34 #[.val (.int jx), .val (.int jo), .val (.int jd), .val (.long jp), .second, .val (.int jw), .val (.ref nb_1), .val (.ref nb_2), .val (.ref nb_4), .unset, .unset, .unset, .unset] [(.int (((jw.toUInt32 >>> ((8 : Int32) &&& 31).toUInt32).toInt32) &&& (65535 : Int32)))]) ?_
    refine XS.i2dS X4.here hx rfl (hb hby at_34) rfl rfl ?_
    refine sh (mkF m 35 #[.val (.int jx), .val (.int jo), .val (.int jd), .val (.long jp), .second, .val (.int jw), .val (.ref nb_1), .val (.ref nb_2), .val (.ref nb_4), .unset, .unset, .unset, .unset] [(.double (FP.i2d (((jw.toUInt32 >>> ((8 : Int32) &&& 31).toUInt32).toInt32) &&& (65535 : Int32))))]) ?_
    refine XS.dstore X4.here hx rfl (hb hby at_35) rfl (l' := #[.val (.int jx), .val (.int jo), .val (.int jd), .val (.long jp), .second, .val (.int jw), .val (.ref nb_1), .val (.ref nb_2), .val (.ref nb_4), .val (.double (FP.i2d (((jw.toUInt32 >>> ((8 : Int32) &&& 31).toUInt32).toInt32) &&& (65535 : Int32)))), .second, .unset, .unset]) rfl ?_
    refine sh (mkF m 37 #[.val (.int jx), .val (.int jo), .val (.int jd), .val (.long jp), .second, .val (.int jw), .val (.ref nb_1), .val (.ref nb_2), .val (.ref nb_4), .val (.double (FP.i2d (((jw.toUInt32 >>> ((8 : Int32) &&& 31).toUInt32).toInt32) &&& (65535 : Int32)))), .second, .unset, .unset] []) ?_
    refine st6 _ ?_
    refine sh (mkF m 40 #[.val (.int jx), .val (.int jo), .val (.int jd), .val (.long jp), .second, .val (.int jw), .val (.ref nb_1), .val (.ref nb_2), .val (.ref nb_4), .val (.double (FP.i2d (((jw.toUInt32 >>> ((8 : Int32) &&& 31).toUInt32).toInt32) &&& (65535 : Int32)))), .second, .unset, .unset] [(.ref b6)]) ?_
    refine XS.dup X6.here hx rfl (hb hby at_40) rfl rfl ?_
    refine sh (mkF m 41 #[.val (.int jx), .val (.int jo), .val (.int jd), .val (.long jp), .second, .val (.int jw), .val (.ref nb_1), .val (.ref nb_2), .val (.ref nb_4), .val (.double (FP.i2d (((jw.toUInt32 >>> ((8 : Int32) &&& 31).toUInt32).toInt32) &&& (65535 : Int32)))), .second, .unset, .unset] [(.ref b6), (.ref b6)]) ?_
    refine XS.dload X6.here hx rfl (hb hby at_41) rfl ?_
    refine sh (mkF m 43 #[.val (.int jx), .val (.int jo), .val (.int jd), .val (.long jp), .second, .val (.int jw), .val (.ref nb_1), .val (.ref nb_2), .val (.ref nb_4), .val (.double (FP.i2d (((jw.toUInt32 >>> ((8 : Int32) &&& 31).toUInt32).toInt32) &&& (65535 : Int32)))), .second, .unset, .unset] [(.double (FP.i2d (((jw.toUInt32 >>> ((8 : Int32) &&& 31).toUInt32).toInt32) &&& (65535 : Int32)))), (.ref b6), (.ref b6)]) ?_
    refine XS.lloadN X6.here hx rfl (hb hby at_43) rfl ?_
    refine sh (mkF m 44 #[.val (.int jx), .val (.int jo), .val (.int jd), .val (.long jp), .second, .val (.int jw), .val (.ref nb_1), .val (.ref nb_2), .val (.ref nb_4), .val (.double (FP.i2d (((jw.toUInt32 >>> ((8 : Int32) &&& 31).toUInt32).toInt32) &&& (65535 : Int32)))), .second, .unset, .unset] [(.long jp), (.double (FP.i2d (((jw.toUInt32 >>> ((8 : Int32) &&& 31).toUInt32).toInt32) &&& (65535 : Int32)))), (.ref b6), (.ref b6)]) ?_
    refine XS.iloadN X6.here hx rfl (hb hby at_44) rfl ?_
    refine sh (mkF m 45 #[.val (.int jx), .val (.int jo), .val (.int jd), .val (.long jp), .second, .val (.int jw), .val (.ref nb_1), .val (.ref nb_2), .val (.ref nb_4), .val (.double (FP.i2d (((jw.toUInt32 >>> ((8 : Int32) &&& 31).toUInt32).toInt32) &&& (65535 : Int32)))), .second, .unset, .unset] [(.int jx), (.long jp), (.double (FP.i2d (((jw.toUInt32 >>> ((8 : Int32) &&& 31).toUInt32).toInt32) &&& (65535 : Int32)))), (.ref b6), (.ref b6)]) ?_
    refine XS.aload X6.here hx rfl (hb hby at_45) rfl rfl ?_
    refine sh (mkF m 47 #[.val (.int jx), .val (.int jo), .val (.int jd), .val (.long jp), .second, .val (.int jw), .val (.ref nb_1), .val (.ref nb_2), .val (.ref nb_4), .val (.double (FP.i2d (((jw.toUInt32 >>> ((8 : Int32) &&& 31).toUInt32).toInt32) &&& (65535 : Int32)))), .second, .unset, .unset] [(.ref nb_1), (.int jx), (.long jp), (.double (FP.i2d (((jw.toUInt32 >>> ((8 : Int32) &&& 31).toUInt32).toInt32) &&& (65535 : Int32)))), (.ref b6), (.ref b6)]) ?_
    refine XS.aload X6.here hx rfl (hb hby at_47) rfl rfl ?_
    refine sh (mkF m 49 #[.val (.int jx), .val (.int jo), .val (.int jd), .val (.long jp), .second, .val (.int jw), .val (.ref nb_1), .val (.ref nb_2), .val (.ref nb_4), .val (.double (FP.i2d (((jw.toUInt32 >>> ((8 : Int32) &&& 31).toUInt32).toInt32) &&& (65535 : Int32)))), .second, .unset, .unset] [(.ref nb_4), (.ref nb_1), (.int jx), (.long jp), (.double (FP.i2d (((jw.toUInt32 >>> ((8 : Int32) &&& 31).toUInt32).toInt32) &&& (65535 : Int32)))), (.ref b6), (.ref b6)]) ?_
    refine st7.trans ?_
    refine sh (mkF m 52 #[.val (.int jx), .val (.int jo), .val (.int jd), .val (.long jp), .second, .val (.int jw), .val (.ref nb_1), .val (.ref nb_2), .val (.ref nb_4), .val (.double (FP.i2d (((jw.toUInt32 >>> ((8 : Int32) &&& 31).toUInt32).toInt32) &&& (65535 : Int32)))), .second, .unset, .unset] [(.ref b6)]) ?_
    refine XS.astore X7.here hx rfl (hb hby at_52) rfl rfl (l' := #[.val (.int jx), .val (.int jo), .val (.int jd), .val (.long jp), .second, .val (.int jw), .val (.ref nb_1), .val (.ref nb_2), .val (.ref nb_4), .val (.double (FP.i2d (((jw.toUInt32 >>> ((8 : Int32) &&& 31).toUInt32).toInt32) &&& (65535 : Int32)))), .second, .val (.ref b6), .unset]) rfl ?_
    refine sh (mkF m 54 #[.val (.int jx), .val (.int jo), .val (.int jd), .val (.long jp), .second, .val (.int jw), .val (.ref nb_1), .val (.ref nb_2), .val (.ref nb_4), .val (.double (FP.i2d (((jw.toUInt32 >>> ((8 : Int32) &&& 31).toUInt32).toInt32) &&& (65535 : Int32)))), .second, .val (.ref b6), .unset] []) ?_
    refine XS.iloadN X7.here hx rfl (hb hby at_54) rfl ?_
    refine sh (mkF m 55 #[.val (.int jx), .val (.int jo), .val (.int jd), .val (.long jp), .second, .val (.int jw), .val (.ref nb_1), .val (.ref nb_2), .val (.ref nb_4), .val (.double (FP.i2d (((jw.toUInt32 >>> ((8 : Int32) &&& 31).toUInt32).toInt32) &&& (65535 : Int32)))), .second, .val (.ref b6), .unset] [(.int jx)]) ?_
    refine XS.ifYes X7.here hx rfl (pc0 := 55) (pc' := 72) rfl (hb hby at_55) rfl ((if0 _ _).trans (feq hxx).2) (by decide) (by decide) ?_
    refine sh (mkF m 72 #[.val (.int jx), .val (.int jo), .val (.int jd), .val (.long jp), .second, .val (.int jw), .val (.ref nb_1), .val (.ref nb_2), .val (.ref nb_4), .val (.double (FP.i2d (((jw.toUInt32 >>> ((8 : Int32) &&& 31).toUInt32).toInt32) &&& (65535 : Int32)))), .second, .val (.ref b6), .unset] []) ?_
    refine XS.iconst X7.here hx rfl (hb hby at_72) ?_
    refine sh (mkF m 73 #[.val (.int jx), .val (.int jo), .val (.int jd), .val (.long jp), .second, .val (.int jw), .val (.ref nb_1), .val (.ref nb_2), .val (.ref nb_4), .val (.double (FP.i2d (((jw.toUInt32 >>> ((8 : Int32) &&& 31).toUInt32).toInt32) &&& (65535 : Int32)))), .second, .val (.ref b6), .unset] [(.int (0 : Int32))]) ?_
    refine XS.istore X7.here hx rfl (hb hby at_73) rfl (l' := #[.val (.int jx), .val (.int jo), .val (.int jd), .val (.long jp), .second, .val (.int jw), .val (.ref nb_1), .val (.ref nb_2), .val (.ref nb_4), .val (.double (FP.i2d (((jw.toUInt32 >>> ((8 : Int32) &&& 31).toUInt32).toInt32) &&& (65535 : Int32)))), .second, .val (.ref b6), .val (.int (0 : Int32))]) rfl ?_
    refine sh (mkF m 75 #[.val (.int jx), .val (.int jo), .val (.int jd), .val (.long jp), .second, .val (.int jw), .val (.ref nb_1), .val (.ref nb_2), .val (.ref nb_4), .val (.double (FP.i2d (((jw.toUInt32 >>> ((8 : Int32) &&& 31).toUInt32).toInt32) &&& (65535 : Int32)))), .second, .val (.ref b6), .val (.int (0 : Int32))] []) ?_
    refine XS.aload X7.here hx rfl (hb hby at_75) rfl rfl ?_
    refine sh (mkF m 77 #[.val (.int jx), .val (.int jo), .val (.int jd), .val (.long jp), .second, .val (.int jw), .val (.ref nb_1), .val (.ref nb_2), .val (.ref nb_4), .val (.double (FP.i2d (((jw.toUInt32 >>> ((8 : Int32) &&& 31).toUInt32).toInt32) &&& (65535 : Int32)))), .second, .val (.ref b6), .val (.int (0 : Int32))] [(.ref b6)]) ?_
    refine XS.aload X7.here hx rfl (hb hby at_77) rfl rfl ?_
    refine sh (mkF m 79 #[.val (.int jx), .val (.int jo), .val (.int jd), .val (.long jp), .second, .val (.int jw), .val (.ref nb_1), .val (.ref nb_2), .val (.ref nb_4), .val (.double (FP.i2d (((jw.toUInt32 >>> ((8 : Int32) &&& 31).toUInt32).toInt32) &&& (65535 : Int32)))), .second, .val (.ref b6), .val (.int (0 : Int32))] [(.ref nb_2), (.ref b6)]) ?_
    refine st8.trans ?_
    refine sh (mkF m 82 #[.val (.int jx), .val (.int jo), .val (.int jd), .val (.long jp), .second, .val (.int jw), .val (.ref nb_1), .val (.ref nb_2), .val (.ref nb_4), .val (.double (FP.i2d (((jw.toUInt32 >>> ((8 : Int32) &&& 31).toUInt32).toInt32) &&& (65535 : Int32)))), .second, .val (.ref b6), .val (.int (0 : Int32))] [(.int (0 : Int32))]) ?_
    refine XS.iload X8.here hx rfl (hb hby at_82) rfl ?_
    refine sh (mkF m 84 #[.val (.int jx), .val (.int jo), .val (.int jd), .val (.long jp), .second, .val (.int jw), .val (.ref nb_1), .val (.ref nb_2), .val (.ref nb_4), .val (.double (FP.i2d (((jw.toUInt32 >>> ((8 : Int32) &&& 31).toUInt32).toInt32) &&& (65535 : Int32)))), .second, .val (.ref b6), .val (.int (0 : Int32))] [(.int (0 : Int32)), (.int (0 : Int32))]) ?_
    refine XS.icmpNo X8.here hx rfl (hb hby at_84) rfl (teq (rfl : (0 : Int32) = (0 : Int32))).2 ?_
    refine sh (mkF m 87 #[.val (.int jx), .val (.int jo), .val (.int jd), .val (.long jp), .second, .val (.int jw), .val (.ref nb_1), .val (.ref nb_2), .val (.ref nb_4), .val (.double (FP.i2d (((jw.toUInt32 >>> ((8 : Int32) &&& 31).toUInt32).toInt32) &&& (65535 : Int32)))), .second, .val (.ref b6), .val (.int (0 : Int32))] []) ?_
    refine XS.iconst X8.here hx rfl (hb hby at_87) ?_
    refine sh (mkF m 88 #[.val (.int jx), .val (.int jo), .val (.int jd), .val (.long jp), .second, .val (.int jw), .val (.ref nb_1), .val (.ref nb_2), .val (.ref nb_4), .val (.double (FP.i2d (((jw.toUInt32 >>> ((8 : Int32) &&& 31).toUInt32).toInt32) &&& (65535 : Int32)))), .second, .val (.ref b6), .val (.int (0 : Int32))] [(.int (1 : Int32))]) ?_
    refine XS.goto X8.here hx rfl (pc0 := 88) (pc' := 92) rfl (hb hby at_88) (by decide) (by decide) ?_
    refine sh (mkF m 92 #[.val (.int jx), .val (.int jo), .val (.int jd), .val (.long jp), .second, .val (.int jw), .val (.ref nb_1), .val (.ref nb_2), .val (.ref nb_4), .val (.double (FP.i2d (((jw.toUInt32 >>> ((8 : Int32) &&& 31).toUInt32).toInt32) &&& (65535 : Int32)))), .second, .val (.ref b6), .val (.int (0 : Int32))] [(.int (1 : Int32))]) ?_
    exact retN X8 hx (t := .boolean) Bd.returns (by simp) (hb hby at_92) hr
  · show Q_rm0_x Z jx jo jd jp jw s_CS wf h0 n0 _ T8.heap _
    rw [e8]
    exact ⟨rfl, N8⟩
theorem pd_21 : parseMethodDescriptor "(Ljava/lang/String;Ljava/lang/String;)Z" = some ⟨[(.object "java/lang/String"), (.object "java/lang/String")], some .boolean⟩ := by decide +kernel
def Q_rm0_t (Z : State) (jo : Int32) (jd : Int32) (jp : Int64) (jw : Int32) (s_CS : Int32) (wf : Value) (h0 : Heap) (n0 : Nat) (v : Option Value) (h : Heap) (L : List Loc) : Prop := v = some (.int (1 : Int32)) ∧ Fr n0 L
theorem ef_rm0_t (m : MethodId) (jo : Int32) (jd : Int32) (jp : Int64) (jw : Int32) : entryFrame m #[(.int (0 : Int32)), (.int jo), (.int jd), (.long jp), (.int jw)] maxLocals = mkF m 0 #[.val (.int (0 : Int32)), .val (.int jo), .val (.int jd), .val (.long jp), .second, .val (.int jw), .unset, .unset, .unset, .unset, .unset, .unset, .unset] [] := by first | (simp [entryFrame, mkF, argsToLocals, Value.category, maxLocals]; done) | rfl
set_option maxRecDepth 65536 in
set_option maxHeartbeats 40000000 in
theorem rm0_t (l : Launch) (Z : State) (a0 : Array Value) (hw : ∀ d ∈ tables_1, d.before a0 Z = true) (ws : List Jvm.Cond) (jo : Int32) (jd : Int32) (jp : Int64) (jw : Int32) (s_CS : Int32) (wf : Value) (h0 : Heap) (n0 : Nat) (Z0 : n0 ≤ h0.size) (hwS : ∀ a ∈ Bundle.stringAtoms, a.before a0 Z = true) (S_CS : Sta Z h0 "java/lang/String" "COMPACT_STRINGS" "Z" (.int s_CS)) (hcs : ¬ (s_CS = (0 : Int32))) (S_SF : Sta Z h0 "jdk/internal/util/Preconditions" "SIOOBE_FORMATTER" "Ljava/util/function/BiFunction;" wf) (hwf : wf.isRef = true) (hs : own_vs jo = own_vs (jo ^^^ jd)) :
    MetFree l x (head1 (Jvm.Cond.code x code maxLocals ret :: ws) room_1) (fun a U => a = #[(.int (0 : Int32)), (.int jo), (.int jd), (.long jp), (.int jw)] ∧ Z.Warmed39 U.vm ∧ U.heap = h0 ∧ CHv Z own_EL U.vm h0) (fun _ _ _ _ _ => True) (fun _ U o U' => ∃ v L, o = .returned v ∧ Q_rm0_t Z jo jd jp jw s_CS wf h0 n0 v U'.heap L ∧ ReturnedEndW U o U' L room_1.cells room_1.slots) := by
  refine MetFree.of_bodySF (plainFor_of_name pn_3) hisR ?_
  intro p e s m args below meth c s₁ Bd hml0 hP hK
  obtain ⟨rfl, hZ, hh, hCH⟩ := hP
  have hx := Bd.exec
  have hby := Bd.bytes
  have hml : c.maxLocals = 13 := hml0
  have hown : s.vm.findClass "com/example/wirewright/bench/RunPrintedPinLaw" = some m.cls := findClass_of_methodNamed Bd.named
  have hnm := (name_of_methodNamed Bd.named Bd.method).1
  have X0 : Stand p l e room_1 s m #[(.int (0 : Int32)), (.int jo), (.int jd), (.long jp), (.int jw)] below meth c s₁ [] 0 0 := Stand.of_body Bd
  have e0 : s₁.heap = h0 := by rw [← hh, Bd.state]; rfl
  have N0 := Fr.nil n0
  have hS0 := (State.WarmedH.refl s).since 0
  have pre0 : ∀ t, Steps p.tables e below (s₁.setTop (mkF m 0 #[.val (.int (0 : Int32)), .val (.int jo), .val (.int jd), .val (.long jp), .second, .val (.int jw), .unset, .unset, .unset, .unset, .unset, .unset, .unset] [])) t → Steps p.tables e below (s₁.setTop (entryFrame m #[(.int (0 : Int32)), (.int jo), (.int jd), (.long jp), (.int jw)] maxLocals)) t := fun t k => castTop (ef_rm0_t m jo jd jp jw) k
  obtain ⟨_, _, ⟨T1, L1, k1, n1⟩, -, X1, hSq1, hgq1, ⟨Lc1, hQ1, l1, y1, z1, hC1⟩, st1⟩ := Jvm.RoadKit.callSS X0 hx (y := (⟨"com/example/wirewright/bench/RunPrintedPinLaw", "text", "(I)Ljava/lang/String;"⟩ : MethodName)) hown (mvT hZ (ow hw 0 rfl)) (mvT hZ (ow hw 1 rfl)) (mvT hZ (ow hw 2 rfl)) (mvT hZ (ow hw 3 rfl)) (by decide) (backOfSH (s := s) (vm0 := s.vm) (W := 0) (rmTX l Z a0 hw [] jo s_CS h0 n0 Z0 hwS S_CS hcs) hZ (ow hw 3 rfl) (ow hw 2 rfl) (by decide) (by decide) (own_EW hw) hCH) (g := (mkF m 1 #[.val (.int (0 : Int32)), .val (.int jo), .val (.int jd), .val (.long jp), .second, .val (.int jw), .unset, .unset, .unset, .unset, .unset, .unset, .unset] [(.int jo)])) rfl (by rw [hml]; rfl) (argsL := [(.int jo)]) (rest := []) (lenOf pd_17 rfl) rfl (by show 2 * 0 + _ ≤ _; exact Nat.le_of_eq rfl) (hb hby at_1) (fun _ _ => ⟨rfl, e0, (by decide : 0 + 6 ≤ _), (by decide : 0 + 12 ≤ _)⟩)
  dsimp only [Pt.U, Pt.locs, Pt.cells, Pt.slots] at X1 l1 y1 z1 st1 hQ1 hSq1 hgq1 hC1
  subst l1 y1 z1
  obtain ⟨X1, hS1, hZ1, hown1⟩ := rebS (s := s) (vm0 := s.vm) hS0 (by rw [e0]; exact (Nat.zero_le _)) X1 hSq1 hgq1 hZ hown
  obtain ⟨nb_1, vb_1, kb_1, rfl, Nq1, gb1_0, Kp1, Fq1_0, Fq1_1, Fq1_2, Fq1_3⟩ := hQ1
  have N1 := Fr.app N0 Nq1
  have CR1 := CHr.trans (CHr.refl hCH) hC1
  have f3 : Sta Z T1.heap "java/lang/String" "COMPACT_STRINGS" "Z" (.int s_CS) := (Sta_keep S_CS Kp1 ns0)
  obtain ⟨_, _, ⟨T2, L2, k2, n2⟩, -, X2, hSq2, hgq2, ⟨Lc2, hQ2, l2, y2, z2, hC2⟩, st2⟩ := Jvm.RoadKit.callSS X1 hx (y := (⟨"com/example/wirewright/bench/RunPrintedPinLaw", "text", "(I)Ljava/lang/String;"⟩ : MethodName)) hown1 (mvT hZ1 (ow hw 0 rfl)) (mvT hZ1 (ow hw 1 rfl)) (mvT hZ1 (ow hw 2 rfl)) (mvT hZ1 (ow hw 3 rfl)) (by decide) (backOfSH (s := s) (vm0 := T1.vm) (W := 0) (rmTX l Z a0 hw [] (jo ^^^ jd) s_CS T1.heap n0 (Nat.le_trans Z0 Kp1.1) hwS f3 hcs) hZ1 (ow hw 3 rfl) (ow hw 2 rfl) (by decide) (by decide) (own_EW hw) hC1.1) (g := (mkF m 9 #[.val (.int (0 : Int32)), .val (.int jo), .val (.int jd), .val (.long jp), .second, .val (.int jw), .val (.ref nb_1), .unset, .unset, .unset, .unset, .unset, .unset] [(.int (jo ^^^ jd))])) rfl (by rw [hml]; rfl) (argsL := [(.int (jo ^^^ jd))]) (rest := []) (lenOf pd_17 rfl) rfl (by show 2 * 0 + _ ≤ _; exact Nat.le_of_eq rfl) (hb hby at_9) (fun _ _ => ⟨rfl, rfl, (by decide : 6 + 6 ≤ _), (by decide : 12 + 12 ≤ _)⟩)
  dsimp only [Pt.U, Pt.locs, Pt.cells, Pt.slots] at X2 l2 y2 z2 st2 hQ2 hSq2 hgq2 hC2
  subst l2 y2 z2
  obtain ⟨X2, hS2, hZ2, hown2⟩ := rebS (s := s) (vm0 := T1.vm) hS1 (Nat.le_refl _) X2 hSq2 hgq2 hZ1 hown1
  obtain ⟨nb_2, vb_2, kb_2, rfl, Nq2, gb2_0, Kp2, Fq2_0, Fq2_1, Fq2_2, Fq2_3⟩ := hQ2
  have N2 := Fr.app N1 Nq2
  have CR2 := CHr.trans CR1 hC2
  have f5 : Sta Z T2.heap "java/lang/String" "COMPACT_STRINGS" "Z" (.int s_CS) := (Sta_keep f3 Kp2 ns0)
  obtain ⟨_, _, ⟨T4, L4, k4, n4⟩, -, X4, ⟨Lc4, hQ4, l4, y4, z4⟩, st4⟩ := Jvm.LawKit.callS X2 hx (y := (⟨"java/lang/String", "valueOf", "(C)Ljava/lang/String;"⟩ : MethodName)) hown2 (mvT hZ2 (ow hw 34 rfl)) (mvT hZ2 (ow hw 35 rfl)) (mvT hZ2 (ow hw 6 rfl)) (mvT hZ2 (ow hw 36 rfl)) (by decide) (backOf (W := 0) (rmVO l Z a0 hw [] (jw &&& (255 : Int32)) s_CS T2.heap n0 (Nat.le_trans (Nat.le_trans Z0 Kp1.1) Kp2.1) (own_255 _) f5 hcs) hZ2 (ow hw 36 rfl) (ow hw 6 rfl) (by decide) (by decide)) (g := (mkF m 21 #[.val (.int (0 : Int32)), .val (.int jo), .val (.int jd), .val (.long jp), .second, .val (.int jw), .val (.ref nb_1), .val (.ref nb_2), .unset, .unset, .unset, .unset, .unset] [(.int (jw &&& (255 : Int32)))])) rfl (by rw [hml]; rfl) (argsL := [(.int (jw &&& (255 : Int32)))]) (rest := []) (lenOf pd_18 rfl) rfl (by show 2 * 0 + _ ≤ _; exact Nat.le_of_eq rfl) (hb hby at_21) (fun _ _ => ⟨rfl, rfl, (by decide : 12 + 2 ≤ _), (by decide : 24 + 5 ≤ _)⟩)
  dsimp only [Pt.U, Pt.locs, Pt.cells, Pt.slots] at X4 l4 y4 z4 st4 hQ4
  subst l4 y4 z4
  obtain ⟨nb_4, ab_4, kb_4, rfl, Nq4, gb4_0, gb4_1, Kp4, Fq4_0, Fq4_1, Fq4_2⟩ := hQ4
  have N4 := Fr.app N2 Nq4
  obtain ⟨T6, h6, X6, e6, E6, A6, D6, -, st6⟩ := newO X4 hx hZ2 hown2 (ow hw 49 rfl) (ow hw 50 rfl) (ow hw 51 rfl) rfl (g := (mkF m 37 #[.val (.int (0 : Int32)), .val (.int jo), .val (.int jd), .val (.long jp), .second, .val (.int jw), .val (.ref nb_1), .val (.ref nb_2), .val (.ref nb_4), .val (.double (FP.i2d (((jw.toUInt32 >>> ((8 : Int32) &&& 31).toUInt32).toInt32) &&& (65535 : Int32)))), .second, .unset, .unset] [])) rfl (hb hby at_37) (by decide) (by decide)
  obtain ⟨b6, g6⟩ : ∃ z, z = T4.heap.size := ⟨_, rfl⟩
  rw [← g6] at A6 D6 st6
  have F6_14 : Fld Z h6 b6 "com/example/wirewright/bench/Run" "wallSeconds" "D" (.double 0) := D6 (Or.inr (ow hw 57 rfl)) (ty := .double) (by decide)
  have F6_15 : Fld Z h6 b6 "com/example/wirewright/bench/Run" "peakKib" "J" (.long (0 : Int64)) := D6 (Or.inr (ow hw 59 rfl)) (ty := .long) (by decide)
  have F6_16 : Fld Z h6 b6 "com/example/wirewright/bench/Run" "exitCode" "I" (.int (0 : Int32)) := D6 (Or.inr (ow hw 61 rfl)) (ty := .int) (by decide)
  have F6_17 : Fld Z h6 b6 "com/example/wirewright/bench/Run" "output" "Ljava/lang/String;" .null := D6 (Or.inr (ow hw 63 rfl)) (ty := (.object "java/lang/String")) (by decide)
  have F6_18 : Fld Z h6 b6 "com/example/wirewright/bench/Run" "errors" "Ljava/lang/String;" .null := D6 (Or.inr (ow hw 65 rfl)) (ty := (.object "java/lang/String")) (by decide)
  obtain ⟨_, _, ⟨T7, L7, k7, n7⟩, -, X7, ⟨Lc7, hQ7, l7, y7, z7⟩, st7⟩ := X6.specialBack hx (y := (⟨"com/example/wirewright/bench/Run", "<init>", "(DJILjava/lang/String;Ljava/lang/String;)V"⟩ : MethodName)) rfl hown2 (mvT hZ2 (ow hw 52 rfl)) (mvT hZ2 (ow hw 53 rfl)) (mvT hZ2 (ow hw 54 rfl)) (by decide) (backOf (W := 1) (rmRun l Z a0 hw [] b6 (FP.i2d (((jw.toUInt32 >>> ((8 : Int32) &&& 31).toUInt32).toInt32) &&& (65535 : Int32))) jp (0 : Int32) nb_1 nb_4 (.double 0) (.long (0 : Int64)) (.int (0 : Int32)) .null .null h6 n0 (Nat.le_trans (Nat.le_trans (Nat.le_trans (Nat.le_trans Z0 Kp1.1) Kp2.1) Kp4.1) E6.1) F6_14 A6 (Nat.le_trans (Nat.le_trans (Nat.le_trans (Nat.le_trans Z0 Kp1.1) Kp2.1) Kp4.1) (Nat.le_of_eq g6.symm)) F6_15 F6_16 F6_17 F6_18) hZ2 (ow hw 54 rfl) (ow hw 51 rfl) (by decide) (by decide)) (g := (mkF m 49 #[.val (.int (0 : Int32)), .val (.int jo), .val (.int jd), .val (.long jp), .second, .val (.int jw), .val (.ref nb_1), .val (.ref nb_2), .val (.ref nb_4), .val (.double (FP.i2d (((jw.toUInt32 >>> ((8 : Int32) &&& 31).toUInt32).toInt32) &&& (65535 : Int32)))), .second, .unset, .unset] [(.ref nb_4), (.ref nb_1), (.int (0 : Int32)), (.long jp), (.double (FP.i2d (((jw.toUInt32 >>> ((8 : Int32) &&& 31).toUInt32).toInt32) &&& (65535 : Int32)))), (.ref b6), (.ref b6)])) rfl (by rw [hml]; rfl) (Steps.refl _) (a := b6) (argsL := [(.double (FP.i2d (((jw.toUInt32 >>> ((8 : Int32) &&& 31).toUInt32).toInt32) &&& (65535 : Int32)))), (.long jp), (.int (0 : Int32)), (.ref nb_1), (.ref nb_4)]) (rest := [(.ref b6)]) (lenOf pd_19 rfl) rfl (by show 2 * 0 + _ ≤ _; exact Nat.le_of_eq rfl) (hb hby at_49) (fun _ _ => ⟨rfl, e6, (by decide : 15 + 0 ≤ _), (by decide : 34 + 0 ≤ _)⟩)
  dsimp only [Pt.U, Pt.locs, Pt.cells, Pt.slots] at X7 l7 y7 z7 st7 hQ7
  subst l7 y7 z7
  obtain ⟨rfl, Nq7, Kp7, Fq7_0, Fq7_1, Fq7_2⟩ := hQ7
  have N7 := Fr.app N4 Nq7
  have f9 : Sta Z T7.heap "java/lang/String" "COMPACT_STRINGS" "Z" (.int s_CS) := (Sta_keep ((Sta_keep f5 Kp4 ns0).ext E6) Kp7 (nsS A6.nostat ns0))
  have f10 : Sta Z T7.heap "jdk/internal/util/Preconditions" "SIOOBE_FORMATTER" "Ljava/util/function/BiFunction;" wf := (Sta_keep ((Sta_keep (Sta_keep (Sta_keep S_SF Kp1 ns0) Kp2 ns0) Kp4 ns0).ext E6) Kp7 (nsS A6.nostat ns0))
  have f11 : Exa Z T7.heap nb_1 "java/lang/String" := ((((Fq1_0.keep Kp2).keep Kp4).ext E6).keep Kp7)
  have f12 : Fld Z T7.heap nb_1 "java/lang/String" "coder" "B" (.int (0 : Int32)) := ((((Fq1_2.keep Kp2 nin0).keep Kp4 nin0).ext E6).keep Kp7 (ninS (Nat.ne_of_lt (Nat.lt_of_lt_of_le ((Fq1_0.keep Kp2).keep Kp4).lt (Nat.le_of_eq g6.symm))) nin0))
  have f13 : Fld Z T7.heap nb_1 "java/lang/String" "value" "[B" (.ref vb_1) := ((((Fq1_1.keep Kp2 nin0).keep Kp4 nin0).ext E6).keep Kp7 (ninS (Nat.ne_of_lt (Nat.lt_of_lt_of_le ((Fq1_0.keep Kp2).keep Kp4).lt (Nat.le_of_eq g6.symm))) nin0))
  have f14 : Arv Z T7.heap vb_1 kb_1 .byte (jo &&& (3 : Int32)) (own_vs jo) (.int (0 : Int32)) := ((((Fq1_3.keep Kp2 nin0).keep Kp4 nin0).ext E6).keep Kp7 (ninS (Nat.ne_of_lt (Nat.lt_of_lt_of_le ((Fq1_3.keep Kp2 nin0).keep Kp4 nin0).lt (Nat.le_of_eq g6.symm))) nin0))
  have f15 : Exa Z T7.heap nb_2 "java/lang/String" := (((Fq2_0.keep Kp4).ext E6).keep Kp7)
  have f16 : Fld Z T7.heap nb_2 "java/lang/String" "coder" "B" (.int (0 : Int32)) := (((Fq2_2.keep Kp4 nin0).ext E6).keep Kp7 (ninS (Nat.ne_of_lt (Nat.lt_of_lt_of_le (Fq2_0.keep Kp4).lt (Nat.le_of_eq g6.symm))) nin0))
  have f17 : Fld Z T7.heap nb_2 "java/lang/String" "value" "[B" (.ref vb_2) := (((Fq2_1.keep Kp4 nin0).ext E6).keep Kp7 (ninS (Nat.ne_of_lt (Nat.lt_of_lt_of_le (Fq2_0.keep Kp4).lt (Nat.le_of_eq g6.symm))) nin0))
  have f18 : Arv Z T7.heap vb_2 kb_2 .byte ((jo ^^^ jd) &&& (3 : Int32)) (own_vs (jo ^^^ jd)) (.int (0 : Int32)) := (((Fq2_3.keep Kp4 nin0).ext E6).keep Kp7 (ninS (Nat.ne_of_lt (Nat.lt_of_lt_of_le (Fq2_3.keep Kp4 nin0).lt (Nat.le_of_eq g6.symm))) nin0))
  obtain ⟨_, _, ⟨T8, L8, k8, n8⟩, -, X8, ⟨Lc8, hQ8, l8, y8, z8⟩, st8⟩ := Jvm.LawKit.callS X7 hx (y := (⟨"com/example/wirewright/bench/RunPrintedPinLaw", "sameText", "(Ljava/lang/String;Ljava/lang/String;)Z"⟩ : MethodName)) hown2 (mvT hZ2 (ow hw 66 rfl)) (mvT hZ2 (ow hw 67 rfl)) (mvT hZ2 (ow hw 2 rfl)) (mvT hZ2 (ow hw 68 rfl)) (by decide) (backOf (W := 0) (rmST_t l Z a0 hw [] nb_1 nb_2 s_CS wf vb_1 vb_2 kb_1 kb_2 jo (jo ^^^ jd) T7.heap n0 (Nat.le_trans (Nat.le_trans (Nat.le_trans (Nat.le_trans (Nat.le_trans Z0 Kp1.1) Kp2.1) Kp4.1) E6.1) Kp7.1) f9 hcs f10 hwf f11 f12 f13 f14 f15 f16 f17 f18 hs) hZ2 (ow hw 68 rfl) (ow hw 2 rfl) (by decide) (by decide)) (g := (mkF m 62 #[.val (.int (0 : Int32)), .val (.int jo), .val (.int jd), .val (.long jp), .second, .val (.int jw), .val (.ref nb_1), .val (.ref nb_2), .val (.ref nb_4), .val (.double (FP.i2d (((jw.toUInt32 >>> ((8 : Int32) &&& 31).toUInt32).toInt32) &&& (65535 : Int32)))), .second, .val (.ref b6), .unset] [(.ref nb_2), (.ref nb_1)])) rfl (by rw [hml]; rfl) (argsL := [(.ref nb_1), (.ref nb_2)]) (rest := []) (lenOf pd_21 rfl) rfl (by show 2 * 0 + _ ≤ _; exact Nat.le_of_eq rfl) (hb hby at_62) (fun _ _ => ⟨rfl, rfl, (by decide : 15 + 0 ≤ _), (by decide : 34 + 0 ≤ _)⟩)
  dsimp only [Pt.U, Pt.locs, Pt.cells, Pt.slots] at X8 l8 y8 z8 st8 hQ8
  subst l8 y8 z8
  obtain ⟨rfl, Nq8, e8⟩ := hQ8
  have N8 := Fr.app N7 Nq8
  obtain ⟨cq19, kq19, q19a, q19b, q19c⟩ := isOf hZ2 e8 Fq7_0
  obtain ⟨_, _, ⟨T19, L19, k19, n19⟩, -, X19, ⟨Lc19, hQ19, l19, y19, z19⟩, st19⟩ := X8.virtualBack hx (y := (⟨"com/example/wirewright/bench/Run", "printed", "(Ljava/lang/String;)Z"⟩ : MethodName)) (z := (⟨"com/example/wirewright/bench/Run", "printed", "(Ljava/lang/String;)Z"⟩ : MethodName)) hown2 (mvT hZ2 (ow hw 79 rfl)) (mvT hZ2 (ow hw 80 rfl)) (notFace_of_selects (args := #[]) (mvT hZ2 (ow hw 82 rfl))) (mvT hZ2 (ow hw 82 rfl)) (mvT hZ2 (ow hw 81 rfl)) (by decide) (backOf (W := 0) (rmPR_t l Z a0 hw [] b6 nb_2 nb_1 s_CS jo (jo ^^^ jd) vb_1 kb_1 vb_2 kb_2 T7.heap n0 (Nat.le_trans (Nat.le_trans (Nat.le_trans (Nat.le_trans (Nat.le_trans Z0 Kp1.1) Kp2.1) Kp4.1) E6.1) Kp7.1) f9 hcs Fq7_1 Fq7_2 f11 f12 f13 f14 f15 f16 f17 f18 hs (Nat.ne_of_lt (Nat.lt_of_lt_of_le Fq1_0.lt gb2_0))) hZ2 (ow hw 83 rfl) (ow hw 51 rfl) (by decide) (by decide)) q19a q19c (g := (mkF m 79 #[.val (.int (0 : Int32)), .val (.int jo), .val (.int jd), .val (.long jp), .second, .val (.int jw), .val (.ref nb_1), .val (.ref nb_2), .val (.ref nb_4), .val (.double (FP.i2d (((jw.toUInt32 >>> ((8 : Int32) &&& 31).toUInt32).toInt32) &&& (65535 : Int32)))), .second, .val (.ref b6), .val (.int (1 : Int32))] [(.ref nb_2), (.ref b6)])) rfl (by rw [hml]; rfl) (Steps.refl _) (argsL := [(.ref nb_2)]) (rest := []) (lenOf pd_20 rfl) rfl (by show 2 * 0 + _ ≤ _; exact Nat.le_of_eq rfl) (hb hby at_79) (fun _ _ => ⟨rfl, e8, (by decide : 15 + 0 ≤ _), (by decide : 34 + 0 ≤ _)⟩)
  dsimp only [Pt.U, Pt.locs, Pt.cells, Pt.slots] at X19 l19 y19 z19 st19 hQ19
  subst l19 y19 z19
  obtain ⟨rfl, Nq19, e19⟩ := hQ19
  have N19 := Fr.app N8 Nq19
  obtain ⟨fs, hr, hrun, hended, hRW⟩ := X19.leaveW (s := s) hS2 (by rw [e19]; exact (Nat.le_trans (Nat.le_trans (Nat.le_trans (Nat.le_refl _) Kp4.1) E6.1) Kp7.1)) (v := some (.int (1 : Int32))) (fun h => by rw [Bd.returns] at h; cases h)
  refine ⟨_, _, pre0 _ ?_, hrun, hended, _, _, rfl, ?_, hRW.1, hRW.2.1, hRW.2.2.1, hRW.2.2.2.mono (by decide) (by decide)⟩
  · refine sh (mkF m 0 #[.val (.int (0 : Int32)), .val (.int jo), .val (.int jd), .val (.long jp), .second, .val (.int jw), .unset, .unset, .unset, .unset, .unset, .unset, .unset] []) ?_
    refine XS.iloadN X0.here hx rfl (hb hby at_0) rfl ?_
    refine sh (mkF m 1 #[.val (.int (0 : Int32)), .val (.int jo), .val (.int jd), .val (.long jp), .second, .val (.int jw), .unset, .unset, .unset, .unset, .unset, .unset, .unset] [(.int jo)]) ?_
    refine st1.trans ?_
    refine sh (mkF m 4 #[.val (.int (0 : Int32)), .val (.int jo), .val (.int jd), .val (.long jp), .second, .val (.int jw), .unset, .unset, .unset, .unset, .unset, .unset, .unset] [(.ref nb_1)]) ?_
    refine XS.astore X1.here hx rfl (hb hby at_4) rfl rfl (l' := #[.val (.int (0 : Int32)), .val (.int jo), .val (.int jd), .val (.long jp), .second, .val (.int jw), .val (.ref nb_1), .unset, .unset, .unset, .unset, .unset, .unset]) rfl ?_
    refine sh (mkF m 6 #[.val (.int (0 : Int32)), .val (.int jo), .val (.int jd), .val (.long jp), .second, .val (.int jw), .val (.ref nb_1), .unset, .unset, .unset, .unset, .unset, .unset] []) ?_
    refine XS.iloadN X1.here hx rfl (hb hby at_6) rfl ?_
    refine sh (mkF m 7 #[.val (.int (0 : Int32)), .val (.int jo), .val (.int jd), .val (.long jp), .second, .val (.int jw), .val (.ref nb_1), .unset, .unset, .unset, .unset, .unset, .unset] [(.int jo)]) ?_
    refine XS.iloadN X1.here hx rfl (hb hby at_7) rfl ?_
    refine sh (mkF m 8 #[.val (.int (0 : Int32)), .val (.int jo), .val (.int jd), .val (.long jp), .second, .val (.int jw), .val (.ref nb_1), .unset, .unset, .unset, .unset, .unset, .unset] [(.int jd), (.int jo)]) ?_
    refine XS.ixor X1.here hx rfl (hb hby at_8) rfl ?_
    refine sh (mkF m 9 #[.val (.int (0 : Int32)), .val (.int jo), .val (.int jd), .val (.long jp), .second, .val (.int jw), .val (.ref nb_1), .unset, .unset, .unset, .unset, .unset, .unset] [(.int (jo ^^^ jd))]) ?_
    refine st2.trans ?_
    refine sh (mkF m 12 #[.val (.int (0 : Int32)), .val (.int jo), .val (.int jd), .val (.long jp), .second, .val (.int jw), .val (.ref nb_1), .unset, .unset, .unset, .unset, .unset, .unset] [(.ref nb_2)]) ?_
    refine XS.astore X2.here hx rfl (hb hby at_12) rfl rfl (l' := #[.val (.int (0 : Int32)), .val (.int jo), .val (.int jd), .val (.long jp), .second, .val (.int jw), .val (.ref nb_1), .val (.ref nb_2), .unset, .unset, .unset, .unset, .unset]) rfl ?_
    refine sh (mkF m 14 #[.val (.int (0 : Int32)), .val (.int jo), .val (.int jd), .val (.long jp), .second, .val (.int jw), .val (.ref nb_1), .val (.ref nb_2), .unset, .unset, .unset, .unset, .unset] []) ?_
    refine XS.iload X2.here hx rfl (hb hby at_14) rfl ?_
    refine sh (mkF m 16 #[.val (.int (0 : Int32)), .val (.int jo), .val (.int jd), .val (.long jp), .second, .val (.int jw), .val (.ref nb_1), .val (.ref nb_2), .unset, .unset, .unset, .unset, .unset] [(.int jw)]) ?_
    refine XS.sipush X2.here hx rfl (hb hby at_16) ?_
    refine sh (mkF m 19 #[.val (.int (0 : Int32)), .val (.int jo), .val (.int jd), .val (.long jp), .second, .val (.int jw), .val (.ref nb_1), .val (.ref nb_2), .unset, .unset, .unset, .unset, .unset] [(.int (255 : Int32)), (.int jw)]) ?_
    refine XS.iand X2.here hx rfl (hb hby at_19) rfl ?_
    refine sh (mkF m 20 #[.val (.int (0 : Int32)), .val (.int jo), .val (.int jd), .val (.long jp), .second, .val (.int jw), .val (.ref nb_1), .val (.ref nb_2), .unset, .unset, .unset, .unset, .unset] [(.int (jw &&& (255 : Int32)))]) ?_
    refine XS.i2c X2.here hx rfl (hb hby at_20) rfl ?_
    refine sh (mkF m 21 #[.val (.int (0 : Int32)), .val (.int jo), .val (.int jd), .val (.long jp), .second, .val (.int jw), .val (.ref nb_1), .val (.ref nb_2), .unset, .unset, .unset, .unset, .unset] [(.int ((jw &&& (255 : Int32)).toUInt32.toUInt16.toUInt32.toInt32))]) ?_
    rw [i2c_mask _]
    refine sh (mkF m 21 #[.val (.int (0 : Int32)), .val (.int jo), .val (.int jd), .val (.long jp), .second, .val (.int jw), .val (.ref nb_1), .val (.ref nb_2), .unset, .unset, .unset, .unset, .unset] [(.int (jw &&& (255 : Int32)))]) ?_
    refine st4 _ ?_
    refine sh (mkF m 24 #[.val (.int (0 : Int32)), .val (.int jo), .val (.int jd), .val (.long jp), .second, .val (.int jw), .val (.ref nb_1), .val (.ref nb_2), .unset, .unset, .unset, .unset, .unset] [(.ref nb_4)]) ?_
    refine XS.astore X4.here hx rfl (hb hby at_24) rfl rfl (l' := #[.val (.int (0 : Int32)), .val (.int jo), .val (.int jd), .val (.long jp), .second, .val (.int jw), .val (.ref nb_1), .val (.ref nb_2), .val (.ref nb_4), .unset, .unset, .unset, .unset]) rfl ?_
    refine sh (mkF m 26 #[.val (.int (0 : Int32)), .val (.int jo), .val (.int jd), .val (.long jp), .second, .val (.int jw), .val (.ref nb_1), .val (.ref nb_2), .val (.ref nb_4), .unset, .unset, .unset, .unset] []) ?_
    refine XS.iload X4.here hx rfl (hb hby at_26) rfl ?_
    refine sh (mkF m 28 #[.val (.int (0 : Int32)), .val (.int jo), .val (.int jd), .val (.long jp), .second, .val (.int jw), .val (.ref nb_1), .val (.ref nb_2), .val (.ref nb_4), .unset, .unset, .unset, .unset] [(.int jw)]) ?_
    refine XS.bipush X4.here hx rfl (hb hby at_28) ?_
    refine sh (mkF m 30 #[.val (.int (0 : Int32)), .val (.int jo), .val (.int jd), .val (.long jp), .second, .val (.int jw), .val (.ref nb_1), .val (.ref nb_2), .val (.ref nb_4), .unset, .unset, .unset, .unset] [(.int (8 : Int32)), (.int jw)]) ?_
    refine XS.iushr X4.here hx rfl (hb hby at_30) rfl ?_
    refine sh (mkF m 31 #[.val (.int (0 : Int32)), .val (.int jo), .val (.int jd), .val (.long jp), .second, .val (.int jw), .val (.ref nb_1), .val (.ref nb_2), .val (.ref nb_4), .unset, .unset, .unset, .unset] [(.int ((jw.toUInt32 >>> ((8 : Int32) &&& 31).toUInt32).toInt32))]) ?_
    refine X4.ldcInt hx hown2 (mvT hZ2 (ow hw 48 rfl)) (g := (mkF m 31 #[.val (.int (0 : Int32)), .val (.int jo), .val (.int jd), .val (.long jp), .second, .val (.int jw), .val (.ref nb_1), .val (.ref nb_2), .val (.ref nb_4), .unset, .unset, .unset, .unset] [(.int ((jw.toUInt32 >>> ((8 : Int32) &&& 31).toUInt32).toInt32))])) rfl (hb hby at_31) _ ?_
    refine sh (mkF m 33 #[.val (.int (0 : Int32)), .val (.int jo), .val (.int jd), .val (.long jp), .second, .val (.int jw), .val (.ref nb_1), .val (.ref nb_2), .val (.ref nb_4), .unset, .unset, .unset, .unset] [(.int (65535 : Int32)), (.int ((jw.toUInt32 >>> ((8 : Int32) &&& 31).toUInt32).toInt32))]) ?_
    refine XS.iand X4.here hx rfl (hb hby at_33) rfl ?_
    refine sh (mkF m 34 #[.val (.int (0 : Int32)), .val (.int jo), .val (.int jd), .val (.long jp), .second, .val (.int jw), .val (.ref nb_1), .val (.ref nb_2), .val (.ref nb_4), .unset, .unset, .unset, .unset] [(.int (((jw.toUInt32 >>> ((8 : Int32) &&& 31).toUInt32).toInt32) &&& (65535 : Int32)))]) ?_
    refine XS.i2dS X4.here hx rfl (hb hby at_34) rfl rfl ?_
    refine sh (mkF m 35 #[.val (.int (0 : Int32)), .val (.int jo), .val (.int jd), .val (.long jp), .second, .val (.int jw), .val (.ref nb_1), .val (.ref nb_2), .val (.ref nb_4), .unset, .unset, .unset, .unset] [(.double (FP.i2d (((jw.toUInt32 >>> ((8 : Int32) &&& 31).toUInt32).toInt32) &&& (65535 : Int32))))]) ?_
    refine XS.dstore X4.here hx rfl (hb hby at_35) rfl (l' := #[.val (.int (0 : Int32)), .val (.int jo), .val (.int jd), .val (.long jp), .second, .val (.int jw), .val (.ref nb_1), .val (.ref nb_2), .val (.ref nb_4), .val (.double (FP.i2d (((jw.toUInt32 >>> ((8 : Int32) &&& 31).toUInt32).toInt32) &&& (65535 : Int32)))), .second, .unset, .unset]) rfl ?_
    refine sh (mkF m 37 #[.val (.int (0 : Int32)), .val (.int jo), .val (.int jd), .val (.long jp), .second, .val (.int jw), .val (.ref nb_1), .val (.ref nb_2), .val (.ref nb_4), .val (.double (FP.i2d (((jw.toUInt32 >>> ((8 : Int32) &&& 31).toUInt32).toInt32) &&& (65535 : Int32)))), .second, .unset, .unset] []) ?_
    refine st6 _ ?_
    refine sh (mkF m 40 #[.val (.int (0 : Int32)), .val (.int jo), .val (.int jd), .val (.long jp), .second, .val (.int jw), .val (.ref nb_1), .val (.ref nb_2), .val (.ref nb_4), .val (.double (FP.i2d (((jw.toUInt32 >>> ((8 : Int32) &&& 31).toUInt32).toInt32) &&& (65535 : Int32)))), .second, .unset, .unset] [(.ref b6)]) ?_
    refine XS.dup X6.here hx rfl (hb hby at_40) rfl rfl ?_
    refine sh (mkF m 41 #[.val (.int (0 : Int32)), .val (.int jo), .val (.int jd), .val (.long jp), .second, .val (.int jw), .val (.ref nb_1), .val (.ref nb_2), .val (.ref nb_4), .val (.double (FP.i2d (((jw.toUInt32 >>> ((8 : Int32) &&& 31).toUInt32).toInt32) &&& (65535 : Int32)))), .second, .unset, .unset] [(.ref b6), (.ref b6)]) ?_
    refine XS.dload X6.here hx rfl (hb hby at_41) rfl ?_
    refine sh (mkF m 43 #[.val (.int (0 : Int32)), .val (.int jo), .val (.int jd), .val (.long jp), .second, .val (.int jw), .val (.ref nb_1), .val (.ref nb_2), .val (.ref nb_4), .val (.double (FP.i2d (((jw.toUInt32 >>> ((8 : Int32) &&& 31).toUInt32).toInt32) &&& (65535 : Int32)))), .second, .unset, .unset] [(.double (FP.i2d (((jw.toUInt32 >>> ((8 : Int32) &&& 31).toUInt32).toInt32) &&& (65535 : Int32)))), (.ref b6), (.ref b6)]) ?_
    refine XS.lloadN X6.here hx rfl (hb hby at_43) rfl ?_
    refine sh (mkF m 44 #[.val (.int (0 : Int32)), .val (.int jo), .val (.int jd), .val (.long jp), .second, .val (.int jw), .val (.ref nb_1), .val (.ref nb_2), .val (.ref nb_4), .val (.double (FP.i2d (((jw.toUInt32 >>> ((8 : Int32) &&& 31).toUInt32).toInt32) &&& (65535 : Int32)))), .second, .unset, .unset] [(.long jp), (.double (FP.i2d (((jw.toUInt32 >>> ((8 : Int32) &&& 31).toUInt32).toInt32) &&& (65535 : Int32)))), (.ref b6), (.ref b6)]) ?_
    refine XS.iloadN X6.here hx rfl (hb hby at_44) rfl ?_
    refine sh (mkF m 45 #[.val (.int (0 : Int32)), .val (.int jo), .val (.int jd), .val (.long jp), .second, .val (.int jw), .val (.ref nb_1), .val (.ref nb_2), .val (.ref nb_4), .val (.double (FP.i2d (((jw.toUInt32 >>> ((8 : Int32) &&& 31).toUInt32).toInt32) &&& (65535 : Int32)))), .second, .unset, .unset] [(.int (0 : Int32)), (.long jp), (.double (FP.i2d (((jw.toUInt32 >>> ((8 : Int32) &&& 31).toUInt32).toInt32) &&& (65535 : Int32)))), (.ref b6), (.ref b6)]) ?_
    refine XS.aload X6.here hx rfl (hb hby at_45) rfl rfl ?_
    refine sh (mkF m 47 #[.val (.int (0 : Int32)), .val (.int jo), .val (.int jd), .val (.long jp), .second, .val (.int jw), .val (.ref nb_1), .val (.ref nb_2), .val (.ref nb_4), .val (.double (FP.i2d (((jw.toUInt32 >>> ((8 : Int32) &&& 31).toUInt32).toInt32) &&& (65535 : Int32)))), .second, .unset, .unset] [(.ref nb_1), (.int (0 : Int32)), (.long jp), (.double (FP.i2d (((jw.toUInt32 >>> ((8 : Int32) &&& 31).toUInt32).toInt32) &&& (65535 : Int32)))), (.ref b6), (.ref b6)]) ?_
    refine XS.aload X6.here hx rfl (hb hby at_47) rfl rfl ?_
    refine sh (mkF m 49 #[.val (.int (0 : Int32)), .val (.int jo), .val (.int jd), .val (.long jp), .second, .val (.int jw), .val (.ref nb_1), .val (.ref nb_2), .val (.ref nb_4), .val (.double (FP.i2d (((jw.toUInt32 >>> ((8 : Int32) &&& 31).toUInt32).toInt32) &&& (65535 : Int32)))), .second, .unset, .unset] [(.ref nb_4), (.ref nb_1), (.int (0 : Int32)), (.long jp), (.double (FP.i2d (((jw.toUInt32 >>> ((8 : Int32) &&& 31).toUInt32).toInt32) &&& (65535 : Int32)))), (.ref b6), (.ref b6)]) ?_
    refine st7.trans ?_
    refine sh (mkF m 52 #[.val (.int (0 : Int32)), .val (.int jo), .val (.int jd), .val (.long jp), .second, .val (.int jw), .val (.ref nb_1), .val (.ref nb_2), .val (.ref nb_4), .val (.double (FP.i2d (((jw.toUInt32 >>> ((8 : Int32) &&& 31).toUInt32).toInt32) &&& (65535 : Int32)))), .second, .unset, .unset] [(.ref b6)]) ?_
    refine XS.astore X7.here hx rfl (hb hby at_52) rfl rfl (l' := #[.val (.int (0 : Int32)), .val (.int jo), .val (.int jd), .val (.long jp), .second, .val (.int jw), .val (.ref nb_1), .val (.ref nb_2), .val (.ref nb_4), .val (.double (FP.i2d (((jw.toUInt32 >>> ((8 : Int32) &&& 31).toUInt32).toInt32) &&& (65535 : Int32)))), .second, .val (.ref b6), .unset]) rfl ?_
    refine sh (mkF m 54 #[.val (.int (0 : Int32)), .val (.int jo), .val (.int jd), .val (.long jp), .second, .val (.int jw), .val (.ref nb_1), .val (.ref nb_2), .val (.ref nb_4), .val (.double (FP.i2d (((jw.toUInt32 >>> ((8 : Int32) &&& 31).toUInt32).toInt32) &&& (65535 : Int32)))), .second, .val (.ref b6), .unset] []) ?_
    refine XS.iloadN X7.here hx rfl (hb hby at_54) rfl ?_
    refine sh (mkF m 55 #[.val (.int (0 : Int32)), .val (.int jo), .val (.int jd), .val (.long jp), .second, .val (.int jw), .val (.ref nb_1), .val (.ref nb_2), .val (.ref nb_4), .val (.double (FP.i2d (((jw.toUInt32 >>> ((8 : Int32) &&& 31).toUInt32).toInt32) &&& (65535 : Int32)))), .second, .val (.ref b6), .unset] [(.int (0 : Int32))]) ?_
    refine XS.ifNo X7.here hx rfl (hb hby at_55) rfl ((if0 _ _).trans (teq (rfl : (0 : Int32) = (0 : Int32))).2) ?_
    refine sh (mkF m 58 #[.val (.int (0 : Int32)), .val (.int jo), .val (.int jd), .val (.long jp), .second, .val (.int jw), .val (.ref nb_1), .val (.ref nb_2), .val (.ref nb_4), .val (.double (FP.i2d (((jw.toUInt32 >>> ((8 : Int32) &&& 31).toUInt32).toInt32) &&& (65535 : Int32)))), .second, .val (.ref b6), .unset] []) ?_
    refine XS.aload X7.here hx rfl (hb hby at_58) rfl rfl ?_
    refine sh (mkF m 60 #[.val (.int (0 : Int32)), .val (.int jo), .val (.int jd), .val (.long jp), .second, .val (.int jw), .val (.ref nb_1), .val (.ref nb_2), .val (.ref nb_4), .val (.double (FP.i2d (((jw.toUInt32 >>> ((8 : Int32) &&& 31).toUInt32).toInt32) &&& (65535 : Int32)))), .second, .val (.ref b6), .unset] [(.ref nb_1)]) ?_
    refine XS.aload X7.here hx rfl (hb hby at_60) rfl rfl ?_
    refine sh (mkF m 62 #[.val (.int (0 : Int32)), .val (.int jo), .val (.int jd), .val (.long jp), .second, .val (.int jw), .val (.ref nb_1), .val (.ref nb_2), .val (.ref nb_4), .val (.double (FP.i2d (((jw.toUInt32 >>> ((8 : Int32) &&& 31).toUInt32).toInt32) &&& (65535 : Int32)))), .second, .val (.ref b6), .unset] [(.ref nb_2), (.ref nb_1)]) ?_
    refine st8 _ ?_
    refine sh (mkF m 65 #[.val (.int (0 : Int32)), .val (.int jo), .val (.int jd), .val (.long jp), .second, .val (.int jw), .val (.ref nb_1), .val (.ref nb_2), .val (.ref nb_4), .val (.double (FP.i2d (((jw.toUInt32 >>> ((8 : Int32) &&& 31).toUInt32).toInt32) &&& (65535 : Int32)))), .second, .val (.ref b6), .unset] [(.int (1 : Int32))]) ?_
    refine XS.ifNo X8.here hx rfl (hb hby at_65) rfl ((if0 _ _).trans (feq (by decide : ¬ ((1 : Int32) = (0 : Int32)))).1) ?_
    refine sh (mkF m 68 #[.val (.int (0 : Int32)), .val (.int jo), .val (.int jd), .val (.long jp), .second, .val (.int jw), .val (.ref nb_1), .val (.ref nb_2), .val (.ref nb_4), .val (.double (FP.i2d (((jw.toUInt32 >>> ((8 : Int32) &&& 31).toUInt32).toInt32) &&& (65535 : Int32)))), .second, .val (.ref b6), .unset] []) ?_
    refine XS.iconst X8.here hx rfl (hb hby at_68) ?_
    refine sh (mkF m 69 #[.val (.int (0 : Int32)), .val (.int jo), .val (.int jd), .val (.long jp), .second, .val (.int jw), .val (.ref nb_1), .val (.ref nb_2), .val (.ref nb_4), .val (.double (FP.i2d (((jw.toUInt32 >>> ((8 : Int32) &&& 31).toUInt32).toInt32) &&& (65535 : Int32)))), .second, .val (.ref b6), .unset] [(.int (1 : Int32))]) ?_
    refine XS.goto X8.here hx rfl (pc0 := 69) (pc' := 73) rfl (hb hby at_69) (by decide) (by decide) ?_
    refine sh (mkF m 73 #[.val (.int (0 : Int32)), .val (.int jo), .val (.int jd), .val (.long jp), .second, .val (.int jw), .val (.ref nb_1), .val (.ref nb_2), .val (.ref nb_4), .val (.double (FP.i2d (((jw.toUInt32 >>> ((8 : Int32) &&& 31).toUInt32).toInt32) &&& (65535 : Int32)))), .second, .val (.ref b6), .unset] [(.int (1 : Int32))]) ?_
    refine XS.istore X8.here hx rfl (hb hby at_73) rfl (l' := #[.val (.int (0 : Int32)), .val (.int jo), .val (.int jd), .val (.long jp), .second, .val (.int jw), .val (.ref nb_1), .val (.ref nb_2), .val (.ref nb_4), .val (.double (FP.i2d (((jw.toUInt32 >>> ((8 : Int32) &&& 31).toUInt32).toInt32) &&& (65535 : Int32)))), .second, .val (.ref b6), .val (.int (1 : Int32))]) rfl ?_
    refine sh (mkF m 75 #[.val (.int (0 : Int32)), .val (.int jo), .val (.int jd), .val (.long jp), .second, .val (.int jw), .val (.ref nb_1), .val (.ref nb_2), .val (.ref nb_4), .val (.double (FP.i2d (((jw.toUInt32 >>> ((8 : Int32) &&& 31).toUInt32).toInt32) &&& (65535 : Int32)))), .second, .val (.ref b6), .val (.int (1 : Int32))] []) ?_
    refine XS.aload X8.here hx rfl (hb hby at_75) rfl rfl ?_
    refine sh (mkF m 77 #[.val (.int (0 : Int32)), .val (.int jo), .val (.int jd), .val (.long jp), .second, .val (.int jw), .val (.ref nb_1), .val (.ref nb_2), .val (.ref nb_4), .val (.double (FP.i2d (((jw.toUInt32 >>> ((8 : Int32) &&& 31).toUInt32).toInt32) &&& (65535 : Int32)))), .second, .val (.ref b6), .val (.int (1 : Int32))] [(.ref b6)]) ?_
    refine XS.aload X8.here hx rfl (hb hby at_77) rfl rfl ?_
    refine sh (mkF m 79 #[.val (.int (0 : Int32)), .val (.int jo), .val (.int jd), .val (.long jp), .second, .val (.int jw), .val (.ref nb_1), .val (.ref nb_2), .val (.ref nb_4), .val (.double (FP.i2d (((jw.toUInt32 >>> ((8 : Int32) &&& 31).toUInt32).toInt32) &&& (65535 : Int32)))), .second, .val (.ref b6), .val (.int (1 : Int32))] [(.ref nb_2), (.ref b6)]) ?_
    refine st19.trans ?_
    refine sh (mkF m 82 #[.val (.int (0 : Int32)), .val (.int jo), .val (.int jd), .val (.long jp), .second, .val (.int jw), .val (.ref nb_1), .val (.ref nb_2), .val (.ref nb_4), .val (.double (FP.i2d (((jw.toUInt32 >>> ((8 : Int32) &&& 31).toUInt32).toInt32) &&& (65535 : Int32)))), .second, .val (.ref b6), .val (.int (1 : Int32))] [(.int (1 : Int32))]) ?_
    refine XS.iload X19.here hx rfl (hb hby at_82) rfl ?_
    refine sh (mkF m 84 #[.val (.int (0 : Int32)), .val (.int jo), .val (.int jd), .val (.long jp), .second, .val (.int jw), .val (.ref nb_1), .val (.ref nb_2), .val (.ref nb_4), .val (.double (FP.i2d (((jw.toUInt32 >>> ((8 : Int32) &&& 31).toUInt32).toInt32) &&& (65535 : Int32)))), .second, .val (.ref b6), .val (.int (1 : Int32))] [(.int (1 : Int32)), (.int (1 : Int32))]) ?_
    refine XS.icmpNo X19.here hx rfl (hb hby at_84) rfl (teq (rfl : (1 : Int32) = (1 : Int32))).2 ?_
    refine sh (mkF m 87 #[.val (.int (0 : Int32)), .val (.int jo), .val (.int jd), .val (.long jp), .second, .val (.int jw), .val (.ref nb_1), .val (.ref nb_2), .val (.ref nb_4), .val (.double (FP.i2d (((jw.toUInt32 >>> ((8 : Int32) &&& 31).toUInt32).toInt32) &&& (65535 : Int32)))), .second, .val (.ref b6), .val (.int (1 : Int32))] []) ?_
    refine XS.iconst X19.here hx rfl (hb hby at_87) ?_
    refine sh (mkF m 88 #[.val (.int (0 : Int32)), .val (.int jo), .val (.int jd), .val (.long jp), .second, .val (.int jw), .val (.ref nb_1), .val (.ref nb_2), .val (.ref nb_4), .val (.double (FP.i2d (((jw.toUInt32 >>> ((8 : Int32) &&& 31).toUInt32).toInt32) &&& (65535 : Int32)))), .second, .val (.ref b6), .val (.int (1 : Int32))] [(.int (1 : Int32))]) ?_
    refine XS.goto X19.here hx rfl (pc0 := 88) (pc' := 92) rfl (hb hby at_88) (by decide) (by decide) ?_
    refine sh (mkF m 92 #[.val (.int (0 : Int32)), .val (.int jo), .val (.int jd), .val (.long jp), .second, .val (.int jw), .val (.ref nb_1), .val (.ref nb_2), .val (.ref nb_4), .val (.double (FP.i2d (((jw.toUInt32 >>> ((8 : Int32) &&& 31).toUInt32).toInt32) &&& (65535 : Int32)))), .second, .val (.ref b6), .val (.int (1 : Int32))] [(.int (1 : Int32))]) ?_
    exact retN X19 hx (t := .boolean) Bd.returns (by simp) (hb hby at_92) hr
  · show Q_rm0_t Z jo jd jp jw s_CS wf h0 n0 _ T19.heap _
    rw [e19]
    exact ⟨rfl, N19⟩
def Q_rm0_f (Z : State) (jo : Int32) (jd : Int32) (jp : Int64) (jw : Int32) (s_CS : Int32) (wf : Value) (h0 : Heap) (n0 : Nat) (v : Option Value) (h : Heap) (L : List Loc) : Prop := v = some (.int (1 : Int32)) ∧ Fr n0 L
theorem ef_rm0_f (m : MethodId) (jo : Int32) (jd : Int32) (jp : Int64) (jw : Int32) : entryFrame m #[(.int (0 : Int32)), (.int jo), (.int jd), (.long jp), (.int jw)] maxLocals = mkF m 0 #[.val (.int (0 : Int32)), .val (.int jo), .val (.int jd), .val (.long jp), .second, .val (.int jw), .unset, .unset, .unset, .unset, .unset, .unset, .unset] [] := by first | (simp [entryFrame, mkF, argsToLocals, Value.category, maxLocals]; done) | rfl
set_option maxRecDepth 65536 in
set_option maxHeartbeats 40000000 in
theorem rm0_f (l : Launch) (Z : State) (a0 : Array Value) (hw : ∀ d ∈ tables_1, d.before a0 Z = true) (ws : List Jvm.Cond) (jo : Int32) (jd : Int32) (jp : Int64) (jw : Int32) (s_CS : Int32) (wf : Value) (h0 : Heap) (n0 : Nat) (Z0 : n0 ≤ h0.size) (hwS : ∀ a ∈ Bundle.stringAtoms, a.before a0 Z = true) (S_CS : Sta Z h0 "java/lang/String" "COMPACT_STRINGS" "Z" (.int s_CS)) (hcs : ¬ (s_CS = (0 : Int32))) (S_SF : Sta Z h0 "jdk/internal/util/Preconditions" "SIOOBE_FORMATTER" "Ljava/util/function/BiFunction;" wf) (hwf : wf.isRef = true) (hs : ¬ (own_vs jo = own_vs (jo ^^^ jd))) :
    MetFree l x (head1 (Jvm.Cond.code x code maxLocals ret :: ws) room_1) (fun a U => a = #[(.int (0 : Int32)), (.int jo), (.int jd), (.long jp), (.int jw)] ∧ Z.Warmed39 U.vm ∧ U.heap = h0 ∧ CHv Z own_EL U.vm h0) (fun _ _ _ _ _ => True) (fun _ U o U' => ∃ v L, o = .returned v ∧ Q_rm0_f Z jo jd jp jw s_CS wf h0 n0 v U'.heap L ∧ ReturnedEndW U o U' L room_1.cells room_1.slots) := by
  refine MetFree.of_bodySF (plainFor_of_name pn_3) hisR ?_
  intro p e s m args below meth c s₁ Bd hml0 hP hK
  obtain ⟨rfl, hZ, hh, hCH⟩ := hP
  have hx := Bd.exec
  have hby := Bd.bytes
  have hml : c.maxLocals = 13 := hml0
  have hown : s.vm.findClass "com/example/wirewright/bench/RunPrintedPinLaw" = some m.cls := findClass_of_methodNamed Bd.named
  have hnm := (name_of_methodNamed Bd.named Bd.method).1
  have X0 : Stand p l e room_1 s m #[(.int (0 : Int32)), (.int jo), (.int jd), (.long jp), (.int jw)] below meth c s₁ [] 0 0 := Stand.of_body Bd
  have e0 : s₁.heap = h0 := by rw [← hh, Bd.state]; rfl
  have N0 := Fr.nil n0
  have hS0 := (State.WarmedH.refl s).since 0
  have pre0 : ∀ t, Steps p.tables e below (s₁.setTop (mkF m 0 #[.val (.int (0 : Int32)), .val (.int jo), .val (.int jd), .val (.long jp), .second, .val (.int jw), .unset, .unset, .unset, .unset, .unset, .unset, .unset] [])) t → Steps p.tables e below (s₁.setTop (entryFrame m #[(.int (0 : Int32)), (.int jo), (.int jd), (.long jp), (.int jw)] maxLocals)) t := fun t k => castTop (ef_rm0_f m jo jd jp jw) k
  obtain ⟨_, _, ⟨T1, L1, k1, n1⟩, -, X1, hSq1, hgq1, ⟨Lc1, hQ1, l1, y1, z1, hC1⟩, st1⟩ := Jvm.RoadKit.callSS X0 hx (y := (⟨"com/example/wirewright/bench/RunPrintedPinLaw", "text", "(I)Ljava/lang/String;"⟩ : MethodName)) hown (mvT hZ (ow hw 0 rfl)) (mvT hZ (ow hw 1 rfl)) (mvT hZ (ow hw 2 rfl)) (mvT hZ (ow hw 3 rfl)) (by decide) (backOfSH (s := s) (vm0 := s.vm) (W := 0) (rmTX l Z a0 hw [] jo s_CS h0 n0 Z0 hwS S_CS hcs) hZ (ow hw 3 rfl) (ow hw 2 rfl) (by decide) (by decide) (own_EW hw) hCH) (g := (mkF m 1 #[.val (.int (0 : Int32)), .val (.int jo), .val (.int jd), .val (.long jp), .second, .val (.int jw), .unset, .unset, .unset, .unset, .unset, .unset, .unset] [(.int jo)])) rfl (by rw [hml]; rfl) (argsL := [(.int jo)]) (rest := []) (lenOf pd_17 rfl) rfl (by show 2 * 0 + _ ≤ _; exact Nat.le_of_eq rfl) (hb hby at_1) (fun _ _ => ⟨rfl, e0, (by decide : 0 + 6 ≤ _), (by decide : 0 + 12 ≤ _)⟩)
  dsimp only [Pt.U, Pt.locs, Pt.cells, Pt.slots] at X1 l1 y1 z1 st1 hQ1 hSq1 hgq1 hC1
  subst l1 y1 z1
  obtain ⟨X1, hS1, hZ1, hown1⟩ := rebS (s := s) (vm0 := s.vm) hS0 (by rw [e0]; exact (Nat.zero_le _)) X1 hSq1 hgq1 hZ hown
  obtain ⟨nb_1, vb_1, kb_1, rfl, Nq1, gb1_0, Kp1, Fq1_0, Fq1_1, Fq1_2, Fq1_3⟩ := hQ1
  have N1 := Fr.app N0 Nq1
  have CR1 := CHr.trans (CHr.refl hCH) hC1
  have f3 : Sta Z T1.heap "java/lang/String" "COMPACT_STRINGS" "Z" (.int s_CS) := (Sta_keep S_CS Kp1 ns0)
  obtain ⟨_, _, ⟨T2, L2, k2, n2⟩, -, X2, hSq2, hgq2, ⟨Lc2, hQ2, l2, y2, z2, hC2⟩, st2⟩ := Jvm.RoadKit.callSS X1 hx (y := (⟨"com/example/wirewright/bench/RunPrintedPinLaw", "text", "(I)Ljava/lang/String;"⟩ : MethodName)) hown1 (mvT hZ1 (ow hw 0 rfl)) (mvT hZ1 (ow hw 1 rfl)) (mvT hZ1 (ow hw 2 rfl)) (mvT hZ1 (ow hw 3 rfl)) (by decide) (backOfSH (s := s) (vm0 := T1.vm) (W := 0) (rmTX l Z a0 hw [] (jo ^^^ jd) s_CS T1.heap n0 (Nat.le_trans Z0 Kp1.1) hwS f3 hcs) hZ1 (ow hw 3 rfl) (ow hw 2 rfl) (by decide) (by decide) (own_EW hw) hC1.1) (g := (mkF m 9 #[.val (.int (0 : Int32)), .val (.int jo), .val (.int jd), .val (.long jp), .second, .val (.int jw), .val (.ref nb_1), .unset, .unset, .unset, .unset, .unset, .unset] [(.int (jo ^^^ jd))])) rfl (by rw [hml]; rfl) (argsL := [(.int (jo ^^^ jd))]) (rest := []) (lenOf pd_17 rfl) rfl (by show 2 * 0 + _ ≤ _; exact Nat.le_of_eq rfl) (hb hby at_9) (fun _ _ => ⟨rfl, rfl, (by decide : 6 + 6 ≤ _), (by decide : 12 + 12 ≤ _)⟩)
  dsimp only [Pt.U, Pt.locs, Pt.cells, Pt.slots] at X2 l2 y2 z2 st2 hQ2 hSq2 hgq2 hC2
  subst l2 y2 z2
  obtain ⟨X2, hS2, hZ2, hown2⟩ := rebS (s := s) (vm0 := T1.vm) hS1 (Nat.le_refl _) X2 hSq2 hgq2 hZ1 hown1
  obtain ⟨nb_2, vb_2, kb_2, rfl, Nq2, gb2_0, Kp2, Fq2_0, Fq2_1, Fq2_2, Fq2_3⟩ := hQ2
  have N2 := Fr.app N1 Nq2
  have CR2 := CHr.trans CR1 hC2
  have f5 : Sta Z T2.heap "java/lang/String" "COMPACT_STRINGS" "Z" (.int s_CS) := (Sta_keep f3 Kp2 ns0)
  obtain ⟨_, _, ⟨T4, L4, k4, n4⟩, -, X4, ⟨Lc4, hQ4, l4, y4, z4⟩, st4⟩ := Jvm.LawKit.callS X2 hx (y := (⟨"java/lang/String", "valueOf", "(C)Ljava/lang/String;"⟩ : MethodName)) hown2 (mvT hZ2 (ow hw 34 rfl)) (mvT hZ2 (ow hw 35 rfl)) (mvT hZ2 (ow hw 6 rfl)) (mvT hZ2 (ow hw 36 rfl)) (by decide) (backOf (W := 0) (rmVO l Z a0 hw [] (jw &&& (255 : Int32)) s_CS T2.heap n0 (Nat.le_trans (Nat.le_trans Z0 Kp1.1) Kp2.1) (own_255 _) f5 hcs) hZ2 (ow hw 36 rfl) (ow hw 6 rfl) (by decide) (by decide)) (g := (mkF m 21 #[.val (.int (0 : Int32)), .val (.int jo), .val (.int jd), .val (.long jp), .second, .val (.int jw), .val (.ref nb_1), .val (.ref nb_2), .unset, .unset, .unset, .unset, .unset] [(.int (jw &&& (255 : Int32)))])) rfl (by rw [hml]; rfl) (argsL := [(.int (jw &&& (255 : Int32)))]) (rest := []) (lenOf pd_18 rfl) rfl (by show 2 * 0 + _ ≤ _; exact Nat.le_of_eq rfl) (hb hby at_21) (fun _ _ => ⟨rfl, rfl, (by decide : 12 + 2 ≤ _), (by decide : 24 + 5 ≤ _)⟩)
  dsimp only [Pt.U, Pt.locs, Pt.cells, Pt.slots] at X4 l4 y4 z4 st4 hQ4
  subst l4 y4 z4
  obtain ⟨nb_4, ab_4, kb_4, rfl, Nq4, gb4_0, gb4_1, Kp4, Fq4_0, Fq4_1, Fq4_2⟩ := hQ4
  have N4 := Fr.app N2 Nq4
  obtain ⟨T6, h6, X6, e6, E6, A6, D6, -, st6⟩ := newO X4 hx hZ2 hown2 (ow hw 49 rfl) (ow hw 50 rfl) (ow hw 51 rfl) rfl (g := (mkF m 37 #[.val (.int (0 : Int32)), .val (.int jo), .val (.int jd), .val (.long jp), .second, .val (.int jw), .val (.ref nb_1), .val (.ref nb_2), .val (.ref nb_4), .val (.double (FP.i2d (((jw.toUInt32 >>> ((8 : Int32) &&& 31).toUInt32).toInt32) &&& (65535 : Int32)))), .second, .unset, .unset] [])) rfl (hb hby at_37) (by decide) (by decide)
  obtain ⟨b6, g6⟩ : ∃ z, z = T4.heap.size := ⟨_, rfl⟩
  rw [← g6] at A6 D6 st6
  have F6_14 : Fld Z h6 b6 "com/example/wirewright/bench/Run" "wallSeconds" "D" (.double 0) := D6 (Or.inr (ow hw 57 rfl)) (ty := .double) (by decide)
  have F6_15 : Fld Z h6 b6 "com/example/wirewright/bench/Run" "peakKib" "J" (.long (0 : Int64)) := D6 (Or.inr (ow hw 59 rfl)) (ty := .long) (by decide)
  have F6_16 : Fld Z h6 b6 "com/example/wirewright/bench/Run" "exitCode" "I" (.int (0 : Int32)) := D6 (Or.inr (ow hw 61 rfl)) (ty := .int) (by decide)
  have F6_17 : Fld Z h6 b6 "com/example/wirewright/bench/Run" "output" "Ljava/lang/String;" .null := D6 (Or.inr (ow hw 63 rfl)) (ty := (.object "java/lang/String")) (by decide)
  have F6_18 : Fld Z h6 b6 "com/example/wirewright/bench/Run" "errors" "Ljava/lang/String;" .null := D6 (Or.inr (ow hw 65 rfl)) (ty := (.object "java/lang/String")) (by decide)
  obtain ⟨_, _, ⟨T7, L7, k7, n7⟩, -, X7, ⟨Lc7, hQ7, l7, y7, z7⟩, st7⟩ := X6.specialBack hx (y := (⟨"com/example/wirewright/bench/Run", "<init>", "(DJILjava/lang/String;Ljava/lang/String;)V"⟩ : MethodName)) rfl hown2 (mvT hZ2 (ow hw 52 rfl)) (mvT hZ2 (ow hw 53 rfl)) (mvT hZ2 (ow hw 54 rfl)) (by decide) (backOf (W := 1) (rmRun l Z a0 hw [] b6 (FP.i2d (((jw.toUInt32 >>> ((8 : Int32) &&& 31).toUInt32).toInt32) &&& (65535 : Int32))) jp (0 : Int32) nb_1 nb_4 (.double 0) (.long (0 : Int64)) (.int (0 : Int32)) .null .null h6 n0 (Nat.le_trans (Nat.le_trans (Nat.le_trans (Nat.le_trans Z0 Kp1.1) Kp2.1) Kp4.1) E6.1) F6_14 A6 (Nat.le_trans (Nat.le_trans (Nat.le_trans (Nat.le_trans Z0 Kp1.1) Kp2.1) Kp4.1) (Nat.le_of_eq g6.symm)) F6_15 F6_16 F6_17 F6_18) hZ2 (ow hw 54 rfl) (ow hw 51 rfl) (by decide) (by decide)) (g := (mkF m 49 #[.val (.int (0 : Int32)), .val (.int jo), .val (.int jd), .val (.long jp), .second, .val (.int jw), .val (.ref nb_1), .val (.ref nb_2), .val (.ref nb_4), .val (.double (FP.i2d (((jw.toUInt32 >>> ((8 : Int32) &&& 31).toUInt32).toInt32) &&& (65535 : Int32)))), .second, .unset, .unset] [(.ref nb_4), (.ref nb_1), (.int (0 : Int32)), (.long jp), (.double (FP.i2d (((jw.toUInt32 >>> ((8 : Int32) &&& 31).toUInt32).toInt32) &&& (65535 : Int32)))), (.ref b6), (.ref b6)])) rfl (by rw [hml]; rfl) (Steps.refl _) (a := b6) (argsL := [(.double (FP.i2d (((jw.toUInt32 >>> ((8 : Int32) &&& 31).toUInt32).toInt32) &&& (65535 : Int32)))), (.long jp), (.int (0 : Int32)), (.ref nb_1), (.ref nb_4)]) (rest := [(.ref b6)]) (lenOf pd_19 rfl) rfl (by show 2 * 0 + _ ≤ _; exact Nat.le_of_eq rfl) (hb hby at_49) (fun _ _ => ⟨rfl, e6, (by decide : 15 + 0 ≤ _), (by decide : 34 + 0 ≤ _)⟩)
  dsimp only [Pt.U, Pt.locs, Pt.cells, Pt.slots] at X7 l7 y7 z7 st7 hQ7
  subst l7 y7 z7
  obtain ⟨rfl, Nq7, Kp7, Fq7_0, Fq7_1, Fq7_2⟩ := hQ7
  have N7 := Fr.app N4 Nq7
  have f9 : Sta Z T7.heap "java/lang/String" "COMPACT_STRINGS" "Z" (.int s_CS) := (Sta_keep ((Sta_keep f5 Kp4 ns0).ext E6) Kp7 (nsS A6.nostat ns0))
  have f10 : Sta Z T7.heap "jdk/internal/util/Preconditions" "SIOOBE_FORMATTER" "Ljava/util/function/BiFunction;" wf := (Sta_keep ((Sta_keep (Sta_keep (Sta_keep S_SF Kp1 ns0) Kp2 ns0) Kp4 ns0).ext E6) Kp7 (nsS A6.nostat ns0))
  have f11 : Exa Z T7.heap nb_1 "java/lang/String" := ((((Fq1_0.keep Kp2).keep Kp4).ext E6).keep Kp7)
  have f12 : Fld Z T7.heap nb_1 "java/lang/String" "coder" "B" (.int (0 : Int32)) := ((((Fq1_2.keep Kp2 nin0).keep Kp4 nin0).ext E6).keep Kp7 (ninS (Nat.ne_of_lt (Nat.lt_of_lt_of_le ((Fq1_0.keep Kp2).keep Kp4).lt (Nat.le_of_eq g6.symm))) nin0))
  have f13 : Fld Z T7.heap nb_1 "java/lang/String" "value" "[B" (.ref vb_1) := ((((Fq1_1.keep Kp2 nin0).keep Kp4 nin0).ext E6).keep Kp7 (ninS (Nat.ne_of_lt (Nat.lt_of_lt_of_le ((Fq1_0.keep Kp2).keep Kp4).lt (Nat.le_of_eq g6.symm))) nin0))
  have f14 : Arv Z T7.heap vb_1 kb_1 .byte (jo &&& (3 : Int32)) (own_vs jo) (.int (0 : Int32)) := ((((Fq1_3.keep Kp2 nin0).keep Kp4 nin0).ext E6).keep Kp7 (ninS (Nat.ne_of_lt (Nat.lt_of_lt_of_le ((Fq1_3.keep Kp2 nin0).keep Kp4 nin0).lt (Nat.le_of_eq g6.symm))) nin0))
  have f15 : Exa Z T7.heap nb_2 "java/lang/String" := (((Fq2_0.keep Kp4).ext E6).keep Kp7)
  have f16 : Fld Z T7.heap nb_2 "java/lang/String" "coder" "B" (.int (0 : Int32)) := (((Fq2_2.keep Kp4 nin0).ext E6).keep Kp7 (ninS (Nat.ne_of_lt (Nat.lt_of_lt_of_le (Fq2_0.keep Kp4).lt (Nat.le_of_eq g6.symm))) nin0))
  have f17 : Fld Z T7.heap nb_2 "java/lang/String" "value" "[B" (.ref vb_2) := (((Fq2_1.keep Kp4 nin0).ext E6).keep Kp7 (ninS (Nat.ne_of_lt (Nat.lt_of_lt_of_le (Fq2_0.keep Kp4).lt (Nat.le_of_eq g6.symm))) nin0))
  have f18 : Arv Z T7.heap vb_2 kb_2 .byte ((jo ^^^ jd) &&& (3 : Int32)) (own_vs (jo ^^^ jd)) (.int (0 : Int32)) := (((Fq2_3.keep Kp4 nin0).ext E6).keep Kp7 (ninS (Nat.ne_of_lt (Nat.lt_of_lt_of_le (Fq2_3.keep Kp4 nin0).lt (Nat.le_of_eq g6.symm))) nin0))
  obtain ⟨_, _, ⟨T8, L8, k8, n8⟩, -, X8, ⟨Lc8, hQ8, l8, y8, z8⟩, st8⟩ := Jvm.LawKit.callS X7 hx (y := (⟨"com/example/wirewright/bench/RunPrintedPinLaw", "sameText", "(Ljava/lang/String;Ljava/lang/String;)Z"⟩ : MethodName)) hown2 (mvT hZ2 (ow hw 66 rfl)) (mvT hZ2 (ow hw 67 rfl)) (mvT hZ2 (ow hw 2 rfl)) (mvT hZ2 (ow hw 68 rfl)) (by decide) (backOf (W := 0) (rmST_f l Z a0 hw [] nb_1 nb_2 s_CS wf vb_1 vb_2 kb_1 kb_2 jo (jo ^^^ jd) T7.heap n0 (Nat.le_trans (Nat.le_trans (Nat.le_trans (Nat.le_trans (Nat.le_trans Z0 Kp1.1) Kp2.1) Kp4.1) E6.1) Kp7.1) f9 hcs f10 hwf f11 f12 f13 f14 f15 f16 f17 f18 hs) hZ2 (ow hw 68 rfl) (ow hw 2 rfl) (by decide) (by decide)) (g := (mkF m 62 #[.val (.int (0 : Int32)), .val (.int jo), .val (.int jd), .val (.long jp), .second, .val (.int jw), .val (.ref nb_1), .val (.ref nb_2), .val (.ref nb_4), .val (.double (FP.i2d (((jw.toUInt32 >>> ((8 : Int32) &&& 31).toUInt32).toInt32) &&& (65535 : Int32)))), .second, .val (.ref b6), .unset] [(.ref nb_2), (.ref nb_1)])) rfl (by rw [hml]; rfl) (argsL := [(.ref nb_1), (.ref nb_2)]) (rest := []) (lenOf pd_21 rfl) rfl (by show 2 * 0 + _ ≤ _; exact Nat.le_of_eq rfl) (hb hby at_62) (fun _ _ => ⟨rfl, rfl, (by decide : 15 + 0 ≤ _), (by decide : 34 + 0 ≤ _)⟩)
  dsimp only [Pt.U, Pt.locs, Pt.cells, Pt.slots] at X8 l8 y8 z8 st8 hQ8
  subst l8 y8 z8
  obtain ⟨rfl, Nq8, e8⟩ := hQ8
  have N8 := Fr.app N7 Nq8
  obtain ⟨cq19, kq19, q19a, q19b, q19c⟩ := isOf hZ2 e8 Fq7_0
  obtain ⟨_, _, ⟨T19, L19, k19, n19⟩, -, X19, ⟨Lc19, hQ19, l19, y19, z19⟩, st19⟩ := X8.virtualBack hx (y := (⟨"com/example/wirewright/bench/Run", "printed", "(Ljava/lang/String;)Z"⟩ : MethodName)) (z := (⟨"com/example/wirewright/bench/Run", "printed", "(Ljava/lang/String;)Z"⟩ : MethodName)) hown2 (mvT hZ2 (ow hw 79 rfl)) (mvT hZ2 (ow hw 80 rfl)) (notFace_of_selects (args := #[]) (mvT hZ2 (ow hw 82 rfl))) (mvT hZ2 (ow hw 82 rfl)) (mvT hZ2 (ow hw 81 rfl)) (by decide) (backOf (W := 0) (rmPR_f l Z a0 hw [] b6 nb_2 nb_1 s_CS jo (jo ^^^ jd) vb_1 kb_1 vb_2 kb_2 T7.heap n0 (Nat.le_trans (Nat.le_trans (Nat.le_trans (Nat.le_trans (Nat.le_trans Z0 Kp1.1) Kp2.1) Kp4.1) E6.1) Kp7.1) f9 hcs Fq7_1 Fq7_2 f11 f12 f13 f14 f15 f16 f17 f18 hs (Nat.ne_of_lt (Nat.lt_of_lt_of_le Fq1_0.lt gb2_0))) hZ2 (ow hw 83 rfl) (ow hw 51 rfl) (by decide) (by decide)) q19a q19c (g := (mkF m 79 #[.val (.int (0 : Int32)), .val (.int jo), .val (.int jd), .val (.long jp), .second, .val (.int jw), .val (.ref nb_1), .val (.ref nb_2), .val (.ref nb_4), .val (.double (FP.i2d (((jw.toUInt32 >>> ((8 : Int32) &&& 31).toUInt32).toInt32) &&& (65535 : Int32)))), .second, .val (.ref b6), .val (.int (0 : Int32))] [(.ref nb_2), (.ref b6)])) rfl (by rw [hml]; rfl) (Steps.refl _) (argsL := [(.ref nb_2)]) (rest := []) (lenOf pd_20 rfl) rfl (by show 2 * 0 + _ ≤ _; exact Nat.le_of_eq rfl) (hb hby at_79) (fun _ _ => ⟨rfl, e8, (by decide : 15 + 0 ≤ _), (by decide : 34 + 0 ≤ _)⟩)
  dsimp only [Pt.U, Pt.locs, Pt.cells, Pt.slots] at X19 l19 y19 z19 st19 hQ19
  subst l19 y19 z19
  obtain ⟨rfl, Nq19, e19⟩ := hQ19
  have N19 := Fr.app N8 Nq19
  obtain ⟨fs, hr, hrun, hended, hRW⟩ := X19.leaveW (s := s) hS2 (by rw [e19]; exact (Nat.le_trans (Nat.le_trans (Nat.le_trans (Nat.le_refl _) Kp4.1) E6.1) Kp7.1)) (v := some (.int (1 : Int32))) (fun h => by rw [Bd.returns] at h; cases h)
  refine ⟨_, _, pre0 _ ?_, hrun, hended, _, _, rfl, ?_, hRW.1, hRW.2.1, hRW.2.2.1, hRW.2.2.2.mono (by decide) (by decide)⟩
  · refine sh (mkF m 0 #[.val (.int (0 : Int32)), .val (.int jo), .val (.int jd), .val (.long jp), .second, .val (.int jw), .unset, .unset, .unset, .unset, .unset, .unset, .unset] []) ?_
    refine XS.iloadN X0.here hx rfl (hb hby at_0) rfl ?_
    refine sh (mkF m 1 #[.val (.int (0 : Int32)), .val (.int jo), .val (.int jd), .val (.long jp), .second, .val (.int jw), .unset, .unset, .unset, .unset, .unset, .unset, .unset] [(.int jo)]) ?_
    refine st1.trans ?_
    refine sh (mkF m 4 #[.val (.int (0 : Int32)), .val (.int jo), .val (.int jd), .val (.long jp), .second, .val (.int jw), .unset, .unset, .unset, .unset, .unset, .unset, .unset] [(.ref nb_1)]) ?_
    refine XS.astore X1.here hx rfl (hb hby at_4) rfl rfl (l' := #[.val (.int (0 : Int32)), .val (.int jo), .val (.int jd), .val (.long jp), .second, .val (.int jw), .val (.ref nb_1), .unset, .unset, .unset, .unset, .unset, .unset]) rfl ?_
    refine sh (mkF m 6 #[.val (.int (0 : Int32)), .val (.int jo), .val (.int jd), .val (.long jp), .second, .val (.int jw), .val (.ref nb_1), .unset, .unset, .unset, .unset, .unset, .unset] []) ?_
    refine XS.iloadN X1.here hx rfl (hb hby at_6) rfl ?_
    refine sh (mkF m 7 #[.val (.int (0 : Int32)), .val (.int jo), .val (.int jd), .val (.long jp), .second, .val (.int jw), .val (.ref nb_1), .unset, .unset, .unset, .unset, .unset, .unset] [(.int jo)]) ?_
    refine XS.iloadN X1.here hx rfl (hb hby at_7) rfl ?_
    refine sh (mkF m 8 #[.val (.int (0 : Int32)), .val (.int jo), .val (.int jd), .val (.long jp), .second, .val (.int jw), .val (.ref nb_1), .unset, .unset, .unset, .unset, .unset, .unset] [(.int jd), (.int jo)]) ?_
    refine XS.ixor X1.here hx rfl (hb hby at_8) rfl ?_
    refine sh (mkF m 9 #[.val (.int (0 : Int32)), .val (.int jo), .val (.int jd), .val (.long jp), .second, .val (.int jw), .val (.ref nb_1), .unset, .unset, .unset, .unset, .unset, .unset] [(.int (jo ^^^ jd))]) ?_
    refine st2.trans ?_
    refine sh (mkF m 12 #[.val (.int (0 : Int32)), .val (.int jo), .val (.int jd), .val (.long jp), .second, .val (.int jw), .val (.ref nb_1), .unset, .unset, .unset, .unset, .unset, .unset] [(.ref nb_2)]) ?_
    refine XS.astore X2.here hx rfl (hb hby at_12) rfl rfl (l' := #[.val (.int (0 : Int32)), .val (.int jo), .val (.int jd), .val (.long jp), .second, .val (.int jw), .val (.ref nb_1), .val (.ref nb_2), .unset, .unset, .unset, .unset, .unset]) rfl ?_
    refine sh (mkF m 14 #[.val (.int (0 : Int32)), .val (.int jo), .val (.int jd), .val (.long jp), .second, .val (.int jw), .val (.ref nb_1), .val (.ref nb_2), .unset, .unset, .unset, .unset, .unset] []) ?_
    refine XS.iload X2.here hx rfl (hb hby at_14) rfl ?_
    refine sh (mkF m 16 #[.val (.int (0 : Int32)), .val (.int jo), .val (.int jd), .val (.long jp), .second, .val (.int jw), .val (.ref nb_1), .val (.ref nb_2), .unset, .unset, .unset, .unset, .unset] [(.int jw)]) ?_
    refine XS.sipush X2.here hx rfl (hb hby at_16) ?_
    refine sh (mkF m 19 #[.val (.int (0 : Int32)), .val (.int jo), .val (.int jd), .val (.long jp), .second, .val (.int jw), .val (.ref nb_1), .val (.ref nb_2), .unset, .unset, .unset, .unset, .unset] [(.int (255 : Int32)), (.int jw)]) ?_
    refine XS.iand X2.here hx rfl (hb hby at_19) rfl ?_
    refine sh (mkF m 20 #[.val (.int (0 : Int32)), .val (.int jo), .val (.int jd), .val (.long jp), .second, .val (.int jw), .val (.ref nb_1), .val (.ref nb_2), .unset, .unset, .unset, .unset, .unset] [(.int (jw &&& (255 : Int32)))]) ?_
    refine XS.i2c X2.here hx rfl (hb hby at_20) rfl ?_
    refine sh (mkF m 21 #[.val (.int (0 : Int32)), .val (.int jo), .val (.int jd), .val (.long jp), .second, .val (.int jw), .val (.ref nb_1), .val (.ref nb_2), .unset, .unset, .unset, .unset, .unset] [(.int ((jw &&& (255 : Int32)).toUInt32.toUInt16.toUInt32.toInt32))]) ?_
    rw [i2c_mask _]
    refine sh (mkF m 21 #[.val (.int (0 : Int32)), .val (.int jo), .val (.int jd), .val (.long jp), .second, .val (.int jw), .val (.ref nb_1), .val (.ref nb_2), .unset, .unset, .unset, .unset, .unset] [(.int (jw &&& (255 : Int32)))]) ?_
    refine st4 _ ?_
    refine sh (mkF m 24 #[.val (.int (0 : Int32)), .val (.int jo), .val (.int jd), .val (.long jp), .second, .val (.int jw), .val (.ref nb_1), .val (.ref nb_2), .unset, .unset, .unset, .unset, .unset] [(.ref nb_4)]) ?_
    refine XS.astore X4.here hx rfl (hb hby at_24) rfl rfl (l' := #[.val (.int (0 : Int32)), .val (.int jo), .val (.int jd), .val (.long jp), .second, .val (.int jw), .val (.ref nb_1), .val (.ref nb_2), .val (.ref nb_4), .unset, .unset, .unset, .unset]) rfl ?_
    refine sh (mkF m 26 #[.val (.int (0 : Int32)), .val (.int jo), .val (.int jd), .val (.long jp), .second, .val (.int jw), .val (.ref nb_1), .val (.ref nb_2), .val (.ref nb_4), .unset, .unset, .unset, .unset] []) ?_
    refine XS.iload X4.here hx rfl (hb hby at_26) rfl ?_
    refine sh (mkF m 28 #[.val (.int (0 : Int32)), .val (.int jo), .val (.int jd), .val (.long jp), .second, .val (.int jw), .val (.ref nb_1), .val (.ref nb_2), .val (.ref nb_4), .unset, .unset, .unset, .unset] [(.int jw)]) ?_
    refine XS.bipush X4.here hx rfl (hb hby at_28) ?_
    refine sh (mkF m 30 #[.val (.int (0 : Int32)), .val (.int jo), .val (.int jd), .val (.long jp), .second, .val (.int jw), .val (.ref nb_1), .val (.ref nb_2), .val (.ref nb_4), .unset, .unset, .unset, .unset] [(.int (8 : Int32)), (.int jw)]) ?_
    refine XS.iushr X4.here hx rfl (hb hby at_30) rfl ?_
    refine sh (mkF m 31 #[.val (.int (0 : Int32)), .val (.int jo), .val (.int jd), .val (.long jp), .second, .val (.int jw), .val (.ref nb_1), .val (.ref nb_2), .val (.ref nb_4), .unset, .unset, .unset, .unset] [(.int ((jw.toUInt32 >>> ((8 : Int32) &&& 31).toUInt32).toInt32))]) ?_
    refine X4.ldcInt hx hown2 (mvT hZ2 (ow hw 48 rfl)) (g := (mkF m 31 #[.val (.int (0 : Int32)), .val (.int jo), .val (.int jd), .val (.long jp), .second, .val (.int jw), .val (.ref nb_1), .val (.ref nb_2), .val (.ref nb_4), .unset, .unset, .unset, .unset] [(.int ((jw.toUInt32 >>> ((8 : Int32) &&& 31).toUInt32).toInt32))])) rfl (hb hby at_31) _ ?_
    refine sh (mkF m 33 #[.val (.int (0 : Int32)), .val (.int jo), .val (.int jd), .val (.long jp), .second, .val (.int jw), .val (.ref nb_1), .val (.ref nb_2), .val (.ref nb_4), .unset, .unset, .unset, .unset] [(.int (65535 : Int32)), (.int ((jw.toUInt32 >>> ((8 : Int32) &&& 31).toUInt32).toInt32))]) ?_
    refine XS.iand X4.here hx rfl (hb hby at_33) rfl ?_
    refine sh (mkF m 34 #[.val (.int (0 : Int32)), .val (.int jo), .val (.int jd), .val (.long jp), .second, .val (.int jw), .val (.ref nb_1), .val (.ref nb_2), .val (.ref nb_4), .unset, .unset, .unset, .unset] [(.int (((jw.toUInt32 >>> ((8 : Int32) &&& 31).toUInt32).toInt32) &&& (65535 : Int32)))]) ?_
    refine XS.i2dS X4.here hx rfl (hb hby at_34) rfl rfl ?_
    refine sh (mkF m 35 #[.val (.int (0 : Int32)), .val (.int jo), .val (.int jd), .val (.long jp), .second, .val (.int jw), .val (.ref nb_1), .val (.ref nb_2), .val (.ref nb_4), .unset, .unset, .unset, .unset] [(.double (FP.i2d (((jw.toUInt32 >>> ((8 : Int32) &&& 31).toUInt32).toInt32) &&& (65535 : Int32))))]) ?_
    refine XS.dstore X4.here hx rfl (hb hby at_35) rfl (l' := #[.val (.int (0 : Int32)), .val (.int jo), .val (.int jd), .val (.long jp), .second, .val (.int jw), .val (.ref nb_1), .val (.ref nb_2), .val (.ref nb_4), .val (.double (FP.i2d (((jw.toUInt32 >>> ((8 : Int32) &&& 31).toUInt32).toInt32) &&& (65535 : Int32)))), .second, .unset, .unset]) rfl ?_
    refine sh (mkF m 37 #[.val (.int (0 : Int32)), .val (.int jo), .val (.int jd), .val (.long jp), .second, .val (.int jw), .val (.ref nb_1), .val (.ref nb_2), .val (.ref nb_4), .val (.double (FP.i2d (((jw.toUInt32 >>> ((8 : Int32) &&& 31).toUInt32).toInt32) &&& (65535 : Int32)))), .second, .unset, .unset] []) ?_
    refine st6 _ ?_
    refine sh (mkF m 40 #[.val (.int (0 : Int32)), .val (.int jo), .val (.int jd), .val (.long jp), .second, .val (.int jw), .val (.ref nb_1), .val (.ref nb_2), .val (.ref nb_4), .val (.double (FP.i2d (((jw.toUInt32 >>> ((8 : Int32) &&& 31).toUInt32).toInt32) &&& (65535 : Int32)))), .second, .unset, .unset] [(.ref b6)]) ?_
    refine XS.dup X6.here hx rfl (hb hby at_40) rfl rfl ?_
    refine sh (mkF m 41 #[.val (.int (0 : Int32)), .val (.int jo), .val (.int jd), .val (.long jp), .second, .val (.int jw), .val (.ref nb_1), .val (.ref nb_2), .val (.ref nb_4), .val (.double (FP.i2d (((jw.toUInt32 >>> ((8 : Int32) &&& 31).toUInt32).toInt32) &&& (65535 : Int32)))), .second, .unset, .unset] [(.ref b6), (.ref b6)]) ?_
    refine XS.dload X6.here hx rfl (hb hby at_41) rfl ?_
    refine sh (mkF m 43 #[.val (.int (0 : Int32)), .val (.int jo), .val (.int jd), .val (.long jp), .second, .val (.int jw), .val (.ref nb_1), .val (.ref nb_2), .val (.ref nb_4), .val (.double (FP.i2d (((jw.toUInt32 >>> ((8 : Int32) &&& 31).toUInt32).toInt32) &&& (65535 : Int32)))), .second, .unset, .unset] [(.double (FP.i2d (((jw.toUInt32 >>> ((8 : Int32) &&& 31).toUInt32).toInt32) &&& (65535 : Int32)))), (.ref b6), (.ref b6)]) ?_
    refine XS.lloadN X6.here hx rfl (hb hby at_43) rfl ?_
    refine sh (mkF m 44 #[.val (.int (0 : Int32)), .val (.int jo), .val (.int jd), .val (.long jp), .second, .val (.int jw), .val (.ref nb_1), .val (.ref nb_2), .val (.ref nb_4), .val (.double (FP.i2d (((jw.toUInt32 >>> ((8 : Int32) &&& 31).toUInt32).toInt32) &&& (65535 : Int32)))), .second, .unset, .unset] [(.long jp), (.double (FP.i2d (((jw.toUInt32 >>> ((8 : Int32) &&& 31).toUInt32).toInt32) &&& (65535 : Int32)))), (.ref b6), (.ref b6)]) ?_
    refine XS.iloadN X6.here hx rfl (hb hby at_44) rfl ?_
    refine sh (mkF m 45 #[.val (.int (0 : Int32)), .val (.int jo), .val (.int jd), .val (.long jp), .second, .val (.int jw), .val (.ref nb_1), .val (.ref nb_2), .val (.ref nb_4), .val (.double (FP.i2d (((jw.toUInt32 >>> ((8 : Int32) &&& 31).toUInt32).toInt32) &&& (65535 : Int32)))), .second, .unset, .unset] [(.int (0 : Int32)), (.long jp), (.double (FP.i2d (((jw.toUInt32 >>> ((8 : Int32) &&& 31).toUInt32).toInt32) &&& (65535 : Int32)))), (.ref b6), (.ref b6)]) ?_
    refine XS.aload X6.here hx rfl (hb hby at_45) rfl rfl ?_
    refine sh (mkF m 47 #[.val (.int (0 : Int32)), .val (.int jo), .val (.int jd), .val (.long jp), .second, .val (.int jw), .val (.ref nb_1), .val (.ref nb_2), .val (.ref nb_4), .val (.double (FP.i2d (((jw.toUInt32 >>> ((8 : Int32) &&& 31).toUInt32).toInt32) &&& (65535 : Int32)))), .second, .unset, .unset] [(.ref nb_1), (.int (0 : Int32)), (.long jp), (.double (FP.i2d (((jw.toUInt32 >>> ((8 : Int32) &&& 31).toUInt32).toInt32) &&& (65535 : Int32)))), (.ref b6), (.ref b6)]) ?_
    refine XS.aload X6.here hx rfl (hb hby at_47) rfl rfl ?_
    refine sh (mkF m 49 #[.val (.int (0 : Int32)), .val (.int jo), .val (.int jd), .val (.long jp), .second, .val (.int jw), .val (.ref nb_1), .val (.ref nb_2), .val (.ref nb_4), .val (.double (FP.i2d (((jw.toUInt32 >>> ((8 : Int32) &&& 31).toUInt32).toInt32) &&& (65535 : Int32)))), .second, .unset, .unset] [(.ref nb_4), (.ref nb_1), (.int (0 : Int32)), (.long jp), (.double (FP.i2d (((jw.toUInt32 >>> ((8 : Int32) &&& 31).toUInt32).toInt32) &&& (65535 : Int32)))), (.ref b6), (.ref b6)]) ?_
    refine st7.trans ?_
    refine sh (mkF m 52 #[.val (.int (0 : Int32)), .val (.int jo), .val (.int jd), .val (.long jp), .second, .val (.int jw), .val (.ref nb_1), .val (.ref nb_2), .val (.ref nb_4), .val (.double (FP.i2d (((jw.toUInt32 >>> ((8 : Int32) &&& 31).toUInt32).toInt32) &&& (65535 : Int32)))), .second, .unset, .unset] [(.ref b6)]) ?_
    refine XS.astore X7.here hx rfl (hb hby at_52) rfl rfl (l' := #[.val (.int (0 : Int32)), .val (.int jo), .val (.int jd), .val (.long jp), .second, .val (.int jw), .val (.ref nb_1), .val (.ref nb_2), .val (.ref nb_4), .val (.double (FP.i2d (((jw.toUInt32 >>> ((8 : Int32) &&& 31).toUInt32).toInt32) &&& (65535 : Int32)))), .second, .val (.ref b6), .unset]) rfl ?_
    refine sh (mkF m 54 #[.val (.int (0 : Int32)), .val (.int jo), .val (.int jd), .val (.long jp), .second, .val (.int jw), .val (.ref nb_1), .val (.ref nb_2), .val (.ref nb_4), .val (.double (FP.i2d (((jw.toUInt32 >>> ((8 : Int32) &&& 31).toUInt32).toInt32) &&& (65535 : Int32)))), .second, .val (.ref b6), .unset] []) ?_
    refine XS.iloadN X7.here hx rfl (hb hby at_54) rfl ?_
    refine sh (mkF m 55 #[.val (.int (0 : Int32)), .val (.int jo), .val (.int jd), .val (.long jp), .second, .val (.int jw), .val (.ref nb_1), .val (.ref nb_2), .val (.ref nb_4), .val (.double (FP.i2d (((jw.toUInt32 >>> ((8 : Int32) &&& 31).toUInt32).toInt32) &&& (65535 : Int32)))), .second, .val (.ref b6), .unset] [(.int (0 : Int32))]) ?_
    refine XS.ifNo X7.here hx rfl (hb hby at_55) rfl ((if0 _ _).trans (teq (rfl : (0 : Int32) = (0 : Int32))).2) ?_
    refine sh (mkF m 58 #[.val (.int (0 : Int32)), .val (.int jo), .val (.int jd), .val (.long jp), .second, .val (.int jw), .val (.ref nb_1), .val (.ref nb_2), .val (.ref nb_4), .val (.double (FP.i2d (((jw.toUInt32 >>> ((8 : Int32) &&& 31).toUInt32).toInt32) &&& (65535 : Int32)))), .second, .val (.ref b6), .unset] []) ?_
    refine XS.aload X7.here hx rfl (hb hby at_58) rfl rfl ?_
    refine sh (mkF m 60 #[.val (.int (0 : Int32)), .val (.int jo), .val (.int jd), .val (.long jp), .second, .val (.int jw), .val (.ref nb_1), .val (.ref nb_2), .val (.ref nb_4), .val (.double (FP.i2d (((jw.toUInt32 >>> ((8 : Int32) &&& 31).toUInt32).toInt32) &&& (65535 : Int32)))), .second, .val (.ref b6), .unset] [(.ref nb_1)]) ?_
    refine XS.aload X7.here hx rfl (hb hby at_60) rfl rfl ?_
    refine sh (mkF m 62 #[.val (.int (0 : Int32)), .val (.int jo), .val (.int jd), .val (.long jp), .second, .val (.int jw), .val (.ref nb_1), .val (.ref nb_2), .val (.ref nb_4), .val (.double (FP.i2d (((jw.toUInt32 >>> ((8 : Int32) &&& 31).toUInt32).toInt32) &&& (65535 : Int32)))), .second, .val (.ref b6), .unset] [(.ref nb_2), (.ref nb_1)]) ?_
    refine st8 _ ?_
    refine sh (mkF m 65 #[.val (.int (0 : Int32)), .val (.int jo), .val (.int jd), .val (.long jp), .second, .val (.int jw), .val (.ref nb_1), .val (.ref nb_2), .val (.ref nb_4), .val (.double (FP.i2d (((jw.toUInt32 >>> ((8 : Int32) &&& 31).toUInt32).toInt32) &&& (65535 : Int32)))), .second, .val (.ref b6), .unset] [(.int (0 : Int32))]) ?_
    refine XS.ifYes X8.here hx rfl (pc0 := 65) (pc' := 72) rfl (hb hby at_65) rfl ((if0 _ _).trans (teq (rfl : (0 : Int32) = (0 : Int32))).1) (by decide) (by decide) ?_
    refine sh (mkF m 72 #[.val (.int (0 : Int32)), .val (.int jo), .val (.int jd), .val (.long jp), .second, .val (.int jw), .val (.ref nb_1), .val (.ref nb_2), .val (.ref nb_4), .val (.double (FP.i2d (((jw.toUInt32 >>> ((8 : Int32) &&& 31).toUInt32).toInt32) &&& (65535 : Int32)))), .second, .val (.ref b6), .unset] []) ?_
    refine XS.iconst X8.here hx rfl (hb hby at_72) ?_
    refine sh (mkF m 73 #[.val (.int (0 : Int32)), .val (.int jo), .val (.int jd), .val (.long jp), .second, .val (.int jw), .val (.ref nb_1), .val (.ref nb_2), .val (.ref nb_4), .val (.double (FP.i2d (((jw.toUInt32 >>> ((8 : Int32) &&& 31).toUInt32).toInt32) &&& (65535 : Int32)))), .second, .val (.ref b6), .unset] [(.int (0 : Int32))]) ?_
    refine XS.istore X8.here hx rfl (hb hby at_73) rfl (l' := #[.val (.int (0 : Int32)), .val (.int jo), .val (.int jd), .val (.long jp), .second, .val (.int jw), .val (.ref nb_1), .val (.ref nb_2), .val (.ref nb_4), .val (.double (FP.i2d (((jw.toUInt32 >>> ((8 : Int32) &&& 31).toUInt32).toInt32) &&& (65535 : Int32)))), .second, .val (.ref b6), .val (.int (0 : Int32))]) rfl ?_
    refine sh (mkF m 75 #[.val (.int (0 : Int32)), .val (.int jo), .val (.int jd), .val (.long jp), .second, .val (.int jw), .val (.ref nb_1), .val (.ref nb_2), .val (.ref nb_4), .val (.double (FP.i2d (((jw.toUInt32 >>> ((8 : Int32) &&& 31).toUInt32).toInt32) &&& (65535 : Int32)))), .second, .val (.ref b6), .val (.int (0 : Int32))] []) ?_
    refine XS.aload X8.here hx rfl (hb hby at_75) rfl rfl ?_
    refine sh (mkF m 77 #[.val (.int (0 : Int32)), .val (.int jo), .val (.int jd), .val (.long jp), .second, .val (.int jw), .val (.ref nb_1), .val (.ref nb_2), .val (.ref nb_4), .val (.double (FP.i2d (((jw.toUInt32 >>> ((8 : Int32) &&& 31).toUInt32).toInt32) &&& (65535 : Int32)))), .second, .val (.ref b6), .val (.int (0 : Int32))] [(.ref b6)]) ?_
    refine XS.aload X8.here hx rfl (hb hby at_77) rfl rfl ?_
    refine sh (mkF m 79 #[.val (.int (0 : Int32)), .val (.int jo), .val (.int jd), .val (.long jp), .second, .val (.int jw), .val (.ref nb_1), .val (.ref nb_2), .val (.ref nb_4), .val (.double (FP.i2d (((jw.toUInt32 >>> ((8 : Int32) &&& 31).toUInt32).toInt32) &&& (65535 : Int32)))), .second, .val (.ref b6), .val (.int (0 : Int32))] [(.ref nb_2), (.ref b6)]) ?_
    refine st19.trans ?_
    refine sh (mkF m 82 #[.val (.int (0 : Int32)), .val (.int jo), .val (.int jd), .val (.long jp), .second, .val (.int jw), .val (.ref nb_1), .val (.ref nb_2), .val (.ref nb_4), .val (.double (FP.i2d (((jw.toUInt32 >>> ((8 : Int32) &&& 31).toUInt32).toInt32) &&& (65535 : Int32)))), .second, .val (.ref b6), .val (.int (0 : Int32))] [(.int (0 : Int32))]) ?_
    refine XS.iload X19.here hx rfl (hb hby at_82) rfl ?_
    refine sh (mkF m 84 #[.val (.int (0 : Int32)), .val (.int jo), .val (.int jd), .val (.long jp), .second, .val (.int jw), .val (.ref nb_1), .val (.ref nb_2), .val (.ref nb_4), .val (.double (FP.i2d (((jw.toUInt32 >>> ((8 : Int32) &&& 31).toUInt32).toInt32) &&& (65535 : Int32)))), .second, .val (.ref b6), .val (.int (0 : Int32))] [(.int (0 : Int32)), (.int (0 : Int32))]) ?_
    refine XS.icmpNo X19.here hx rfl (hb hby at_84) rfl (teq (rfl : (0 : Int32) = (0 : Int32))).2 ?_
    refine sh (mkF m 87 #[.val (.int (0 : Int32)), .val (.int jo), .val (.int jd), .val (.long jp), .second, .val (.int jw), .val (.ref nb_1), .val (.ref nb_2), .val (.ref nb_4), .val (.double (FP.i2d (((jw.toUInt32 >>> ((8 : Int32) &&& 31).toUInt32).toInt32) &&& (65535 : Int32)))), .second, .val (.ref b6), .val (.int (0 : Int32))] []) ?_
    refine XS.iconst X19.here hx rfl (hb hby at_87) ?_
    refine sh (mkF m 88 #[.val (.int (0 : Int32)), .val (.int jo), .val (.int jd), .val (.long jp), .second, .val (.int jw), .val (.ref nb_1), .val (.ref nb_2), .val (.ref nb_4), .val (.double (FP.i2d (((jw.toUInt32 >>> ((8 : Int32) &&& 31).toUInt32).toInt32) &&& (65535 : Int32)))), .second, .val (.ref b6), .val (.int (0 : Int32))] [(.int (1 : Int32))]) ?_
    refine XS.goto X19.here hx rfl (pc0 := 88) (pc' := 92) rfl (hb hby at_88) (by decide) (by decide) ?_
    refine sh (mkF m 92 #[.val (.int (0 : Int32)), .val (.int jo), .val (.int jd), .val (.long jp), .second, .val (.int jw), .val (.ref nb_1), .val (.ref nb_2), .val (.ref nb_4), .val (.double (FP.i2d (((jw.toUInt32 >>> ((8 : Int32) &&& 31).toUInt32).toInt32) &&& (65535 : Int32)))), .second, .val (.ref b6), .val (.int (0 : Int32))] [(.int (1 : Int32))]) ?_
    exact retN X19 hx (t := .boolean) Bd.returns (by simp) (hb hby at_92) hr
  · show Q_rm0_f Z jo jd jp jw s_CS wf h0 n0 _ T19.heap _
    rw [e19]
    exact ⟨rfl, N19⟩
set_option maxRecDepth 65536 in
set_option maxHeartbeats 40000000 in
theorem rm0 (l : Launch) (Z : State) (a0 : Array Value) (hw : ∀ d ∈ tables_1, d.before a0 Z = true) (ws : List Jvm.Cond) (jx jo jd : Int32) (jp : Int64) (jw : Int32) (s_CS : Int32) (wf : Value) (h0 : Heap) (n0 : Nat) (Z0 : n0 ≤ h0.size) (hwS : ∀ a ∈ Bundle.stringAtoms, a.before a0 Z = true) (S_CS : Sta Z h0 "java/lang/String" "COMPACT_STRINGS" "Z" (.int s_CS)) (hcs : ¬ (s_CS = (0 : Int32))) (S_SF : Sta Z h0 "jdk/internal/util/Preconditions" "SIOOBE_FORMATTER" "Ljava/util/function/BiFunction;" wf) (hwf : wf.isRef = true) :
    MetFree l x (head1 (Jvm.Cond.code x code maxLocals ret :: ws) room_1) (fun a U => a = #[(.int jx), (.int jo), (.int jd), (.long jp), (.int jw)] ∧ Z.Warmed39 U.vm ∧ U.heap = h0 ∧ CHv Z own_EL U.vm h0) (fun _ _ _ _ _ => True) (fun _ U o U' => ∃ v L, o = .returned v ∧ (v = some (.int (1 : Int32)) ∧ Fr n0 L) ∧ ReturnedEndW U o U' L room_1.cells room_1.slots) := by
  by_cases hxx : jx = (0 : Int32)
  · subst hxx
    by_cases hs : own_vs jo = own_vs (jo ^^^ jd)
    · exact rm0_t l Z a0 hw ws jo jd jp jw s_CS wf h0 n0 Z0 hwS S_CS hcs S_SF hwf hs
    · exact rm0_f l Z a0 hw ws jo jd jp jw s_CS wf h0 n0 Z0 hwS S_CS hcs S_SF hwf hs
  · exact rm0_x l Z a0 hw ws jx jo jd jp jw s_CS wf h0 n0 Z0 hwS S_CS hcs S_SF hwf hxx
set_option maxRecDepth 65536 in
set_option maxHeartbeats 40000000 in
theorem comes_1 {Post : Tables → Env → Array Value → State → Outcome → State → Prop} (hpost : ∀ tb e args s v u, (limb_1_1.after args s (.returned v) u = true ∧ limb_1_2.after args s (.returned v) u = true ∧ True) → ReturnedEndW s (.returned v) u (Jvm.fieldLocs frame_1_writes args s ++ Jvm.arrayLocs frame_1_arrays args s ++ Jvm.staticLocs frame_1_statics s) 32 1152 → Post tb e args s (.returned v) u) :
    ArmFor flags0 classFile x code maxLocals ret World_1 tables_1 room_1 Calls_1 rest_1 Pre_1 Post := by
  intro l hfl _ _ p e ha hc hk s m args below hf hA hF happ hP
  obtain ⟨hcalls, hrest, hpre⟩ := hP
  obtain ⟨-, -, -, hnamed, -, -, -, hat⟩ := (Spec.applies_iff hf).mp happ
  obtain ⟨hg, hn⟩ := and_e (Cond.before_iff.mp (show (Jvm.Cond.and given_1 narrow_1).before args s = true from hpre))
  obtain ⟨hc0, hr0⟩ := and_e hg
  obtain ⟨hv0, hr1⟩ := and_e hr0
  obtain ⟨hv1, hr2⟩ := and_e hr1
  obtain ⟨hv2, hr3⟩ := and_e hr2
  obtain ⟨hv3, hr4⟩ := and_e hr3
  have hv4 := hr4
  obtain ⟨w0, w1, w2, w3, w4, rfl⟩ : ∃ w0 w1 w2 w3 w4 : Value, args = #[w0, w1, w2, w3, w4] := by
    have hs : args.size = 5 := by simpa [Cond.value, given_1] using hc0
    obtain ⟨L⟩ := args
    match L, hs with
    | [w0, w1, w2, w3, w4], _ => exact ⟨w0, w1, w2, w3, w4, rfl⟩
  have hw := fun d (hd : d ∈ tables_1) => atoms_spec (ws := Jvm.Cond.code x code maxLocals ret :: tables_1) hat d (List.mem_cons_of_mem _ hd)
  have hfit : Fit s := fun {y c} hc i hi => by
    obtain ⟨ha, rfl⟩ := Array.getElem?_eq_some_iff.mp hc
    have q := List.all_eq_true.mp ((Array.all_eq_true_iff_forall_mem.mp hF) _ (Array.getElem_mem ha)) i (List.mem_range.mpr hi)
    simpa [Array.getElem?_eq_getElem hi] using q
  obtain ⟨hsets, hown0⟩ := atoms_of _ (rest_1_c_eq ▸ (show rest_1_c.before _ s = true from hrest))
  have n9 := not_v (Cond.before_iff.mp (hsets _ (List.mem_of_getElem? (i := 2) rfl)))
  obtain ⟨i9, e9⟩ := is_v (Cond.before_iff.mp (hsets _ (List.mem_of_getElem? (i := 1) rfl)))
  have S0 : Sta s s.heap "java/lang/String" "COMPACT_STRINGS" "Z" (.int i9) := Sta.start e9 (Or.inl (hsets _ (List.mem_of_getElem? (i := 0) rfl)))
  have c9 : ¬ (i9 = (0 : Int32)) := gotF (Cond.eq_ints e9 (Term.int_eval (0))) n9
  obtain ⟨wf, ewf, hwf⟩ := isR_v (Cond.before_iff.mp (hsets _ (List.mem_of_getElem? (i := 8) rfl)))
  have S_SF := Sta.start ewf (Or.inl (hsets _ (List.mem_of_getElem? (i := 7) rfl)))
  have hCH : CHv s own_EL s.vm s.heap := CHv.start (own_EW hw) (fun p hp => hcalls.1 p hp) (hsets _ (List.mem_of_getElem? (i := 2) rfl)) (ow hw 23 rfl) (ow hw 5 rfl)
  obtain ⟨i0, ei0⟩ := is_v hv0
  obtain rfl : w0 = (.int i0) := Option.some.inj ei0
  obtain ⟨i1, ei1⟩ := is_v hv1
  obtain rfl : w1 = (.int i1) := Option.some.inj ei1
  obtain ⟨i2, ei2⟩ := is_v hv2
  obtain rfl : w2 = (.int i2) := Option.some.inj ei2
  obtain ⟨i3, ei3⟩ := isL_v hv3
  obtain rfl : w3 = (.long i3) := Option.some.inj ei3
  obtain ⟨i4, ei4⟩ := is_v hv4
  obtain rfl : w4 = (.int i4) := Option.some.inj ei4
  obtain ⟨n, o, h1, h2, h3, _, L, rfl, ⟨rfl, N⟩, hq⟩ := rm0 l s _ hw tables_1 i0 i1 i2 i3 i4 i9 wf s.heap s.heap.size (Nat.le_refl _) (own_hwS hw) S0 c9 S_SF hwf p e ha hc hk s m _ below hf ((Spec.applies_iff_loose hf).mp happ).1 ⟨rfl, State.Warmed39.refl s, rfl, hCH⟩ trivial
  refine ⟨n, _, h1, h2, h3, hpost _ _ _ _ _ _ ⟨Cond.after_iff.mpr rfl, Cond.after_iff.mpr (eq_i res_at (Term.int_eval (1)) rfl), trivial⟩ ⟨hq.1, hq.2.1, hq.2.2.1, (hq.2.2.2.sift fun y hy => Or.inr (N y hy)).mono (by decide) (by decide)⟩⟩
theorem main_1_1 : Claimed_1_1 := comes_1 fun _ _ _ _ _ _ h hF => ⟨h.1, hF⟩
theorem main_1_2 : Claimed_1_2 := comes_1 fun _ _ _ _ _ _ h hF => ⟨h.2.1, hF⟩
end Jvm.Pilot.@@N@@
namespace Jvm.Pilot.@@N@@
open Jvm Jvm.ClassFile Sem Op Lib Jvm.Free Jvm.Stand Jvm.Pilot.@@N@@.Jvm.D
/-! MADE BY PROGRAM (witnessworld.py) out of the Statement's table words and the real class files: 20 classes; the members and pool entries that the words name. The judged class is class 1, her method 3. -/
namespace start1
open Jvm.ClassFile
def u (s : String) : CpInfo := .utf8 (stringToUtf16 s)
/-- a pool by its gaps: so many unusable entries, then the entry; so many at the end -/
def gap : Nat → List CpInfo → List CpInfo
  | 0, r => r
  | n + 1, r => .unusable :: gap n r
def poolList (es : List (Nat × CpInfo)) (last : Nat) : List CpInfo := es.foldr (fun e r => gap e.1 (e.2 :: r)) (gap last [])
def pool (es : List (Nat × CpInfo)) (last : Nat) : Array CpInfo := ⟨poolList es last⟩
def fileOf (pool : Array CpInfo) (this : Nat) (attrs : Array Attribute := #[]) (ms : Array MethodInfo := #[]) (fl : Nat := 33) (sup : Nat := 0) (ifs : Array Nat := #[]) (fds : Array FieldInfo := #[]) : ClassFile where
  minorVersion := 0
  majorVersion := 65
  constantPool := pool
  accessFlags := fl
  thisClass := this
  superClass := sup
  interfaces := ifs
  fields := fds
  methods := ms
  attributes := attrs
def plain (name : String) (sup : Option ClassId) : Class where
  name := name
  kind := .ordinary
  loader := none
  accessFlags := 33
  super := sup
  interfaces := #[]
  cf := none
  fields := #[]
  methods := #[]
  instanceTypes := #[]
  staticTypes := #[]
  resolved := #[]
  callSites := []
  init := .initialized
  statics := none
  mirror := none

def pool0 : Array CpInfo := pool [(5, u "<init>"), (0, u "()V"), (1, .class_ 10), (1, u "java/lang/Object")] 113

def k0c0 : Code := { maxStack := 0, maxLocals := 1, code := object_method_1_code, exceptionTable := #[], attributes := #[] }
def k0m0 : Method := { name := "<init>", desc := "()V", sig := { parameters := [], returnType := none }, accessFlags := 1, code := some k0c0 }
/-- java/lang/Object -/
def k0 : Class := { plain "java/lang/Object" none with
  accessFlags := 33
  interfaces := #[]
  cf := some (fileOf pool0 8 #[] #[{ accessFlags := 1, nameIndex := 5, descriptorIndex := 6, attributes := #[] }] 33 0 #[] #[])
  fields := #[]
  methods := #[k0m0]
  instanceTypes := #[]
  staticTypes := #[]
  resolved := Array.replicate 124 none
  statics := none }

def pool1 : Array CpInfo := pool [(2, .class_ 4), (1, u "java/lang/Object"), (0, u "<init>"), (0, u "()V"), (0, .class_ 8), (0, u "java/lang/String"), (0, .methodref 7 10), (0, .nameAndType 5 11), (0, u "([C)V"), (0, .methodref 7 13), (0, .nameAndType 14 15), (0, u "length"), (0, u "()I"), (0, .methodref 7 17), (0, .nameAndType 18 19), (0, u "charAt"), (0, u "(I)C"), (0, .methodref 21 22), (0, .class_ 23), (0, .nameAndType 24 25), (0, u "com/example/wirewright/bench/RunPrintedPinLaw"), (0, u "text"), (0, u "(I)Ljava/lang/String;"), (0, .methodref 7 27), (0, .nameAndType 28 29), (0, u "valueOf"), (0, u "(C)Ljava/lang/String;"), (0, .integer 65535), (0, .class_ 32), (0, u "com/example/wirewright/bench/Run"), (0, .methodref 31 34), (0, .nameAndType 5 35), (0, u "(DJILjava/lang/String;Ljava/lang/String;)V"), (0, .methodref 21 37), (0, .nameAndType 38 39), (0, u "sameText"), (0, u "(Ljava/lang/String;Ljava/lang/String;)Z"), (0, .methodref 31 41), (0, .nameAndType 42 43), (0, u "printed"), (0, u "(Ljava/lang/String;)Z"), (3, u "law"), (0, u "(IIIJI)Z")] 2

def k1m0 : Method := { name := "<init>", desc := "()V", sig := { parameters := [], returnType := none }, accessFlags := 1, code := none }
def k1c1 : Code := { maxStack := 6, maxLocals := 5, code := method_2_code, exceptionTable := #[], attributes := #[] }
def k1m1 : Method := { name := "text", desc := "(I)Ljava/lang/String;", sig := { parameters := [.int], returnType := some (.object "java/lang/String") }, accessFlags := 10, code := some k1c1 }
def k1c2 : Code := { maxStack := 3, maxLocals := 4, code := method_3_code, exceptionTable := #[], attributes := #[] }
def k1m2 : Method := { name := "sameText", desc := "(Ljava/lang/String;Ljava/lang/String;)Z", sig := { parameters := [(.object "java/lang/String"), (.object "java/lang/String")], returnType := some .boolean }, accessFlags := 10, code := some k1c2 }
def k1c3 : Code := { maxStack := 9, maxLocals := 13, code := code, exceptionTable := #[], attributes := #[] }
def k1m3 : Method := { name := "law", desc := "(IIIJI)Z", sig := { parameters := [.int, .int, .int, .long, .int], returnType := some .boolean }, accessFlags := 9, code := some k1c3 }
/-- com/example/wirewright/bench/RunPrintedPinLaw -/
def k1 : Class := { plain "com/example/wirewright/bench/RunPrintedPinLaw" (some 0) with
  accessFlags := 49
  interfaces := #[]
  cf := some (fileOf pool1 21 #[] #[{ accessFlags := 1, nameIndex := 5, descriptorIndex := 6, attributes := #[] }, { accessFlags := 10, nameIndex := 24, descriptorIndex := 25, attributes := #[] }, { accessFlags := 10, nameIndex := 38, descriptorIndex := 39, attributes := #[] }, { accessFlags := 9, nameIndex := 47, descriptorIndex := 48, attributes := #[] }] 49 2 #[] #[])
  fields := #[]
  methods := #[k1m0, k1m1, k1m2, k1m3]
  instanceTypes := #[]
  staticTypes := #[]
  resolved := Array.replicate 51 none
  statics := none }

def pool2 : Array CpInfo := pool [(1, .class_ 2), (0, u "java/io/Serializable"), (0, .class_ 4), (0, u "java/lang/Object")] 2

/-- java/io/Serializable -/
def k2 : Class := { plain "java/io/Serializable" (some 0) with
  accessFlags := 1537
  interfaces := #[]
  cf := some (fileOf pool2 1 #[] #[] 1537 3 #[] #[])
  fields := #[]
  methods := #[]
  instanceTypes := #[]
  staticTypes := #[]
  resolved := Array.replicate 7 none
  statics := none }

def pool3 : Array CpInfo := pool [(1, .class_ 2), (0, u "java/lang/Comparable"), (0, .class_ 4), (0, u "java/lang/Object")] 7

/-- java/lang/Comparable -/
def k3 : Class := { plain "java/lang/Comparable" (some 0) with
  accessFlags := 1537
  interfaces := #[]
  cf := some (fileOf pool3 1 #[] #[] 1537 3 #[] #[])
  fields := #[]
  methods := #[]
  instanceTypes := #[]
  staticTypes := #[]
  resolved := Array.replicate 12 none
  statics := none }

def pool4 : Array CpInfo := pool [(2, .class_ 4), (1, u "java/lang/CharSequence"), (42, .class_ 48), (0, u "java/lang/CharSequence$1CodePointIterator"), (10, .class_ 60), (0, u "java/lang/CharSequence$1CharIterator"), (5, .class_ 67), (0, u "java/lang/Object")] 63

/-- java/lang/CharSequence -/
def k4 : Class := { plain "java/lang/CharSequence" (some 0) with
  accessFlags := 1537
  interfaces := #[]
  cf := some (fileOf pool4 2 #[.nestMembers #[47, 59]] #[] 1537 66 #[] #[])
  fields := #[]
  methods := #[]
  instanceTypes := #[]
  staticTypes := #[]
  resolved := Array.replicate 131 none
  statics := none }

def pool5 : Array CpInfo := pool [(1, .class_ 2), (0, u "java/lang/constant/Constable"), (0, .class_ 4), (0, u "java/lang/Object")] 6

/-- java/lang/constant/Constable -/
def k5 : Class := { plain "java/lang/constant/Constable" (some 0) with
  accessFlags := 1537
  interfaces := #[]
  cf := some (fileOf pool5 1 #[] #[] 1537 3 #[] #[])
  fields := #[]
  methods := #[]
  instanceTypes := #[]
  staticTypes := #[]
  resolved := Array.replicate 11 none
  statics := none }

def pool6 : Array CpInfo := pool [(1, .class_ 2), (0, u "java/lang/constant/ConstantDesc"), (0, .class_ 4), (0, u "java/lang/Object")] 32

/-- java/lang/constant/ConstantDesc -/
def k6 : Class := { plain "java/lang/constant/ConstantDesc" (some 0) with
  accessFlags := 1537
  interfaces := #[]
  cf := some (fileOf pool6 1 #[] #[] 1537 3 #[] #[])
  fields := #[]
  methods := #[]
  instanceTypes := #[]
  staticTypes := #[]
  resolved := Array.replicate 37 none
  statics := none }

def pool7 : Array CpInfo := pool [(1, .methodref 2 3), (0, .class_ 4), (0, .nameAndType 5 6), (0, u "java/lang/Object"), (0, u "<init>"), (0, u "()V"), (0, .string 8), (0, u ""), (0, .fieldref 10 11), (0, .class_ 12), (0, .nameAndType 13 14), (0, u "java/lang/String"), (0, u "value"), (0, u "[B"), (0, .fieldref 10 16), (0, .nameAndType 17 18), (0, u "coder"), (0, u "B"), (2, u "hash"), (0, u "I"), (2, u "hashIsZero"), (0, u "Z"), (0, .methodref 10 28), (0, .nameAndType 5 29), (0, u "([CIILjava/lang/Void;)V"), (8, .fieldref 10 39), (0, .nameAndType 40 26), (0, u "COMPACT_STRINGS"), (1, .class_ 44), (1, u "java/lang/StringUTF16"), (0, u "compress"), (1, .methodref 42 48), (0, .nameAndType 49 50), (0, u "coderFromArrayLen"), (0, u "([BI)B"), (2, u "toBytes"), (53, .class_ 109), (1, u "java/lang/StringLatin1"), (32, u "()Z"), (34, .methodref 42 178), (0, .nameAndType 45 179), (0, u "([CII)[B"), (29, .methodref 10 210), (0, .nameAndType 5 211), (0, u "([BB)V"), (122, u "()I"), (0, .methodref 10 336), (0, .nameAndType 17 337), (0, u "()B"), (25, u "([BI)C"), (5, u "(C)Z"), (21, u "(II)V"), (35, u "(I)C"), (64, .methodref 10 493), (0, .nameAndType 494 142), (0, u "isLatin1"), (0, .methodref 107 496), (0, .nameAndType 497 363), (0, u "charAt"), (3, u "checkIndex"), (5, u "length"), (33, .methodref 107 542), (0, .nameAndType 543 544), (0, u "equals"), (0, u "([B[B)Z"), (28, u "(Ljava/lang/Object;)Z"), (1, .class_ 576), (0, u "java/lang/CharSequence"), (22, u "CASE_INSENSITIVE_ORDER"), (0, u "Ljava/util/Comparator;"), (181, u "valueOf"), (0, u "(C)Ljava/lang/String;"), (226, u "([C)V"), (4, .methodref 107 1016), (0, .nameAndType 1017 369), (0, u "canEncode"), (0, .methodref 107 1019), (0, .nameAndType 53 1020), (0, u "(C)[B"), (32, .fieldref 1054 1055), (0, .class_ 1056), (0, .nameAndType 1057 1058), (0, u "jdk/internal/util/Preconditions"), (0, u "SIOOBE_FORMATTER"), (0, u "Ljava/util/function/BiFunction;"), (0, .methodref 1054 1060), (0, .nameAndType 501 1061), (0, u "(IILjava/util/function/BiFunction;)I"), (39, u "serialPersistentFields"), (0, u "[Ljava/io/ObjectStreamField;"), (0, .class_ 1104), (0, u "java/lang/String$CaseInsensitiveComparator"), (1, .class_ 1107), (0, u "java/io/Serializable"), (0, .class_ 1109), (0, u "java/lang/Comparable"), (0, .class_ 1111), (0, u "java/lang/constant/Constable"), (0, .class_ 1113), (0, u "java/lang/constant/ConstantDesc"), (2, u "serialVersionUID"), (0, u "J"), (3, u "REPL"), (0, u "C"), (2, u "LATIN1"), (1, u "UTF16")] 323

def k7m0 : Method := { name := "<init>", desc := "()V", sig := { parameters := [], returnType := none }, accessFlags := 1, code := none }
def k7c1 : Code := { maxStack := 5, maxLocals := 2, code := jdk_42_method_3_code, exceptionTable := #[], attributes := #[] }
def k7m1 : Method := { name := "<init>", desc := "([C)V", sig := { parameters := [(.array .char)], returnType := none }, accessFlags := 1, code := some k7c1 }
def k7c2 : Code := { maxStack := 2, maxLocals := 1, code := jdk_42_method_54_code, exceptionTable := #[], attributes := #[] }
def k7m2 : Method := { name := "length", desc := "()I", sig := { parameters := [], returnType := some .int }, accessFlags := 1, code := some k7c2 }
def k7c3 : Code := { maxStack := 2, maxLocals := 2, code := jdk_42_method_56_code, exceptionTable := #[], attributes := #[] }
def k7m3 : Method := { name := "charAt", desc := "(I)C", sig := { parameters := [.int], returnType := some .char }, accessFlags := 1, code := some k7c3 }
def k7c4 : Code := { maxStack := 2, maxLocals := 3, code := jdk_42_method_66_code, exceptionTable := #[], attributes := #[] }
def k7m4 : Method := { name := "equals", desc := "(Ljava/lang/Object;)Z", sig := { parameters := [(.object "java/lang/Object")], returnType := some .boolean }, accessFlags := 1, code := some k7c4 }
def k7c5 : Code := { maxStack := 4, maxLocals := 1, code := jdk_42_method_139_code, exceptionTable := #[], attributes := #[] }
def k7m5 : Method := { name := "valueOf", desc := "(C)Ljava/lang/String;", sig := { parameters := [.char], returnType := some (.object "java/lang/String") }, accessFlags := 9, code := some k7c5 }
def k7c6 : Code := { maxStack := 4, maxLocals := 6, code := jdk_42_method_149_code, exceptionTable := #[], attributes := #[] }
def k7m6 : Method := { name := "<init>", desc := "([CIILjava/lang/Void;)V", sig := { parameters := [(.array .char), .int, .int, (.object "java/lang/Void")], returnType := none }, accessFlags := 2, code := some k7c6 }
def k7c7 : Code := { maxStack := 2, maxLocals := 3, code := jdk_42_method_151_code, exceptionTable := #[], attributes := #[] }
def k7m7 : Method := { name := "<init>", desc := "([BB)V", sig := { parameters := [(.array .byte), .byte], returnType := none }, accessFlags := 0, code := some k7c7 }
def k7c8 : Code := { maxStack := 1, maxLocals := 1, code := jdk_42_method_152_code, exceptionTable := #[], attributes := #[] }
def k7m8 : Method := { name := "coder", desc := "()B", sig := { parameters := [], returnType := some .byte }, accessFlags := 0, code := some k7c8 }
def k7c9 : Code := { maxStack := 1, maxLocals := 1, code := jdk_42_method_154_code, exceptionTable := #[], attributes := #[] }
def k7m9 : Method := { name := "isLatin1", desc := "()Z", sig := { parameters := [], returnType := some .boolean }, accessFlags := 0, code := some k7c9 }
def k7c10 : Code := { maxStack := 3, maxLocals := 2, code := jdk_42_method_155_code, exceptionTable := #[], attributes := #[] }
def k7m10 : Method := { name := "checkIndex", desc := "(II)V", sig := { parameters := [.int, .int], returnType := none }, accessFlags := 8, code := some k7c10 }
/-- java/lang/String -/
def k7 : Class := { plain "java/lang/String" (some 0) with
  accessFlags := 49
  interfaces := #[2, 3, 4, 5, 6]
  cf := some (fileOf pool7 10 #[.nestMembers #[1103]] #[{ accessFlags := 1, nameIndex := 5, descriptorIndex := 6, attributes := #[] }, { accessFlags := 1, nameIndex := 5, descriptorIndex := 1010, attributes := #[] }, { accessFlags := 1, nameIndex := 507, descriptorIndex := 334, attributes := #[] }, { accessFlags := 1, nameIndex := 497, descriptorIndex := 427, attributes := #[] }, { accessFlags := 1, nameIndex := 543, descriptorIndex := 573, attributes := #[] }, { accessFlags := 9, nameIndex := 782, descriptorIndex := 783, attributes := #[] }, { accessFlags := 2, nameIndex := 5, descriptorIndex := 29, attributes := #[] }, { accessFlags := 0, nameIndex := 5, descriptorIndex := 211, attributes := #[] }, { accessFlags := 0, nameIndex := 17, descriptorIndex := 337, attributes := #[] }, { accessFlags := 0, nameIndex := 494, descriptorIndex := 142, attributes := #[] }, { accessFlags := 8, nameIndex := 501, descriptorIndex := 391, attributes := #[] }] 49 2 #[1106, 1108, 575, 1110, 1112] #[{ accessFlags := 18, nameIndex := 13, descriptorIndex := 14, attributes := #[] }, { accessFlags := 18, nameIndex := 17, descriptorIndex := 18, attributes := #[] }, { accessFlags := 2, nameIndex := 21, descriptorIndex := 22, attributes := #[] }, { accessFlags := 2, nameIndex := 25, descriptorIndex := 26, attributes := #[] }, { accessFlags := 26, nameIndex := 1116, descriptorIndex := 1117, attributes := #[] }, { accessFlags := 24, nameIndex := 40, descriptorIndex := 26, attributes := #[] }, { accessFlags := 26, nameIndex := 1101, descriptorIndex := 1102, attributes := #[] }, { accessFlags := 26, nameIndex := 1121, descriptorIndex := 1122, attributes := #[] }, { accessFlags := 25, nameIndex := 599, descriptorIndex := 600, attributes := #[] }, { accessFlags := 24, nameIndex := 1125, descriptorIndex := 18, attributes := #[] }, { accessFlags := 24, nameIndex := 1127, descriptorIndex := 18, attributes := #[] }])
  fields := #[{ name := "value", type := (.array .byte), accessFlags := 18, slot := 0, constantValue := 0 }, { name := "coder", type := .byte, accessFlags := 18, slot := 1, constantValue := 0 }, { name := "hash", type := .int, accessFlags := 2, slot := 2, constantValue := 0 }, { name := "hashIsZero", type := .boolean, accessFlags := 2, slot := 3, constantValue := 0 }, { name := "serialVersionUID", type := .long, accessFlags := 26, slot := 0, constantValue := 0 }, { name := "COMPACT_STRINGS", type := .boolean, accessFlags := 24, slot := 1, constantValue := 0 }, { name := "serialPersistentFields", type := (.array (.object "java/io/ObjectStreamField")), accessFlags := 26, slot := 2, constantValue := 0 }, { name := "REPL", type := .char, accessFlags := 26, slot := 3, constantValue := 0 }, { name := "CASE_INSENSITIVE_ORDER", type := (.object "java/util/Comparator"), accessFlags := 25, slot := 4, constantValue := 0 }, { name := "LATIN1", type := .byte, accessFlags := 24, slot := 5, constantValue := 0 }, { name := "UTF16", type := .byte, accessFlags := 24, slot := 6, constantValue := 0 }]
  methods := #[k7m0, k7m1, k7m2, k7m3, k7m4, k7m5, k7m6, k7m7, k7m8, k7m9, k7m10]
  instanceTypes := #[(.array .byte), .byte, .int, .boolean]
  staticTypes := #[.long, .boolean, (.array (.object "java/io/ObjectStreamField")), .char, (.object "java/util/Comparator"), .byte, .byte]
  resolved := Array.replicate 1451 none
  statics := some 0 }

def pool8 : Array CpInfo := pool [(6, .class_ 8), (1, u "java/lang/Object"), (0, u "<init>"), (0, u "()V"), (1, .class_ 14), (1, u "java/lang/StringUTF16"), (31, u "$assertionsDisabled"), (0, u "Z"), (13, u "HI_BYTE_SHIFT"), (0, u "I"), (2, u "LO_BYTE_SHIFT"), (49, .methodref 12 116), (0, .nameAndType 117 118), (0, u "compress"), (0, u "([CI[BII)I"), (3, u "([CII)[B"), (138, u "coderFromArrayLen"), (0, u "([BI)B"), (106, .class_ 371), (1, u "java/lang/StringUTF16$LinesSpliterator"), (58, u "MAX_LENGTH"), (196, .class_ 628), (0, u "java/lang/StringUTF16$CodePointsSpliterator"), (0, .class_ 630), (0, u "java/lang/StringUTF16$CharsSpliterator")] 4

def k8m0 : Method := { name := "<init>", desc := "()V", sig := { parameters := [], returnType := none }, accessFlags := 0, code := none }
def k8c1 : Code := { maxStack := 2, maxLocals := 2, code := jdk_52_method_15_code, exceptionTable := #[], attributes := #[] }
def k8m1 : Method := { name := "coderFromArrayLen", desc := "([BI)B", sig := { parameters := [(.array .byte), .int], returnType := some .byte }, accessFlags := 8, code := some k8c1 }
def k8c2 : Code := { maxStack := 5, maxLocals := 6, code := jdk_52_method_16_code, exceptionTable := #[], attributes := #[] }
def k8m2 : Method := { name := "compress", desc := "([CII)[B", sig := { parameters := [(.array .char), .int, .int], returnType := some (.array .byte) }, accessFlags := 9, code := some k8c2 }
def k8c3 : Code := { maxStack := 3, maxLocals := 7, code := jdk_52_method_21_code, exceptionTable := #[], attributes := #[] }
def k8m3 : Method := { name := "compress", desc := "([CI[BII)I", sig := { parameters := [(.array .char), .int, (.array .byte), .int, .int], returnType := some .int }, accessFlags := 9, code := some k8c3 }
/-- java/lang/StringUTF16 -/
def k8 : Class := { plain "java/lang/StringUTF16" (some 0) with
  accessFlags := 48
  interfaces := #[]
  cf := some (fileOf pool8 12 #[.nestMembers #[627, 629, 369]] #[{ accessFlags := 0, nameIndex := 9, descriptorIndex := 10, attributes := #[] }, { accessFlags := 8, nameIndex := 261, descriptorIndex := 262, attributes := #[] }, { accessFlags := 9, nameIndex := 117, descriptorIndex := 122, attributes := #[] }, { accessFlags := 9, nameIndex := 117, descriptorIndex := 118, attributes := #[] }] 48 6 #[] #[{ accessFlags := 26, nameIndex := 61, descriptorIndex := 62, attributes := #[] }, { accessFlags := 26, nameIndex := 65, descriptorIndex := 62, attributes := #[] }, { accessFlags := 24, nameIndex := 430, descriptorIndex := 62, attributes := #[] }, { accessFlags := 4120, nameIndex := 46, descriptorIndex := 47, attributes := #[] }])
  fields := #[{ name := "HI_BYTE_SHIFT", type := .int, accessFlags := 26, slot := 0, constantValue := 0 }, { name := "LO_BYTE_SHIFT", type := .int, accessFlags := 26, slot := 1, constantValue := 0 }, { name := "MAX_LENGTH", type := .int, accessFlags := 24, slot := 2, constantValue := 0 }, { name := "$assertionsDisabled", type := .boolean, accessFlags := 4120, slot := 3, constantValue := 0 }]
  methods := #[k8m0, k8m1, k8m2, k8m3]
  instanceTypes := #[]
  staticTypes := #[.int, .int, .int, .boolean]
  resolved := Array.replicate 635 none
  statics := none }

def pool9 : Array CpInfo := pool [(1, .class_ 2), (0, u "java/lang/String"), (1, .class_ 6), (1, u "java/lang/Object"), (0, u "<init>"), (0, u "()V"), (0, .methodref 1 10), (0, .nameAndType 11 12), (0, u "checkIndex"), (0, u "(II)V"), (1, .class_ 16), (1, u "java/lang/StringLatin1"), (36, u "([BI)C"), (36, u "canEncode"), (14, u "(C)Z"), (15, u "$assertionsDisabled"), (0, u "Z"), (98, .class_ 223), (1, u "java/lang/StringLatin1$LinesSpliterator"), (28, u "charAt"), (28, u "equals"), (0, u "([B[B)Z"), (97, u "toBytes"), (1, u "(C)[B"), (7, .class_ 391), (0, u "java/lang/StringLatin1$CharsSpliterator")] 3

def k9m0 : Method := { name := "<init>", desc := "()V", sig := { parameters := [], returnType := none }, accessFlags := 0, code := none }
def k9c1 : Code := { maxStack := 2, maxLocals := 2, code := jdk_43_method_2_code, exceptionTable := #[], attributes := #[] }
def k9m1 : Method := { name := "charAt", desc := "([BI)C", sig := { parameters := [(.array .byte), .int], returnType := some .char }, accessFlags := 9, code := some k9c1 }
def k9c2 : Code := { maxStack := 2, maxLocals := 1, code := jdk_43_method_3_code, exceptionTable := #[], attributes := #[] }
def k9m2 : Method := { name := "canEncode", desc := "(C)Z", sig := { parameters := [.char], returnType := some .boolean }, accessFlags := 9, code := some k9c2 }
def k9c3 : Code := { maxStack := 3, maxLocals := 3, code := jdk_43_method_13_code, exceptionTable := #[], attributes := #[] }
def k9m3 : Method := { name := "equals", desc := "([B[B)Z", sig := { parameters := [(.array .byte), (.array .byte)], returnType := some .boolean }, accessFlags := 9, code := some k9c3 }
def k9c4 : Code := { maxStack := 4, maxLocals := 1, code := jdk_43_method_46_code, exceptionTable := #[], attributes := #[] }
def k9m4 : Method := { name := "toBytes", desc := "(C)[B", sig := { parameters := [.char], returnType := some (.array .byte) }, accessFlags := 9, code := some k9c4 }
/-- java/lang/StringLatin1 -/
def k9 : Class := { plain "java/lang/StringLatin1" (some 0) with
  accessFlags := 48
  interfaces := #[]
  cf := some (fileOf pool9 14 #[.nestMembers #[390, 221]] #[{ accessFlags := 0, nameIndex := 7, descriptorIndex := 8, attributes := #[] }, { accessFlags := 9, nameIndex := 252, descriptorIndex := 53, attributes := #[] }, { accessFlags := 9, nameIndex := 90, descriptorIndex := 105, attributes := #[] }, { accessFlags := 9, nameIndex := 281, descriptorIndex := 282, attributes := #[] }, { accessFlags := 9, nameIndex := 380, descriptorIndex := 382, attributes := #[] }] 48 4 #[] #[{ accessFlags := 4120, nameIndex := 121, descriptorIndex := 122, attributes := #[] }])
  fields := #[{ name := "$assertionsDisabled", type := .boolean, accessFlags := 4120, slot := 0, constantValue := 0 }]
  methods := #[k9m0, k9m1, k9m2, k9m3, k9m4]
  instanceTypes := #[]
  staticTypes := #[.boolean]
  resolved := Array.replicate 395 none
  statics := none }

def pool10 : Array CpInfo := pool [(1, .methodref 2 3), (0, .class_ 4), (0, .nameAndType 5 6), (0, u "java/lang/Object"), (0, u "<init>"), (0, u "()V"), (0, .fieldref 8 9), (0, .class_ 10), (0, .nameAndType 11 12), (0, u "com/example/wirewright/bench/Run"), (0, u "wallSeconds"), (0, u "D"), (0, .fieldref 8 14), (0, .nameAndType 15 16), (0, u "peakKib"), (0, u "J"), (0, .fieldref 8 18), (0, .nameAndType 19 20), (0, u "exitCode"), (0, u "I"), (0, .fieldref 8 22), (0, .nameAndType 23 24), (0, u "output"), (0, u "Ljava/lang/String;"), (0, .fieldref 8 26), (0, .nameAndType 27 24), (0, u "errors"), (2, .methodref 31 32), (0, .class_ 33), (0, .nameAndType 34 35), (0, u "java/lang/String"), (0, u "equals"), (0, u "(Ljava/lang/Object;)Z"), (33, u "(DJILjava/lang/String;Ljava/lang/String;)V"), (5, u "printed"), (0, u "(Ljava/lang/String;)Z")] 21

def k10c0 : Code := { maxStack := 3, maxLocals := 8, code := prog_4_method_1_code, exceptionTable := #[], attributes := #[] }
def k10m0 : Method := { name := "<init>", desc := "(DJILjava/lang/String;Ljava/lang/String;)V", sig := { parameters := [.double, .long, .int, (.object "java/lang/String"), (.object "java/lang/String")], returnType := none }, accessFlags := 0, code := some k10c0 }
def k10c1 : Code := { maxStack := 2, maxLocals := 2, code := prog_4_method_6_code, exceptionTable := #[], attributes := #[] }
def k10m1 : Method := { name := "printed", desc := "(Ljava/lang/String;)Z", sig := { parameters := [(.object "java/lang/String")], returnType := some .boolean }, accessFlags := 0, code := some k10c1 }
/-- com/example/wirewright/bench/Run -/
def k10 : Class := { plain "com/example/wirewright/bench/Run" (some 0) with
  accessFlags := 48
  interfaces := #[]
  cf := some (fileOf pool10 8 #[] #[{ accessFlags := 0, nameIndex := 5, descriptorIndex := 69, attributes := #[] }, { accessFlags := 0, nameIndex := 75, descriptorIndex := 76, attributes := #[] }] 48 2 #[] #[{ accessFlags := 18, nameIndex := 11, descriptorIndex := 12, attributes := #[] }, { accessFlags := 18, nameIndex := 15, descriptorIndex := 16, attributes := #[] }, { accessFlags := 18, nameIndex := 19, descriptorIndex := 20, attributes := #[] }, { accessFlags := 18, nameIndex := 23, descriptorIndex := 24, attributes := #[] }, { accessFlags := 18, nameIndex := 27, descriptorIndex := 24, attributes := #[] }])
  fields := #[{ name := "wallSeconds", type := .double, accessFlags := 18, slot := 0, constantValue := 0 }, { name := "peakKib", type := .long, accessFlags := 18, slot := 1, constantValue := 0 }, { name := "exitCode", type := .int, accessFlags := 18, slot := 2, constantValue := 0 }, { name := "output", type := (.object "java/lang/String"), accessFlags := 18, slot := 3, constantValue := 0 }, { name := "errors", type := (.object "java/lang/String"), accessFlags := 18, slot := 4, constantValue := 0 }]
  methods := #[k10m0, k10m1]
  instanceTypes := #[.double, .long, .int, (.object "java/lang/String"), (.object "java/lang/String")]
  staticTypes := #[]
  resolved := Array.replicate 98 none
  statics := none }

def pool11 : Array CpInfo := pool [(2, .class_ 4), (1, u "java/lang/Object"), (0, u "<init>"), (0, u "()V"), (17, .class_ 26), (1, u "jdk/internal/util/Preconditions"), (6, u "checkIndex"), (21, .class_ 56), (0, u "jdk/internal/util/Preconditions$4"), (57, .class_ 115), (0, u "jdk/internal/util/Preconditions$1"), (7, u "SIOOBE_FORMATTER"), (0, u "Ljava/util/function/BiFunction;"), (0, .class_ 126), (0, u "jdk/internal/util/Preconditions$2"), (3, u "AIOOBE_FORMATTER"), (0, .class_ 132), (0, u "jdk/internal/util/Preconditions$3"), (3, u "IOOBE_FORMATTER"), (41, u "(IILjava/util/function/BiFunction;)I")] 15

def k11m0 : Method := { name := "<init>", desc := "()V", sig := { parameters := [], returnType := none }, accessFlags := 1, code := none }
def k11c1 : Code := { maxStack := 3, maxLocals := 3, code := jdk_41_method_11_code, exceptionTable := #[], attributes := #[] }
def k11m1 : Method := { name := "checkIndex", desc := "(IILjava/util/function/BiFunction;)I", sig := { parameters := [.int, .int, (.object "java/util/function/BiFunction")], returnType := some .int }, accessFlags := 9, code := some k11c1 }
/-- jdk/internal/util/Preconditions -/
def k11 : Class := { plain "jdk/internal/util/Preconditions" (some 0) with
  accessFlags := 33
  interfaces := #[]
  cf := some (fileOf pool11 24 #[.nestMembers #[55, 131, 125, 114]] #[{ accessFlags := 1, nameIndex := 5, descriptorIndex := 6, attributes := #[] }, { accessFlags := 9, nameIndex := 33, descriptorIndex := 178, attributes := #[] }] 33 2 #[] #[{ accessFlags := 25, nameIndex := 123, descriptorIndex := 124, attributes := #[] }, { accessFlags := 25, nameIndex := 130, descriptorIndex := 124, attributes := #[] }, { accessFlags := 25, nameIndex := 136, descriptorIndex := 124, attributes := #[] }])
  fields := #[{ name := "SIOOBE_FORMATTER", type := (.object "java/util/function/BiFunction"), accessFlags := 25, slot := 0, constantValue := 0 }, { name := "AIOOBE_FORMATTER", type := (.object "java/util/function/BiFunction"), accessFlags := 25, slot := 1, constantValue := 0 }, { name := "IOOBE_FORMATTER", type := (.object "java/util/function/BiFunction"), accessFlags := 25, slot := 2, constantValue := 0 }]
  methods := #[k11m0, k11m1]
  instanceTypes := #[]
  staticTypes := #[(.object "java/util/function/BiFunction"), (.object "java/util/function/BiFunction"), (.object "java/util/function/BiFunction")]
  resolved := Array.replicate 194 none
  statics := some 1 }

def pool12 : Array CpInfo := pool [(9, u "<init>"), (6, .class_ 18), (1, u "java/lang/Object"), (0, u "()V"), (1, .class_ 23), (1, u "jdk/internal/util/ArraysSupport"), (0, u "LOG2_ARRAY_LONG_INDEX_SCALE"), (0, u "I"), (2, u "U"), (0, u "Ljdk/internal/misc/Unsafe;"), (8, u "BIG_ENDIAN"), (0, u "Z"), (8, u "LOG2_BYTE_BIT_SIZE"), (4, u "LOG2_ARRAY_INT_INDEX_SCALE"), (54, u "JLA"), (0, u "Ljdk/internal/access/JavaLangAccess;"), (11, u "LOG2_ARRAY_BOOLEAN_INDEX_SCALE"), (9, u "LOG2_ARRAY_BYTE_INDEX_SCALE"), (5, u "LOG2_ARRAY_CHAR_INDEX_SCALE"), (5, u "LOG2_ARRAY_SHORT_INDEX_SCALE"), (18, u "LOG2_ARRAY_FLOAT_INDEX_SCALE"), (24, u "LOG2_ARRAY_DOUBLE_INDEX_SCALE"), (89, u "T_BOOLEAN"), (2, u "T_CHAR"), (1, u "T_FLOAT"), (1, u "T_DOUBLE"), (1, u "T_BYTE"), (1, u "T_SHORT"), (1, u "T_INT"), (1, u "T_LONG"), (1, u "SOFT_MAX_ARRAY_LENGTH")] 83

def k12m0 : Method := { name := "<init>", desc := "()V", sig := { parameters := [], returnType := none }, accessFlags := 2, code := none }
/-- jdk/internal/util/ArraysSupport -/
def k12 : Class := { plain "jdk/internal/util/ArraysSupport" (some 0) with
  accessFlags := 33
  interfaces := #[]
  cf := some (fileOf pool12 21 #[] #[{ accessFlags := 2, nameIndex := 9, descriptorIndex := 19, attributes := #[] }] 33 16 #[] #[{ accessFlags := 24, nameIndex := 28, descriptorIndex := 29, attributes := #[] }, { accessFlags := 26, nameIndex := 38, descriptorIndex := 39, attributes := #[] }, { accessFlags := 25, nameIndex := 121, descriptorIndex := 25, attributes := #[] }, { accessFlags := 25, nameIndex := 131, descriptorIndex := 25, attributes := #[] }, { accessFlags := 25, nameIndex := 137, descriptorIndex := 25, attributes := #[] }, { accessFlags := 25, nameIndex := 143, descriptorIndex := 25, attributes := #[] }, { accessFlags := 25, nameIndex := 53, descriptorIndex := 25, attributes := #[] }, { accessFlags := 25, nameIndex := 24, descriptorIndex := 25, attributes := #[] }, { accessFlags := 25, nameIndex := 162, descriptorIndex := 25, attributes := #[] }, { accessFlags := 25, nameIndex := 187, descriptorIndex := 25, attributes := #[] }, { accessFlags := 26, nameIndex := 48, descriptorIndex := 25, attributes := #[] }, { accessFlags := 25, nameIndex := 277, descriptorIndex := 25, attributes := #[] }, { accessFlags := 25, nameIndex := 280, descriptorIndex := 25, attributes := #[] }, { accessFlags := 25, nameIndex := 282, descriptorIndex := 25, attributes := #[] }, { accessFlags := 25, nameIndex := 284, descriptorIndex := 25, attributes := #[] }, { accessFlags := 25, nameIndex := 286, descriptorIndex := 25, attributes := #[] }, { accessFlags := 25, nameIndex := 288, descriptorIndex := 25, attributes := #[] }, { accessFlags := 25, nameIndex := 290, descriptorIndex := 25, attributes := #[] }, { accessFlags := 25, nameIndex := 292, descriptorIndex := 25, attributes := #[] }, { accessFlags := 26, nameIndex := 108, descriptorIndex := 109, attributes := #[] }, { accessFlags := 25, nameIndex := 294, descriptorIndex := 25, attributes := #[] }])
  fields := #[{ name := "U", type := (.object "jdk/internal/misc/Unsafe"), accessFlags := 24, slot := 0, constantValue := 0 }, { name := "BIG_ENDIAN", type := .boolean, accessFlags := 26, slot := 1, constantValue := 0 }, { name := "LOG2_ARRAY_BOOLEAN_INDEX_SCALE", type := .int, accessFlags := 25, slot := 2, constantValue := 0 }, { name := "LOG2_ARRAY_BYTE_INDEX_SCALE", type := .int, accessFlags := 25, slot := 3, constantValue := 0 }, { name := "LOG2_ARRAY_CHAR_INDEX_SCALE", type := .int, accessFlags := 25, slot := 4, constantValue := 0 }, { name := "LOG2_ARRAY_SHORT_INDEX_SCALE", type := .int, accessFlags := 25, slot := 5, constantValue := 0 }, { name := "LOG2_ARRAY_INT_INDEX_SCALE", type := .int, accessFlags := 25, slot := 6, constantValue := 0 }, { name := "LOG2_ARRAY_LONG_INDEX_SCALE", type := .int, accessFlags := 25, slot := 7, constantValue := 0 }, { name := "LOG2_ARRAY_FLOAT_INDEX_SCALE", type := .int, accessFlags := 25, slot := 8, constantValue := 0 }, { name := "LOG2_ARRAY_DOUBLE_INDEX_SCALE", type := .int, accessFlags := 25, slot := 9, constantValue := 0 }, { name := "LOG2_BYTE_BIT_SIZE", type := .int, accessFlags := 26, slot := 10, constantValue := 0 }, { name := "T_BOOLEAN", type := .int, accessFlags := 25, slot := 11, constantValue := 0 }, { name := "T_CHAR", type := .int, accessFlags := 25, slot := 12, constantValue := 0 }, { name := "T_FLOAT", type := .int, accessFlags := 25, slot := 13, constantValue := 0 }, { name := "T_DOUBLE", type := .int, accessFlags := 25, slot := 14, constantValue := 0 }, { name := "T_BYTE", type := .int, accessFlags := 25, slot := 15, constantValue := 0 }, { name := "T_SHORT", type := .int, accessFlags := 25, slot := 16, constantValue := 0 }, { name := "T_INT", type := .int, accessFlags := 25, slot := 17, constantValue := 0 }, { name := "T_LONG", type := .int, accessFlags := 25, slot := 18, constantValue := 0 }, { name := "JLA", type := (.object "jdk/internal/access/JavaLangAccess"), accessFlags := 26, slot := 19, constantValue := 0 }, { name := "SOFT_MAX_ARRAY_LENGTH", type := .int, accessFlags := 25, slot := 20, constantValue := 0 }]
  methods := #[k12m0]
  instanceTypes := #[]
  staticTypes := #[(.object "jdk/internal/misc/Unsafe"), .boolean, .int, .int, .int, .int, .int, .int, .int, .int, .int, .int, .int, .int, .int, .int, .int, .int, .int, (.object "jdk/internal/access/JavaLangAccess"), .int]
  resolved := Array.replicate 378 none
  statics := none }

def pool13 : Array CpInfo := pool [(1, u "java/lang/Cloneable"), (0, .class_ 1), (0, u "java/lang/Object"), (0, .class_ 3)] 3

/-- java/lang/Cloneable -/
def k13 : Class := { plain "java/lang/Cloneable" (some 0) with
  accessFlags := 1537
  interfaces := #[]
  cf := some (fileOf pool13 2 #[] #[] 1537 4 #[] #[])
  fields := #[]
  methods := #[]
  instanceTypes := #[]
  staticTypes := #[]
  resolved := Array.replicate 8 none
  statics := none }

/-- the primitive byte -/
def k14 : Class := { plain "byte" none with kind := .primitive 'B', accessFlags := 0x411 }
/-- [B -/
def k15 : Class := { plain "[B" (some 0) with kind := .array 14 .byte, interfaces := #[13, 2], accessFlags := 1041 }

/-- the primitive char -/
def k16 : Class := { plain "char" none with kind := .primitive 'C', accessFlags := 0x411 }
/-- [C -/
def k17 : Class := { plain "[C" (some 0) with kind := .array 16 .char, interfaces := #[13, 2], accessFlags := 1041 }

/-- the primitive int -/
def k18 : Class := { plain "int" none with kind := .primitive 'I', accessFlags := 0x411 }
/-- [I -/
def k19 : Class := { plain "[I" (some 0) with kind := .array 18 .int, interfaces := #[13, 2], accessFlags := 1041 }

def heap : Heap := #[{ cls := 7, slots := #[.long 0, .int 1, .null, .int 0, .null, .int 0, .int 0], vm := .statics 7 },
  { cls := 11, slots := #[.null, .null, .null], vm := .statics 11 }]
def classes : Array Class := #[k0, k1, k2, k3, k4, k5, k6, k7, k8, k9, k10, k11, k12, k13, k14, k15, k16, k17, k18, k19]
def interned : List (Array UInt16 × Addr) := []
def slotsUsed : Nat := 10
def theMethod : MethodId := ⟨1, 3⟩
def args0 : Array Value := #[.int 0, .int 5, .int 0, .long 7, .int 65]
def aboutOver (below : List Frame) : State where
  vm := { classes := classes, interned := interned.toArray }
  heap := heap
  slotsUsed := slotsUsed
  threads := #[{ frames := .invoking theMethod args0 :: below }]
def below0 : List Frame := [.native { method := ⟨0, 0⟩, args := #[] }]
def about1 : State := aboutOver below0
def p0 : Program := .bare "" "" ""
def e0 : Env := launch0.env 0 0 0
theorem w_frames : about1.frames = Frame.invoking theMethod args0 :: below0 := rfl
set_option maxRecDepth 65536 in
theorem w_args : argsFit about1.vm theMethod args0 = true := by decide +kernel
set_option maxRecDepth 65536 in
theorem w_heap : heapFits about1 = true := by decide +kernel
set_option maxRecDepth 65536 in
theorem w_runnable : about1.curStatus? = some .runnable := by decide +kernel
set_option maxRecDepth 65536 in
theorem w_alone : about1.alone = true := by decide +kernel
set_option maxRecDepth 65536 in
theorem w_named : about1.methodNamed? x = some theMethod := by decide +kernel
set_option maxRecDepth 65536 in
theorem w_hears : about1.hears theMethod below0 = true := by decide +kernel
set_option maxRecDepth 65536 in
theorem w_ripe : about1.ripe theMethod args0 below0 = true := by decide +kernel
theorem w_running : about1.status = .running := rfl
set_option maxRecDepth 65536 in
theorem w_room : about1.hasRoom e0.platform room_1 = true :=
  launch0.hasRoom_least _ room_1 (by decide +kernel) (by decide +kernel) (by decide +kernel) (by decide +kernel) (by decide +kernel) (by decide +kernel)
theorem allAtoms_all (ts : List Jvm.Cond) (a : Array Jvm.Value) (st : Jvm.State) : (allAtoms ts).before a st = ts.all (fun c => c.before a st) := by
  induction ts with
  | nil => rfl
  | cons c t ih =>
    show (Jvm.Cond.and c (allAtoms t)).before a st = _
    rw [Jvm.Cond.before_and, ih, List.all_cons]
def words1 : List Jvm.Cond := Jvm.Cond.code x code maxLocals ret :: tables_1
/-- a 'code' word, met by the world's own term for the bytes: nothing is compared byte by byte -/
theorem code_word {y : MethodName} {bytes : ByteArray} {mx : Nat} {rt : Option FieldType} {a : Array Value} {s : State} {m : MethodId} {meth : Method} {c : Code} (h1 : s.methodNamed? y = some m) (h2 : s.vm.method? m = some meth) (h3 : meth.code = some c) (h4 : c.code = bytes)
    (h5 : (c.maxLocals == mx && c.exceptionTable.isEmpty && decide (c.maxStack ≤ mostOperands) && decide (meth.sig.returnType = rt) && !meth.locks && decide (parseMethodDescriptor y.desc = some meth.sig)) = true) : (Jvm.Cond.code y bytes mx rt).before a s = true := by
  simp only [Bool.and_eq_true, beq_iff_eq, Bool.not_eq_true', decide_eq_true_eq] at h5
  obtain ⟨⟨⟨⟨⟨g1, g2⟩, g3⟩, g4⟩, g5⟩, g6⟩ := h5
  simp [Cond.before, Cond.holds, Cond.value, h1, h2, h3, h4, g1, g2, g3, g4, g5, g6]
def isCode : Jvm.Cond → Bool
  | .code _ _ _ _ => true
  | _ => false
theorem all_split {L : List Jvm.Cond} {P : Jvm.Cond → Bool} (h1 : L.all (fun c => isCode c || P c) = true) (h2 : ∀ c ∈ L.filter isCode, P c = true) : L.all P = true := by
  refine List.all_eq_true.mpr fun c hc => ?_
  have h := List.all_eq_true.mp h1 c hc
  rcases Bool.eq_false_or_eq_true (isCode c) with hi | hi
  · exact h2 c (List.mem_filter.mpr ⟨hc, hi⟩)
  · simpa [hi] using h
set_option maxRecDepth 65536 in
theorem w_c0 : (Jvm.Cond.code x code maxLocals ret).before args0 about1 = true := code_word (m := ⟨1, 3⟩) (meth := k1m3) (c := k1c3) (by decide +kernel) rfl rfl rfl (by decide +kernel)
set_option maxRecDepth 65536 in
theorem w_c1 : (Jvm.Cond.code ({ cls := "com/example/wirewright/bench/RunPrintedPinLaw", name := "text", desc := "(I)Ljava/lang/String;" } : Jvm.MethodName) method_2_code (5 : Nat) (Option.some (Jvm.ClassFile.FieldType.object "java/lang/String"))).before args0 about1 = true := code_word (m := ⟨1, 1⟩) (meth := k1m1) (c := k1c1) (by decide +kernel) rfl rfl rfl (by decide +kernel)
set_option maxRecDepth 65536 in
theorem w_c2 : (Jvm.Cond.code ({ cls := "java/lang/String", name := "<init>", desc := "([C)V" } : Jvm.MethodName) jdk_42_method_3_code (2 : Nat) (Option.none : Option Jvm.ClassFile.FieldType)).before args0 about1 = true := code_word (m := ⟨7, 1⟩) (meth := k7m1) (c := k7c1) (by decide +kernel) rfl rfl rfl (by decide +kernel)
set_option maxRecDepth 65536 in
theorem w_c3 : (Jvm.Cond.code ({ cls := "java/lang/String", name := "<init>", desc := "([CIILjava/lang/Void;)V" } : Jvm.MethodName) jdk_42_method_149_code (6 : Nat) (Option.none : Option Jvm.ClassFile.FieldType)).before args0 about1 = true := code_word (m := ⟨7, 6⟩) (meth := k7m6) (c := k7c6) (by decide +kernel) rfl rfl rfl (by decide +kernel)
set_option maxRecDepth 65536 in
theorem w_c4 : (Jvm.Cond.code ({ cls := "java/lang/Object", name := "<init>", desc := "()V" } : Jvm.MethodName) object_method_1_code (1 : Nat) (Option.none : Option Jvm.ClassFile.FieldType)).before args0 about1 = true := code_word (m := ⟨0, 0⟩) (meth := k0m0) (c := k0c0) (by decide +kernel) rfl rfl rfl (by decide +kernel)
set_option maxRecDepth 65536 in
theorem w_c5 : (Jvm.Cond.code ({ cls := "java/lang/StringUTF16", name := "compress", desc := "([CII)[B" } : Jvm.MethodName) jdk_52_method_16_code (6 : Nat) (Option.some (Jvm.ClassFile.FieldType.array Jvm.ClassFile.FieldType.byte))).before args0 about1 = true := code_word (m := ⟨8, 2⟩) (meth := k8m2) (c := k8c2) (by decide +kernel) rfl rfl rfl (by decide +kernel)
set_option maxRecDepth 65536 in
theorem w_c6 : (Jvm.Cond.code ({ cls := "java/lang/StringUTF16", name := "compress", desc := "([CI[BII)I" } : Jvm.MethodName) jdk_52_method_21_code (7 : Nat) (Option.some Jvm.ClassFile.FieldType.int)).before args0 about1 = true := code_word (m := ⟨8, 3⟩) (meth := k8m3) (c := k8c3) (by decide +kernel) rfl rfl rfl (by decide +kernel)
set_option maxRecDepth 65536 in
theorem w_c7 : (Jvm.Cond.code ({ cls := "java/lang/StringUTF16", name := "coderFromArrayLen", desc := "([BI)B" } : Jvm.MethodName) jdk_52_method_15_code (2 : Nat) (Option.some Jvm.ClassFile.FieldType.byte)).before args0 about1 = true := code_word (m := ⟨8, 1⟩) (meth := k8m1) (c := k8c1) (by decide +kernel) rfl rfl rfl (by decide +kernel)
set_option maxRecDepth 65536 in
theorem w_c8 : (Jvm.Cond.code ({ cls := "java/lang/String", name := "valueOf", desc := "(C)Ljava/lang/String;" } : Jvm.MethodName) jdk_42_method_139_code (1 : Nat) (Option.some (Jvm.ClassFile.FieldType.object "java/lang/String"))).before args0 about1 = true := code_word (m := ⟨7, 5⟩) (meth := k7m5) (c := k7c5) (by decide +kernel) rfl rfl rfl (by decide +kernel)
set_option maxRecDepth 65536 in
theorem w_c9 : (Jvm.Cond.code ({ cls := "java/lang/StringLatin1", name := "canEncode", desc := "(C)Z" } : Jvm.MethodName) jdk_43_method_3_code (1 : Nat) (Option.some Jvm.ClassFile.FieldType.boolean)).before args0 about1 = true := code_word (m := ⟨9, 2⟩) (meth := k9m2) (c := k9c2) (by decide +kernel) rfl rfl rfl (by decide +kernel)
set_option maxRecDepth 65536 in
theorem w_c10 : (Jvm.Cond.code ({ cls := "java/lang/StringLatin1", name := "toBytes", desc := "(C)[B" } : Jvm.MethodName) jdk_43_method_46_code (1 : Nat) (Option.some (Jvm.ClassFile.FieldType.array Jvm.ClassFile.FieldType.byte))).before args0 about1 = true := code_word (m := ⟨9, 4⟩) (meth := k9m4) (c := k9c4) (by decide +kernel) rfl rfl rfl (by decide +kernel)
set_option maxRecDepth 65536 in
theorem w_c11 : (Jvm.Cond.code ({ cls := "java/lang/String", name := "<init>", desc := "([BB)V" } : Jvm.MethodName) jdk_42_method_151_code (3 : Nat) (Option.none : Option Jvm.ClassFile.FieldType)).before args0 about1 = true := code_word (m := ⟨7, 7⟩) (meth := k7m7) (c := k7c7) (by decide +kernel) rfl rfl rfl (by decide +kernel)
set_option maxRecDepth 65536 in
theorem w_c12 : (Jvm.Cond.code ({ cls := "com/example/wirewright/bench/Run", name := "<init>", desc := "(DJILjava/lang/String;Ljava/lang/String;)V" } : Jvm.MethodName) prog_4_method_1_code (8 : Nat) (Option.none : Option Jvm.ClassFile.FieldType)).before args0 about1 = true := code_word (m := ⟨10, 0⟩) (meth := k10m0) (c := k10c0) (by decide +kernel) rfl rfl rfl (by decide +kernel)
set_option maxRecDepth 65536 in
theorem w_c13 : (Jvm.Cond.code ({ cls := "com/example/wirewright/bench/RunPrintedPinLaw", name := "sameText", desc := "(Ljava/lang/String;Ljava/lang/String;)Z" } : Jvm.MethodName) method_3_code (4 : Nat) (Option.some Jvm.ClassFile.FieldType.boolean)).before args0 about1 = true := code_word (m := ⟨1, 2⟩) (meth := k1m2) (c := k1c2) (by decide +kernel) rfl rfl rfl (by decide +kernel)
set_option maxRecDepth 65536 in
theorem w_c14 : (Jvm.Cond.code ({ cls := "java/lang/String", name := "length", desc := "()I" } : Jvm.MethodName) jdk_42_method_54_code (1 : Nat) (Option.some Jvm.ClassFile.FieldType.int)).before args0 about1 = true := code_word (m := ⟨7, 2⟩) (meth := k7m2) (c := k7c2) (by decide +kernel) rfl rfl rfl (by decide +kernel)
set_option maxRecDepth 65536 in
theorem w_c15 : (Jvm.Cond.code ({ cls := "java/lang/String", name := "coder", desc := "()B" } : Jvm.MethodName) jdk_42_method_152_code (1 : Nat) (Option.some Jvm.ClassFile.FieldType.byte)).before args0 about1 = true := code_word (m := ⟨7, 8⟩) (meth := k7m8) (c := k7c8) (by decide +kernel) rfl rfl rfl (by decide +kernel)
set_option maxRecDepth 65536 in
theorem w_c16 : (Jvm.Cond.code ({ cls := "com/example/wirewright/bench/Run", name := "printed", desc := "(Ljava/lang/String;)Z" } : Jvm.MethodName) prog_4_method_6_code (2 : Nat) (Option.some Jvm.ClassFile.FieldType.boolean)).before args0 about1 = true := code_word (m := ⟨10, 1⟩) (meth := k10m1) (c := k10c1) (by decide +kernel) rfl rfl rfl (by decide +kernel)
set_option maxRecDepth 65536 in
theorem w_c17 : (Jvm.Cond.code ({ cls := "java/lang/String", name := "equals", desc := "(Ljava/lang/Object;)Z" } : Jvm.MethodName) jdk_42_method_66_code (3 : Nat) (Option.some Jvm.ClassFile.FieldType.boolean)).before args0 about1 = true := code_word (m := ⟨7, 4⟩) (meth := k7m4) (c := k7c4) (by decide +kernel) rfl rfl rfl (by decide +kernel)
set_option maxRecDepth 65536 in
theorem w_c18 : (Jvm.Cond.code ({ cls := "java/lang/StringLatin1", name := "equals", desc := "([B[B)Z" } : Jvm.MethodName) jdk_43_method_13_code (3 : Nat) (Option.some Jvm.ClassFile.FieldType.boolean)).before args0 about1 = true := code_word (m := ⟨9, 3⟩) (meth := k9m3) (c := k9c3) (by decide +kernel) rfl rfl rfl (by decide +kernel)
set_option maxRecDepth 65536 in
theorem w_c19 : (Jvm.Cond.code ({ cls := "java/lang/String", name := "charAt", desc := "(I)C" } : Jvm.MethodName) jdk_42_method_56_code (2 : Nat) (Option.some Jvm.ClassFile.FieldType.char)).before args0 about1 = true := code_word (m := ⟨7, 3⟩) (meth := k7m3) (c := k7c3) (by decide +kernel) rfl rfl rfl (by decide +kernel)
set_option maxRecDepth 65536 in
theorem w_c20 : (Jvm.Cond.code ({ cls := "java/lang/String", name := "isLatin1", desc := "()Z" } : Jvm.MethodName) jdk_42_method_154_code (1 : Nat) (Option.some Jvm.ClassFile.FieldType.boolean)).before args0 about1 = true := code_word (m := ⟨7, 9⟩) (meth := k7m9) (c := k7c9) (by decide +kernel) rfl rfl rfl (by decide +kernel)
set_option maxRecDepth 65536 in
theorem w_c21 : (Jvm.Cond.code ({ cls := "java/lang/StringLatin1", name := "charAt", desc := "([BI)C" } : Jvm.MethodName) jdk_43_method_2_code (2 : Nat) (Option.some Jvm.ClassFile.FieldType.char)).before args0 about1 = true := code_word (m := ⟨9, 1⟩) (meth := k9m1) (c := k9c1) (by decide +kernel) rfl rfl rfl (by decide +kernel)
set_option maxRecDepth 65536 in
theorem w_c22 : (Jvm.Cond.code ({ cls := "java/lang/String", name := "checkIndex", desc := "(II)V" } : Jvm.MethodName) jdk_42_method_155_code (2 : Nat) (Option.none : Option Jvm.ClassFile.FieldType)).before args0 about1 = true := code_word (m := ⟨7, 10⟩) (meth := k7m10) (c := k7c10) (by decide +kernel) rfl rfl rfl (by decide +kernel)
set_option maxRecDepth 65536 in
theorem w_c23 : (Jvm.Cond.code ({ cls := "jdk/internal/util/Preconditions", name := "checkIndex", desc := "(IILjava/util/function/BiFunction;)I" } : Jvm.MethodName) jdk_41_method_11_code (3 : Nat) (Option.some Jvm.ClassFile.FieldType.int)).before args0 about1 = true := code_word (m := ⟨11, 1⟩) (meth := k11m1) (c := k11c1) (by decide +kernel) rfl rfl rfl (by decide +kernel)
def codes1 : List Jvm.Cond := [Jvm.Cond.code x code maxLocals ret, Jvm.Cond.code ({ cls := "com/example/wirewright/bench/RunPrintedPinLaw", name := "text", desc := "(I)Ljava/lang/String;" } : Jvm.MethodName) method_2_code (5 : Nat) (Option.some (Jvm.ClassFile.FieldType.object "java/lang/String")), Jvm.Cond.code ({ cls := "java/lang/String", name := "<init>", desc := "([C)V" } : Jvm.MethodName) jdk_42_method_3_code (2 : Nat) (Option.none : Option Jvm.ClassFile.FieldType), Jvm.Cond.code ({ cls := "java/lang/String", name := "<init>", desc := "([CIILjava/lang/Void;)V" } : Jvm.MethodName) jdk_42_method_149_code (6 : Nat) (Option.none : Option Jvm.ClassFile.FieldType), Jvm.Cond.code ({ cls := "java/lang/Object", name := "<init>", desc := "()V" } : Jvm.MethodName) object_method_1_code (1 : Nat) (Option.none : Option Jvm.ClassFile.FieldType), Jvm.Cond.code ({ cls := "java/lang/StringUTF16", name := "compress", desc := "([CII)[B" } : Jvm.MethodName) jdk_52_method_16_code (6 : Nat) (Option.some (Jvm.ClassFile.FieldType.array Jvm.ClassFile.FieldType.byte)), Jvm.Cond.code ({ cls := "java/lang/StringUTF16", name := "compress", desc := "([CI[BII)I" } : Jvm.MethodName) jdk_52_method_21_code (7 : Nat) (Option.some Jvm.ClassFile.FieldType.int), Jvm.Cond.code ({ cls := "java/lang/StringUTF16", name := "coderFromArrayLen", desc := "([BI)B" } : Jvm.MethodName) jdk_52_method_15_code (2 : Nat) (Option.some Jvm.ClassFile.FieldType.byte), Jvm.Cond.code ({ cls := "java/lang/String", name := "valueOf", desc := "(C)Ljava/lang/String;" } : Jvm.MethodName) jdk_42_method_139_code (1 : Nat) (Option.some (Jvm.ClassFile.FieldType.object "java/lang/String")), Jvm.Cond.code ({ cls := "java/lang/StringLatin1", name := "canEncode", desc := "(C)Z" } : Jvm.MethodName) jdk_43_method_3_code (1 : Nat) (Option.some Jvm.ClassFile.FieldType.boolean), Jvm.Cond.code ({ cls := "java/lang/StringLatin1", name := "toBytes", desc := "(C)[B" } : Jvm.MethodName) jdk_43_method_46_code (1 : Nat) (Option.some (Jvm.ClassFile.FieldType.array Jvm.ClassFile.FieldType.byte)), Jvm.Cond.code ({ cls := "java/lang/String", name := "<init>", desc := "([BB)V" } : Jvm.MethodName) jdk_42_method_151_code (3 : Nat) (Option.none : Option Jvm.ClassFile.FieldType), Jvm.Cond.code ({ cls := "com/example/wirewright/bench/Run", name := "<init>", desc := "(DJILjava/lang/String;Ljava/lang/String;)V" } : Jvm.MethodName) prog_4_method_1_code (8 : Nat) (Option.none : Option Jvm.ClassFile.FieldType), Jvm.Cond.code ({ cls := "com/example/wirewright/bench/RunPrintedPinLaw", name := "sameText", desc := "(Ljava/lang/String;Ljava/lang/String;)Z" } : Jvm.MethodName) method_3_code (4 : Nat) (Option.some Jvm.ClassFile.FieldType.boolean), Jvm.Cond.code ({ cls := "java/lang/String", name := "length", desc := "()I" } : Jvm.MethodName) jdk_42_method_54_code (1 : Nat) (Option.some Jvm.ClassFile.FieldType.int), Jvm.Cond.code ({ cls := "java/lang/String", name := "coder", desc := "()B" } : Jvm.MethodName) jdk_42_method_152_code (1 : Nat) (Option.some Jvm.ClassFile.FieldType.byte), Jvm.Cond.code ({ cls := "com/example/wirewright/bench/Run", name := "printed", desc := "(Ljava/lang/String;)Z" } : Jvm.MethodName) prog_4_method_6_code (2 : Nat) (Option.some Jvm.ClassFile.FieldType.boolean), Jvm.Cond.code ({ cls := "java/lang/String", name := "equals", desc := "(Ljava/lang/Object;)Z" } : Jvm.MethodName) jdk_42_method_66_code (3 : Nat) (Option.some Jvm.ClassFile.FieldType.boolean), Jvm.Cond.code ({ cls := "java/lang/StringLatin1", name := "equals", desc := "([B[B)Z" } : Jvm.MethodName) jdk_43_method_13_code (3 : Nat) (Option.some Jvm.ClassFile.FieldType.boolean), Jvm.Cond.code ({ cls := "java/lang/String", name := "charAt", desc := "(I)C" } : Jvm.MethodName) jdk_42_method_56_code (2 : Nat) (Option.some Jvm.ClassFile.FieldType.char), Jvm.Cond.code ({ cls := "java/lang/String", name := "isLatin1", desc := "()Z" } : Jvm.MethodName) jdk_42_method_154_code (1 : Nat) (Option.some Jvm.ClassFile.FieldType.boolean), Jvm.Cond.code ({ cls := "java/lang/StringLatin1", name := "charAt", desc := "([BI)C" } : Jvm.MethodName) jdk_43_method_2_code (2 : Nat) (Option.some Jvm.ClassFile.FieldType.char), Jvm.Cond.code ({ cls := "java/lang/String", name := "checkIndex", desc := "(II)V" } : Jvm.MethodName) jdk_42_method_155_code (2 : Nat) (Option.none : Option Jvm.ClassFile.FieldType), Jvm.Cond.code ({ cls := "jdk/internal/util/Preconditions", name := "checkIndex", desc := "(IILjava/util/function/BiFunction;)I" } : Jvm.MethodName) jdk_41_method_11_code (3 : Nat) (Option.some Jvm.ClassFile.FieldType.int)]
set_option maxRecDepth 65536 in
theorem codes_eq : words1.filter isCode = codes1 := rfl
theorem w_codes : ∀ c ∈ words1.filter isCode, c.before args0 about1 = true := by
  rw [codes_eq]
  intro c hc
  simp only [codes1, List.mem_cons, List.not_mem_nil, or_false] at hc
  rcases hc with rfl | rfl | rfl | rfl | rfl | rfl | rfl | rfl | rfl | rfl | rfl | rfl | rfl | rfl | rfl | rfl | rfl | rfl | rfl | rfl | rfl | rfl | rfl | rfl
  · exact w_c0
  · exact w_c1
  · exact w_c2
  · exact w_c3
  · exact w_c4
  · exact w_c5
  · exact w_c6
  · exact w_c7
  · exact w_c8
  · exact w_c9
  · exact w_c10
  · exact w_c11
  · exact w_c12
  · exact w_c13
  · exact w_c14
  · exact w_c15
  · exact w_c16
  · exact w_c17
  · exact w_c18
  · exact w_c19
  · exact w_c20
  · exact w_c21
  · exact w_c22
  · exact w_c23
set_option maxRecDepth 65536 in
theorem w_t1 : (words1.take 24).all (fun c => isCode c || c.before args0 about1) = true := by decide +kernel
set_option maxRecDepth 65536 in
theorem w_t2 : ((words1.drop 24).take 24).all (fun c => isCode c || c.before args0 about1) = true := by decide +kernel
set_option maxRecDepth 65536 in
theorem w_t3 : (((words1.drop 24).drop 24).take 24).all (fun c => isCode c || c.before args0 about1) = true := by decide +kernel
set_option maxRecDepth 65536 in
theorem w_t4 : ((((words1.drop 24).drop 24).drop 24).take 24).all (fun c => isCode c || c.before args0 about1) = true := by decide +kernel
set_option maxRecDepth 65536 in
theorem w_t5 : ((((words1.drop 24).drop 24).drop 24).drop 24).all (fun c => isCode c || c.before args0 about1) = true := by decide +kernel
theorem w_tables : (allAtoms (Jvm.Cond.code x code maxLocals ret :: tables_1)).before args0 about1 = true := by
  rw [allAtoms_all]
  show words1.all (fun c => c.before args0 about1) = true
  refine all_split ?_ w_codes
  rw [← List.take_append_drop 24 words1, List.all_append, w_t1, ← List.take_append_drop 24 (words1.drop 24), List.all_append, w_t2, ← List.take_append_drop 24 ((words1.drop 24).drop 24), List.all_append, w_t3, ← List.take_append_drop 24 (((words1.drop 24).drop 24).drop 24), List.all_append, w_t4, w_t5]
  rfl
set_option maxRecDepth 65536 in
theorem w_rest : rest_1_c.before args0 about1 = true := by decide +kernel
set_option maxRecDepth 65536 in
theorem w_case : (Jvm.Cond.and given_1 narrow_1).before args0 about1 = true := by decide +kernel
set_option maxRecDepth 65536 in
theorem w_consts : constsHeld consts_1 about1 := Jvm.Lit.constsHeldB_iff.mp (by decide +kernel)
theorem w_applies : (headSpec (Jvm.Cond.code x code maxLocals ret :: tables_1) room_1).applies x e0.platform about1 = true :=
  (Spec.applies_iff w_frames).mpr ⟨w_running, w_runnable, w_alone, w_named, w_hears, w_ripe, w_room, w_tables⟩
theorem atStart : AtStart classFile x code maxLocals ret World_1 tables_1 room_1 Calls_1 rest_1 Pre_1 launch0 p0 e0 about1 theMethod args0 below0 :=
  ⟨lists_1, trivial, launch0.admits_env _ _ _, launch0.least_env, fairChoices_fair.cas, fairChoices_fair.clock, w_frames, w_args, w_heap, w_applies, ⟨w_consts, trivial⟩, w_rest, w_case⟩
end start1
theorem witness_1 : WitnessClaimed_1 := ⟨start1.p0, start1.e0, start1.about1, start1.theMethod, start1.args0, start1.below0, start1.atStart⟩
end Jvm.Pilot.@@N@@
