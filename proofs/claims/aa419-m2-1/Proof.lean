import JvmDerived
import JvmDerived.Pilot.@@N@@Statement
import JvmDerived.Pilot.@@N@@Code
set_option linter.unusedVariables false
set_option linter.unusedSimpArgs false
namespace Jvm.RoadKit
open Sem ClassFile Op Lib Jvm.Stand Jvm.Free Jvm.LawKit
section New
variable {p : Program} {l : Launch} {e : Env} {R : Room} {s : State} {m : MethodId} {args : Array Value} {below : List Frame} {meth : Method} {c : Code} {T : State} {locs : List Loc} {cells slots : Nat}
theorem retI (X : Stand p l e R s m args below meth c T locs cells slots) (hx : p.tables.exec = Jvm.exec) {pc : Nat} {Ls : Array Slot} {z : Int32} {rest : List Value} (hret : meth.sig.returnType = some .int) (hd : decode c.code pc = .ok (.ireturn, 1)) {fs : List Frame}
    (hl : ∀ (f : JFrame) (acts : List Action), f.method = m → f.locked = none → f.entered = [] → (doReturn e (T.setTop f) acts (some (.int z))).1 = T.setFrames fs) : Steps p.tables e below (T.setTop (mkF m pc Ls (.int z :: rest))) (T.setFrames fs) := by
  have hm' : T.vm.method? m = some meth := X.method'
  have hn : narrow .int (.int z) = .int z := rfl
  show Steps p.tables e below (T.setTop { method := m, pc := pc, locals := Ls, stack := _ :: rest, locked := none }) _
  jvm_step X.here [X.here.top, hx, hd, hm', hret, hn]
  first | (intro acts; rw [hl _ acts rfl rfl rfl]) | rw [hl _ _ rfl rfl rfl]
  exact Steps.refl _
end New
end Jvm.RoadKit
namespace Jvm.RoadKit
open Sem ClassFile Op Lib Jvm.Stand Jvm.Free Jvm.LawKit
section Own
variable {p : Program} {l : Launch} {e : Env} {R : Room} {s : State} {m : MethodId} {args : Array Value} {below : List Frame} {meth : Method} {c : Code} {T : State} {locs : List Loc} {cells slots : Nat} {Z : State} {h h' : Heap}
theorem Sta_keep {C n d : String} {w : Value} {ws : List Addr} (F : Sta Z h C n d w) (K : Keep h h' ws) (q : ∀ x ∈ ws, ∀ cell : Cell, h[x]? = some cell → cell.vm.isStatics = false) : Sta Z h' C n d w := by
  obtain ⟨cf, i, k, f, st, cell, h1, h2, h3, h4, h5, h6, h7⟩ := F
  exact ⟨cf, i, k, f, st, cell, h1, h2, h3, h4, K.2.1 st cell h5 (fun z => by rw [q st z cell h5] at h6; cases h6), h6, h7⟩
theorem own_bits (X : Stand p l e R s m args below meth c T locs cells slots) (hx : p.tables.exec = Jvm.exec) (hZ : Z.Warmed39 s.vm) {a0 : Array Value} {own : String} {index : Nat} (hown : s.vm.findClass own = some m.cls)
    (w1 : (Cond.methodLink own index Jvm.Free.NT.doubleBitsN).before a0 Z = true) (w2 : (Cond.static Jvm.Free.NT.doubleBitsN).before a0 Z = true) (w3 : (Cond.initialized "java/lang/Double").before a0 Z = true) (w4 : (Cond.native Jvm.Free.NT.doubleBitsN).before a0 Z = true)
    (eT : T.heap = h) {g : JFrame} (hg : g.method = m) (hsize : g.locals.size = c.maxLocals) {b : UInt64} {rest : List Value} (hst : g.stack = .double b :: rest) {W : Nat} (hW : 2 * g.monitorRoom + (rest.map fun v => v.category).sum ≤ W)
    (hd : decode c.code g.pc = .ok (.invokestatic index, 3)) (hf : 1 ≤ R.frames) (hlo : W + 15 ≤ R.locals) :
    ∃ T', Stand p l e R s m args below meth c T' locs cells slots ∧ T'.heap = h ∧ ∀ target, Steps p.tables e below (T'.setTop { g with pc := g.pc + 3, stack := .long b.toInt64 :: rest }) target → Steps p.tables e below (T.setTop g) target := by
  have c4 : (Cond.native Jvm.Free.NT.doubleBitsN).before args s = true := mvT hZ w4
  obtain ⟨mk, methM, hnamed, hmethM, -, -, -, hsigM⟩ := Cond.native_spec c4
  obtain ⟨v, vm1, B, hW1, X', ⟨hB, hv1⟩, st⟩ := Stand.staticBack (args := args) X hx hown (mvT hZ w1) (mvT hZ w2) (mvT hZ w3) hnamed hmethM hsigM (by decide) (Jvm.Free.NT.DoubleBits.pays (W := W) c4 (mvT hZ w2) hf hlo) hg hsize (Steps.refl _) (argsL := [.double b]) (rest := rest) (fun sig hs => by rw [show parseMethodDescriptor Jvm.Free.NT.doubleBitsN.desc = some ⟨[.double], some .long⟩ by decide +kernel] at hs; cases hs; rfl) hst hW hd (fun vm1 _ => ⟨b, rfl⟩)
  have hv2 := hv1 b rfl
  subst hv2 hB
  exact ⟨_, X', eT, fun target k => st.trans k⟩
end Own
end Jvm.RoadKit
namespace Jvm.Pilot.@@N@@
open Jvm Jvm.ClassFile Sem Op Lib Jvm.Free Jvm.Stand Jvm.LawKit Jvm.RoadKit Bundle Jvm.Free.Fl Jvm.Pilot.@@N@@.Jvm.D
theorem own_hwS {Z : State} {a0 : Array Value} (hw : ∀ d ∈ tables_1, d.before a0 Z = true) : ∀ a ∈ Bundle.stringAtoms, a.before a0 Z = true := by
  intro a ha
  simp only [Bundle.stringAtoms, List.mem_cons, List.not_mem_nil, or_false] at ha
  rcases ha with rfl | rfl | rfl | rfl | rfl | rfl | rfl
  · exact (hw _ (List.mem_of_getElem? (i := 7) rfl))
  · exact (hw _ (List.mem_of_getElem? (i := 15) rfl))
  · exact (hw _ (List.mem_of_getElem? (i := 19) rfl))
  · exact (hw _ (List.mem_of_getElem? (i := 28) rfl))
  · exact (hw _ (List.mem_of_getElem? (i := 30) rfl))
  · exact (hw _ (List.mem_of_getElem? (i := 41) rfl))
  · exact (hw _ (List.mem_of_getElem? (i := 42) rfl))
theorem d0_0 : decode jdk_43_method_3_code 0 = .ok (.iload_n 0, 1) := by decide +kernel
theorem d0_1 : decode jdk_43_method_3_code 1 = .ok (.sipush 255, 3) := by decide +kernel
theorem d0_4 : decode jdk_43_method_3_code 4 = .ok (.if_icmp .gt 7, 3) := by decide +kernel
theorem d0_7 : decode jdk_43_method_3_code 7 = .ok (.iconst 1, 1) := by decide +kernel
theorem d0_8 : decode jdk_43_method_3_code 8 = .ok (.goto 4, 3) := by decide +kernel
theorem d0_12 : decode jdk_43_method_3_code 12 = .ok (.ireturn, 1) := by decide +kernel
theorem pn_0 : plainName "java/lang/StringLatin1" = true := by first | (simp [plainName, overriddenIn]; done) | decide +kernel
def Q_rmCE (Z : State) (p0 : Int32) (h0 : Heap) (n0 : Nat) (v : Option Value) (h : Heap) (L : List Loc) : Prop := v = some (.int (1 : Int32)) ∧ Fr n0 L ∧ h = h0
theorem ef_rmCE (m : MethodId) (p0 : Int32) : entryFrame m #[(.int p0)] 1 = mkF m 0 #[.val (.int p0)] [] := by first | (simp [entryFrame, mkF, argsToLocals, Value.category]; done) | rfl
set_option maxRecDepth 65536 in
set_option maxHeartbeats 40000000 in
theorem rmCE (l : Launch) (Z : State) (a0 : Array Value) (hw : ∀ d ∈ tables_1, d.before a0 Z = true) (ws : List Jvm.Cond) (p0 : Int32) (h0 : Heap) (n0 : Nat) (Z0 : n0 ≤ h0.size) (hc4 : ¬ ((255 : Int32) < p0)) :
    MetFree l (⟨"java/lang/StringLatin1", "canEncode", "(C)Z"⟩ : MethodName) (head1 (Jvm.Cond.code (⟨"java/lang/StringLatin1", "canEncode", "(C)Z"⟩ : MethodName) jdk_43_method_3_code 1 (some .boolean) :: ws) ({ frames := 0, cells := 0, slots := 0, locals := 0 } : Room)) (fun a U => a = #[(.int p0)] ∧ Z.Warmed39 U.vm ∧ U.heap = h0) (fun _ _ _ _ _ => True) (fun _ U o U' => ∃ v L, o = .returned v ∧ Q_rmCE Z p0 h0 n0 v U'.heap L ∧ FrameEnd U o U' L ({ frames := 0, cells := 0, slots := 0, locals := 0 } : Room).cells ({ frames := 0, cells := 0, slots := 0, locals := 0 } : Room).slots) := by
  refine MetFree.of_bodySF (plainFor_of_name pn_0) hisR ?_
  intro p e s m args below meth c s₁ Bd hml0 hP hK
  obtain ⟨rfl, hZ, hh⟩ := hP
  have hx := Bd.exec
  have hby := Bd.bytes
  have hml : c.maxLocals = 1 := hml0
  have hown : s.vm.findClass "java/lang/StringLatin1" = some m.cls := findClass_of_methodNamed Bd.named
  have hnm := (name_of_methodNamed Bd.named Bd.method).1
  have X0 : Stand p l e ({ frames := 0, cells := 0, slots := 0, locals := 0 } : Room) s m #[(.int p0)] below meth c s₁ [] 0 0 := Stand.of_body Bd
  have e0 : s₁.heap = h0 := by rw [← hh, Bd.state]; rfl
  have N0 := Fr.nil n0
  have pre0 : ∀ t, Steps p.tables e below (s₁.setTop (mkF m 0 #[.val (.int p0)] [])) t → Steps p.tables e below (s₁.setTop (entryFrame m #[(.int p0)] 1)) t := fun t k => castTop (ef_rmCE m p0) k
  obtain ⟨fs, hr, hrun, hended, hW, hsame⟩ := X0.leave (v := some (.int (1 : Int32))) (fun h => by rw [Bd.returns] at h; cases h)
  refine ⟨_, _, pre0 _ ?_, hrun, hended, _, _, rfl, ?_, ⟨_, rfl⟩, hW, hsame.mono (by decide) (by decide)⟩
  · show Steps p.tables e below (s₁.setTop (mkF m 0 #[.val (.int p0)] [])) _
    refine XS.iloadN X0.here hx rfl (hb hby d0_0) rfl ?_
    show Steps p.tables e below (s₁.setTop (mkF m 1 #[.val (.int p0)] [(.int p0)])) _
    refine XS.sipush X0.here hx rfl (hb hby d0_1) ?_
    show Steps p.tables e below (s₁.setTop (mkF m 4 #[.val (.int p0)] [(.int (255 : Int32)), (.int p0)])) _
    refine XS.icmpNo X0.here hx rfl (hb hby d0_4) rfl (flt hc4).2.2.1 ?_
    show Steps p.tables e below (s₁.setTop (mkF m 7 #[.val (.int p0)] [])) _
    refine XS.iconst X0.here hx rfl (hb hby d0_7) ?_
    show Steps p.tables e below (s₁.setTop (mkF m 8 #[.val (.int p0)] [(.int (1 : Int32))])) _
    refine XS.goto X0.here hx rfl (pc0 := 8) (pc' := 12) rfl (hb hby d0_8) (by decide) (by decide) ?_
    show Steps p.tables e below (s₁.setTop (mkF m 12 #[.val (.int p0)] [(.int (1 : Int32))])) _
    exact retN X0 hx (t := .boolean) Bd.returns (by simp) (hb hby d0_12) hr
  · show Q_rmCE Z p0 h0 n0 _ s₁.heap _
    rw [e0]
    exact ⟨rfl, N0, rfl⟩
theorem d1_0 : decode jdk_43_method_46_code 0 = .ok (.iconst 1, 1) := by decide +kernel
theorem d1_1 : decode jdk_43_method_46_code 1 = .ok (.newarray .byte, 2) := by decide +kernel
theorem d1_3 : decode jdk_43_method_46_code 3 = .ok (.dup, 1) := by decide +kernel
theorem d1_4 : decode jdk_43_method_46_code 4 = .ok (.iconst 0, 1) := by decide +kernel
theorem d1_5 : decode jdk_43_method_46_code 5 = .ok (.iload_n 0, 1) := by decide +kernel
theorem d1_6 : decode jdk_43_method_46_code 6 = .ok (.i2b, 1) := by decide +kernel
theorem d1_7 : decode jdk_43_method_46_code 7 = .ok (.bastore, 1) := by decide +kernel
theorem d1_8 : decode jdk_43_method_46_code 8 = .ok (.areturn, 1) := by decide +kernel
def Q_rmTB (Z : State) (p0 : Int32) (h0 : Heap) (n0 : Nat) (v : Option Value) (h : Heap) (L : List Loc) : Prop := ∃ nb : Addr, ∃ kb : ClassId, v = some (.ref nb) ∧ Fr n0 L ∧ h0.size ≤ nb ∧ Keep h0 h [] ∧ Arv Z h nb kb .byte (1 : Int32) [(.int (nar .byte (p0.toInt8.toInt32)))] (.int (0 : Int32))
theorem ef_rmTB (m : MethodId) (p0 : Int32) : entryFrame m #[(.int p0)] 1 = mkF m 0 #[.val (.int p0)] [] := by first | (simp [entryFrame, mkF, argsToLocals, Value.category]; done) | rfl
set_option maxRecDepth 65536 in
set_option maxHeartbeats 40000000 in
theorem rmTB (l : Launch) (Z : State) (a0 : Array Value) (hw : ∀ d ∈ tables_1, d.before a0 Z = true) (ws : List Jvm.Cond) (p0 : Int32) (h0 : Heap) (n0 : Nat) (Z0 : n0 ≤ h0.size) :
    MetFree l (⟨"java/lang/StringLatin1", "toBytes", "(C)[B"⟩ : MethodName) (head1 (Jvm.Cond.code (⟨"java/lang/StringLatin1", "toBytes", "(C)[B"⟩ : MethodName) jdk_43_method_46_code 1 (some (.array .byte)) :: ws) ({ frames := 0, cells := 1, slots := 1, locals := 0 } : Room)) (fun a U => a = #[(.int p0)] ∧ Z.Warmed39 U.vm ∧ U.heap = h0) (fun _ _ _ _ _ => True) (fun _ U o U' => ∃ v L, o = .returned v ∧ Q_rmTB Z p0 h0 n0 v U'.heap L ∧ FrameEnd U o U' L ({ frames := 0, cells := 1, slots := 1, locals := 0 } : Room).cells ({ frames := 0, cells := 1, slots := 1, locals := 0 } : Room).slots) := by
  refine MetFree.of_bodySF (plainFor_of_name pn_0) hisR ?_
  intro p e s m args below meth c s₁ Bd hml0 hP hK
  obtain ⟨rfl, hZ, hh⟩ := hP
  have hx := Bd.exec
  have hby := Bd.bytes
  have hml : c.maxLocals = 1 := hml0
  have hown : s.vm.findClass "java/lang/StringLatin1" = some m.cls := findClass_of_methodNamed Bd.named
  have hnm := (name_of_methodNamed Bd.named Bd.method).1
  have X0 : Stand p l e ({ frames := 0, cells := 1, slots := 1, locals := 0 } : Room) s m #[(.int p0)] below meth c s₁ [] 0 0 := Stand.of_body Bd
  have e0 : s₁.heap = h0 := by rw [← hh, Bd.state]; rfl
  have N0 := Fr.nil n0
  have pre0 : ∀ t, Steps p.tables e below (s₁.setTop (mkF m 0 #[.val (.int p0)] [])) t → Steps p.tables e below (s₁.setTop (entryFrame m #[(.int p0)] 1)) t := fun t k => castTop (ef_rmTB m p0) k
  obtain ⟨T1, h1, k1, X1, e1, E1, A1, st1⟩ := newP X0 hx hZ (hw _ (List.mem_of_getElem? (i := 19) rfl)) e0 (g := (mkF m 1 #[.val (.int p0)] [(.int (1 : Int32))])) rfl (hb hby d1_1) rfl (by decide) (cap := 1) (by decide) (by decide) (by decide) (by decide)
  obtain ⟨b1, g1⟩ : ∃ z, z = h0.size := ⟨_, rfl⟩
  rw [← g1] at A1 st1
  have V1 : Arv Z h1 b1 k1 .byte (1 : Int32) [(.int (0 : Int32))] (.int (0 : Int32)) := (Arv.new A1 (by decide)).pad (pad_rep [] (.int (0 : Int32)) 1)
  have Vc2 := V1
  obtain ⟨cl2, Ar2, q2, S2, M2, H2, G2⟩ := Vc2
  have hin2 : ¬ ((0 : Int32) < 0 ∨ cl2.slots.size ≤ ((0 : Int32)).toNatClampNeg) := inb_of S2 ⟨by decide, by decide⟩
  obtain ⟨T2, h2, X2, e2, W2, st2⟩ := stB X1 hx hZ e1 Ar2 (j := (0 : Int32)) hin2 (g := (mkF m 7 #[.val (.int p0)] [(.int (p0.toInt8.toInt32)), (.int (0 : Int32)), (.ref b1), (.ref b1)])) rfl rfl (hb hby d1_7)
  have V2 : Arv Z h2 b1 k1 .byte (1 : Int32) [(.int (nar .byte (p0.toInt8.toInt32)))] (.int (0 : Int32)) := Arv.set Ar2 q2 S2 M2 H2 G2 (fits_nar_byte _) W2 0 rfl (Nat.le_of_ble_eq_true rfl)
  have N2 := Fr.snoc X2 N0 (Nat.le_trans Z0 (Nat.le_of_eq g1.symm))
  obtain ⟨fs, hr, hrun, hended, hW, hsame⟩ := X2.leave (v := some (.ref b1)) (fun h => by rw [Bd.returns] at h; cases h)
  refine ⟨_, _, pre0 _ ?_, hrun, hended, _, _, rfl, ?_, ⟨_, rfl⟩, hW, hsame.mono (by decide) (by decide)⟩
  · show Steps p.tables e below (s₁.setTop (mkF m 0 #[.val (.int p0)] [])) _
    refine XS.iconst X0.here hx rfl (hb hby d1_0) ?_
    show Steps p.tables e below (s₁.setTop (mkF m 1 #[.val (.int p0)] [(.int (1 : Int32))])) _
    refine st1 _ ?_
    show Steps p.tables e below (T1.setTop (mkF m 3 #[.val (.int p0)] [(.ref b1)])) _
    refine XS.dup X1.here hx rfl (hb hby d1_3) rfl rfl ?_
    show Steps p.tables e below (T1.setTop (mkF m 4 #[.val (.int p0)] [(.ref b1), (.ref b1)])) _
    refine XS.iconst X1.here hx rfl (hb hby d1_4) ?_
    show Steps p.tables e below (T1.setTop (mkF m 5 #[.val (.int p0)] [(.int (0 : Int32)), (.ref b1), (.ref b1)])) _
    refine XS.iloadN X1.here hx rfl (hb hby d1_5) rfl ?_
    show Steps p.tables e below (T1.setTop (mkF m 6 #[.val (.int p0)] [(.int p0), (.int (0 : Int32)), (.ref b1), (.ref b1)])) _
    refine XS.i2b X1.here hx rfl (hb hby d1_6) rfl ?_
    show Steps p.tables e below (T1.setTop (mkF m 7 #[.val (.int p0)] [(.int (p0.toInt8.toInt32)), (.int (0 : Int32)), (.ref b1), (.ref b1)])) _
    refine st2 _ ?_
    show Steps p.tables e below (T2.setTop (mkF m 8 #[.val (.int p0)] [(.ref b1)])) _
    exact retOut X2 hx Bd.returns rfl (Or.inr (Or.inr (Or.inr (Or.inr ⟨rfl, rfl, rfl⟩)))) (hb hby d1_8) hr
  · show Q_rmTB Z p0 h0 n0 _ T2.heap _
    rw [e2]
    exact ⟨b1, k1, rfl, N2, (Nat.le_trans (Nat.le_refl h0.size) (Nat.le_of_eq g1.symm)), (((Keep.refl h0 []).ext E1).wr W2 (Or.inr (Nat.le_trans (Nat.le_refl h0.size) (Nat.le_of_eq g1.symm)))), V2⟩
theorem d2_0 : decode jdk_42_method_151_code 0 = .ok (.aload_n 0, 1) := by decide +kernel
theorem d2_1 : decode jdk_42_method_151_code 1 = .ok (.invokespecial 1, 3) := by decide +kernel
theorem d2_4 : decode jdk_42_method_151_code 4 = .ok (.aload_n 0, 1) := by decide +kernel
theorem d2_5 : decode jdk_42_method_151_code 5 = .ok (.aload_n 1, 1) := by decide +kernel
theorem d2_6 : decode jdk_42_method_151_code 6 = .ok (.putfield 9, 3) := by decide +kernel
theorem d2_9 : decode jdk_42_method_151_code 9 = .ok (.aload_n 0, 1) := by decide +kernel
theorem d2_10 : decode jdk_42_method_151_code 10 = .ok (.iload_n 2, 1) := by decide +kernel
theorem d2_11 : decode jdk_42_method_151_code 11 = .ok (.putfield 15, 3) := by decide +kernel
theorem d2_14 : decode jdk_42_method_151_code 14 = .ok (.return_, 1) := by decide +kernel
theorem pn_1 : plainName "java/lang/String" = true := by first | (simp [plainName, overriddenIn]; done) | decide +kernel
def Q_rmSI (Z : State) (ob : Addr) (ar : Addr) (p2 : Int32) (u_value_ob : Value) (u_coder_ob : Value) (h0 : Heap) (n0 : Nat) (v : Option Value) (h : Heap) (L : List Loc) : Prop := v = none ∧ Fr n0 L ∧ Keep h0 h [ob] ∧ Exa Z h ob "java/lang/String" ∧ Fld Z h ob "java/lang/String" "value" "[B" (.ref ar) ∧ Fld Z h ob "java/lang/String" "coder" "B" (.int (nar .byte p2))
theorem ef_rmSI (m : MethodId) (ob : Addr) (ar : Addr) (p2 : Int32) : entryFrame m #[(.ref ob), (.ref ar), (.int p2)] 3 = mkF m 0 #[.val (.ref ob), .val (.ref ar), .val (.int p2)] [] := by first | (simp [entryFrame, mkF, argsToLocals, Value.category]; done) | rfl
set_option maxRecDepth 65536 in
set_option maxHeartbeats 40000000 in
theorem rmSI (l : Launch) (Z : State) (a0 : Array Value) (hw : ∀ d ∈ tables_1, d.before a0 Z = true) (ws : List Jvm.Cond) (ob : Addr) (ar : Addr) (p2 : Int32) (u_value_ob : Value) (u_coder_ob : Value) (h0 : Heap) (n0 : Nat) (Z0 : n0 ≤ h0.size) (F_value_ob : Fld Z h0 ob "java/lang/String" "value" "[B" u_value_ob) (E_ob : Exa Z h0 ob "java/lang/String") (g_ob : n0 ≤ ob) (F_coder_ob : Fld Z h0 ob "java/lang/String" "coder" "B" u_coder_ob) :
    MetFree l (⟨"java/lang/String", "<init>", "([BB)V"⟩ : MethodName) (head1 (Jvm.Cond.code (⟨"java/lang/String", "<init>", "([BB)V"⟩ : MethodName) jdk_42_method_151_code 3 none :: ws) ({ frames := 1, cells := 0, slots := 0, locals := 12 } : Room)) (fun a U => a = #[(.ref ob), (.ref ar), (.int p2)] ∧ Z.Warmed39 U.vm ∧ U.heap = h0) (fun _ _ _ _ _ => True) (fun _ U o U' => ∃ v L, o = .returned v ∧ Q_rmSI Z ob ar p2 u_value_ob u_coder_ob h0 n0 v U'.heap L ∧ FrameEnd U o U' L ({ frames := 1, cells := 0, slots := 0, locals := 12 } : Room).cells ({ frames := 1, cells := 0, slots := 0, locals := 12 } : Room).slots) := by
  refine MetFree.of_bodySF (plainFor_of_name pn_1) hisR ?_
  intro p e s m args below meth c s₁ Bd hml0 hP hK
  obtain ⟨rfl, hZ, hh⟩ := hP
  have hx := Bd.exec
  have hby := Bd.bytes
  have hml : c.maxLocals = 3 := hml0
  have hown : s.vm.findClass "java/lang/String" = some m.cls := findClass_of_methodNamed Bd.named
  have hnm := (name_of_methodNamed Bd.named Bd.method).1
  have X0 : Stand p l e ({ frames := 1, cells := 0, slots := 0, locals := 12 } : Room) s m #[(.ref ob), (.ref ar), (.int p2)] below meth c s₁ [] 0 0 := Stand.of_body Bd
  have e0 : s₁.heap = h0 := by rw [← hh, Bd.state]; rfl
  have N0 := Fr.nil n0
  have pre0 : ∀ t, Steps p.tables e below (s₁.setTop (mkF m 0 #[.val (.ref ob), .val (.ref ar), .val (.int p2)] [])) t → Steps p.tables e below (s₁.setTop (entryFrame m #[(.ref ob), (.ref ar), (.int p2)] 3)) t := fun t k => castTop (ef_rmSI m ob ar p2) k
  obtain ⟨T1, X1, e1, st1⟩ := initO X0 hx hZ hown (hw _ (List.mem_of_getElem? (i := 24) rfl)) (hw _ (List.mem_of_getElem? (i := 25) rfl)) (hw _ (List.mem_of_getElem? (i := 26) rfl)) e0 (g := (mkF m 1 #[.val (.ref ob), .val (.ref ar), .val (.int p2)] [(.ref ob)])) rfl (by rw [hml]; rfl) rfl (hb hby d2_1) (by decide) (W := 0) (by show 2 * 0 + _ ≤ _; exact Nat.le_of_eq rfl) (by decide)
  obtain ⟨T2, h2, X2, e2, W2, st2⟩ := putF X1 hx hZ hown (host := "") (Or.inl (hw _ (List.mem_of_getElem? (i := 27) rfl))) Via.refl e1 F_value_ob E_ob (Or.inr ⟨(hw _ (List.mem_of_getElem? (i := 28) rfl)), rfl, hnm⟩) (hw _ (List.mem_of_getElem? (i := 15) rfl)) (ty := (.array .byte)) (by decide) rfl rfl (g := (mkF m 6 #[.val (.ref ob), .val (.ref ar), .val (.int p2)] [(.ref ar), (.ref ob)])) rfl rfl (hb hby d2_6)
  have Fw2 := F_value_ob.same W2
  have N2 := Fr.snoc X2 N0 g_ob
  have f3 : Fld Z h2 ob "java/lang/String" "coder" "B" u_coder_ob := (F_coder_ob.other W2 (Or.inr (slot_ne (Or.inr (hw _ (List.mem_of_getElem? (i := 30) rfl))) (Or.inr (hw _ (List.mem_of_getElem? (i := 28) rfl))) (by decide) (t := .byte) (t' := (.array .byte)) (by decide) (by decide))))
  have f4 : Exa Z h2 ob "java/lang/String" := (E_ob.wr W2)
  obtain ⟨T5, h5, X5, e5, W5, st5⟩ := putFN X2 hx hZ hown (hw _ (List.mem_of_getElem? (i := 29) rfl)) Via.refl e2 f3 f4 (Or.inr ⟨(hw _ (List.mem_of_getElem? (i := 30) rfl)), rfl, hnm⟩) (hw _ (List.mem_of_getElem? (i := 15) rfl)) (ty := .byte) (v' := (.int (nar .byte p2))) (by decide) rfl (fits_nar_byte _) (g := (mkF m 11 #[.val (.ref ob), .val (.ref ar), .val (.int p2)] [(.int p2), (.ref ob)])) rfl rfl (hb hby d2_11)
  have Fw5 := f3.same W5
  have N5 := Fr.snoc X5 N2 g_ob
  have f6 : Exa Z h5 ob "java/lang/String" := (f4.wr W5)
  have f7 : Fld Z h5 ob "java/lang/String" "value" "[B" (.ref ar) := (Fw2.other W5 (Or.inr (slot_ne (Or.inr (hw _ (List.mem_of_getElem? (i := 28) rfl))) (Or.inr (hw _ (List.mem_of_getElem? (i := 30) rfl))) (by decide) (t := (.array .byte)) (t' := .byte) (by decide) (by decide))))
  obtain ⟨fs, hr, hrun, hended, hW, hsame⟩ := X5.leave (v := none) (fun _ => rfl)
  refine ⟨_, _, pre0 _ ?_, hrun, hended, _, _, rfl, ?_, ⟨_, rfl⟩, hW, hsame.mono (by decide) (by decide)⟩
  · show Steps p.tables e below (s₁.setTop (mkF m 0 #[.val (.ref ob), .val (.ref ar), .val (.int p2)] [])) _
    refine XS.aloadN X0.here hx rfl (hb hby d2_0) rfl rfl ?_
    show Steps p.tables e below (s₁.setTop (mkF m 1 #[.val (.ref ob), .val (.ref ar), .val (.int p2)] [(.ref ob)])) _
    refine st1 _ ?_
    show Steps p.tables e below (T1.setTop (mkF m 4 #[.val (.ref ob), .val (.ref ar), .val (.int p2)] [])) _
    refine XS.aloadN X1.here hx rfl (hb hby d2_4) rfl rfl ?_
    show Steps p.tables e below (T1.setTop (mkF m 5 #[.val (.ref ob), .val (.ref ar), .val (.int p2)] [(.ref ob)])) _
    refine XS.aloadN X1.here hx rfl (hb hby d2_5) rfl rfl ?_
    show Steps p.tables e below (T1.setTop (mkF m 6 #[.val (.ref ob), .val (.ref ar), .val (.int p2)] [(.ref ar), (.ref ob)])) _
    refine st2 _ ?_
    show Steps p.tables e below (T2.setTop (mkF m 9 #[.val (.ref ob), .val (.ref ar), .val (.int p2)] [])) _
    refine XS.aloadN X2.here hx rfl (hb hby d2_9) rfl rfl ?_
    show Steps p.tables e below (T2.setTop (mkF m 10 #[.val (.ref ob), .val (.ref ar), .val (.int p2)] [(.ref ob)])) _
    refine XS.iloadN X2.here hx rfl (hb hby d2_10) rfl ?_
    show Steps p.tables e below (T2.setTop (mkF m 11 #[.val (.ref ob), .val (.ref ar), .val (.int p2)] [(.int p2), (.ref ob)])) _
    refine st5 _ ?_
    show Steps p.tables e below (T5.setTop (mkF m 14 #[.val (.ref ob), .val (.ref ar), .val (.int p2)] [])) _
    exact X5.returnOut hx Bd.returns (hb hby d2_14) hr
  · show Q_rmSI Z ob ar p2 u_value_ob u_coder_ob h0 n0 _ T5.heap _
    rw [e5]
    exact ⟨rfl, N5, (((Keep.refl h0 [ob]).wr W2 (Or.inl (List.mem_of_getElem? (i := 0) rfl))).wr W5 (Or.inl (List.mem_of_getElem? (i := 0) rfl))), f6, f7, Fw5⟩
theorem d3_0 : decode jdk_42_method_139_code 0 = .ok (.getstatic 38, 3) := by decide +kernel
theorem d3_3 : decode jdk_42_method_139_code 3 = .ok (.ifCond .eq 23, 3) := by decide +kernel
theorem d3_6 : decode jdk_42_method_139_code 6 = .ok (.iload_n 0, 1) := by decide +kernel
theorem d3_7 : decode jdk_42_method_139_code 7 = .ok (.invokestatic 1015, 3) := by decide +kernel
theorem pd_0 : parseMethodDescriptor "(C)Z" = some ⟨[.char], some .boolean⟩ := by decide +kernel
theorem d3_10 : decode jdk_42_method_139_code 10 = .ok (.ifCond .eq 16, 3) := by decide +kernel
theorem d3_13 : decode jdk_42_method_139_code 13 = .ok (.new 10, 3) := by decide +kernel
theorem d3_16 : decode jdk_42_method_139_code 16 = .ok (.dup, 1) := by decide +kernel
theorem d3_17 : decode jdk_42_method_139_code 17 = .ok (.iload_n 0, 1) := by decide +kernel
theorem d3_18 : decode jdk_42_method_139_code 18 = .ok (.invokestatic 1018, 3) := by decide +kernel
theorem pd_1 : parseMethodDescriptor "(C)[B" = some ⟨[.char], some (.array .byte)⟩ := by decide +kernel
theorem d3_21 : decode jdk_42_method_139_code 21 = .ok (.iconst 0, 1) := by decide +kernel
theorem d3_22 : decode jdk_42_method_139_code 22 = .ok (.invokespecial 209, 3) := by decide +kernel
theorem pd_2 : parseMethodDescriptor "([BB)V" = some ⟨[(.array .byte), .byte], none⟩ := by decide +kernel
theorem d3_25 : decode jdk_42_method_139_code 25 = .ok (.areturn, 1) := by decide +kernel
def Q_rmVO (Z : State) (p0 : Int32) (s_COMPACT_STRINGS : Int32) (h0 : Heap) (n0 : Nat) (v : Option Value) (h : Heap) (L : List Loc) : Prop := ∃ nb : Addr, ∃ ab : Addr, ∃ kb : ClassId, v = some (.ref nb) ∧ Fr n0 L ∧ h0.size ≤ nb ∧ h0.size ≤ ab ∧ Keep h0 h [] ∧ Exa Z h nb "java/lang/String" ∧ Fld Z h nb "java/lang/String" "value" "[B" (.ref ab) ∧ Arv Z h ab kb .byte (1 : Int32) [(.int (nar .byte (p0.toInt8.toInt32)))] (.int (0 : Int32))
theorem ef_rmVO (m : MethodId) (p0 : Int32) : entryFrame m #[(.int p0)] 1 = mkF m 0 #[.val (.int p0)] [] := by first | (simp [entryFrame, mkF, argsToLocals, Value.category]; done) | rfl
set_option maxRecDepth 65536 in
set_option maxHeartbeats 40000000 in
theorem rmVO (l : Launch) (Z : State) (a0 : Array Value) (hw : ∀ d ∈ tables_1, d.before a0 Z = true) (ws : List Jvm.Cond) (p0 : Int32) (s_COMPACT_STRINGS : Int32) (h0 : Heap) (n0 : Nat) (Z0 : n0 ≤ h0.size) (h255 : ¬ ((255 : Int32) < p0)) (S_COMPACT_STRINGS : Sta Z h0 "java/lang/String" "COMPACT_STRINGS" "Z" (.int s_COMPACT_STRINGS)) (hc3 : ¬ (s_COMPACT_STRINGS = (0 : Int32))) :
    MetFree l (⟨"java/lang/String", "valueOf", "(C)Ljava/lang/String;"⟩ : MethodName) (head1 (Jvm.Cond.code (⟨"java/lang/String", "valueOf", "(C)Ljava/lang/String;"⟩ : MethodName) jdk_42_method_139_code 1 (some (.object "java/lang/String")) :: ws) ({ frames := 2, cells := 2, slots := 5, locals := 27 } : Room)) (fun a U => a = #[(.int p0)] ∧ Z.Warmed39 U.vm ∧ U.heap = h0) (fun _ _ _ _ _ => True) (fun _ U o U' => ∃ v L, o = .returned v ∧ Q_rmVO Z p0 s_COMPACT_STRINGS h0 n0 v U'.heap L ∧ FrameEnd U o U' L ({ frames := 2, cells := 2, slots := 5, locals := 27 } : Room).cells ({ frames := 2, cells := 2, slots := 5, locals := 27 } : Room).slots) := by
  refine MetFree.of_bodySF (plainFor_of_name pn_1) hisR ?_
  intro p e s m args below meth c s₁ Bd hml0 hP hK
  obtain ⟨rfl, hZ, hh⟩ := hP
  have hx := Bd.exec
  have hby := Bd.bytes
  have hml : c.maxLocals = 1 := hml0
  have hown : s.vm.findClass "java/lang/String" = some m.cls := findClass_of_methodNamed Bd.named
  have hnm := (name_of_methodNamed Bd.named Bd.method).1
  have X0 : Stand p l e ({ frames := 2, cells := 2, slots := 5, locals := 27 } : Room) s m #[(.int p0)] below meth c s₁ [] 0 0 := Stand.of_body Bd
  have e0 : s₁.heap = h0 := by rw [← hh, Bd.state]; rfl
  have N0 := Fr.nil n0
  have pre0 : ∀ t, Steps p.tables e below (s₁.setTop (mkF m 0 #[.val (.int p0)] [])) t → Steps p.tables e below (s₁.setTop (entryFrame m #[(.int p0)] 1)) t := fun t k => castTop (ef_rmVO m p0) k
  obtain ⟨T1, X1, e1, st1⟩ := getS2 X0 hx hZ hown (host := "") (Or.inl (hw _ (List.mem_of_getElem? (i := 9) rfl))) Via.refl e0 S_COMPACT_STRINGS (g := (mkF m 0 #[.val (.int p0)] [])) rfl (hb hby d3_0)
  obtain ⟨_, _, ⟨T2, L2, k2, n2⟩, -, X2, ⟨Lc2, hQ2, l2, y2, z2⟩, st2⟩ := Jvm.LawKit.callS X1 hx (y := (⟨"java/lang/StringLatin1", "canEncode", "(C)Z"⟩ : MethodName)) hown (mvT hZ (hw _ (List.mem_of_getElem? (i := 10) rfl))) (mvT hZ (hw _ (List.mem_of_getElem? (i := 11) rfl))) (mvT hZ (hw _ (List.mem_of_getElem? (i := 12) rfl))) (mvT hZ (hw _ (List.mem_of_getElem? (i := 13) rfl))) (by decide) (backOf (W := 0) (rmCE l Z a0 hw [] p0 h0 n0 Z0 h255) hZ (hw _ (List.mem_of_getElem? (i := 13) rfl)) (hw _ (List.mem_of_getElem? (i := 12) rfl)) (by decide) (by decide)) (g := (mkF m 7 #[.val (.int p0)] [(.int p0)])) rfl (by rw [hml]; rfl) (argsL := [(.int p0)]) (rest := []) (lenOf pd_0 rfl) rfl (by show 2 * 0 + _ ≤ _; exact Nat.le_of_eq rfl) (hb hby d3_7) (fun _ _ => ⟨rfl, e1, (by decide : 0 + 0 ≤ _), (by decide : 0 + 0 ≤ _)⟩)
  dsimp only [Pt.U, Pt.locs, Pt.cells, Pt.slots] at X2 l2 y2 z2 st2 hQ2
  subst l2 y2 z2
  obtain ⟨rfl, Nq2, e2⟩ := hQ2
  have N2 := Fr.app N0 Nq2
  obtain ⟨T3, h3, X3, e3, E3, A3, D3, -, st3⟩ := newO X2 hx hZ hown (hw _ (List.mem_of_getElem? (i := 14) rfl)) (hw _ (List.mem_of_getElem? (i := 15) rfl)) (hw _ (List.mem_of_getElem? (i := 7) rfl)) e2 (g := (mkF m 13 #[.val (.int p0)] [])) rfl (hb hby d3_13) (by decide) (by decide)
  obtain ⟨b3, g3⟩ : ∃ z, z = h0.size := ⟨_, rfl⟩
  rw [← g3] at A3 D3 st3
  have F3_2 : Fld Z h3 b3 "java/lang/String" "value" "[B" .null := D3 (Or.inr (hw _ (List.mem_of_getElem? (i := 28) rfl))) (ty := (.array .byte)) (by decide)
  have F3_3 : Fld Z h3 b3 "java/lang/String" "coder" "B" (.int (0 : Int32)) := D3 (Or.inr (hw _ (List.mem_of_getElem? (i := 30) rfl))) (ty := .byte) (by decide)
  obtain ⟨_, _, ⟨T4, L4, k4, n4⟩, -, X4, ⟨Lc4, hQ4, l4, y4, z4⟩, st4⟩ := Jvm.LawKit.callS X3 hx (y := (⟨"java/lang/StringLatin1", "toBytes", "(C)[B"⟩ : MethodName)) hown (mvT hZ (hw _ (List.mem_of_getElem? (i := 16) rfl))) (mvT hZ (hw _ (List.mem_of_getElem? (i := 17) rfl))) (mvT hZ (hw _ (List.mem_of_getElem? (i := 12) rfl))) (mvT hZ (hw _ (List.mem_of_getElem? (i := 18) rfl))) (by decide) (backOf (W := 2) (rmTB l Z a0 hw [] p0 h3 n0 (Nat.le_trans Z0 E3.1)) hZ (hw _ (List.mem_of_getElem? (i := 18) rfl)) (hw _ (List.mem_of_getElem? (i := 12) rfl)) (by decide) (by decide)) (g := (mkF m 18 #[.val (.int p0)] [(.int p0), (.ref b3), (.ref b3)])) rfl (by rw [hml]; rfl) (argsL := [(.int p0)]) (rest := [(.ref b3), (.ref b3)]) (lenOf pd_1 rfl) rfl (by show 2 * 0 + _ ≤ _; exact Nat.le_of_eq rfl) (hb hby d3_18) (fun _ _ => ⟨rfl, e3, (by decide : 1 + 1 ≤ _), (by decide : 4 + 1 ≤ _)⟩)
  dsimp only [Pt.U, Pt.locs, Pt.cells, Pt.slots] at X4 l4 y4 z4 st4 hQ4
  subst l4 y4 z4
  obtain ⟨nb_4, kb_4, rfl, Nq4, gb4_0, Kp4, Fq4_0⟩ := hQ4
  have N4 := Fr.app N2 Nq4
  have f6 : Fld Z T4.heap b3 "java/lang/String" "value" "[B" .null := (F3_2.keep Kp4 nin0)
  have f7 : Exa Z T4.heap b3 "java/lang/String" := (A3.keep Kp4)
  have f8 : Fld Z T4.heap b3 "java/lang/String" "coder" "B" (.int (0 : Int32)) := (F3_3.keep Kp4 nin0)
  obtain ⟨_, _, ⟨T5, L5, k5, n5⟩, -, X5, ⟨Lc5, hQ5, l5, y5, z5⟩, st5⟩ := X4.specialBack hx (y := (⟨"java/lang/String", "<init>", "([BB)V"⟩ : MethodName)) rfl hown (mvT hZ (hw _ (List.mem_of_getElem? (i := 20) rfl))) (mvT hZ (hw _ (List.mem_of_getElem? (i := 21) rfl))) (mvT hZ (hw _ (List.mem_of_getElem? (i := 23) rfl))) (by decide) (backOf (W := 1) (rmSI l Z a0 hw [] b3 nb_4 (0 : Int32) .null (.int (0 : Int32)) T4.heap n0 (Nat.le_trans (Nat.le_trans Z0 E3.1) Kp4.1) f6 f7 (Nat.le_trans Z0 (Nat.le_of_eq g3.symm)) f8) hZ (hw _ (List.mem_of_getElem? (i := 23) rfl)) (hw _ (List.mem_of_getElem? (i := 7) rfl)) (by decide) (by decide)) (g := (mkF m 22 #[.val (.int p0)] [(.int (0 : Int32)), (.ref nb_4), (.ref b3), (.ref b3)])) rfl (by rw [hml]; rfl) (Steps.refl _) (a := b3) (argsL := [(.ref nb_4), (.int (0 : Int32))]) (rest := [(.ref b3)]) (lenOf pd_2 rfl) rfl (by show 2 * 0 + _ ≤ _; exact Nat.le_of_eq rfl) (hb hby d3_22) (fun _ _ => ⟨rfl, rfl, (by decide : 2 + 0 ≤ _), (by decide : 5 + 0 ≤ _)⟩)
  dsimp only [Pt.U, Pt.locs, Pt.cells, Pt.slots] at X5 l5 y5 z5 st5 hQ5
  subst l5 y5 z5
  obtain ⟨rfl, Nq5, Kp5, Fq5_0, Fq5_1, Fq5_2⟩ := hQ5
  have N5 := Fr.app N4 Nq5
  have f9 : Arv Z T5.heap nb_4 kb_4 .byte (1 : Int32) [(.int (nar .byte (p0.toInt8.toInt32)))] (.int (0 : Int32)) := (Fq4_0.keep Kp5 (ninS (Ne.symm (Nat.ne_of_lt (Nat.lt_of_lt_of_le A3.lt gb4_0))) nin0))
  obtain ⟨fs, hr, hrun, hended, hW, hsame⟩ := X5.leave (v := some (.ref b3)) (fun h => by rw [Bd.returns] at h; cases h)
  refine ⟨_, _, pre0 _ ?_, hrun, hended, _, _, rfl, ?_, ⟨_, rfl⟩, hW, hsame.mono (by decide) (by decide)⟩
  · show Steps p.tables e below (s₁.setTop (mkF m 0 #[.val (.int p0)] [])) _
    refine st1 _ ?_
    show Steps p.tables e below (T1.setTop (mkF m 3 #[.val (.int p0)] [(.int s_COMPACT_STRINGS)])) _
    refine XS.ifNo X1.here hx rfl (hb hby d3_3) rfl ((if0 _ _).trans (feq hc3).1) ?_
    show Steps p.tables e below (T1.setTop (mkF m 6 #[.val (.int p0)] [])) _
    refine XS.iloadN X1.here hx rfl (hb hby d3_6) rfl ?_
    show Steps p.tables e below (T1.setTop (mkF m 7 #[.val (.int p0)] [(.int p0)])) _
    refine st2 _ ?_
    show Steps p.tables e below (T2.setTop (mkF m 10 #[.val (.int p0)] [(.int (1 : Int32))])) _
    refine XS.ifNo X2.here hx rfl (hb hby d3_10) rfl ((if0 _ _).trans (feq (by decide : ¬ ((1 : Int32) = (0 : Int32)))).1) ?_
    show Steps p.tables e below (T2.setTop (mkF m 13 #[.val (.int p0)] [])) _
    refine st3 _ ?_
    show Steps p.tables e below (T3.setTop (mkF m 16 #[.val (.int p0)] [(.ref b3)])) _
    refine XS.dup X3.here hx rfl (hb hby d3_16) rfl rfl ?_
    show Steps p.tables e below (T3.setTop (mkF m 17 #[.val (.int p0)] [(.ref b3), (.ref b3)])) _
    refine XS.iloadN X3.here hx rfl (hb hby d3_17) rfl ?_
    show Steps p.tables e below (T3.setTop (mkF m 18 #[.val (.int p0)] [(.int p0), (.ref b3), (.ref b3)])) _
    refine st4 _ ?_
    show Steps p.tables e below (T4.setTop (mkF m 21 #[.val (.int p0)] [(.ref nb_4), (.ref b3), (.ref b3)])) _
    refine XS.iconst X4.here hx rfl (hb hby d3_21) ?_
    show Steps p.tables e below (T4.setTop (mkF m 22 #[.val (.int p0)] [(.int (0 : Int32)), (.ref nb_4), (.ref b3), (.ref b3)])) _
    refine st5.trans ?_
    show Steps p.tables e below (T5.setTop (mkF m 25 #[.val (.int p0)] [(.ref b3)])) _
    exact retOut X5 hx Bd.returns rfl (Or.inr (Or.inr (Or.inr (Or.inr ⟨rfl, rfl, rfl⟩)))) (hb hby d3_25) hr
  · show Q_rmVO Z p0 s_COMPACT_STRINGS h0 n0 _ T5.heap _
    exact ⟨b3, nb_4, kb_4, rfl, N5, (Nat.le_trans (Nat.le_refl h0.size) (Nat.le_of_eq g3.symm)), (Nat.le_trans (Nat.le_trans (Nat.le_refl h0.size) E3.1) gb4_0), ((((Keep.refl h0 []).ext E3).trans Kp4 all0).trans Kp5 (allS (Or.inr (Nat.le_trans (Nat.le_refl h0.size) (Nat.le_of_eq g3.symm))) all0)), Fq5_0, Fq5_1, f9⟩
theorem d4_0 : decode jdk_30_method_1_code 0 = .ok (.aload_n 0, 1) := by decide +kernel
theorem d4_1 : decode jdk_30_method_1_code 1 = .ok (.invokespecial 1, 3) := by decide +kernel
theorem d4_4 : decode jdk_30_method_1_code 4 = .ok (.return_, 1) := by decide +kernel
theorem pn_2 : plainName "java/lang/Record" = true := by first | (simp [plainName, overriddenIn]; done) | decide +kernel
def Q_rmR (Z : State) (ob : Addr) (h0 : Heap) (n0 : Nat) (v : Option Value) (h : Heap) (L : List Loc) : Prop := v = none ∧ Fr n0 L ∧ h = h0
theorem ef_rmR (m : MethodId) (ob : Addr) : entryFrame m #[(.ref ob)] 1 = mkF m 0 #[.val (.ref ob)] [] := by first | (simp [entryFrame, mkF, argsToLocals, Value.category]; done) | rfl
set_option maxRecDepth 65536 in
set_option maxHeartbeats 40000000 in
theorem rmR (l : Launch) (Z : State) (a0 : Array Value) (hw : ∀ d ∈ tables_1, d.before a0 Z = true) (ws : List Jvm.Cond) (ob : Addr) (h0 : Heap) (n0 : Nat) (Z0 : n0 ≤ h0.size) :
    MetFree l (⟨"java/lang/Record", "<init>", "()V"⟩ : MethodName) (head1 (Jvm.Cond.code (⟨"java/lang/Record", "<init>", "()V"⟩ : MethodName) jdk_30_method_1_code 1 none :: ws) ({ frames := 1, cells := 0, slots := 0, locals := 12 } : Room)) (fun a U => a = #[(.ref ob)] ∧ Z.Warmed39 U.vm ∧ U.heap = h0) (fun _ _ _ _ _ => True) (fun _ U o U' => ∃ v L, o = .returned v ∧ Q_rmR Z ob h0 n0 v U'.heap L ∧ FrameEnd U o U' L ({ frames := 1, cells := 0, slots := 0, locals := 12 } : Room).cells ({ frames := 1, cells := 0, slots := 0, locals := 12 } : Room).slots) := by
  refine MetFree.of_bodySF (plainFor_of_name pn_2) hisR ?_
  intro p e s m args below meth c s₁ Bd hml0 hP hK
  obtain ⟨rfl, hZ, hh⟩ := hP
  have hx := Bd.exec
  have hby := Bd.bytes
  have hml : c.maxLocals = 1 := hml0
  have hown : s.vm.findClass "java/lang/Record" = some m.cls := findClass_of_methodNamed Bd.named
  have hnm := (name_of_methodNamed Bd.named Bd.method).1
  have X0 : Stand p l e ({ frames := 1, cells := 0, slots := 0, locals := 12 } : Room) s m #[(.ref ob)] below meth c s₁ [] 0 0 := Stand.of_body Bd
  have e0 : s₁.heap = h0 := by rw [← hh, Bd.state]; rfl
  have N0 := Fr.nil n0
  have pre0 : ∀ t, Steps p.tables e below (s₁.setTop (mkF m 0 #[.val (.ref ob)] [])) t → Steps p.tables e below (s₁.setTop (entryFrame m #[(.ref ob)] 1)) t := fun t k => castTop (ef_rmR m ob) k
  obtain ⟨T1, X1, e1, st1⟩ := initO X0 hx hZ hown (hw _ (List.mem_of_getElem? (i := 39) rfl)) (hw _ (List.mem_of_getElem? (i := 25) rfl)) (hw _ (List.mem_of_getElem? (i := 26) rfl)) e0 (g := (mkF m 1 #[.val (.ref ob)] [(.ref ob)])) rfl (by rw [hml]; rfl) rfl (hb hby d4_1) (by decide) (W := 0) (by show 2 * 0 + _ ≤ _; exact Nat.le_of_eq rfl) (by decide)
  obtain ⟨fs, hr, hrun, hended, hW, hsame⟩ := X1.leave (v := none) (fun _ => rfl)
  refine ⟨_, _, pre0 _ ?_, hrun, hended, _, _, rfl, ?_, ⟨_, rfl⟩, hW, hsame.mono (by decide) (by decide)⟩
  · show Steps p.tables e below (s₁.setTop (mkF m 0 #[.val (.ref ob)] [])) _
    refine XS.aloadN X0.here hx rfl (hb hby d4_0) rfl rfl ?_
    show Steps p.tables e below (s₁.setTop (mkF m 1 #[.val (.ref ob)] [(.ref ob)])) _
    refine st1 _ ?_
    show Steps p.tables e below (T1.setTop (mkF m 4 #[.val (.ref ob)] [])) _
    exact X1.returnOut hx Bd.returns (hb hby d4_4) hr
  · show Q_rmR Z ob h0 n0 _ T1.heap _
    rw [e1]
    exact ⟨rfl, N0, rfl⟩
theorem d5_0 : decode jdk_31_method_11_code 0 = .ok (.aload_n 0, 1) := by decide +kernel
theorem d5_1 : decode jdk_31_method_11_code 1 = .ok (.ifnonnull 12, 3) := by decide +kernel
theorem d5_13 : decode jdk_31_method_11_code 13 = .ok (.aload_n 0, 1) := by decide +kernel
theorem d5_14 : decode jdk_31_method_11_code 14 = .ok (.areturn, 1) := by decide +kernel
theorem pn_3 : plainName "java/util/Objects" = true := by first | (simp [plainName, overriddenIn]; done) | decide +kernel
def Q_rmNN (Z : State) (oa : Addr) (ob : Addr) (h0 : Heap) (n0 : Nat) (v : Option Value) (h : Heap) (L : List Loc) : Prop := v = some (.ref oa) ∧ Fr n0 L ∧ h = h0
theorem ef_rmNN (m : MethodId) (oa : Addr) (ob : Addr) : entryFrame m #[(.ref oa), (.ref ob)] 2 = mkF m 0 #[.val (.ref oa), .val (.ref ob)] [] := by first | (simp [entryFrame, mkF, argsToLocals, Value.category]; done) | rfl
set_option maxRecDepth 65536 in
set_option maxHeartbeats 40000000 in
theorem rmNN (l : Launch) (Z : State) (a0 : Array Value) (hw : ∀ d ∈ tables_1, d.before a0 Z = true) (ws : List Jvm.Cond) (oa : Addr) (ob : Addr) (h0 : Heap) (n0 : Nat) (Z0 : n0 ≤ h0.size) :
    MetFree l (⟨"java/util/Objects", "requireNonNull", "(Ljava/lang/Object;Ljava/lang/String;)Ljava/lang/Object;"⟩ : MethodName) (head1 (Jvm.Cond.code (⟨"java/util/Objects", "requireNonNull", "(Ljava/lang/Object;Ljava/lang/String;)Ljava/lang/Object;"⟩ : MethodName) jdk_31_method_11_code 2 (some (.object "java/lang/Object")) :: ws) ({ frames := 0, cells := 0, slots := 0, locals := 0 } : Room)) (fun a U => a = #[(.ref oa), (.ref ob)] ∧ Z.Warmed39 U.vm ∧ U.heap = h0) (fun _ _ _ _ _ => True) (fun _ U o U' => ∃ v L, o = .returned v ∧ Q_rmNN Z oa ob h0 n0 v U'.heap L ∧ FrameEnd U o U' L ({ frames := 0, cells := 0, slots := 0, locals := 0 } : Room).cells ({ frames := 0, cells := 0, slots := 0, locals := 0 } : Room).slots) := by
  refine MetFree.of_bodySF (plainFor_of_name pn_3) hisR ?_
  intro p e s m args below meth c s₁ Bd hml0 hP hK
  obtain ⟨rfl, hZ, hh⟩ := hP
  have hx := Bd.exec
  have hby := Bd.bytes
  have hml : c.maxLocals = 2 := hml0
  have hown : s.vm.findClass "java/util/Objects" = some m.cls := findClass_of_methodNamed Bd.named
  have hnm := (name_of_methodNamed Bd.named Bd.method).1
  have X0 : Stand p l e ({ frames := 0, cells := 0, slots := 0, locals := 0 } : Room) s m #[(.ref oa), (.ref ob)] below meth c s₁ [] 0 0 := Stand.of_body Bd
  have e0 : s₁.heap = h0 := by rw [← hh, Bd.state]; rfl
  have N0 := Fr.nil n0
  have pre0 : ∀ t, Steps p.tables e below (s₁.setTop (mkF m 0 #[.val (.ref oa), .val (.ref ob)] [])) t → Steps p.tables e below (s₁.setTop (entryFrame m #[(.ref oa), (.ref ob)] 2)) t := fun t k => castTop (ef_rmNN m oa ob) k
  obtain ⟨fs, hr, hrun, hended, hW, hsame⟩ := X0.leave (v := some (.ref oa)) (fun h => by rw [Bd.returns] at h; cases h)
  refine ⟨_, _, pre0 _ ?_, hrun, hended, _, _, rfl, ?_, ⟨_, rfl⟩, hW, hsame.mono (by decide) (by decide)⟩
  · show Steps p.tables e below (s₁.setTop (mkF m 0 #[.val (.ref oa), .val (.ref ob)] [])) _
    refine XS.aloadN X0.here hx rfl (hb hby d5_0) rfl rfl ?_
    show Steps p.tables e below (s₁.setTop (mkF m 1 #[.val (.ref oa), .val (.ref ob)] [(.ref oa)])) _
    refine XS.ifnonnullYes X0.here hx rfl (pc0 := 1) (pc' := 13) rfl (hb hby d5_1) rfl (by decide) (by decide) ?_
    show Steps p.tables e below (s₁.setTop (mkF m 13 #[.val (.ref oa), .val (.ref ob)] [])) _
    refine XS.aloadN X0.here hx rfl (hb hby d5_13) rfl rfl ?_
    show Steps p.tables e below (s₁.setTop (mkF m 14 #[.val (.ref oa), .val (.ref ob)] [(.ref oa)])) _
    exact retOut X0 hx Bd.returns rfl (Or.inr (Or.inr (Or.inr (Or.inr ⟨rfl, rfl, rfl⟩)))) (hb hby d5_14) hr
  · show Q_rmNN Z oa ob h0 n0 _ s₁.heap _
    rw [e0]
    exact ⟨rfl, N0, rfl⟩
theorem d6_0 : decode jdk_42_method_55_code 0 = .ok (.aload_n 0, 1) := by decide +kernel
theorem d6_1 : decode jdk_42_method_55_code 1 = .ok (.getfield 9, 3) := by decide +kernel
theorem d6_4 : decode jdk_42_method_55_code 4 = .ok (.arraylength, 1) := by decide +kernel
theorem d6_5 : decode jdk_42_method_55_code 5 = .ok (.ifCond .ne 7, 3) := by decide +kernel
theorem d6_12 : decode jdk_42_method_55_code 12 = .ok (.iconst 0, 1) := by decide +kernel
theorem d6_13 : decode jdk_42_method_55_code 13 = .ok (.ireturn, 1) := by decide +kernel
def Q_rmIE (Z : State) (ob : Addr) (va : Addr) (ka : ClassId) (vs : List Value) (h0 : Heap) (n0 : Nat) (v : Option Value) (h : Heap) (L : List Loc) : Prop := v = some (.int (0 : Int32)) ∧ Fr n0 L ∧ h = h0
theorem ef_rmIE (m : MethodId) (ob : Addr) : entryFrame m #[(.ref ob)] 1 = mkF m 0 #[.val (.ref ob)] [] := by first | (simp [entryFrame, mkF, argsToLocals, Value.category]; done) | rfl
set_option maxRecDepth 65536 in
set_option maxHeartbeats 40000000 in
theorem rmIE (l : Launch) (Z : State) (a0 : Array Value) (hw : ∀ d ∈ tables_1, d.before a0 Z = true) (ws : List Jvm.Cond) (ob : Addr) (va : Addr) (ka : ClassId) (vs : List Value) (h0 : Heap) (n0 : Nat) (Z0 : n0 ≤ h0.size) (F_value_ob : Fld Z h0 ob "java/lang/String" "value" "[B" (.ref va)) (V_va : Arv Z h0 va ka .byte (1 : Int32) vs (.int (0 : Int32))) :
    MetFree l (⟨"java/lang/String", "isEmpty", "()Z"⟩ : MethodName) (head1 (Jvm.Cond.code (⟨"java/lang/String", "isEmpty", "()Z"⟩ : MethodName) jdk_42_method_55_code 1 (some .boolean) :: ws) ({ frames := 0, cells := 0, slots := 0, locals := 0 } : Room)) (fun a U => a = #[(.ref ob)] ∧ Z.Warmed39 U.vm ∧ U.heap = h0) (fun _ _ _ _ _ => True) (fun _ U o U' => ∃ v L, o = .returned v ∧ Q_rmIE Z ob va ka vs h0 n0 v U'.heap L ∧ FrameEnd U o U' L ({ frames := 0, cells := 0, slots := 0, locals := 0 } : Room).cells ({ frames := 0, cells := 0, slots := 0, locals := 0 } : Room).slots) := by
  refine MetFree.of_bodySF (plainFor_of_name pn_1) hisR ?_
  intro p e s m args below meth c s₁ Bd hml0 hP hK
  obtain ⟨rfl, hZ, hh⟩ := hP
  have hx := Bd.exec
  have hby := Bd.bytes
  have hml : c.maxLocals = 1 := hml0
  have hown : s.vm.findClass "java/lang/String" = some m.cls := findClass_of_methodNamed Bd.named
  have hnm := (name_of_methodNamed Bd.named Bd.method).1
  have X0 : Stand p l e ({ frames := 0, cells := 0, slots := 0, locals := 0 } : Room) s m #[(.ref ob)] below meth c s₁ [] 0 0 := Stand.of_body Bd
  have e0 : s₁.heap = h0 := by rw [← hh, Bd.state]; rfl
  have N0 := Fr.nil n0
  have pre0 : ∀ t, Steps p.tables e below (s₁.setTop (mkF m 0 #[.val (.ref ob)] [])) t → Steps p.tables e below (s₁.setTop (entryFrame m #[(.ref ob)] 1)) t := fun t k => castTop (ef_rmIE m ob) k
  obtain ⟨T1, X1, e1, st1⟩ := getF X0 hx hZ hown (host := "") (Or.inl (hw _ (List.mem_of_getElem? (i := 27) rfl))) Via.refl e0 F_value_ob (g := (mkF m 1 #[.val (.ref ob)] [(.ref ob)])) rfl rfl (hb hby d6_1)
  have Vc2 := V_va
  obtain ⟨cl2, Ar2, -, S2, M2, -, -⟩ := Vc2
  obtain ⟨fs, hr, hrun, hended, hW, hsame⟩ := X1.leave (v := some (.int (0 : Int32))) (fun h => by rw [Bd.returns] at h; cases h)
  refine ⟨_, _, pre0 _ ?_, hrun, hended, _, _, rfl, ?_, ⟨_, rfl⟩, hW, hsame.mono (by decide) (by decide)⟩
  · show Steps p.tables e below (s₁.setTop (mkF m 0 #[.val (.ref ob)] [])) _
    refine XS.aloadN X0.here hx rfl (hb hby d6_0) rfl rfl ?_
    show Steps p.tables e below (s₁.setTop (mkF m 1 #[.val (.ref ob)] [(.ref ob)])) _
    refine st1 _ ?_
    show Steps p.tables e below (T1.setTop (mkF m 4 #[.val (.ref ob)] [(.ref va)])) _
    refine X1.arraylength hx (cell := cl2) (by rw [e1]; exact Ar2.1) (State.isArrayOf_alike hZ.alike Ar2.2.1) (g := (mkF m 4 #[.val (.ref ob)] [(.ref va)])) rfl (rest := []) rfl (hb hby d6_4) _ ?_
    rw [len_of S2 M2]
    show Steps p.tables e below (T1.setTop (mkF m 5 #[.val (.ref ob)] [(.int (1 : Int32))])) _
    refine XS.ifYes X1.here hx rfl (pc0 := 5) (pc' := 12) rfl (hb hby d6_5) rfl ((if0 _ _).trans (feq (by decide : ¬ ((1 : Int32) = (0 : Int32)))).2) (by decide) (by decide) ?_
    show Steps p.tables e below (T1.setTop (mkF m 12 #[.val (.ref ob)] [])) _
    refine XS.iconst X1.here hx rfl (hb hby d6_12) ?_
    show Steps p.tables e below (T1.setTop (mkF m 13 #[.val (.ref ob)] [(.int (0 : Int32))])) _
    exact retN X1 hx (t := .boolean) Bd.returns (by simp) (hb hby d6_13) hr
  · show Q_rmIE Z ob va ka vs h0 n0 _ T1.heap _
    rw [e1]
    exact ⟨rfl, N0, rfl⟩
theorem d7_0 : decode prog_24_method_1_code 0 = .ok (.aload_n 0, 1) := by decide +kernel
theorem d7_1 : decode prog_24_method_1_code 1 = .ok (.invokespecial 1, 3) := by decide +kernel
theorem pd_3 : parseMethodDescriptor "()V" = some ⟨[], none⟩ := by decide +kernel
theorem d7_4 : decode prog_24_method_1_code 4 = .ok (.aload_n 2, 1) := by decide +kernel
theorem d7_5 : decode prog_24_method_1_code 5 = .ok (.ldc 7, 2) := by decide +kernel
theorem d7_7 : decode prog_24_method_1_code 7 = .ok (.invokestatic 9, 3) := by decide +kernel
theorem pd_4 : parseMethodDescriptor "(Ljava/lang/Object;Ljava/lang/String;)Ljava/lang/Object;" = some ⟨[(.object "java/lang/Object"), (.object "java/lang/String")], some (.object "java/lang/Object")⟩ := by decide +kernel
theorem d7_10 : decode prog_24_method_1_code 10 = .ok (.pop, 1) := by decide +kernel
theorem d7_11 : decode prog_24_method_1_code 11 = .ok (.iload_n 1, 1) := by decide +kernel
theorem d7_12 : decode prog_24_method_1_code 12 = .ok (.ifCond .ge 17, 3) := by decide +kernel
theorem d7_29 : decode prog_24_method_1_code 29 = .ok (.aload_n 2, 1) := by decide +kernel
theorem d7_30 : decode prog_24_method_1_code 30 = .ok (.invokevirtual 24, 3) := by decide +kernel
theorem pd_5 : parseMethodDescriptor "()Z" = some ⟨[], some .boolean⟩ := by decide +kernel
theorem d7_33 : decode prog_24_method_1_code 33 = .ok (.ifCond .eq 13, 3) := by decide +kernel
theorem d7_46 : decode prog_24_method_1_code 46 = .ok (.dload_n 3, 1) := by decide +kernel
theorem d7_47 : decode prog_24_method_1_code 47 = .ok (.dconst 0, 1) := by decide +kernel
theorem d7_48 : decode prog_24_method_1_code 48 = .ok (.dcmp .l, 1) := by decide +kernel
theorem d7_49 : decode prog_24_method_1_code 49 = .ok (.ifCond .lt 11, 3) := by decide +kernel
theorem d7_52 : decode prog_24_method_1_code 52 = .ok (.dload_n 3, 1) := by decide +kernel
theorem d7_53 : decode prog_24_method_1_code 53 = .ok (.ldc2_w 34, 3) := by decide +kernel
theorem d7_56 : decode prog_24_method_1_code 56 = .ok (.dcmp .g, 1) := by decide +kernel
theorem d7_57 : decode prog_24_method_1_code 57 = .ok (.ifCond .lt 18, 3) := by decide +kernel
theorem d7_75 : decode prog_24_method_1_code 75 = .ok (.dload_n 3, 1) := by decide +kernel
theorem d7_76 : decode prog_24_method_1_code 76 = .ok (.dconst 0, 1) := by decide +kernel
theorem d7_77 : decode prog_24_method_1_code 77 = .ok (.dadd, 1) := by decide +kernel
theorem d7_78 : decode prog_24_method_1_code 78 = .ok (.dstore_n 3, 1) := by decide +kernel
theorem d7_79 : decode prog_24_method_1_code 79 = .ok (.aload_n 0, 1) := by decide +kernel
theorem d7_80 : decode prog_24_method_1_code 80 = .ok (.iload_n 1, 1) := by decide +kernel
theorem d7_81 : decode prog_24_method_1_code 81 = .ok (.putfield 39, 3) := by decide +kernel
theorem d7_84 : decode prog_24_method_1_code 84 = .ok (.aload_n 0, 1) := by decide +kernel
theorem d7_85 : decode prog_24_method_1_code 85 = .ok (.aload_n 2, 1) := by decide +kernel
theorem d7_86 : decode prog_24_method_1_code 86 = .ok (.putfield 45, 3) := by decide +kernel
theorem d7_89 : decode prog_24_method_1_code 89 = .ok (.aload_n 0, 1) := by decide +kernel
theorem d7_90 : decode prog_24_method_1_code 90 = .ok (.dload_n 3, 1) := by decide +kernel
theorem d7_91 : decode prog_24_method_1_code 91 = .ok (.putfield 48, 3) := by decide +kernel
theorem d7_94 : decode prog_24_method_1_code 94 = .ok (.return_, 1) := by decide +kernel
theorem pn_4 : plainName "com/example/sortition/sortition/Element" = true := by first | (simp [plainName, overriddenIn]; done) | decide +kernel
def Q_rmEI (Z : State) (ob : Addr) (p1 : Int32) (st : Addr) (t3 : UInt64) (va : Addr) (ka : ClassId) (vs : List Value) (u_index_ob : Value) (u_id_ob : Value) (u_value_ob : Value) (h0 : Heap) (n0 : Nat) (v : Option Value) (h : Heap) (L : List Loc) : Prop := v = none ∧ Fr n0 L ∧ Keep h0 h [ob] ∧ Exa Z h ob "com/example/sortition/sortition/Element" ∧ Fld Z h ob "com/example/sortition/sortition/Element" "index" "I" (.int p1) ∧ Fld Z h ob "com/example/sortition/sortition/Element" "value" "D" (.double (FP.dadd t3 0))
theorem ef_rmEI (m : MethodId) (ob : Addr) (p1 : Int32) (st : Addr) (t3 : UInt64) : entryFrame m #[(.ref ob), (.int p1), (.ref st), (.double t3)] 5 = mkF m 0 #[.val (.ref ob), .val (.int p1), .val (.ref st), .val (.double t3), .second] [] := by first | (simp [entryFrame, mkF, argsToLocals, Value.category]; done) | rfl
set_option maxRecDepth 65536 in
set_option maxHeartbeats 40000000 in
theorem rmEI (l : Launch) (Z : State) (a0 : Array Value) (hw : ∀ d ∈ tables_1, d.before a0 Z = true) (ws : List Jvm.Cond) (ob : Addr) (p1 : Int32) (st : Addr) (t3 : UInt64) (va : Addr) (ka : ClassId) (vs : List Value) (u_index_ob : Value) (u_id_ob : Value) (u_value_ob : Value) (h0 : Heap) (n0 : Nat) (Z0 : n0 ≤ h0.size) (hwS : ∀ a ∈ Bundle.stringAtoms, a.before a0 Z = true) (E_st : Exa Z h0 st "java/lang/String") (F_value_st : Fld Z h0 st "java/lang/String" "value" "[B" (.ref va)) (V_va : Arv Z h0 va ka .byte (1 : Int32) vs (.int (0 : Int32))) (hc12 : ¬ (p1 < (0 : Int32))) (hc49 : ¬ ((cmpValue (FP.dcmp t3 0) .l) < (0 : Int32))) (hc57 : (cmpValue (FP.dcmp t3 9218868437227405312) .g) < (0 : Int32)) (nn77 : NoNaN64 (FP.dadd t3 0)) (F_index_ob : Fld Z h0 ob "com/example/sortition/sortition/Element" "index" "I" u_index_ob) (E_ob : Exa Z h0 ob "com/example/sortition/sortition/Element") (g_ob : n0 ≤ ob) (F_id_ob : Fld Z h0 ob "com/example/sortition/sortition/Element" "id" "Ljava/lang/String;" u_id_ob) (F_value_ob : Fld Z h0 ob "com/example/sortition/sortition/Element" "value" "D" u_value_ob) :
    MetFree l (⟨"com/example/sortition/sortition/Element", "<init>", "(ILjava/lang/String;D)V"⟩ : MethodName) (head1 (Jvm.Cond.code (⟨"com/example/sortition/sortition/Element", "<init>", "(ILjava/lang/String;D)V"⟩ : MethodName) prog_24_method_1_code 5 none :: ws) ({ frames := 2, cells := 2, slots := 12, locals := 24 } : Room)) (fun a U => a = #[(.ref ob), (.int p1), (.ref st), (.double t3)] ∧ Z.Warmed39 U.vm ∧ U.heap = h0) (fun _ _ _ _ _ => True) (fun _ U o U' => ∃ v L, o = .returned v ∧ Q_rmEI Z ob p1 st t3 va ka vs u_index_ob u_id_ob u_value_ob h0 n0 v U'.heap L ∧ ReturnedEndW U o U' L ({ frames := 2, cells := 2, slots := 12, locals := 24 } : Room).cells ({ frames := 2, cells := 2, slots := 12, locals := 24 } : Room).slots) := by
  refine MetFree.of_bodySF (plainFor_of_name pn_4) hisR ?_
  intro p e s m args below meth c s₁ Bd hml0 hP hK
  obtain ⟨rfl, hZ, hh⟩ := hP
  have hx := Bd.exec
  have hby := Bd.bytes
  have hml : c.maxLocals = 5 := hml0
  have hown : s.vm.findClass "com/example/sortition/sortition/Element" = some m.cls := findClass_of_methodNamed Bd.named
  have hnm := (name_of_methodNamed Bd.named Bd.method).1
  have X0 : Stand p l e ({ frames := 2, cells := 2, slots := 12, locals := 24 } : Room) s m #[(.ref ob), (.int p1), (.ref st), (.double t3)] below meth c s₁ [] 0 0 := Stand.of_body Bd
  have e0 : s₁.heap = h0 := by rw [← hh, Bd.state]; rfl
  have N0 := Fr.nil n0
  have hS0 := (State.WarmedH.refl s).since 0
  have pre0 : ∀ t, Steps p.tables e below (s₁.setTop (mkF m 0 #[.val (.ref ob), .val (.int p1), .val (.ref st), .val (.double t3), .second] [])) t → Steps p.tables e below (s₁.setTop (entryFrame m #[(.ref ob), (.int p1), (.ref st), (.double t3)] 5)) t := fun t k => castTop (ef_rmEI m ob p1 st t3) k
  obtain ⟨_, _, ⟨T1, L1, k1, n1⟩, -, X1, ⟨Lc1, hQ1, l1, y1, z1⟩, st1⟩ := X0.specialBack hx (y := (⟨"java/lang/Record", "<init>", "()V"⟩ : MethodName)) rfl hown (mvT hZ (hw _ (List.mem_of_getElem? (i := 34) rfl))) (mvT hZ (hw _ (List.mem_of_getElem? (i := 35) rfl))) (mvT hZ (hw _ (List.mem_of_getElem? (i := 38) rfl))) (by decide) (backOf (W := 0) (rmR l Z a0 hw [] ob h0 n0 Z0) hZ (hw _ (List.mem_of_getElem? (i := 38) rfl)) (hw _ (List.mem_of_getElem? (i := 37) rfl)) (by decide) (by decide)) (g := (mkF m 1 #[.val (.ref ob), .val (.int p1), .val (.ref st), .val (.double t3), .second] [(.ref ob)])) rfl (by rw [hml]; rfl) (Steps.refl _) (a := ob) (argsL := []) (rest := []) (lenOf pd_3 rfl) rfl (by show 2 * 0 + _ ≤ _; exact Nat.le_of_eq rfl) (hb hby d7_1) (fun _ _ => ⟨rfl, e0, (by decide : 0 + 0 ≤ _), (by decide : 0 + 0 ≤ _)⟩)
  dsimp only [Pt.U, Pt.locs, Pt.cells, Pt.slots] at X1 l1 y1 z1 st1 hQ1
  subst l1 y1 z1
  obtain ⟨rfl, Nq1, e1⟩ := hQ1
  have N1 := Fr.app N0 Nq1
  obtain ⟨a2, T2, h2, k2, X2, e2, E2, hS2, hk2, hZ2, hown2, st2⟩ := ldcS (s := s) (vm0 := s.vm) X1 hx hZ hown (hw _ (List.mem_of_getElem? (i := 40) rfl)) hwS e1 hS0 (Nat.zero_le _) (g := (mkF m 5 #[.val (.ref ob), .val (.int p1), .val (.ref st), .val (.double t3), .second] [(.ref st)])) rfl (hb hby d7_5) (n := 8) (by decide) (by decide) (by decide) (by decide)
  obtain ⟨_, _, ⟨T3, L3, k3, n3⟩, -, X3, ⟨Lc3, hQ3, l3, y3, z3⟩, st3⟩ := Jvm.LawKit.callS X2 hx (y := (⟨"java/util/Objects", "requireNonNull", "(Ljava/lang/Object;Ljava/lang/String;)Ljava/lang/Object;"⟩ : MethodName)) hown2 (mvT hZ2 (hw _ (List.mem_of_getElem? (i := 43) rfl))) (mvT hZ2 (hw _ (List.mem_of_getElem? (i := 44) rfl))) (mvT hZ2 (hw _ (List.mem_of_getElem? (i := 45) rfl))) (mvT hZ2 (hw _ (List.mem_of_getElem? (i := 46) rfl))) (by decide) (backOf (W := 0) (rmNN l Z a0 hw [] st a2 h2 n0 (Nat.le_trans Z0 E2.1)) hZ2 (hw _ (List.mem_of_getElem? (i := 46) rfl)) (hw _ (List.mem_of_getElem? (i := 45) rfl)) (by decide) (by decide)) (g := (mkF m 7 #[.val (.ref ob), .val (.int p1), .val (.ref st), .val (.double t3), .second] [(.ref a2), (.ref st)])) rfl (by rw [hml]; rfl) (argsL := [(.ref st), (.ref a2)]) (rest := []) (lenOf pd_4 rfl) rfl (by show 2 * 0 + _ ≤ _; exact Nat.le_of_eq rfl) (hb hby d7_7) (fun _ _ => ⟨rfl, e2, (by decide : 2 + 0 ≤ _), (by decide : 12 + 0 ≤ _)⟩)
  dsimp only [Pt.U, Pt.locs, Pt.cells, Pt.slots] at X3 l3 y3 z3 st3 hQ3
  subst l3 y3 z3
  obtain ⟨rfl, Nq3, e3⟩ := hQ3
  have N3 := Fr.app N1 Nq3
  have f5 : Fld Z h2 st "java/lang/String" "value" "[B" (.ref va) := (F_value_st.ext E2)
  have f6 : Arv Z h2 va ka .byte (1 : Int32) vs (.int (0 : Int32)) := (V_va.ext E2)
  have f7 : Exa Z h2 st "java/lang/String" := (E_st.ext E2)
  obtain ⟨cq4, kq4, q4a, q4b, q4c⟩ := isOf hZ2 e3 f7
  obtain ⟨_, _, ⟨T4, L4, k4, n4⟩, -, X4, ⟨Lc4, hQ4, l4, y4, z4⟩, st4⟩ := X3.virtualBack hx (y := (⟨"java/lang/String", "isEmpty", "()Z"⟩ : MethodName)) (z := (⟨"java/lang/String", "isEmpty", "()Z"⟩ : MethodName)) hown2 (mvT hZ2 (hw _ (List.mem_of_getElem? (i := 47) rfl))) (mvT hZ2 (hw _ (List.mem_of_getElem? (i := 48) rfl))) (notFace_of_selects (args := #[]) (mvT hZ2 (hw _ (List.mem_of_getElem? (i := 50) rfl)))) (mvT hZ2 (hw _ (List.mem_of_getElem? (i := 50) rfl))) (mvT hZ2 (hw _ (List.mem_of_getElem? (i := 49) rfl))) (by decide) (backOf (W := 0) (rmIE l Z a0 hw [] st va ka vs h2 n0 (Nat.le_trans Z0 E2.1) f5 f6) hZ2 (hw _ (List.mem_of_getElem? (i := 51) rfl)) (hw _ (List.mem_of_getElem? (i := 7) rfl)) (by decide) (by decide)) q4a q4c (g := (mkF m 30 #[.val (.ref ob), .val (.int p1), .val (.ref st), .val (.double t3), .second] [(.ref st)])) rfl (by rw [hml]; rfl) (Steps.refl _) (argsL := []) (rest := []) (lenOf pd_5 rfl) rfl (by show 2 * 0 + _ ≤ _; exact Nat.le_of_eq rfl) (hb hby d7_30) (fun _ _ => ⟨rfl, e3, (by decide : 2 + 0 ≤ _), (by decide : 12 + 0 ≤ _)⟩)
  dsimp only [Pt.U, Pt.locs, Pt.cells, Pt.slots] at X4 l4 y4 z4 st4 hQ4
  subst l4 y4 z4
  obtain ⟨rfl, Nq4, e4⟩ := hQ4
  have N4 := Fr.app N3 Nq4
  have f8 : Fld Z h2 ob "com/example/sortition/sortition/Element" "index" "I" u_index_ob := (F_index_ob.ext E2)
  have f9 : Exa Z h2 ob "com/example/sortition/sortition/Element" := (E_ob.ext E2)
  obtain ⟨T10, h10, X10, e10, W10, st10⟩ := putF X4 hx hZ2 hown2 (host := "") (Or.inl (hw _ (List.mem_of_getElem? (i := 53) rfl))) Via.refl e4 f8 f9 (Or.inr ⟨(hw _ (List.mem_of_getElem? (i := 54) rfl)), rfl, hnm⟩) (hw _ (List.mem_of_getElem? (i := 3) rfl)) (ty := .int) (by decide) rfl rfl (g := (mkF m 81 #[.val (.ref ob), .val (.int p1), .val (.ref st), .val (.double (FP.dadd t3 0)), .second] [(.int p1), (.ref ob)])) rfl rfl (hb hby d7_81)
  have Fw10 := f8.same W10
  have N10 := Fr.snoc X10 N4 g_ob
  have f11 : Fld Z h10 ob "com/example/sortition/sortition/Element" "id" "Ljava/lang/String;" u_id_ob := ((F_id_ob.ext E2).other W10 (Or.inr (slot_ne (Or.inr (hw _ (List.mem_of_getElem? (i := 56) rfl))) (Or.inr (hw _ (List.mem_of_getElem? (i := 54) rfl))) (by decide) (t := (.object "java/lang/String")) (t' := .int) (by decide) (by decide))))
  have f12 : Exa Z h10 ob "com/example/sortition/sortition/Element" := (f9.wr W10)
  obtain ⟨T13, h13, X13, e13, W13, st13⟩ := putF X10 hx hZ2 hown2 (host := "") (Or.inl (hw _ (List.mem_of_getElem? (i := 55) rfl))) Via.refl e10 f11 f12 (Or.inr ⟨(hw _ (List.mem_of_getElem? (i := 56) rfl)), rfl, hnm⟩) (hw _ (List.mem_of_getElem? (i := 3) rfl)) (ty := (.object "java/lang/String")) (by decide) rfl rfl (g := (mkF m 86 #[.val (.ref ob), .val (.int p1), .val (.ref st), .val (.double (FP.dadd t3 0)), .second] [(.ref st), (.ref ob)])) rfl rfl (hb hby d7_86)
  have Fw13 := f11.same W13
  have N13 := Fr.snoc X13 N10 g_ob
  have f14 : Fld Z h13 ob "com/example/sortition/sortition/Element" "value" "D" u_value_ob := (((F_value_ob.ext E2).other W10 (Or.inr (slot_ne (Or.inr (hw _ (List.mem_of_getElem? (i := 58) rfl))) (Or.inr (hw _ (List.mem_of_getElem? (i := 54) rfl))) (by decide) (t := .double) (t' := .int) (by decide) (by decide)))).other W13 (Or.inr (slot_ne (Or.inr (hw _ (List.mem_of_getElem? (i := 58) rfl))) (Or.inr (hw _ (List.mem_of_getElem? (i := 56) rfl))) (by decide) (t := .double) (t' := (.object "java/lang/String")) (by decide) (by decide))))
  have f15 : Exa Z h13 ob "com/example/sortition/sortition/Element" := (f12.wr W13)
  obtain ⟨T16, h16, X16, e16, W16, st16⟩ := putF X13 hx hZ2 hown2 (host := "") (Or.inl (hw _ (List.mem_of_getElem? (i := 57) rfl))) Via.refl e13 f14 f15 (Or.inr ⟨(hw _ (List.mem_of_getElem? (i := 58) rfl)), rfl, hnm⟩) (hw _ (List.mem_of_getElem? (i := 3) rfl)) (ty := .double) (by decide) rfl rfl (g := (mkF m 91 #[.val (.ref ob), .val (.int p1), .val (.ref st), .val (.double (FP.dadd t3 0)), .second] [(.double (FP.dadd t3 0)), (.ref ob)])) rfl rfl (hb hby d7_91)
  have Fw16 := f14.same W16
  have N16 := Fr.snoc X16 N13 g_ob
  have f17 : Exa Z h16 ob "com/example/sortition/sortition/Element" := (f15.wr W16)
  have f18 : Fld Z h16 ob "com/example/sortition/sortition/Element" "index" "I" (.int p1) := ((Fw10.other W13 (Or.inr (slot_ne (Or.inr (hw _ (List.mem_of_getElem? (i := 54) rfl))) (Or.inr (hw _ (List.mem_of_getElem? (i := 56) rfl))) (by decide) (t := .int) (t' := (.object "java/lang/String")) (by decide) (by decide)))).other W16 (Or.inr (slot_ne (Or.inr (hw _ (List.mem_of_getElem? (i := 54) rfl))) (Or.inr (hw _ (List.mem_of_getElem? (i := 58) rfl))) (by decide) (t := .int) (t' := .double) (by decide) (by decide))))
  obtain ⟨fs, hr, hrun, hended, hRW⟩ := X16.leaveW (s := s) hS2 (by rw [e16]; exact (Nat.le_trans (Nat.le_trans (Nat.le_trans hk2 (Keep.of_wr W10).1) (Keep.of_wr W13).1) (Keep.of_wr W16).1)) (v := none) (fun _ => rfl)
  refine ⟨_, _, pre0 _ ?_, hrun, hended, _, _, rfl, ?_, hRW.1, hRW.2.1, hRW.2.2.1, hRW.2.2.2.mono (by decide) (by decide)⟩
  · show Steps p.tables e below (s₁.setTop (mkF m 0 #[.val (.ref ob), .val (.int p1), .val (.ref st), .val (.double t3), .second] [])) _
    refine XS.aloadN X0.here hx rfl (hb hby d7_0) rfl rfl ?_
    show Steps p.tables e below (s₁.setTop (mkF m 1 #[.val (.ref ob), .val (.int p1), .val (.ref st), .val (.double t3), .second] [(.ref ob)])) _
    refine st1.trans ?_
    show Steps p.tables e below (T1.setTop (mkF m 4 #[.val (.ref ob), .val (.int p1), .val (.ref st), .val (.double t3), .second] [])) _
    refine XS.aloadN X1.here hx rfl (hb hby d7_4) rfl rfl ?_
    show Steps p.tables e below (T1.setTop (mkF m 5 #[.val (.ref ob), .val (.int p1), .val (.ref st), .val (.double t3), .second] [(.ref st)])) _
    refine st2 _ ?_
    show Steps p.tables e below (T2.setTop (mkF m 7 #[.val (.ref ob), .val (.int p1), .val (.ref st), .val (.double t3), .second] [(.ref a2), (.ref st)])) _
    refine st3 _ ?_
    show Steps p.tables e below (T3.setTop (mkF m 10 #[.val (.ref ob), .val (.int p1), .val (.ref st), .val (.double t3), .second] [(.ref st)])) _
    refine XS.pop X3.here hx rfl (hb hby d7_10) rfl rfl ?_
    show Steps p.tables e below (T3.setTop (mkF m 11 #[.val (.ref ob), .val (.int p1), .val (.ref st), .val (.double t3), .second] [])) _
    refine XS.iloadN X3.here hx rfl (hb hby d7_11) rfl ?_
    show Steps p.tables e below (T3.setTop (mkF m 12 #[.val (.ref ob), .val (.int p1), .val (.ref st), .val (.double t3), .second] [(.int p1)])) _
    refine XS.ifYes X3.here hx rfl (pc0 := 12) (pc' := 29) rfl (hb hby d7_12) rfl ((if0 _ _).trans (flt hc12).2.1) (by decide) (by decide) ?_
    show Steps p.tables e below (T3.setTop (mkF m 29 #[.val (.ref ob), .val (.int p1), .val (.ref st), .val (.double t3), .second] [])) _
    refine XS.aloadN X3.here hx rfl (hb hby d7_29) rfl rfl ?_
    show Steps p.tables e below (T3.setTop (mkF m 30 #[.val (.ref ob), .val (.int p1), .val (.ref st), .val (.double t3), .second] [(.ref st)])) _
    refine st4.trans ?_
    show Steps p.tables e below (T4.setTop (mkF m 33 #[.val (.ref ob), .val (.int p1), .val (.ref st), .val (.double t3), .second] [(.int (0 : Int32))])) _
    refine XS.ifYes X4.here hx rfl (pc0 := 33) (pc' := 46) rfl (hb hby d7_33) rfl ((if0 _ _).trans (teq (rfl : (0 : Int32) = (0 : Int32))).1) (by decide) (by decide) ?_
    show Steps p.tables e below (T4.setTop (mkF m 46 #[.val (.ref ob), .val (.int p1), .val (.ref st), .val (.double t3), .second] [])) _
    refine XS.dloadN X4.here hx rfl (hb hby d7_46) rfl ?_
    show Steps p.tables e below (T4.setTop (mkF m 47 #[.val (.ref ob), .val (.int p1), .val (.ref st), .val (.double t3), .second] [(.double t3)])) _
    refine XS.dconst0 X4.here hx rfl (hb hby d7_47) (v := 0) rfl ?_
    show Steps p.tables e below (T4.setTop (mkF m 48 #[.val (.ref ob), .val (.int p1), .val (.ref st), .val (.double t3), .second] [(.double 0), (.double t3)])) _
    refine XS.dcmpS X4.here hx rfl (hb hby d7_48) rfl rfl ?_
    show Steps p.tables e below (T4.setTop (mkF m 49 #[.val (.ref ob), .val (.int p1), .val (.ref st), .val (.double t3), .second] [(.int (cmpValue (FP.dcmp t3 0) .l))])) _
    refine XS.ifNo X4.here hx rfl (hb hby d7_49) rfl ((if0 _ _).trans (flt hc49).1) ?_
    show Steps p.tables e below (T4.setTop (mkF m 52 #[.val (.ref ob), .val (.int p1), .val (.ref st), .val (.double t3), .second] [])) _
    refine XS.dloadN X4.here hx rfl (hb hby d7_52) rfl ?_
    show Steps p.tables e below (T4.setTop (mkF m 53 #[.val (.ref ob), .val (.int p1), .val (.ref st), .val (.double t3), .second] [(.double t3)])) _
    refine X4.ldc2DoubleC hx hown2 (mvT hZ2 (hw _ (List.mem_of_getElem? (i := 52) rfl))) (g := (mkF m 53 #[.val (.ref ob), .val (.int p1), .val (.ref st), .val (.double t3), .second] [(.double t3)])) rfl (hb hby d7_53) _ ?_
    show Steps p.tables e below (T4.setTop (mkF m 56 #[.val (.ref ob), .val (.int p1), .val (.ref st), .val (.double t3), .second] [(.double 9218868437227405312), (.double t3)])) _
    refine XS.dcmpS X4.here hx rfl (hb hby d7_56) rfl rfl ?_
    show Steps p.tables e below (T4.setTop (mkF m 57 #[.val (.ref ob), .val (.int p1), .val (.ref st), .val (.double t3), .second] [(.int (cmpValue (FP.dcmp t3 9218868437227405312) .g))])) _
    refine XS.ifYes X4.here hx rfl (pc0 := 57) (pc' := 75) rfl (hb hby d7_57) rfl ((if0 _ _).trans (tlt hc57).1) (by decide) (by decide) ?_
    show Steps p.tables e below (T4.setTop (mkF m 75 #[.val (.ref ob), .val (.int p1), .val (.ref st), .val (.double t3), .second] [])) _
    refine XS.dloadN X4.here hx rfl (hb hby d7_75) rfl ?_
    show Steps p.tables e below (T4.setTop (mkF m 76 #[.val (.ref ob), .val (.int p1), .val (.ref st), .val (.double t3), .second] [(.double t3)])) _
    refine XS.dconst0 X4.here hx rfl (hb hby d7_76) (v := 0) rfl ?_
    show Steps p.tables e below (T4.setTop (mkF m 77 #[.val (.ref ob), .val (.int p1), .val (.ref st), .val (.double t3), .second] [(.double 0), (.double t3)])) _
    refine XS.daddS X4.here hx rfl (hb hby d7_77) rfl nn77 rfl ?_
    show Steps p.tables e below (T4.setTop (mkF m 78 #[.val (.ref ob), .val (.int p1), .val (.ref st), .val (.double t3), .second] [(.double (FP.dadd t3 0))])) _
    refine XS.dstoreN X4.here hx rfl (hb hby d7_78) rfl (l' := #[.val (.ref ob), .val (.int p1), .val (.ref st), .val (.double (FP.dadd t3 0)), .second]) rfl ?_
    show Steps p.tables e below (T4.setTop (mkF m 79 #[.val (.ref ob), .val (.int p1), .val (.ref st), .val (.double (FP.dadd t3 0)), .second] [])) _
    refine XS.aloadN X4.here hx rfl (hb hby d7_79) rfl rfl ?_
    show Steps p.tables e below (T4.setTop (mkF m 80 #[.val (.ref ob), .val (.int p1), .val (.ref st), .val (.double (FP.dadd t3 0)), .second] [(.ref ob)])) _
    refine XS.iloadN X4.here hx rfl (hb hby d7_80) rfl ?_
    show Steps p.tables e below (T4.setTop (mkF m 81 #[.val (.ref ob), .val (.int p1), .val (.ref st), .val (.double (FP.dadd t3 0)), .second] [(.int p1), (.ref ob)])) _
    refine st10 _ ?_
    show Steps p.tables e below (T10.setTop (mkF m 84 #[.val (.ref ob), .val (.int p1), .val (.ref st), .val (.double (FP.dadd t3 0)), .second] [])) _
    refine XS.aloadN X10.here hx rfl (hb hby d7_84) rfl rfl ?_
    show Steps p.tables e below (T10.setTop (mkF m 85 #[.val (.ref ob), .val (.int p1), .val (.ref st), .val (.double (FP.dadd t3 0)), .second] [(.ref ob)])) _
    refine XS.aloadN X10.here hx rfl (hb hby d7_85) rfl rfl ?_
    show Steps p.tables e below (T10.setTop (mkF m 86 #[.val (.ref ob), .val (.int p1), .val (.ref st), .val (.double (FP.dadd t3 0)), .second] [(.ref st), (.ref ob)])) _
    refine st13 _ ?_
    show Steps p.tables e below (T13.setTop (mkF m 89 #[.val (.ref ob), .val (.int p1), .val (.ref st), .val (.double (FP.dadd t3 0)), .second] [])) _
    refine XS.aloadN X13.here hx rfl (hb hby d7_89) rfl rfl ?_
    show Steps p.tables e below (T13.setTop (mkF m 90 #[.val (.ref ob), .val (.int p1), .val (.ref st), .val (.double (FP.dadd t3 0)), .second] [(.ref ob)])) _
    refine XS.dloadN X13.here hx rfl (hb hby d7_90) rfl ?_
    show Steps p.tables e below (T13.setTop (mkF m 91 #[.val (.ref ob), .val (.int p1), .val (.ref st), .val (.double (FP.dadd t3 0)), .second] [(.double (FP.dadd t3 0)), (.ref ob)])) _
    refine st16 _ ?_
    show Steps p.tables e below (T16.setTop (mkF m 94 #[.val (.ref ob), .val (.int p1), .val (.ref st), .val (.double (FP.dadd t3 0)), .second] [])) _
    exact X16.returnOut hx Bd.returns (hb hby d7_94) hr
  · show Q_rmEI Z ob p1 st t3 va ka vs u_index_ob u_id_ob u_value_ob h0 n0 _ T16.heap _
    rw [e16]
    exact ⟨rfl, N16, (((((Keep.refl h0 [ob]).ext E2).wr W10 (Or.inl (List.mem_of_getElem? (i := 0) rfl))).wr W13 (Or.inl (List.mem_of_getElem? (i := 0) rfl))).wr W16 (Or.inl (List.mem_of_getElem? (i := 0) rfl))), f17, f18, Fw16⟩
/-- the nine doubles that the law can make: 0.0, -0.0, 0.5 .. 3.5 -/
def own_tab : List UInt64 := [0, 9223372036854775808, 4602678819172646912, 4607182418800017408, 4609434218613702656, 4611686018427387904, 4612811918334230528, 4613937818241073152, 4615063718147915776]
theorem own_mask7 (a : Int32) : (a &&& (7 : Int32)) = 0 ∨ (a &&& (7 : Int32)) = 1 ∨ (a &&& (7 : Int32)) = 2 ∨ (a &&& (7 : Int32)) = 3 ∨ (a &&& (7 : Int32)) = 4 ∨ (a &&& (7 : Int32)) = 5 ∨ (a &&& (7 : Int32)) = 6 ∨ (a &&& (7 : Int32)) = 7 := by
  have h1 := c_mask a (7 : Int32) 3 (by decide) (by decide)
  simp only [← Int32.toInt_inj]
  rw [show (0 : Int32).toInt = 0 by decide, show (1 : Int32).toInt = 1 by decide, show (2 : Int32).toInt = 2 by decide, show (3 : Int32).toInt = 3 by decide, show (4 : Int32).toInt = 4 by decide, show (5 : Int32).toInt = 5 by decide, show (6 : Int32).toInt = 6 by decide, show (7 : Int32).toInt = 7 by decide]
  omega
theorem own_in (a : Int32) : FP.ddiv (FP.i2d (a &&& (7 : Int32))) 4611686018427387904 ∈ own_tab := by
  rcases own_mask7 a with h | h | h | h | h | h | h | h <;> rw [h] <;> decide +kernel
theorem own_nn (a : Int32) : NoNaN64 (FP.ddiv (FP.i2d (a &&& (7 : Int32))) 4611686018427387904) := ddiv_out (i2d_fin _).noNaN (by unfold Fin64; decide) (by unfold Nz64; decide)
theorem own_neg : ∀ x ∈ own_tab, cmpValue (FP.dcmp x 0) .l = (0 : Int32) → FP.dneg x ∈ own_tab := by decide +kernel
theorem own_ge0 : ∀ x ∈ own_tab, ¬ (cmpValue (FP.dcmp x 0) .l < (0 : Int32)) := by decide +kernel
theorem own_inf : ∀ x ∈ own_tab, cmpValue (FP.dcmp x 9218868437227405312) .g < (0 : Int32) := by decide +kernel
theorem own_nn0' : ∀ x ∈ own_tab, FP.Core.dIsNaN (FP.dadd x 0) = false := by decide +kernel
theorem own_nn0 {x : UInt64} (h : x ∈ own_tab) : NoNaN64 (FP.dadd x 0) := noNaN64_no.mpr (own_nn0' x h)
theorem own_gt : ∀ x ∈ own_tab, ∀ y ∈ own_tab, (0 : Int32) < cmpValue (FP.dcmp x y) .l → (¬ cmpValue (FP.dcmp (FP.dadd x 0) (FP.dadd y 0)) .g < (0 : Int32)) ∧ (0 : Int32) < cmpValue (FP.dcmp (FP.dadd x 0) (FP.dadd y 0)) .l ∧ cmpValue (FP.dcmp (FP.dadd y 0) (FP.dadd x 0)) .g < (0 : Int32) ∧ (¬ (0 : Int32) < cmpValue (FP.dcmp y x) .l) ∧ ¬ cmpValue (FP.dcmp x y) .l = (0 : Int32) := by decide +kernel
theorem own_lt : ∀ x ∈ own_tab, ∀ y ∈ own_tab, ¬ (0 : Int32) < cmpValue (FP.dcmp x y) .l → ¬ cmpValue (FP.dcmp x y) .l = (0 : Int32) → (0 : Int32) < cmpValue (FP.dcmp y x) .l := by decide +kernel
theorem own_eq : ∀ x ∈ own_tab, ∀ y ∈ own_tab, cmpValue (FP.dcmp x y) .l = (0 : Int32) → FP.dadd x 0 = FP.dadd y 0 ∧ ¬ (0 : Int32) < cmpValue (FP.dcmp y x) .l := by decide +kernel
theorem own_31 (j : Int32) : ¬ (j &&& (2147483647 : Int32)) < (0 : Int32) := by
  have h1 := c_mask j (2147483647 : Int32) 31 (by decide) (by decide)
  intro q
  have := Int32.lt_iff_toInt_lt.mp q
  rw [show (0 : Int32).toInt = 0 by decide] at this
  omega
theorem own_255 (j : Int32) : ¬ (255 : Int32) < (j &&& (255 : Int32)) := by
  have h1 := c_mask j (255 : Int32) 8 (by decide) (by decide)
  intro q
  have := Int32.lt_iff_toInt_lt.mp q
  rw [show (255 : Int32).toInt = 255 by decide] at this
  omega
theorem d8_0 : decode jdk_33_method_40_code 0 = .ok (.iload_n 0, 1) := by decide +kernel
theorem d8_1 : decode jdk_33_method_40_code 1 = .ok (.iload_n 1, 1) := by decide +kernel
theorem d8_2 : decode jdk_33_method_40_code 2 = .ok (.if_icmp .ge 7, 3) := by decide +kernel
theorem d8_5 : decode jdk_33_method_40_code 5 = .ok (.iconst (-1), 1) := by decide +kernel
theorem d8_6 : decode jdk_33_method_40_code 6 = .ok (.goto 13, 3) := by decide +kernel
theorem d8_19 : decode jdk_33_method_40_code 19 = .ok (.ireturn, 1) := by decide +kernel
theorem pn_5 : plainName "java/lang/Integer" = true := by first | (simp [plainName, overriddenIn]; done) | decide +kernel
def Q_rmIC_lt (Z : State) (p0 : Int32) (p1 : Int32) (h0 : Heap) (n0 : Nat) (v : Option Value) (h : Heap) (L : List Loc) : Prop := v = some (.int (-1 : Int32)) ∧ Fr n0 L ∧ h = h0
theorem ef_rmIC_lt (m : MethodId) (p0 : Int32) (p1 : Int32) : entryFrame m #[(.int p0), (.int p1)] 2 = mkF m 0 #[.val (.int p0), .val (.int p1)] [] := by first | (simp [entryFrame, mkF, argsToLocals, Value.category]; done) | rfl
set_option maxRecDepth 65536 in
set_option maxHeartbeats 40000000 in
theorem rmIC_lt (l : Launch) (Z : State) (a0 : Array Value) (hw : ∀ d ∈ tables_1, d.before a0 Z = true) (ws : List Jvm.Cond) (p0 : Int32) (p1 : Int32) (h0 : Heap) (n0 : Nat) (Z0 : n0 ≤ h0.size) (hc2 : p0 < p1) :
    MetFree l (⟨"java/lang/Integer", "compare", "(II)I"⟩ : MethodName) (head1 (Jvm.Cond.code (⟨"java/lang/Integer", "compare", "(II)I"⟩ : MethodName) jdk_33_method_40_code 2 (some .int) :: ws) ({ frames := 0, cells := 0, slots := 0, locals := 0 } : Room)) (fun a U => a = #[(.int p0), (.int p1)] ∧ Z.Warmed39 U.vm ∧ U.heap = h0) (fun _ _ _ _ _ => True) (fun _ U o U' => ∃ v L, o = .returned v ∧ Q_rmIC_lt Z p0 p1 h0 n0 v U'.heap L ∧ FrameEnd U o U' L ({ frames := 0, cells := 0, slots := 0, locals := 0 } : Room).cells ({ frames := 0, cells := 0, slots := 0, locals := 0 } : Room).slots) := by
  refine MetFree.of_bodySF (plainFor_of_name pn_5) hisR ?_
  intro p e s m args below meth c s₁ Bd hml0 hP hK
  obtain ⟨rfl, hZ, hh⟩ := hP
  have hx := Bd.exec
  have hby := Bd.bytes
  have hml : c.maxLocals = 2 := hml0
  have hown : s.vm.findClass "java/lang/Integer" = some m.cls := findClass_of_methodNamed Bd.named
  have hnm := (name_of_methodNamed Bd.named Bd.method).1
  have X0 : Stand p l e ({ frames := 0, cells := 0, slots := 0, locals := 0 } : Room) s m #[(.int p0), (.int p1)] below meth c s₁ [] 0 0 := Stand.of_body Bd
  have e0 : s₁.heap = h0 := by rw [← hh, Bd.state]; rfl
  have N0 := Fr.nil n0
  have pre0 : ∀ t, Steps p.tables e below (s₁.setTop (mkF m 0 #[.val (.int p0), .val (.int p1)] [])) t → Steps p.tables e below (s₁.setTop (entryFrame m #[(.int p0), (.int p1)] 2)) t := fun t k => castTop (ef_rmIC_lt m p0 p1) k
  obtain ⟨fs, hr, hrun, hended, hW, hsame⟩ := X0.leave (v := some (.int (-1 : Int32))) (fun h => by rw [Bd.returns] at h; cases h)
  refine ⟨_, _, pre0 _ ?_, hrun, hended, _, _, rfl, ?_, ⟨_, rfl⟩, hW, hsame.mono (by decide) (by decide)⟩
  · show Steps p.tables e below (s₁.setTop (mkF m 0 #[.val (.int p0), .val (.int p1)] [])) _
    refine XS.iloadN X0.here hx rfl (hb hby d8_0) rfl ?_
    show Steps p.tables e below (s₁.setTop (mkF m 1 #[.val (.int p0), .val (.int p1)] [(.int p0)])) _
    refine XS.iloadN X0.here hx rfl (hb hby d8_1) rfl ?_
    show Steps p.tables e below (s₁.setTop (mkF m 2 #[.val (.int p0), .val (.int p1)] [(.int p1), (.int p0)])) _
    refine XS.icmpNo X0.here hx rfl (hb hby d8_2) rfl (tlt hc2).2.1 ?_
    show Steps p.tables e below (s₁.setTop (mkF m 5 #[.val (.int p0), .val (.int p1)] [])) _
    refine XS.iconst X0.here hx rfl (hb hby d8_5) ?_
    show Steps p.tables e below (s₁.setTop (mkF m 6 #[.val (.int p0), .val (.int p1)] [(.int (-1 : Int32))])) _
    refine XS.goto X0.here hx rfl (pc0 := 6) (pc' := 19) rfl (hb hby d8_6) (by decide) (by decide) ?_
    show Steps p.tables e below (s₁.setTop (mkF m 19 #[.val (.int p0), .val (.int p1)] [(.int (-1 : Int32))])) _
    exact retI X0 hx Bd.returns (hb hby d8_19) hr
  · show Q_rmIC_lt Z p0 p1 h0 n0 _ s₁.heap _
    rw [e0]
    exact ⟨rfl, N0, rfl⟩
theorem d8_9 : decode jdk_33_method_40_code 9 = .ok (.iload_n 0, 1) := by decide +kernel
theorem d8_10 : decode jdk_33_method_40_code 10 = .ok (.iload_n 1, 1) := by decide +kernel
theorem d8_11 : decode jdk_33_method_40_code 11 = .ok (.if_icmp .ne 7, 3) := by decide +kernel
theorem d8_14 : decode jdk_33_method_40_code 14 = .ok (.iconst 0, 1) := by decide +kernel
theorem d8_15 : decode jdk_33_method_40_code 15 = .ok (.goto 4, 3) := by decide +kernel
def Q_rmIC_eq (Z : State) (p0 : Int32) (p1 : Int32) (h0 : Heap) (n0 : Nat) (v : Option Value) (h : Heap) (L : List Loc) : Prop := v = some (.int (0 : Int32)) ∧ Fr n0 L ∧ h = h0
theorem ef_rmIC_eq (m : MethodId) (p0 : Int32) (p1 : Int32) : entryFrame m #[(.int p0), (.int p1)] 2 = mkF m 0 #[.val (.int p0), .val (.int p1)] [] := by first | (simp [entryFrame, mkF, argsToLocals, Value.category]; done) | rfl
set_option maxRecDepth 65536 in
set_option maxHeartbeats 40000000 in
theorem rmIC_eq (l : Launch) (Z : State) (a0 : Array Value) (hw : ∀ d ∈ tables_1, d.before a0 Z = true) (ws : List Jvm.Cond) (p0 : Int32) (p1 : Int32) (h0 : Heap) (n0 : Nat) (Z0 : n0 ≤ h0.size) (hc2 : ¬ (p0 < p1)) (hc11 : p0 = p1) :
    MetFree l (⟨"java/lang/Integer", "compare", "(II)I"⟩ : MethodName) (head1 (Jvm.Cond.code (⟨"java/lang/Integer", "compare", "(II)I"⟩ : MethodName) jdk_33_method_40_code 2 (some .int) :: ws) ({ frames := 0, cells := 0, slots := 0, locals := 0 } : Room)) (fun a U => a = #[(.int p0), (.int p1)] ∧ Z.Warmed39 U.vm ∧ U.heap = h0) (fun _ _ _ _ _ => True) (fun _ U o U' => ∃ v L, o = .returned v ∧ Q_rmIC_eq Z p0 p1 h0 n0 v U'.heap L ∧ FrameEnd U o U' L ({ frames := 0, cells := 0, slots := 0, locals := 0 } : Room).cells ({ frames := 0, cells := 0, slots := 0, locals := 0 } : Room).slots) := by
  refine MetFree.of_bodySF (plainFor_of_name pn_5) hisR ?_
  intro p e s m args below meth c s₁ Bd hml0 hP hK
  obtain ⟨rfl, hZ, hh⟩ := hP
  have hx := Bd.exec
  have hby := Bd.bytes
  have hml : c.maxLocals = 2 := hml0
  have hown : s.vm.findClass "java/lang/Integer" = some m.cls := findClass_of_methodNamed Bd.named
  have hnm := (name_of_methodNamed Bd.named Bd.method).1
  have X0 : Stand p l e ({ frames := 0, cells := 0, slots := 0, locals := 0 } : Room) s m #[(.int p0), (.int p1)] below meth c s₁ [] 0 0 := Stand.of_body Bd
  have e0 : s₁.heap = h0 := by rw [← hh, Bd.state]; rfl
  have N0 := Fr.nil n0
  have pre0 : ∀ t, Steps p.tables e below (s₁.setTop (mkF m 0 #[.val (.int p0), .val (.int p1)] [])) t → Steps p.tables e below (s₁.setTop (entryFrame m #[(.int p0), (.int p1)] 2)) t := fun t k => castTop (ef_rmIC_eq m p0 p1) k
  obtain ⟨fs, hr, hrun, hended, hW, hsame⟩ := X0.leave (v := some (.int (0 : Int32))) (fun h => by rw [Bd.returns] at h; cases h)
  refine ⟨_, _, pre0 _ ?_, hrun, hended, _, _, rfl, ?_, ⟨_, rfl⟩, hW, hsame.mono (by decide) (by decide)⟩
  · show Steps p.tables e below (s₁.setTop (mkF m 0 #[.val (.int p0), .val (.int p1)] [])) _
    refine XS.iloadN X0.here hx rfl (hb hby d8_0) rfl ?_
    show Steps p.tables e below (s₁.setTop (mkF m 1 #[.val (.int p0), .val (.int p1)] [(.int p0)])) _
    refine XS.iloadN X0.here hx rfl (hb hby d8_1) rfl ?_
    show Steps p.tables e below (s₁.setTop (mkF m 2 #[.val (.int p0), .val (.int p1)] [(.int p1), (.int p0)])) _
    refine XS.icmpYes X0.here hx rfl (pc0 := 2) (pc' := 9) rfl (hb hby d8_2) rfl (flt hc2).2.1 (by decide) (by decide) ?_
    show Steps p.tables e below (s₁.setTop (mkF m 9 #[.val (.int p0), .val (.int p1)] [])) _
    refine XS.iloadN X0.here hx rfl (hb hby d8_9) rfl ?_
    show Steps p.tables e below (s₁.setTop (mkF m 10 #[.val (.int p0), .val (.int p1)] [(.int p0)])) _
    refine XS.iloadN X0.here hx rfl (hb hby d8_10) rfl ?_
    show Steps p.tables e below (s₁.setTop (mkF m 11 #[.val (.int p0), .val (.int p1)] [(.int p1), (.int p0)])) _
    refine XS.icmpNo X0.here hx rfl (hb hby d8_11) rfl (teq hc11).2 ?_
    show Steps p.tables e below (s₁.setTop (mkF m 14 #[.val (.int p0), .val (.int p1)] [])) _
    refine XS.iconst X0.here hx rfl (hb hby d8_14) ?_
    show Steps p.tables e below (s₁.setTop (mkF m 15 #[.val (.int p0), .val (.int p1)] [(.int (0 : Int32))])) _
    refine XS.goto X0.here hx rfl (pc0 := 15) (pc' := 19) rfl (hb hby d8_15) (by decide) (by decide) ?_
    show Steps p.tables e below (s₁.setTop (mkF m 19 #[.val (.int p0), .val (.int p1)] [(.int (0 : Int32))])) _
    exact retI X0 hx Bd.returns (hb hby d8_19) hr
  · show Q_rmIC_eq Z p0 p1 h0 n0 _ s₁.heap _
    rw [e0]
    exact ⟨rfl, N0, rfl⟩
theorem d8_18 : decode jdk_33_method_40_code 18 = .ok (.iconst 1, 1) := by decide +kernel
def Q_rmIC_gt (Z : State) (p0 : Int32) (p1 : Int32) (h0 : Heap) (n0 : Nat) (v : Option Value) (h : Heap) (L : List Loc) : Prop := v = some (.int (1 : Int32)) ∧ Fr n0 L ∧ h = h0
theorem ef_rmIC_gt (m : MethodId) (p0 : Int32) (p1 : Int32) : entryFrame m #[(.int p0), (.int p1)] 2 = mkF m 0 #[.val (.int p0), .val (.int p1)] [] := by first | (simp [entryFrame, mkF, argsToLocals, Value.category]; done) | rfl
set_option maxRecDepth 65536 in
set_option maxHeartbeats 40000000 in
theorem rmIC_gt (l : Launch) (Z : State) (a0 : Array Value) (hw : ∀ d ∈ tables_1, d.before a0 Z = true) (ws : List Jvm.Cond) (p0 : Int32) (p1 : Int32) (h0 : Heap) (n0 : Nat) (Z0 : n0 ≤ h0.size) (hc2 : ¬ (p0 < p1)) (hc11 : ¬ (p0 = p1)) :
    MetFree l (⟨"java/lang/Integer", "compare", "(II)I"⟩ : MethodName) (head1 (Jvm.Cond.code (⟨"java/lang/Integer", "compare", "(II)I"⟩ : MethodName) jdk_33_method_40_code 2 (some .int) :: ws) ({ frames := 0, cells := 0, slots := 0, locals := 0 } : Room)) (fun a U => a = #[(.int p0), (.int p1)] ∧ Z.Warmed39 U.vm ∧ U.heap = h0) (fun _ _ _ _ _ => True) (fun _ U o U' => ∃ v L, o = .returned v ∧ Q_rmIC_gt Z p0 p1 h0 n0 v U'.heap L ∧ FrameEnd U o U' L ({ frames := 0, cells := 0, slots := 0, locals := 0 } : Room).cells ({ frames := 0, cells := 0, slots := 0, locals := 0 } : Room).slots) := by
  refine MetFree.of_bodySF (plainFor_of_name pn_5) hisR ?_
  intro p e s m args below meth c s₁ Bd hml0 hP hK
  obtain ⟨rfl, hZ, hh⟩ := hP
  have hx := Bd.exec
  have hby := Bd.bytes
  have hml : c.maxLocals = 2 := hml0
  have hown : s.vm.findClass "java/lang/Integer" = some m.cls := findClass_of_methodNamed Bd.named
  have hnm := (name_of_methodNamed Bd.named Bd.method).1
  have X0 : Stand p l e ({ frames := 0, cells := 0, slots := 0, locals := 0 } : Room) s m #[(.int p0), (.int p1)] below meth c s₁ [] 0 0 := Stand.of_body Bd
  have e0 : s₁.heap = h0 := by rw [← hh, Bd.state]; rfl
  have N0 := Fr.nil n0
  have pre0 : ∀ t, Steps p.tables e below (s₁.setTop (mkF m 0 #[.val (.int p0), .val (.int p1)] [])) t → Steps p.tables e below (s₁.setTop (entryFrame m #[(.int p0), (.int p1)] 2)) t := fun t k => castTop (ef_rmIC_gt m p0 p1) k
  obtain ⟨fs, hr, hrun, hended, hW, hsame⟩ := X0.leave (v := some (.int (1 : Int32))) (fun h => by rw [Bd.returns] at h; cases h)
  refine ⟨_, _, pre0 _ ?_, hrun, hended, _, _, rfl, ?_, ⟨_, rfl⟩, hW, hsame.mono (by decide) (by decide)⟩
  · show Steps p.tables e below (s₁.setTop (mkF m 0 #[.val (.int p0), .val (.int p1)] [])) _
    refine XS.iloadN X0.here hx rfl (hb hby d8_0) rfl ?_
    show Steps p.tables e below (s₁.setTop (mkF m 1 #[.val (.int p0), .val (.int p1)] [(.int p0)])) _
    refine XS.iloadN X0.here hx rfl (hb hby d8_1) rfl ?_
    show Steps p.tables e below (s₁.setTop (mkF m 2 #[.val (.int p0), .val (.int p1)] [(.int p1), (.int p0)])) _
    refine XS.icmpYes X0.here hx rfl (pc0 := 2) (pc' := 9) rfl (hb hby d8_2) rfl (flt hc2).2.1 (by decide) (by decide) ?_
    show Steps p.tables e below (s₁.setTop (mkF m 9 #[.val (.int p0), .val (.int p1)] [])) _
    refine XS.iloadN X0.here hx rfl (hb hby d8_9) rfl ?_
    show Steps p.tables e below (s₁.setTop (mkF m 10 #[.val (.int p0), .val (.int p1)] [(.int p0)])) _
    refine XS.iloadN X0.here hx rfl (hb hby d8_10) rfl ?_
    show Steps p.tables e below (s₁.setTop (mkF m 11 #[.val (.int p0), .val (.int p1)] [(.int p1), (.int p0)])) _
    refine XS.icmpYes X0.here hx rfl (pc0 := 11) (pc' := 18) rfl (hb hby d8_11) rfl (feq hc11).2 (by decide) (by decide) ?_
    show Steps p.tables e below (s₁.setTop (mkF m 18 #[.val (.int p0), .val (.int p1)] [])) _
    refine XS.iconst X0.here hx rfl (hb hby d8_18) ?_
    show Steps p.tables e below (s₁.setTop (mkF m 19 #[.val (.int p0), .val (.int p1)] [(.int (1 : Int32))])) _
    exact retI X0 hx Bd.returns (hb hby d8_19) hr
  · show Q_rmIC_gt Z p0 p1 h0 n0 _ s₁.heap _
    rw [e0]
    exact ⟨rfl, N0, rfl⟩
def Q_rmIC_self (Z : State) (p0 : Int32) (p0 : Int32) (h0 : Heap) (n0 : Nat) (v : Option Value) (h : Heap) (L : List Loc) : Prop := v = some (.int (0 : Int32)) ∧ Fr n0 L ∧ h = h0
theorem ef_rmIC_self (m : MethodId) (p0 : Int32) (p0 : Int32) : entryFrame m #[(.int p0), (.int p0)] 2 = mkF m 0 #[.val (.int p0), .val (.int p0)] [] := by first | (simp [entryFrame, mkF, argsToLocals, Value.category]; done) | rfl
set_option maxRecDepth 65536 in
set_option maxHeartbeats 40000000 in
theorem rmIC_self (l : Launch) (Z : State) (a0 : Array Value) (hw : ∀ d ∈ tables_1, d.before a0 Z = true) (ws : List Jvm.Cond) (p0 : Int32) (p0 : Int32) (h0 : Heap) (n0 : Nat) (Z0 : n0 ≤ h0.size) (hc2 : ¬ (p0 < p0)) :
    MetFree l (⟨"java/lang/Integer", "compare", "(II)I"⟩ : MethodName) (head1 (Jvm.Cond.code (⟨"java/lang/Integer", "compare", "(II)I"⟩ : MethodName) jdk_33_method_40_code 2 (some .int) :: ws) ({ frames := 0, cells := 0, slots := 0, locals := 0 } : Room)) (fun a U => a = #[(.int p0), (.int p0)] ∧ Z.Warmed39 U.vm ∧ U.heap = h0) (fun _ _ _ _ _ => True) (fun _ U o U' => ∃ v L, o = .returned v ∧ Q_rmIC_self Z p0 p0 h0 n0 v U'.heap L ∧ FrameEnd U o U' L ({ frames := 0, cells := 0, slots := 0, locals := 0 } : Room).cells ({ frames := 0, cells := 0, slots := 0, locals := 0 } : Room).slots) := by
  refine MetFree.of_bodySF (plainFor_of_name pn_5) hisR ?_
  intro p e s m args below meth c s₁ Bd hml0 hP hK
  obtain ⟨rfl, hZ, hh⟩ := hP
  have hx := Bd.exec
  have hby := Bd.bytes
  have hml : c.maxLocals = 2 := hml0
  have hown : s.vm.findClass "java/lang/Integer" = some m.cls := findClass_of_methodNamed Bd.named
  have hnm := (name_of_methodNamed Bd.named Bd.method).1
  have X0 : Stand p l e ({ frames := 0, cells := 0, slots := 0, locals := 0 } : Room) s m #[(.int p0), (.int p0)] below meth c s₁ [] 0 0 := Stand.of_body Bd
  have e0 : s₁.heap = h0 := by rw [← hh, Bd.state]; rfl
  have N0 := Fr.nil n0
  have pre0 : ∀ t, Steps p.tables e below (s₁.setTop (mkF m 0 #[.val (.int p0), .val (.int p0)] [])) t → Steps p.tables e below (s₁.setTop (entryFrame m #[(.int p0), (.int p0)] 2)) t := fun t k => castTop (ef_rmIC_self m p0 p0) k
  obtain ⟨fs, hr, hrun, hended, hW, hsame⟩ := X0.leave (v := some (.int (0 : Int32))) (fun h => by rw [Bd.returns] at h; cases h)
  refine ⟨_, _, pre0 _ ?_, hrun, hended, _, _, rfl, ?_, ⟨_, rfl⟩, hW, hsame.mono (by decide) (by decide)⟩
  · show Steps p.tables e below (s₁.setTop (mkF m 0 #[.val (.int p0), .val (.int p0)] [])) _
    refine XS.iloadN X0.here hx rfl (hb hby d8_0) rfl ?_
    show Steps p.tables e below (s₁.setTop (mkF m 1 #[.val (.int p0), .val (.int p0)] [(.int p0)])) _
    refine XS.iloadN X0.here hx rfl (hb hby d8_1) rfl ?_
    show Steps p.tables e below (s₁.setTop (mkF m 2 #[.val (.int p0), .val (.int p0)] [(.int p0), (.int p0)])) _
    refine XS.icmpYes X0.here hx rfl (pc0 := 2) (pc' := 9) rfl (hb hby d8_2) rfl (flt hc2).2.1 (by decide) (by decide) ?_
    show Steps p.tables e below (s₁.setTop (mkF m 9 #[.val (.int p0), .val (.int p0)] [])) _
    refine XS.iloadN X0.here hx rfl (hb hby d8_9) rfl ?_
    show Steps p.tables e below (s₁.setTop (mkF m 10 #[.val (.int p0), .val (.int p0)] [(.int p0)])) _
    refine XS.iloadN X0.here hx rfl (hb hby d8_10) rfl ?_
    show Steps p.tables e below (s₁.setTop (mkF m 11 #[.val (.int p0), .val (.int p0)] [(.int p0), (.int p0)])) _
    refine XS.icmpNo X0.here hx rfl (hb hby d8_11) rfl (teq (rfl : p0 = p0)).2 ?_
    show Steps p.tables e below (s₁.setTop (mkF m 14 #[.val (.int p0), .val (.int p0)] [])) _
    refine XS.iconst X0.here hx rfl (hb hby d8_14) ?_
    show Steps p.tables e below (s₁.setTop (mkF m 15 #[.val (.int p0), .val (.int p0)] [(.int (0 : Int32))])) _
    refine XS.goto X0.here hx rfl (pc0 := 15) (pc' := 19) rfl (hb hby d8_15) (by decide) (by decide) ?_
    show Steps p.tables e below (s₁.setTop (mkF m 19 #[.val (.int p0), .val (.int p0)] [(.int (0 : Int32))])) _
    exact retI X0 hx Bd.returns (hb hby d8_19) hr
  · show Q_rmIC_self Z p0 p0 h0 n0 _ s₁.heap _
    rw [e0]
    exact ⟨rfl, N0, rfl⟩
theorem d9_0 : decode jdk_117_method_6_code 0 = .ok (.dload_n 0, 1) := by decide +kernel
theorem d9_1 : decode jdk_117_method_6_code 1 = .ok (.dload_n 0, 1) := by decide +kernel
theorem d9_2 : decode jdk_117_method_6_code 2 = .ok (.dcmp .l, 1) := by decide +kernel
theorem d9_3 : decode jdk_117_method_6_code 3 = .ok (.ifCond .eq 7, 3) := by decide +kernel
theorem d9_10 : decode jdk_117_method_6_code 10 = .ok (.iconst 0, 1) := by decide +kernel
theorem d9_11 : decode jdk_117_method_6_code 11 = .ok (.ireturn, 1) := by decide +kernel
theorem pn_6 : plainFor (⟨"java/lang/Double", "isNaN", "(D)Z"⟩ : MethodName) = true := by decide +kernel
def Q_rmNaN (Z : State) (t0 : UInt64) (h0 : Heap) (n0 : Nat) (v : Option Value) (h : Heap) (L : List Loc) : Prop := v = some (.int (0 : Int32)) ∧ Fr n0 L ∧ h = h0
theorem ef_rmNaN (m : MethodId) (t0 : UInt64) : entryFrame m #[(.double t0)] 2 = mkF m 0 #[.val (.double t0), .second] [] := by first | (simp [entryFrame, mkF, argsToLocals, Value.category]; done) | rfl
set_option maxRecDepth 65536 in
set_option maxHeartbeats 40000000 in
theorem rmNaN (l : Launch) (Z : State) (a0 : Array Value) (hw : ∀ d ∈ tables_1, d.before a0 Z = true) (ws : List Jvm.Cond) (t0 : UInt64) (h0 : Heap) (n0 : Nat) (Z0 : n0 ≤ h0.size) (hn : NoNaN64 t0) :
    MetFree l (⟨"java/lang/Double", "isNaN", "(D)Z"⟩ : MethodName) (head1 (Jvm.Cond.code (⟨"java/lang/Double", "isNaN", "(D)Z"⟩ : MethodName) jdk_117_method_6_code 2 (some .boolean) :: ws) ({ frames := 0, cells := 0, slots := 0, locals := 0 } : Room)) (fun a U => a = #[(.double t0)] ∧ Z.Warmed39 U.vm ∧ U.heap = h0) (fun _ _ _ _ _ => True) (fun _ U o U' => ∃ v L, o = .returned v ∧ Q_rmNaN Z t0 h0 n0 v U'.heap L ∧ FrameEnd U o U' L ({ frames := 0, cells := 0, slots := 0, locals := 0 } : Room).cells ({ frames := 0, cells := 0, slots := 0, locals := 0 } : Room).slots) := by
  refine MetFree.of_bodySF pn_6 hisR ?_
  intro p e s m args below meth c s₁ Bd hml0 hP hK
  obtain ⟨rfl, hZ, hh⟩ := hP
  have hx := Bd.exec
  have hby := Bd.bytes
  have hml : c.maxLocals = 2 := hml0
  have hown : s.vm.findClass "java/lang/Double" = some m.cls := findClass_of_methodNamed Bd.named
  have hnm := (name_of_methodNamed Bd.named Bd.method).1
  have X0 : Stand p l e ({ frames := 0, cells := 0, slots := 0, locals := 0 } : Room) s m #[(.double t0)] below meth c s₁ [] 0 0 := Stand.of_body Bd
  have e0 : s₁.heap = h0 := by rw [← hh, Bd.state]; rfl
  have N0 := Fr.nil n0
  have pre0 : ∀ t, Steps p.tables e below (s₁.setTop (mkF m 0 #[.val (.double t0), .second] [])) t → Steps p.tables e below (s₁.setTop (entryFrame m #[(.double t0)] 2)) t := fun t k => castTop (ef_rmNaN m t0) k
  obtain ⟨fs, hr, hrun, hended, hW, hsame⟩ := X0.leave (v := some (.int (0 : Int32))) (fun h => by rw [Bd.returns] at h; cases h)
  refine ⟨_, _, pre0 _ ?_, hrun, hended, _, _, rfl, ?_, ⟨_, rfl⟩, hW, hsame.mono (by decide) (by decide)⟩
  · show Steps p.tables e below (s₁.setTop (mkF m 0 #[.val (.double t0), .second] [])) _
    refine XS.dloadN X0.here hx rfl (hb hby d9_0) rfl ?_
    show Steps p.tables e below (s₁.setTop (mkF m 1 #[.val (.double t0), .second] [(.double t0)])) _
    refine XS.dloadN X0.here hx rfl (hb hby d9_1) rfl ?_
    show Steps p.tables e below (s₁.setTop (mkF m 2 #[.val (.double t0), .second] [(.double t0), (.double t0)])) _
    refine XS.dcmpS X0.here hx rfl (hb hby d9_2) rfl (v := (0 : Int32)) (dcmpV_self hn .l) ?_
    show Steps p.tables e below (s₁.setTop (mkF m 3 #[.val (.double t0), .second] [(.int (0 : Int32))])) _
    refine XS.ifYes X0.here hx rfl (pc0 := 3) (pc' := 10) rfl (hb hby d9_3) rfl ((if0 _ _).trans (teq (rfl : (0 : Int32) = (0 : Int32))).1) (by decide) (by decide) ?_
    show Steps p.tables e below (s₁.setTop (mkF m 10 #[.val (.double t0), .second] [])) _
    refine XS.iconst X0.here hx rfl (hb hby d9_10) ?_
    show Steps p.tables e below (s₁.setTop (mkF m 11 #[.val (.double t0), .second] [(.int (0 : Int32))])) _
    exact retN X0 hx (t := .boolean) Bd.returns (by simp) (hb hby d9_11) hr
  · show Q_rmNaN Z t0 h0 n0 _ s₁.heap _
    rw [e0]
    exact ⟨rfl, N0, rfl⟩
theorem d10_0 : decode jdk_117_method_23_code 0 = .ok (.dload_n 0, 1) := by decide +kernel
theorem d10_1 : decode jdk_117_method_23_code 1 = .ok (.invokestatic 122, 3) := by decide +kernel
theorem pd_6 : parseMethodDescriptor "(D)Z" = some ⟨[.double], some .boolean⟩ := by decide +kernel
theorem d10_4 : decode jdk_117_method_23_code 4 = .ok (.ifCond .ne 8, 3) := by decide +kernel
theorem d10_7 : decode jdk_117_method_23_code 7 = .ok (.dload_n 0, 1) := by decide +kernel
theorem d10_8 : decode jdk_117_method_23_code 8 = .ok (.invokestatic 134, 3) := by decide +kernel
theorem d10_11 : decode jdk_117_method_23_code 11 = .ok (.lreturn, 1) := by decide +kernel
theorem pn_7 : plainFor (⟨"java/lang/Double", "doubleToLongBits", "(D)J"⟩ : MethodName) = true := by decide +kernel
def Q_rmDLB (Z : State) (t0 : UInt64) (h0 : Heap) (n0 : Nat) (v : Option Value) (h : Heap) (L : List Loc) : Prop := v = some (.long (t0).toInt64) ∧ Fr n0 L ∧ h = h0
theorem ef_rmDLB (m : MethodId) (t0 : UInt64) : entryFrame m #[(.double t0)] 2 = mkF m 0 #[.val (.double t0), .second] [] := by first | (simp [entryFrame, mkF, argsToLocals, Value.category]; done) | rfl
set_option maxRecDepth 65536 in
set_option maxHeartbeats 40000000 in
theorem rmDLB (l : Launch) (Z : State) (a0 : Array Value) (hw : ∀ d ∈ tables_1, d.before a0 Z = true) (ws : List Jvm.Cond) (t0 : UInt64) (h0 : Heap) (n0 : Nat) (Z0 : n0 ≤ h0.size) (hn : NoNaN64 t0) :
    MetFree l (⟨"java/lang/Double", "doubleToLongBits", "(D)J"⟩ : MethodName) (head1 (Jvm.Cond.code (⟨"java/lang/Double", "doubleToLongBits", "(D)J"⟩ : MethodName) jdk_117_method_23_code 2 (some .long) :: ws) ({ frames := 1, cells := 0, slots := 0, locals := 15 } : Room)) (fun a U => a = #[(.double t0)] ∧ Z.Warmed39 U.vm ∧ U.heap = h0) (fun _ _ _ _ _ => True) (fun _ U o U' => ∃ v L, o = .returned v ∧ Q_rmDLB Z t0 h0 n0 v U'.heap L ∧ FrameEnd U o U' L ({ frames := 1, cells := 0, slots := 0, locals := 15 } : Room).cells ({ frames := 1, cells := 0, slots := 0, locals := 15 } : Room).slots) := by
  refine MetFree.of_bodySF pn_7 hisR ?_
  intro p e s m args below meth c s₁ Bd hml0 hP hK
  obtain ⟨rfl, hZ, hh⟩ := hP
  have hx := Bd.exec
  have hby := Bd.bytes
  have hml : c.maxLocals = 2 := hml0
  have hown : s.vm.findClass "java/lang/Double" = some m.cls := findClass_of_methodNamed Bd.named
  have hnm := (name_of_methodNamed Bd.named Bd.method).1
  have X0 : Stand p l e ({ frames := 1, cells := 0, slots := 0, locals := 15 } : Room) s m #[(.double t0)] below meth c s₁ [] 0 0 := Stand.of_body Bd
  have e0 : s₁.heap = h0 := by rw [← hh, Bd.state]; rfl
  have N0 := Fr.nil n0
  have pre0 : ∀ t, Steps p.tables e below (s₁.setTop (mkF m 0 #[.val (.double t0), .second] [])) t → Steps p.tables e below (s₁.setTop (entryFrame m #[(.double t0)] 2)) t := fun t k => castTop (ef_rmDLB m t0) k
  obtain ⟨_, _, ⟨T1, L1, k1, n1⟩, -, X1, ⟨Lc1, hQ1, l1, y1, z1⟩, st1⟩ := Jvm.LawKit.callS X0 hx (y := (⟨"java/lang/Double", "isNaN", "(D)Z"⟩ : MethodName)) hown (mvT hZ (hw _ (List.mem_of_getElem? (i := 74) rfl))) (mvT hZ (hw _ (List.mem_of_getElem? (i := 75) rfl))) (mvT hZ (hw _ (List.mem_of_getElem? (i := 69) rfl))) (mvT hZ (hw _ (List.mem_of_getElem? (i := 76) rfl))) (by decide) (backOf (W := 0) (rmNaN l Z a0 hw [] t0 h0 n0 Z0 hn) hZ (hw _ (List.mem_of_getElem? (i := 76) rfl)) (hw _ (List.mem_of_getElem? (i := 69) rfl)) (by decide) (by decide)) (g := (mkF m 1 #[.val (.double t0), .second] [(.double t0)])) rfl (by rw [hml]; rfl) (argsL := [(.double t0)]) (rest := []) (lenOf pd_6 rfl) rfl (by show 2 * 0 + _ ≤ _; exact Nat.le_of_eq rfl) (hb hby d10_1) (fun _ _ => ⟨rfl, e0, (by decide : 0 + 0 ≤ _), (by decide : 0 + 0 ≤ _)⟩)
  dsimp only [Pt.U, Pt.locs, Pt.cells, Pt.slots] at X1 l1 y1 z1 st1 hQ1
  subst l1 y1 z1
  obtain ⟨rfl, Nq1, e1⟩ := hQ1
  have N1 := Fr.app N0 Nq1
  obtain ⟨T2, X2, e2, st2⟩ := own_bits X1 hx hZ hown (hw _ (List.mem_of_getElem? (i := 77) rfl)) (hw _ (List.mem_of_getElem? (i := 78) rfl)) (hw _ (List.mem_of_getElem? (i := 69) rfl)) (hw _ (List.mem_of_getElem? (i := 79) rfl)) e1 (g := (mkF m 8 #[.val (.double t0), .second] [(.double t0)])) rfl (by rw [hml]; rfl) (b := t0) (rest := []) rfl (W := 0) (by show 2 * 0 + _ ≤ _; exact Nat.le_of_eq rfl) (hb hby d10_8) (by decide) (by decide)
  obtain ⟨fs, hr, hrun, hended, hW, hsame⟩ := X2.leave (v := some (.long (t0).toInt64)) (fun h => by rw [Bd.returns] at h; cases h)
  refine ⟨_, _, pre0 _ ?_, hrun, hended, _, _, rfl, ?_, ⟨_, rfl⟩, hW, hsame.mono (by decide) (by decide)⟩
  · show Steps p.tables e below (s₁.setTop (mkF m 0 #[.val (.double t0), .second] [])) _
    refine XS.dloadN X0.here hx rfl (hb hby d10_0) rfl ?_
    show Steps p.tables e below (s₁.setTop (mkF m 1 #[.val (.double t0), .second] [(.double t0)])) _
    refine st1 _ ?_
    show Steps p.tables e below (T1.setTop (mkF m 4 #[.val (.double t0), .second] [(.int (0 : Int32))])) _
    refine XS.ifNo X1.here hx rfl (hb hby d10_4) rfl ((if0 _ _).trans (teq (rfl : (0 : Int32) = (0 : Int32))).2) ?_
    show Steps p.tables e below (T1.setTop (mkF m 7 #[.val (.double t0), .second] [])) _
    refine XS.dloadN X1.here hx rfl (hb hby d10_7) rfl ?_
    show Steps p.tables e below (T1.setTop (mkF m 8 #[.val (.double t0), .second] [(.double t0)])) _
    refine st2 _ ?_
    show Steps p.tables e below (T2.setTop (mkF m 11 #[.val (.double t0), .second] [(.long (t0).toInt64)])) _
    exact retOut X2 hx Bd.returns rfl (Or.inr (Or.inl ⟨rfl, rfl, _, rfl⟩)) (hb hby d10_11) hr
  · show Q_rmDLB Z t0 h0 n0 _ T2.heap _
    rw [e2]
    exact ⟨rfl, N1, rfl⟩
theorem d11_0 : decode jdk_117_method_27_code 0 = .ok (.dload_n 0, 1) := by decide +kernel
theorem d11_1 : decode jdk_117_method_27_code 1 = .ok (.dload_n 2, 1) := by decide +kernel
theorem d11_2 : decode jdk_117_method_27_code 2 = .ok (.dcmp .g, 1) := by decide +kernel
theorem d11_3 : decode jdk_117_method_27_code 3 = .ok (.ifCond .ge 5, 3) := by decide +kernel
theorem d11_6 : decode jdk_117_method_27_code 6 = .ok (.iconst (-1), 1) := by decide +kernel
theorem d11_7 : decode jdk_117_method_27_code 7 = .ok (.ireturn, 1) := by decide +kernel
theorem pn_8 : plainFor (⟨"java/lang/Double", "compare", "(DD)I"⟩ : MethodName) = true := by decide +kernel
def Q_rmDC_lt (Z : State) (t0 : UInt64) (t2 : UInt64) (h0 : Heap) (n0 : Nat) (v : Option Value) (h : Heap) (L : List Loc) : Prop := v = some (.int (-1 : Int32)) ∧ Fr n0 L ∧ h = h0
theorem ef_rmDC_lt (m : MethodId) (t0 : UInt64) (t2 : UInt64) : entryFrame m #[(.double t0), (.double t2)] 8 = mkF m 0 #[.val (.double t0), .second, .val (.double t2), .second, .unset, .unset, .unset, .unset] [] := by first | (simp [entryFrame, mkF, argsToLocals, Value.category]; done) | rfl
set_option maxRecDepth 65536 in
set_option maxHeartbeats 40000000 in
theorem rmDC_lt (l : Launch) (Z : State) (a0 : Array Value) (hw : ∀ d ∈ tables_1, d.before a0 Z = true) (ws : List Jvm.Cond) (t0 : UInt64) (t2 : UInt64) (h0 : Heap) (n0 : Nat) (Z0 : n0 ≤ h0.size) (hc3 : (cmpValue (FP.dcmp t0 t2) .g) < (0 : Int32)) :
    MetFree l (⟨"java/lang/Double", "compare", "(DD)I"⟩ : MethodName) (head1 (Jvm.Cond.code (⟨"java/lang/Double", "compare", "(DD)I"⟩ : MethodName) jdk_117_method_27_code 8 (some .int) :: ws) ({ frames := 0, cells := 0, slots := 0, locals := 0 } : Room)) (fun a U => a = #[(.double t0), (.double t2)] ∧ Z.Warmed39 U.vm ∧ U.heap = h0) (fun _ _ _ _ _ => True) (fun _ U o U' => ∃ v L, o = .returned v ∧ Q_rmDC_lt Z t0 t2 h0 n0 v U'.heap L ∧ FrameEnd U o U' L ({ frames := 0, cells := 0, slots := 0, locals := 0 } : Room).cells ({ frames := 0, cells := 0, slots := 0, locals := 0 } : Room).slots) := by
  refine MetFree.of_bodySF pn_8 hisR ?_
  intro p e s m args below meth c s₁ Bd hml0 hP hK
  obtain ⟨rfl, hZ, hh⟩ := hP
  have hx := Bd.exec
  have hby := Bd.bytes
  have hml : c.maxLocals = 8 := hml0
  have hown : s.vm.findClass "java/lang/Double" = some m.cls := findClass_of_methodNamed Bd.named
  have hnm := (name_of_methodNamed Bd.named Bd.method).1
  have X0 : Stand p l e ({ frames := 0, cells := 0, slots := 0, locals := 0 } : Room) s m #[(.double t0), (.double t2)] below meth c s₁ [] 0 0 := Stand.of_body Bd
  have e0 : s₁.heap = h0 := by rw [← hh, Bd.state]; rfl
  have N0 := Fr.nil n0
  have pre0 : ∀ t, Steps p.tables e below (s₁.setTop (mkF m 0 #[.val (.double t0), .second, .val (.double t2), .second, .unset, .unset, .unset, .unset] [])) t → Steps p.tables e below (s₁.setTop (entryFrame m #[(.double t0), (.double t2)] 8)) t := fun t k => castTop (ef_rmDC_lt m t0 t2) k
  obtain ⟨fs, hr, hrun, hended, hW, hsame⟩ := X0.leave (v := some (.int (-1 : Int32))) (fun h => by rw [Bd.returns] at h; cases h)
  refine ⟨_, _, pre0 _ ?_, hrun, hended, _, _, rfl, ?_, ⟨_, rfl⟩, hW, hsame.mono (by decide) (by decide)⟩
  · show Steps p.tables e below (s₁.setTop (mkF m 0 #[.val (.double t0), .second, .val (.double t2), .second, .unset, .unset, .unset, .unset] [])) _
    refine XS.dloadN X0.here hx rfl (hb hby d11_0) rfl ?_
    show Steps p.tables e below (s₁.setTop (mkF m 1 #[.val (.double t0), .second, .val (.double t2), .second, .unset, .unset, .unset, .unset] [(.double t0)])) _
    refine XS.dloadN X0.here hx rfl (hb hby d11_1) rfl ?_
    show Steps p.tables e below (s₁.setTop (mkF m 2 #[.val (.double t0), .second, .val (.double t2), .second, .unset, .unset, .unset, .unset] [(.double t2), (.double t0)])) _
    refine XS.dcmpS X0.here hx rfl (hb hby d11_2) rfl rfl ?_
    show Steps p.tables e below (s₁.setTop (mkF m 3 #[.val (.double t0), .second, .val (.double t2), .second, .unset, .unset, .unset, .unset] [(.int (cmpValue (FP.dcmp t0 t2) .g))])) _
    refine XS.ifNo X0.here hx rfl (hb hby d11_3) rfl ((if0 _ _).trans (tlt hc3).2.1) ?_
    show Steps p.tables e below (s₁.setTop (mkF m 6 #[.val (.double t0), .second, .val (.double t2), .second, .unset, .unset, .unset, .unset] [])) _
    refine XS.iconst X0.here hx rfl (hb hby d11_6) ?_
    show Steps p.tables e below (s₁.setTop (mkF m 7 #[.val (.double t0), .second, .val (.double t2), .second, .unset, .unset, .unset, .unset] [(.int (-1 : Int32))])) _
    exact retI X0 hx Bd.returns (hb hby d11_7) hr
  · show Q_rmDC_lt Z t0 t2 h0 n0 _ s₁.heap _
    rw [e0]
    exact ⟨rfl, N0, rfl⟩
theorem d11_8 : decode jdk_117_method_27_code 8 = .ok (.dload_n 0, 1) := by decide +kernel
theorem d11_9 : decode jdk_117_method_27_code 9 = .ok (.dload_n 2, 1) := by decide +kernel
theorem d11_10 : decode jdk_117_method_27_code 10 = .ok (.dcmp .l, 1) := by decide +kernel
theorem d11_11 : decode jdk_117_method_27_code 11 = .ok (.ifCond .le 5, 3) := by decide +kernel
theorem d11_14 : decode jdk_117_method_27_code 14 = .ok (.iconst 1, 1) := by decide +kernel
theorem d11_15 : decode jdk_117_method_27_code 15 = .ok (.ireturn, 1) := by decide +kernel
def Q_rmDC_gt (Z : State) (t0 : UInt64) (t2 : UInt64) (h0 : Heap) (n0 : Nat) (v : Option Value) (h : Heap) (L : List Loc) : Prop := v = some (.int (1 : Int32)) ∧ Fr n0 L ∧ h = h0
theorem ef_rmDC_gt (m : MethodId) (t0 : UInt64) (t2 : UInt64) : entryFrame m #[(.double t0), (.double t2)] 8 = mkF m 0 #[.val (.double t0), .second, .val (.double t2), .second, .unset, .unset, .unset, .unset] [] := by first | (simp [entryFrame, mkF, argsToLocals, Value.category]; done) | rfl
set_option maxRecDepth 65536 in
set_option maxHeartbeats 40000000 in
theorem rmDC_gt (l : Launch) (Z : State) (a0 : Array Value) (hw : ∀ d ∈ tables_1, d.before a0 Z = true) (ws : List Jvm.Cond) (t0 : UInt64) (t2 : UInt64) (h0 : Heap) (n0 : Nat) (Z0 : n0 ≤ h0.size) (hc3 : ¬ ((cmpValue (FP.dcmp t0 t2) .g) < (0 : Int32))) (hc11 : (0 : Int32) < (cmpValue (FP.dcmp t0 t2) .l)) :
    MetFree l (⟨"java/lang/Double", "compare", "(DD)I"⟩ : MethodName) (head1 (Jvm.Cond.code (⟨"java/lang/Double", "compare", "(DD)I"⟩ : MethodName) jdk_117_method_27_code 8 (some .int) :: ws) ({ frames := 0, cells := 0, slots := 0, locals := 0 } : Room)) (fun a U => a = #[(.double t0), (.double t2)] ∧ Z.Warmed39 U.vm ∧ U.heap = h0) (fun _ _ _ _ _ => True) (fun _ U o U' => ∃ v L, o = .returned v ∧ Q_rmDC_gt Z t0 t2 h0 n0 v U'.heap L ∧ FrameEnd U o U' L ({ frames := 0, cells := 0, slots := 0, locals := 0 } : Room).cells ({ frames := 0, cells := 0, slots := 0, locals := 0 } : Room).slots) := by
  refine MetFree.of_bodySF pn_8 hisR ?_
  intro p e s m args below meth c s₁ Bd hml0 hP hK
  obtain ⟨rfl, hZ, hh⟩ := hP
  have hx := Bd.exec
  have hby := Bd.bytes
  have hml : c.maxLocals = 8 := hml0
  have hown : s.vm.findClass "java/lang/Double" = some m.cls := findClass_of_methodNamed Bd.named
  have hnm := (name_of_methodNamed Bd.named Bd.method).1
  have X0 : Stand p l e ({ frames := 0, cells := 0, slots := 0, locals := 0 } : Room) s m #[(.double t0), (.double t2)] below meth c s₁ [] 0 0 := Stand.of_body Bd
  have e0 : s₁.heap = h0 := by rw [← hh, Bd.state]; rfl
  have N0 := Fr.nil n0
  have pre0 : ∀ t, Steps p.tables e below (s₁.setTop (mkF m 0 #[.val (.double t0), .second, .val (.double t2), .second, .unset, .unset, .unset, .unset] [])) t → Steps p.tables e below (s₁.setTop (entryFrame m #[(.double t0), (.double t2)] 8)) t := fun t k => castTop (ef_rmDC_gt m t0 t2) k
  obtain ⟨fs, hr, hrun, hended, hW, hsame⟩ := X0.leave (v := some (.int (1 : Int32))) (fun h => by rw [Bd.returns] at h; cases h)
  refine ⟨_, _, pre0 _ ?_, hrun, hended, _, _, rfl, ?_, ⟨_, rfl⟩, hW, hsame.mono (by decide) (by decide)⟩
  · show Steps p.tables e below (s₁.setTop (mkF m 0 #[.val (.double t0), .second, .val (.double t2), .second, .unset, .unset, .unset, .unset] [])) _
    refine XS.dloadN X0.here hx rfl (hb hby d11_0) rfl ?_
    show Steps p.tables e below (s₁.setTop (mkF m 1 #[.val (.double t0), .second, .val (.double t2), .second, .unset, .unset, .unset, .unset] [(.double t0)])) _
    refine XS.dloadN X0.here hx rfl (hb hby d11_1) rfl ?_
    show Steps p.tables e below (s₁.setTop (mkF m 2 #[.val (.double t0), .second, .val (.double t2), .second, .unset, .unset, .unset, .unset] [(.double t2), (.double t0)])) _
    refine XS.dcmpS X0.here hx rfl (hb hby d11_2) rfl rfl ?_
    show Steps p.tables e below (s₁.setTop (mkF m 3 #[.val (.double t0), .second, .val (.double t2), .second, .unset, .unset, .unset, .unset] [(.int (cmpValue (FP.dcmp t0 t2) .g))])) _
    refine XS.ifYes X0.here hx rfl (pc0 := 3) (pc' := 8) rfl (hb hby d11_3) rfl ((if0 _ _).trans (flt hc3).2.1) (by decide) (by decide) ?_
    show Steps p.tables e below (s₁.setTop (mkF m 8 #[.val (.double t0), .second, .val (.double t2), .second, .unset, .unset, .unset, .unset] [])) _
    refine XS.dloadN X0.here hx rfl (hb hby d11_8) rfl ?_
    show Steps p.tables e below (s₁.setTop (mkF m 9 #[.val (.double t0), .second, .val (.double t2), .second, .unset, .unset, .unset, .unset] [(.double t0)])) _
    refine XS.dloadN X0.here hx rfl (hb hby d11_9) rfl ?_
    show Steps p.tables e below (s₁.setTop (mkF m 10 #[.val (.double t0), .second, .val (.double t2), .second, .unset, .unset, .unset, .unset] [(.double t2), (.double t0)])) _
    refine XS.dcmpS X0.here hx rfl (hb hby d11_10) rfl rfl ?_
    show Steps p.tables e below (s₁.setTop (mkF m 11 #[.val (.double t0), .second, .val (.double t2), .second, .unset, .unset, .unset, .unset] [(.int (cmpValue (FP.dcmp t0 t2) .l))])) _
    refine XS.ifNo X0.here hx rfl (hb hby d11_11) rfl ((if0 _ _).trans (tlt hc11).2.2.2) ?_
    show Steps p.tables e below (s₁.setTop (mkF m 14 #[.val (.double t0), .second, .val (.double t2), .second, .unset, .unset, .unset, .unset] [])) _
    refine XS.iconst X0.here hx rfl (hb hby d11_14) ?_
    show Steps p.tables e below (s₁.setTop (mkF m 15 #[.val (.double t0), .second, .val (.double t2), .second, .unset, .unset, .unset, .unset] [(.int (1 : Int32))])) _
    exact retI X0 hx Bd.returns (hb hby d11_15) hr
  · show Q_rmDC_gt Z t0 t2 h0 n0 _ s₁.heap _
    rw [e0]
    exact ⟨rfl, N0, rfl⟩
theorem d11_16 : decode jdk_117_method_27_code 16 = .ok (.dload_n 0, 1) := by decide +kernel
theorem d11_17 : decode jdk_117_method_27_code 17 = .ok (.invokestatic 46, 3) := by decide +kernel
theorem pd_7 : parseMethodDescriptor "(D)J" = some ⟨[.double], some .long⟩ := by decide +kernel
theorem d11_20 : decode jdk_117_method_27_code 20 = .ok (.lstore 4, 2) := by decide +kernel
theorem d11_22 : decode jdk_117_method_27_code 22 = .ok (.dload_n 2, 1) := by decide +kernel
theorem d11_23 : decode jdk_117_method_27_code 23 = .ok (.invokestatic 46, 3) := by decide +kernel
theorem d11_26 : decode jdk_117_method_27_code 26 = .ok (.lstore 6, 2) := by decide +kernel
theorem d11_28 : decode jdk_117_method_27_code 28 = .ok (.lload 4, 2) := by decide +kernel
theorem d11_30 : decode jdk_117_method_27_code 30 = .ok (.lload 6, 2) := by decide +kernel
theorem d11_32 : decode jdk_117_method_27_code 32 = .ok (.lcmp, 1) := by decide +kernel
theorem d11_33 : decode jdk_117_method_27_code 33 = .ok (.ifCond .ne 7, 3) := by decide +kernel
theorem d11_36 : decode jdk_117_method_27_code 36 = .ok (.iconst 0, 1) := by decide +kernel
theorem d11_37 : decode jdk_117_method_27_code 37 = .ok (.goto 16, 3) := by decide +kernel
theorem d11_53 : decode jdk_117_method_27_code 53 = .ok (.ireturn, 1) := by decide +kernel
def Q_rmDC_eq (Z : State) (t0 : UInt64) (t0 : UInt64) (h0 : Heap) (n0 : Nat) (v : Option Value) (h : Heap) (L : List Loc) : Prop := v = some (.int (0 : Int32)) ∧ Fr n0 L ∧ h = h0
theorem ef_rmDC_eq (m : MethodId) (t0 : UInt64) (t0 : UInt64) : entryFrame m #[(.double t0), (.double t0)] 8 = mkF m 0 #[.val (.double t0), .second, .val (.double t0), .second, .unset, .unset, .unset, .unset] [] := by first | (simp [entryFrame, mkF, argsToLocals, Value.category]; done) | rfl
set_option maxRecDepth 65536 in
set_option maxHeartbeats 40000000 in
theorem rmDC_eq (l : Launch) (Z : State) (a0 : Array Value) (hw : ∀ d ∈ tables_1, d.before a0 Z = true) (ws : List Jvm.Cond) (t0 : UInt64) (t0 : UInt64) (h0 : Heap) (n0 : Nat) (Z0 : n0 ≤ h0.size) (hn : NoNaN64 t0) :
    MetFree l (⟨"java/lang/Double", "compare", "(DD)I"⟩ : MethodName) (head1 (Jvm.Cond.code (⟨"java/lang/Double", "compare", "(DD)I"⟩ : MethodName) jdk_117_method_27_code 8 (some .int) :: ws) ({ frames := 2, cells := 0, slots := 0, locals := 28 } : Room)) (fun a U => a = #[(.double t0), (.double t0)] ∧ Z.Warmed39 U.vm ∧ U.heap = h0) (fun _ _ _ _ _ => True) (fun _ U o U' => ∃ v L, o = .returned v ∧ Q_rmDC_eq Z t0 t0 h0 n0 v U'.heap L ∧ FrameEnd U o U' L ({ frames := 2, cells := 0, slots := 0, locals := 28 } : Room).cells ({ frames := 2, cells := 0, slots := 0, locals := 28 } : Room).slots) := by
  refine MetFree.of_bodySF pn_8 hisR ?_
  intro p e s m args below meth c s₁ Bd hml0 hP hK
  obtain ⟨rfl, hZ, hh⟩ := hP
  have hx := Bd.exec
  have hby := Bd.bytes
  have hml : c.maxLocals = 8 := hml0
  have hown : s.vm.findClass "java/lang/Double" = some m.cls := findClass_of_methodNamed Bd.named
  have hnm := (name_of_methodNamed Bd.named Bd.method).1
  have X0 : Stand p l e ({ frames := 2, cells := 0, slots := 0, locals := 28 } : Room) s m #[(.double t0), (.double t0)] below meth c s₁ [] 0 0 := Stand.of_body Bd
  have e0 : s₁.heap = h0 := by rw [← hh, Bd.state]; rfl
  have N0 := Fr.nil n0
  have pre0 : ∀ t, Steps p.tables e below (s₁.setTop (mkF m 0 #[.val (.double t0), .second, .val (.double t0), .second, .unset, .unset, .unset, .unset] [])) t → Steps p.tables e below (s₁.setTop (entryFrame m #[(.double t0), (.double t0)] 8)) t := fun t k => castTop (ef_rmDC_eq m t0 t0) k
  obtain ⟨_, _, ⟨T1, L1, k1, n1⟩, -, X1, ⟨Lc1, hQ1, l1, y1, z1⟩, st1⟩ := Jvm.LawKit.callS X0 hx (y := (⟨"java/lang/Double", "doubleToLongBits", "(D)J"⟩ : MethodName)) hown (mvT hZ (hw _ (List.mem_of_getElem? (i := 71) rfl))) (mvT hZ (hw _ (List.mem_of_getElem? (i := 72) rfl))) (mvT hZ (hw _ (List.mem_of_getElem? (i := 69) rfl))) (mvT hZ (hw _ (List.mem_of_getElem? (i := 73) rfl))) (by decide) (backOf (W := 0) (rmDLB l Z a0 hw [] t0 h0 n0 Z0 hn) hZ (hw _ (List.mem_of_getElem? (i := 73) rfl)) (hw _ (List.mem_of_getElem? (i := 69) rfl)) (by decide) (by decide)) (g := (mkF m 17 #[.val (.double t0), .second, .val (.double t0), .second, .unset, .unset, .unset, .unset] [(.double t0)])) rfl (by rw [hml]; rfl) (argsL := [(.double t0)]) (rest := []) (lenOf pd_7 rfl) rfl (by show 2 * 0 + _ ≤ _; exact Nat.le_of_eq rfl) (hb hby d11_17) (fun _ _ => ⟨rfl, e0, (by decide : 0 + 0 ≤ _), (by decide : 0 + 0 ≤ _)⟩)
  dsimp only [Pt.U, Pt.locs, Pt.cells, Pt.slots] at X1 l1 y1 z1 st1 hQ1
  subst l1 y1 z1
  obtain ⟨rfl, Nq1, e1⟩ := hQ1
  have N1 := Fr.app N0 Nq1
  obtain ⟨_, _, ⟨T2, L2, k2, n2⟩, -, X2, ⟨Lc2, hQ2, l2, y2, z2⟩, st2⟩ := Jvm.LawKit.callS X1 hx (y := (⟨"java/lang/Double", "doubleToLongBits", "(D)J"⟩ : MethodName)) hown (mvT hZ (hw _ (List.mem_of_getElem? (i := 71) rfl))) (mvT hZ (hw _ (List.mem_of_getElem? (i := 72) rfl))) (mvT hZ (hw _ (List.mem_of_getElem? (i := 69) rfl))) (mvT hZ (hw _ (List.mem_of_getElem? (i := 73) rfl))) (by decide) (backOf (W := 0) (rmDLB l Z a0 hw [] t0 h0 n0 Z0 hn) hZ (hw _ (List.mem_of_getElem? (i := 73) rfl)) (hw _ (List.mem_of_getElem? (i := 69) rfl)) (by decide) (by decide)) (g := (mkF m 23 #[.val (.double t0), .second, .val (.double t0), .second, .val (.long (t0).toInt64), .second, .unset, .unset] [(.double t0)])) rfl (by rw [hml]; rfl) (argsL := [(.double t0)]) (rest := []) (lenOf pd_7 rfl) rfl (by show 2 * 0 + _ ≤ _; exact Nat.le_of_eq rfl) (hb hby d11_23) (fun _ _ => ⟨rfl, e1, (by decide : 0 + 0 ≤ _), (by decide : 0 + 0 ≤ _)⟩)
  dsimp only [Pt.U, Pt.locs, Pt.cells, Pt.slots] at X2 l2 y2 z2 st2 hQ2
  subst l2 y2 z2
  obtain ⟨rfl, Nq2, e2⟩ := hQ2
  have N2 := Fr.app N1 Nq2
  obtain ⟨fs, hr, hrun, hended, hW, hsame⟩ := X2.leave (v := some (.int (0 : Int32))) (fun h => by rw [Bd.returns] at h; cases h)
  refine ⟨_, _, pre0 _ ?_, hrun, hended, _, _, rfl, ?_, ⟨_, rfl⟩, hW, hsame.mono (by decide) (by decide)⟩
  · show Steps p.tables e below (s₁.setTop (mkF m 0 #[.val (.double t0), .second, .val (.double t0), .second, .unset, .unset, .unset, .unset] [])) _
    refine XS.dloadN X0.here hx rfl (hb hby d11_0) rfl ?_
    show Steps p.tables e below (s₁.setTop (mkF m 1 #[.val (.double t0), .second, .val (.double t0), .second, .unset, .unset, .unset, .unset] [(.double t0)])) _
    refine XS.dloadN X0.here hx rfl (hb hby d11_1) rfl ?_
    show Steps p.tables e below (s₁.setTop (mkF m 2 #[.val (.double t0), .second, .val (.double t0), .second, .unset, .unset, .unset, .unset] [(.double t0), (.double t0)])) _
    refine XS.dcmpS X0.here hx rfl (hb hby d11_2) rfl (v := (0 : Int32)) (dcmpV_self hn .g) ?_
    show Steps p.tables e below (s₁.setTop (mkF m 3 #[.val (.double t0), .second, .val (.double t0), .second, .unset, .unset, .unset, .unset] [(.int (0 : Int32))])) _
    refine XS.ifYes X0.here hx rfl (pc0 := 3) (pc' := 8) rfl (hb hby d11_3) rfl ((if0 _ _).trans (flt (by decide : ¬ ((0 : Int32) < (0 : Int32)))).2.1) (by decide) (by decide) ?_
    show Steps p.tables e below (s₁.setTop (mkF m 8 #[.val (.double t0), .second, .val (.double t0), .second, .unset, .unset, .unset, .unset] [])) _
    refine XS.dloadN X0.here hx rfl (hb hby d11_8) rfl ?_
    show Steps p.tables e below (s₁.setTop (mkF m 9 #[.val (.double t0), .second, .val (.double t0), .second, .unset, .unset, .unset, .unset] [(.double t0)])) _
    refine XS.dloadN X0.here hx rfl (hb hby d11_9) rfl ?_
    show Steps p.tables e below (s₁.setTop (mkF m 10 #[.val (.double t0), .second, .val (.double t0), .second, .unset, .unset, .unset, .unset] [(.double t0), (.double t0)])) _
    refine XS.dcmpS X0.here hx rfl (hb hby d11_10) rfl (v := (0 : Int32)) (dcmpV_self hn .l) ?_
    show Steps p.tables e below (s₁.setTop (mkF m 11 #[.val (.double t0), .second, .val (.double t0), .second, .unset, .unset, .unset, .unset] [(.int (0 : Int32))])) _
    refine XS.ifYes X0.here hx rfl (pc0 := 11) (pc' := 16) rfl (hb hby d11_11) rfl ((if0 _ _).trans (flt (by decide : ¬ ((0 : Int32) < (0 : Int32)))).2.2.2) (by decide) (by decide) ?_
    show Steps p.tables e below (s₁.setTop (mkF m 16 #[.val (.double t0), .second, .val (.double t0), .second, .unset, .unset, .unset, .unset] [])) _
    refine XS.dloadN X0.here hx rfl (hb hby d11_16) rfl ?_
    show Steps p.tables e below (s₁.setTop (mkF m 17 #[.val (.double t0), .second, .val (.double t0), .second, .unset, .unset, .unset, .unset] [(.double t0)])) _
    refine st1 _ ?_
    show Steps p.tables e below (T1.setTop (mkF m 20 #[.val (.double t0), .second, .val (.double t0), .second, .unset, .unset, .unset, .unset] [(.long (t0).toInt64)])) _
    refine XS.lstore X1.here hx rfl (hb hby d11_20) rfl (l' := #[.val (.double t0), .second, .val (.double t0), .second, .val (.long (t0).toInt64), .second, .unset, .unset]) rfl ?_
    show Steps p.tables e below (T1.setTop (mkF m 22 #[.val (.double t0), .second, .val (.double t0), .second, .val (.long (t0).toInt64), .second, .unset, .unset] [])) _
    refine XS.dloadN X1.here hx rfl (hb hby d11_22) rfl ?_
    show Steps p.tables e below (T1.setTop (mkF m 23 #[.val (.double t0), .second, .val (.double t0), .second, .val (.long (t0).toInt64), .second, .unset, .unset] [(.double t0)])) _
    refine st2 _ ?_
    show Steps p.tables e below (T2.setTop (mkF m 26 #[.val (.double t0), .second, .val (.double t0), .second, .val (.long (t0).toInt64), .second, .unset, .unset] [(.long (t0).toInt64)])) _
    refine XS.lstore X2.here hx rfl (hb hby d11_26) rfl (l' := #[.val (.double t0), .second, .val (.double t0), .second, .val (.long (t0).toInt64), .second, .val (.long (t0).toInt64), .second]) rfl ?_
    show Steps p.tables e below (T2.setTop (mkF m 28 #[.val (.double t0), .second, .val (.double t0), .second, .val (.long (t0).toInt64), .second, .val (.long (t0).toInt64), .second] [])) _
    refine XS.lload X2.here hx rfl (hb hby d11_28) rfl ?_
    show Steps p.tables e below (T2.setTop (mkF m 30 #[.val (.double t0), .second, .val (.double t0), .second, .val (.long (t0).toInt64), .second, .val (.long (t0).toInt64), .second] [(.long (t0).toInt64)])) _
    refine XS.lload X2.here hx rfl (hb hby d11_30) rfl ?_
    show Steps p.tables e below (T2.setTop (mkF m 32 #[.val (.double t0), .second, .val (.double t0), .second, .val (.long (t0).toInt64), .second, .val (.long (t0).toInt64), .second] [(.long (t0).toInt64), (.long (t0).toInt64)])) _
    refine XS.lcmp X2.here hx rfl (hb hby d11_32) rfl ?_
    show Steps p.tables e below (T2.setTop (mkF m 33 #[.val (.double t0), .second, .val (.double t0), .second, .val (.long (t0).toInt64), .second, .val (.long (t0).toInt64), .second] [(.int (lcmpW (t0).toInt64 (t0).toInt64))])) _
    refine XS.ifNo X2.here hx rfl (hb hby d11_33) rfl ((if0 _ _).trans (teq ((lw_eq _ _).mpr rfl)).2) ?_
    show Steps p.tables e below (T2.setTop (mkF m 36 #[.val (.double t0), .second, .val (.double t0), .second, .val (.long (t0).toInt64), .second, .val (.long (t0).toInt64), .second] [])) _
    refine XS.iconst X2.here hx rfl (hb hby d11_36) ?_
    show Steps p.tables e below (T2.setTop (mkF m 37 #[.val (.double t0), .second, .val (.double t0), .second, .val (.long (t0).toInt64), .second, .val (.long (t0).toInt64), .second] [(.int (0 : Int32))])) _
    refine XS.goto X2.here hx rfl (pc0 := 37) (pc' := 53) rfl (hb hby d11_37) (by decide) (by decide) ?_
    show Steps p.tables e below (T2.setTop (mkF m 53 #[.val (.double t0), .second, .val (.double t0), .second, .val (.long (t0).toInt64), .second, .val (.long (t0).toInt64), .second] [(.int (0 : Int32))])) _
    exact retI X2 hx Bd.returns (hb hby d11_53) hr
  · show Q_rmDC_eq Z t0 t0 h0 n0 _ T2.heap _
    rw [e2]
    exact ⟨rfl, N2, rfl⟩
theorem d12_0 : decode prog_24_method_3_code 0 = .ok (.aload_n 0, 1) := by decide +kernel
theorem d12_1 : decode prog_24_method_3_code 1 = .ok (.getfield 48, 3) := by decide +kernel
theorem d12_4 : decode prog_24_method_3_code 4 = .ok (.aload_n 1, 1) := by decide +kernel
theorem d12_5 : decode prog_24_method_3_code 5 = .ok (.getfield 48, 3) := by decide +kernel
theorem d12_8 : decode prog_24_method_3_code 8 = .ok (.invokestatic 56, 3) := by decide +kernel
theorem pd_8 : parseMethodDescriptor "(DD)I" = some ⟨[.double, .double], some .int⟩ := by decide +kernel
theorem d12_11 : decode prog_24_method_3_code 11 = .ok (.istore_n 2, 1) := by decide +kernel
theorem d12_12 : decode prog_24_method_3_code 12 = .ok (.iload_n 2, 1) := by decide +kernel
theorem d12_13 : decode prog_24_method_3_code 13 = .ok (.ifCond .eq 7, 3) := by decide +kernel
theorem d12_16 : decode prog_24_method_3_code 16 = .ok (.iload_n 2, 1) := by decide +kernel
theorem d12_17 : decode prog_24_method_3_code 17 = .ok (.goto 14, 3) := by decide +kernel
theorem d12_31 : decode prog_24_method_3_code 31 = .ok (.ireturn, 1) := by decide +kernel
def Q_rmCR_lt (Z : State) (oa : Addr) (ob : Addr) (ia : Int32) (ta : UInt64) (ib : Int32) (tb : UInt64) (h0 : Heap) (n0 : Nat) (v : Option Value) (h : Heap) (L : List Loc) : Prop := v = some (.int (-1 : Int32)) ∧ Fr n0 L ∧ h = h0
theorem ef_rmCR_lt (m : MethodId) (oa : Addr) (ob : Addr) : entryFrame m #[(.ref oa), (.ref ob)] 3 = mkF m 0 #[.val (.ref oa), .val (.ref ob), .unset] [] := by first | (simp [entryFrame, mkF, argsToLocals, Value.category]; done) | rfl
set_option maxRecDepth 65536 in
set_option maxHeartbeats 40000000 in
theorem rmCR_lt (l : Launch) (Z : State) (a0 : Array Value) (hw : ∀ d ∈ tables_1, d.before a0 Z = true) (ws : List Jvm.Cond) (oa : Addr) (ob : Addr) (ia : Int32) (ta : UInt64) (ib : Int32) (tb : UInt64) (h0 : Heap) (n0 : Nat) (Z0 : n0 ≤ h0.size) (F_value_oa : Fld Z h0 oa "com/example/sortition/sortition/Element" "value" "D" (.double ta)) (F_index_oa : Fld Z h0 oa "com/example/sortition/sortition/Element" "index" "I" (.int ia)) (F_value_ob : Fld Z h0 ob "com/example/sortition/sortition/Element" "value" "D" (.double tb)) (F_index_ob : Fld Z h0 ob "com/example/sortition/sortition/Element" "index" "I" (.int ib)) (hq0 : (cmpValue (FP.dcmp ta tb) .g) < (0 : Int32)) :
    MetFree l (⟨"com/example/sortition/sortition/Element", "compareRank", "(Lcom/example/sortition/sortition/Element;Lcom/example/sortition/sortition/Element;)I"⟩ : MethodName) (head1 (Jvm.Cond.code (⟨"com/example/sortition/sortition/Element", "compareRank", "(Lcom/example/sortition/sortition/Element;Lcom/example/sortition/sortition/Element;)I"⟩ : MethodName) prog_24_method_3_code 3 (some .int) :: ws) ({ frames := 1, cells := 0, slots := 0, locals := 19 } : Room)) (fun a U => a = #[(.ref oa), (.ref ob)] ∧ Z.Warmed39 U.vm ∧ U.heap = h0) (fun _ _ _ _ _ => True) (fun _ U o U' => ∃ v L, o = .returned v ∧ Q_rmCR_lt Z oa ob ia ta ib tb h0 n0 v U'.heap L ∧ FrameEnd U o U' L ({ frames := 1, cells := 0, slots := 0, locals := 19 } : Room).cells ({ frames := 1, cells := 0, slots := 0, locals := 19 } : Room).slots) := by
  refine MetFree.of_bodySF (plainFor_of_name pn_4) hisR ?_
  intro p e s m args below meth c s₁ Bd hml0 hP hK
  obtain ⟨rfl, hZ, hh⟩ := hP
  have hx := Bd.exec
  have hby := Bd.bytes
  have hml : c.maxLocals = 3 := hml0
  have hown : s.vm.findClass "com/example/sortition/sortition/Element" = some m.cls := findClass_of_methodNamed Bd.named
  have hnm := (name_of_methodNamed Bd.named Bd.method).1
  have X0 : Stand p l e ({ frames := 1, cells := 0, slots := 0, locals := 19 } : Room) s m #[(.ref oa), (.ref ob)] below meth c s₁ [] 0 0 := Stand.of_body Bd
  have e0 : s₁.heap = h0 := by rw [← hh, Bd.state]; rfl
  have N0 := Fr.nil n0
  have pre0 : ∀ t, Steps p.tables e below (s₁.setTop (mkF m 0 #[.val (.ref oa), .val (.ref ob), .unset] [])) t → Steps p.tables e below (s₁.setTop (entryFrame m #[(.ref oa), (.ref ob)] 3)) t := fun t k => castTop (ef_rmCR_lt m oa ob) k
  obtain ⟨T1, X1, e1, st1⟩ := getF X0 hx hZ hown (host := "") (Or.inl (hw _ (List.mem_of_getElem? (i := 57) rfl))) Via.refl e0 F_value_oa (g := (mkF m 1 #[.val (.ref oa), .val (.ref ob), .unset] [(.ref oa)])) rfl rfl (hb hby d12_1)
  obtain ⟨T2, X2, e2, st2⟩ := getF X1 hx hZ hown (host := "") (Or.inl (hw _ (List.mem_of_getElem? (i := 57) rfl))) Via.refl e1 F_value_ob (g := (mkF m 5 #[.val (.ref oa), .val (.ref ob), .unset] [(.ref ob), (.double ta)])) rfl rfl (hb hby d12_5)
  obtain ⟨_, _, ⟨T3, L3, k3, n3⟩, -, X3, ⟨Lc3, hQ3, l3, y3, z3⟩, st3⟩ := Jvm.LawKit.callS X2 hx (y := (⟨"java/lang/Double", "compare", "(DD)I"⟩ : MethodName)) hown (mvT hZ (hw _ (List.mem_of_getElem? (i := 67) rfl))) (mvT hZ (hw _ (List.mem_of_getElem? (i := 68) rfl))) (mvT hZ (hw _ (List.mem_of_getElem? (i := 69) rfl))) (mvT hZ (hw _ (List.mem_of_getElem? (i := 70) rfl))) (by decide) (backOf (W := 0) (rmDC_lt l Z a0 hw [] ta tb h0 n0 Z0 hq0) hZ (hw _ (List.mem_of_getElem? (i := 70) rfl)) (hw _ (List.mem_of_getElem? (i := 69) rfl)) (by decide) (by decide)) (g := (mkF m 8 #[.val (.ref oa), .val (.ref ob), .unset] [(.double tb), (.double ta)])) rfl (by rw [hml]; rfl) (argsL := [(.double ta), (.double tb)]) (rest := []) (lenOf pd_8 rfl) rfl (by show 2 * 0 + _ ≤ _; exact Nat.le_of_eq rfl) (hb hby d12_8) (fun _ _ => ⟨rfl, e2, (by decide : 0 + 0 ≤ _), (by decide : 0 + 0 ≤ _)⟩)
  dsimp only [Pt.U, Pt.locs, Pt.cells, Pt.slots] at X3 l3 y3 z3 st3 hQ3
  subst l3 y3 z3
  obtain ⟨rfl, Nq3, e3⟩ := hQ3
  have N3 := Fr.app N0 Nq3
  obtain ⟨fs, hr, hrun, hended, hW, hsame⟩ := X3.leave (v := some (.int (-1 : Int32))) (fun h => by rw [Bd.returns] at h; cases h)
  refine ⟨_, _, pre0 _ ?_, hrun, hended, _, _, rfl, ?_, ⟨_, rfl⟩, hW, hsame.mono (by decide) (by decide)⟩
  · show Steps p.tables e below (s₁.setTop (mkF m 0 #[.val (.ref oa), .val (.ref ob), .unset] [])) _
    refine XS.aloadN X0.here hx rfl (hb hby d12_0) rfl rfl ?_
    show Steps p.tables e below (s₁.setTop (mkF m 1 #[.val (.ref oa), .val (.ref ob), .unset] [(.ref oa)])) _
    refine st1 _ ?_
    show Steps p.tables e below (T1.setTop (mkF m 4 #[.val (.ref oa), .val (.ref ob), .unset] [(.double ta)])) _
    refine XS.aloadN X1.here hx rfl (hb hby d12_4) rfl rfl ?_
    show Steps p.tables e below (T1.setTop (mkF m 5 #[.val (.ref oa), .val (.ref ob), .unset] [(.ref ob), (.double ta)])) _
    refine st2 _ ?_
    show Steps p.tables e below (T2.setTop (mkF m 8 #[.val (.ref oa), .val (.ref ob), .unset] [(.double tb), (.double ta)])) _
    refine st3 _ ?_
    show Steps p.tables e below (T3.setTop (mkF m 11 #[.val (.ref oa), .val (.ref ob), .unset] [(.int (-1 : Int32))])) _
    refine XS.istoreN X3.here hx rfl (hb hby d12_11) rfl (l' := #[.val (.ref oa), .val (.ref ob), .val (.int (-1 : Int32))]) rfl ?_
    show Steps p.tables e below (T3.setTop (mkF m 12 #[.val (.ref oa), .val (.ref ob), .val (.int (-1 : Int32))] [])) _
    refine XS.iloadN X3.here hx rfl (hb hby d12_12) rfl ?_
    show Steps p.tables e below (T3.setTop (mkF m 13 #[.val (.ref oa), .val (.ref ob), .val (.int (-1 : Int32))] [(.int (-1 : Int32))])) _
    refine XS.ifNo X3.here hx rfl (hb hby d12_13) rfl ((if0 _ _).trans (feq (by decide : ¬ ((-1 : Int32) = (0 : Int32)))).1) ?_
    show Steps p.tables e below (T3.setTop (mkF m 16 #[.val (.ref oa), .val (.ref ob), .val (.int (-1 : Int32))] [])) _
    refine XS.iloadN X3.here hx rfl (hb hby d12_16) rfl ?_
    show Steps p.tables e below (T3.setTop (mkF m 17 #[.val (.ref oa), .val (.ref ob), .val (.int (-1 : Int32))] [(.int (-1 : Int32))])) _
    refine XS.goto X3.here hx rfl (pc0 := 17) (pc' := 31) rfl (hb hby d12_17) (by decide) (by decide) ?_
    show Steps p.tables e below (T3.setTop (mkF m 31 #[.val (.ref oa), .val (.ref ob), .val (.int (-1 : Int32))] [(.int (-1 : Int32))])) _
    exact retI X3 hx Bd.returns (hb hby d12_31) hr
  · show Q_rmCR_lt Z oa ob ia ta ib tb h0 n0 _ T3.heap _
    rw [e3]
    exact ⟨rfl, N3, rfl⟩
theorem d13_0 : decode prog_24_method_2_code 0 = .ok (.aload_n 0, 1) := by decide +kernel
theorem d13_1 : decode prog_24_method_2_code 1 = .ok (.aload_n 1, 1) := by decide +kernel
theorem d13_2 : decode prog_24_method_2_code 2 = .ok (.invokestatic 52, 3) := by decide +kernel
theorem pd_9 : parseMethodDescriptor "(Lcom/example/sortition/sortition/Element;Lcom/example/sortition/sortition/Element;)I" = some ⟨[(.object "com/example/sortition/sortition/Element"), (.object "com/example/sortition/sortition/Element")], some .int⟩ := by decide +kernel
theorem d13_5 : decode prog_24_method_2_code 5 = .ok (.ifCond .le 7, 3) := by decide +kernel
theorem d13_12 : decode prog_24_method_2_code 12 = .ok (.iconst 0, 1) := by decide +kernel
theorem d13_13 : decode prog_24_method_2_code 13 = .ok (.ireturn, 1) := by decide +kernel
def Q_rmOR_lt (Z : State) (oa : Addr) (ob : Addr) (ia : Int32) (ta : UInt64) (ib : Int32) (tb : UInt64) (h0 : Heap) (n0 : Nat) (v : Option Value) (h : Heap) (L : List Loc) : Prop := v = some (.int (0 : Int32)) ∧ Fr n0 L ∧ h = h0
theorem ef_rmOR_lt (m : MethodId) (oa : Addr) (ob : Addr) : entryFrame m #[(.ref oa), (.ref ob)] 2 = mkF m 0 #[.val (.ref oa), .val (.ref ob)] [] := by first | (simp [entryFrame, mkF, argsToLocals, Value.category]; done) | rfl
set_option maxRecDepth 65536 in
set_option maxHeartbeats 40000000 in
theorem rmOR_lt (l : Launch) (Z : State) (a0 : Array Value) (hw : ∀ d ∈ tables_1, d.before a0 Z = true) (ws : List Jvm.Cond) (oa : Addr) (ob : Addr) (ia : Int32) (ta : UInt64) (ib : Int32) (tb : UInt64) (h0 : Heap) (n0 : Nat) (Z0 : n0 ≤ h0.size) (F_value_oa : Fld Z h0 oa "com/example/sortition/sortition/Element" "value" "D" (.double ta)) (F_index_oa : Fld Z h0 oa "com/example/sortition/sortition/Element" "index" "I" (.int ia)) (F_value_ob : Fld Z h0 ob "com/example/sortition/sortition/Element" "value" "D" (.double tb)) (F_index_ob : Fld Z h0 ob "com/example/sortition/sortition/Element" "index" "I" (.int ib)) (hq0 : (cmpValue (FP.dcmp ta tb) .g) < (0 : Int32)) :
    MetFree l (⟨"com/example/sortition/sortition/Element", "outranks", "(Lcom/example/sortition/sortition/Element;)Z"⟩ : MethodName) (head1 (Jvm.Cond.code (⟨"com/example/sortition/sortition/Element", "outranks", "(Lcom/example/sortition/sortition/Element;)Z"⟩ : MethodName) prog_24_method_2_code 2 (some .boolean) :: ws) ({ frames := 2, cells := 0, slots := 0, locals := 33 } : Room)) (fun a U => a = #[(.ref oa), (.ref ob)] ∧ Z.Warmed39 U.vm ∧ U.heap = h0) (fun _ _ _ _ _ => True) (fun _ U o U' => ∃ v L, o = .returned v ∧ Q_rmOR_lt Z oa ob ia ta ib tb h0 n0 v U'.heap L ∧ FrameEnd U o U' L ({ frames := 2, cells := 0, slots := 0, locals := 33 } : Room).cells ({ frames := 2, cells := 0, slots := 0, locals := 33 } : Room).slots) := by
  refine MetFree.of_bodySF (plainFor_of_name pn_4) hisR ?_
  intro p e s m args below meth c s₁ Bd hml0 hP hK
  obtain ⟨rfl, hZ, hh⟩ := hP
  have hx := Bd.exec
  have hby := Bd.bytes
  have hml : c.maxLocals = 2 := hml0
  have hown : s.vm.findClass "com/example/sortition/sortition/Element" = some m.cls := findClass_of_methodNamed Bd.named
  have hnm := (name_of_methodNamed Bd.named Bd.method).1
  have X0 : Stand p l e ({ frames := 2, cells := 0, slots := 0, locals := 33 } : Room) s m #[(.ref oa), (.ref ob)] below meth c s₁ [] 0 0 := Stand.of_body Bd
  have e0 : s₁.heap = h0 := by rw [← hh, Bd.state]; rfl
  have N0 := Fr.nil n0
  have pre0 : ∀ t, Steps p.tables e below (s₁.setTop (mkF m 0 #[.val (.ref oa), .val (.ref ob)] [])) t → Steps p.tables e below (s₁.setTop (entryFrame m #[(.ref oa), (.ref ob)] 2)) t := fun t k => castTop (ef_rmOR_lt m oa ob) k
  obtain ⟨_, _, ⟨T1, L1, k1, n1⟩, -, X1, ⟨Lc1, hQ1, l1, y1, z1⟩, st1⟩ := Jvm.LawKit.callS X0 hx (y := (⟨"com/example/sortition/sortition/Element", "compareRank", "(Lcom/example/sortition/sortition/Element;Lcom/example/sortition/sortition/Element;)I"⟩ : MethodName)) hown (mvT hZ (hw _ (List.mem_of_getElem? (i := 64) rfl))) (mvT hZ (hw _ (List.mem_of_getElem? (i := 65) rfl))) (mvT hZ (hw _ (List.mem_of_getElem? (i := 4) rfl))) (mvT hZ (hw _ (List.mem_of_getElem? (i := 66) rfl))) (by decide) (backOf (W := 0) (rmCR_lt l Z a0 hw [] oa ob ia ta ib tb h0 n0 Z0 F_value_oa F_index_oa F_value_ob F_index_ob hq0) hZ (hw _ (List.mem_of_getElem? (i := 66) rfl)) (hw _ (List.mem_of_getElem? (i := 4) rfl)) (by decide) (by decide)) (g := (mkF m 2 #[.val (.ref oa), .val (.ref ob)] [(.ref ob), (.ref oa)])) rfl (by rw [hml]; rfl) (argsL := [(.ref oa), (.ref ob)]) (rest := []) (lenOf pd_9 rfl) rfl (by show 2 * 0 + _ ≤ _; exact Nat.le_of_eq rfl) (hb hby d13_2) (fun _ _ => ⟨rfl, e0, (by decide : 0 + 0 ≤ _), (by decide : 0 + 0 ≤ _)⟩)
  dsimp only [Pt.U, Pt.locs, Pt.cells, Pt.slots] at X1 l1 y1 z1 st1 hQ1
  subst l1 y1 z1
  obtain ⟨rfl, Nq1, e1⟩ := hQ1
  have N1 := Fr.app N0 Nq1
  obtain ⟨fs, hr, hrun, hended, hW, hsame⟩ := X1.leave (v := some (.int (0 : Int32))) (fun h => by rw [Bd.returns] at h; cases h)
  refine ⟨_, _, pre0 _ ?_, hrun, hended, _, _, rfl, ?_, ⟨_, rfl⟩, hW, hsame.mono (by decide) (by decide)⟩
  · show Steps p.tables e below (s₁.setTop (mkF m 0 #[.val (.ref oa), .val (.ref ob)] [])) _
    refine XS.aloadN X0.here hx rfl (hb hby d13_0) rfl rfl ?_
    show Steps p.tables e below (s₁.setTop (mkF m 1 #[.val (.ref oa), .val (.ref ob)] [(.ref oa)])) _
    refine XS.aloadN X0.here hx rfl (hb hby d13_1) rfl rfl ?_
    show Steps p.tables e below (s₁.setTop (mkF m 2 #[.val (.ref oa), .val (.ref ob)] [(.ref ob), (.ref oa)])) _
    refine st1 _ ?_
    show Steps p.tables e below (T1.setTop (mkF m 5 #[.val (.ref oa), .val (.ref ob)] [(.int (-1 : Int32))])) _
    refine XS.ifYes X1.here hx rfl (pc0 := 5) (pc' := 12) rfl (hb hby d13_5) rfl ((if0 _ _).trans (flt (by decide : ¬ ((0 : Int32) < (-1 : Int32)))).2.2.2) (by decide) (by decide) ?_
    show Steps p.tables e below (T1.setTop (mkF m 12 #[.val (.ref oa), .val (.ref ob)] [])) _
    refine XS.iconst X1.here hx rfl (hb hby d13_12) ?_
    show Steps p.tables e below (T1.setTop (mkF m 13 #[.val (.ref oa), .val (.ref ob)] [(.int (0 : Int32))])) _
    exact retN X1 hx (t := .boolean) Bd.returns (by simp) (hb hby d13_13) hr
  · show Q_rmOR_lt Z oa ob ia ta ib tb h0 n0 _ T1.heap _
    rw [e1]
    exact ⟨rfl, N1, rfl⟩
def Q_rmCR_gt (Z : State) (oa : Addr) (ob : Addr) (ia : Int32) (ta : UInt64) (ib : Int32) (tb : UInt64) (h0 : Heap) (n0 : Nat) (v : Option Value) (h : Heap) (L : List Loc) : Prop := v = some (.int (1 : Int32)) ∧ Fr n0 L ∧ h = h0
theorem ef_rmCR_gt (m : MethodId) (oa : Addr) (ob : Addr) : entryFrame m #[(.ref oa), (.ref ob)] 3 = mkF m 0 #[.val (.ref oa), .val (.ref ob), .unset] [] := by first | (simp [entryFrame, mkF, argsToLocals, Value.category]; done) | rfl
set_option maxRecDepth 65536 in
set_option maxHeartbeats 40000000 in
theorem rmCR_gt (l : Launch) (Z : State) (a0 : Array Value) (hw : ∀ d ∈ tables_1, d.before a0 Z = true) (ws : List Jvm.Cond) (oa : Addr) (ob : Addr) (ia : Int32) (ta : UInt64) (ib : Int32) (tb : UInt64) (h0 : Heap) (n0 : Nat) (Z0 : n0 ≤ h0.size) (F_value_oa : Fld Z h0 oa "com/example/sortition/sortition/Element" "value" "D" (.double ta)) (F_index_oa : Fld Z h0 oa "com/example/sortition/sortition/Element" "index" "I" (.int ia)) (F_value_ob : Fld Z h0 ob "com/example/sortition/sortition/Element" "value" "D" (.double tb)) (F_index_ob : Fld Z h0 ob "com/example/sortition/sortition/Element" "index" "I" (.int ib)) (hq0 : ¬ ((cmpValue (FP.dcmp ta tb) .g) < (0 : Int32))) (hq1 : (0 : Int32) < (cmpValue (FP.dcmp ta tb) .l)) :
    MetFree l (⟨"com/example/sortition/sortition/Element", "compareRank", "(Lcom/example/sortition/sortition/Element;Lcom/example/sortition/sortition/Element;)I"⟩ : MethodName) (head1 (Jvm.Cond.code (⟨"com/example/sortition/sortition/Element", "compareRank", "(Lcom/example/sortition/sortition/Element;Lcom/example/sortition/sortition/Element;)I"⟩ : MethodName) prog_24_method_3_code 3 (some .int) :: ws) ({ frames := 1, cells := 0, slots := 0, locals := 19 } : Room)) (fun a U => a = #[(.ref oa), (.ref ob)] ∧ Z.Warmed39 U.vm ∧ U.heap = h0) (fun _ _ _ _ _ => True) (fun _ U o U' => ∃ v L, o = .returned v ∧ Q_rmCR_gt Z oa ob ia ta ib tb h0 n0 v U'.heap L ∧ FrameEnd U o U' L ({ frames := 1, cells := 0, slots := 0, locals := 19 } : Room).cells ({ frames := 1, cells := 0, slots := 0, locals := 19 } : Room).slots) := by
  refine MetFree.of_bodySF (plainFor_of_name pn_4) hisR ?_
  intro p e s m args below meth c s₁ Bd hml0 hP hK
  obtain ⟨rfl, hZ, hh⟩ := hP
  have hx := Bd.exec
  have hby := Bd.bytes
  have hml : c.maxLocals = 3 := hml0
  have hown : s.vm.findClass "com/example/sortition/sortition/Element" = some m.cls := findClass_of_methodNamed Bd.named
  have hnm := (name_of_methodNamed Bd.named Bd.method).1
  have X0 : Stand p l e ({ frames := 1, cells := 0, slots := 0, locals := 19 } : Room) s m #[(.ref oa), (.ref ob)] below meth c s₁ [] 0 0 := Stand.of_body Bd
  have e0 : s₁.heap = h0 := by rw [← hh, Bd.state]; rfl
  have N0 := Fr.nil n0
  have pre0 : ∀ t, Steps p.tables e below (s₁.setTop (mkF m 0 #[.val (.ref oa), .val (.ref ob), .unset] [])) t → Steps p.tables e below (s₁.setTop (entryFrame m #[(.ref oa), (.ref ob)] 3)) t := fun t k => castTop (ef_rmCR_gt m oa ob) k
  obtain ⟨T1, X1, e1, st1⟩ := getF X0 hx hZ hown (host := "") (Or.inl (hw _ (List.mem_of_getElem? (i := 57) rfl))) Via.refl e0 F_value_oa (g := (mkF m 1 #[.val (.ref oa), .val (.ref ob), .unset] [(.ref oa)])) rfl rfl (hb hby d12_1)
  obtain ⟨T2, X2, e2, st2⟩ := getF X1 hx hZ hown (host := "") (Or.inl (hw _ (List.mem_of_getElem? (i := 57) rfl))) Via.refl e1 F_value_ob (g := (mkF m 5 #[.val (.ref oa), .val (.ref ob), .unset] [(.ref ob), (.double ta)])) rfl rfl (hb hby d12_5)
  obtain ⟨_, _, ⟨T3, L3, k3, n3⟩, -, X3, ⟨Lc3, hQ3, l3, y3, z3⟩, st3⟩ := Jvm.LawKit.callS X2 hx (y := (⟨"java/lang/Double", "compare", "(DD)I"⟩ : MethodName)) hown (mvT hZ (hw _ (List.mem_of_getElem? (i := 67) rfl))) (mvT hZ (hw _ (List.mem_of_getElem? (i := 68) rfl))) (mvT hZ (hw _ (List.mem_of_getElem? (i := 69) rfl))) (mvT hZ (hw _ (List.mem_of_getElem? (i := 70) rfl))) (by decide) (backOf (W := 0) (rmDC_gt l Z a0 hw [] ta tb h0 n0 Z0 hq0 hq1) hZ (hw _ (List.mem_of_getElem? (i := 70) rfl)) (hw _ (List.mem_of_getElem? (i := 69) rfl)) (by decide) (by decide)) (g := (mkF m 8 #[.val (.ref oa), .val (.ref ob), .unset] [(.double tb), (.double ta)])) rfl (by rw [hml]; rfl) (argsL := [(.double ta), (.double tb)]) (rest := []) (lenOf pd_8 rfl) rfl (by show 2 * 0 + _ ≤ _; exact Nat.le_of_eq rfl) (hb hby d12_8) (fun _ _ => ⟨rfl, e2, (by decide : 0 + 0 ≤ _), (by decide : 0 + 0 ≤ _)⟩)
  dsimp only [Pt.U, Pt.locs, Pt.cells, Pt.slots] at X3 l3 y3 z3 st3 hQ3
  subst l3 y3 z3
  obtain ⟨rfl, Nq3, e3⟩ := hQ3
  have N3 := Fr.app N0 Nq3
  obtain ⟨fs, hr, hrun, hended, hW, hsame⟩ := X3.leave (v := some (.int (1 : Int32))) (fun h => by rw [Bd.returns] at h; cases h)
  refine ⟨_, _, pre0 _ ?_, hrun, hended, _, _, rfl, ?_, ⟨_, rfl⟩, hW, hsame.mono (by decide) (by decide)⟩
  · show Steps p.tables e below (s₁.setTop (mkF m 0 #[.val (.ref oa), .val (.ref ob), .unset] [])) _
    refine XS.aloadN X0.here hx rfl (hb hby d12_0) rfl rfl ?_
    show Steps p.tables e below (s₁.setTop (mkF m 1 #[.val (.ref oa), .val (.ref ob), .unset] [(.ref oa)])) _
    refine st1 _ ?_
    show Steps p.tables e below (T1.setTop (mkF m 4 #[.val (.ref oa), .val (.ref ob), .unset] [(.double ta)])) _
    refine XS.aloadN X1.here hx rfl (hb hby d12_4) rfl rfl ?_
    show Steps p.tables e below (T1.setTop (mkF m 5 #[.val (.ref oa), .val (.ref ob), .unset] [(.ref ob), (.double ta)])) _
    refine st2 _ ?_
    show Steps p.tables e below (T2.setTop (mkF m 8 #[.val (.ref oa), .val (.ref ob), .unset] [(.double tb), (.double ta)])) _
    refine st3 _ ?_
    show Steps p.tables e below (T3.setTop (mkF m 11 #[.val (.ref oa), .val (.ref ob), .unset] [(.int (1 : Int32))])) _
    refine XS.istoreN X3.here hx rfl (hb hby d12_11) rfl (l' := #[.val (.ref oa), .val (.ref ob), .val (.int (1 : Int32))]) rfl ?_
    show Steps p.tables e below (T3.setTop (mkF m 12 #[.val (.ref oa), .val (.ref ob), .val (.int (1 : Int32))] [])) _
    refine XS.iloadN X3.here hx rfl (hb hby d12_12) rfl ?_
    show Steps p.tables e below (T3.setTop (mkF m 13 #[.val (.ref oa), .val (.ref ob), .val (.int (1 : Int32))] [(.int (1 : Int32))])) _
    refine XS.ifNo X3.here hx rfl (hb hby d12_13) rfl ((if0 _ _).trans (feq (by decide : ¬ ((1 : Int32) = (0 : Int32)))).1) ?_
    show Steps p.tables e below (T3.setTop (mkF m 16 #[.val (.ref oa), .val (.ref ob), .val (.int (1 : Int32))] [])) _
    refine XS.iloadN X3.here hx rfl (hb hby d12_16) rfl ?_
    show Steps p.tables e below (T3.setTop (mkF m 17 #[.val (.ref oa), .val (.ref ob), .val (.int (1 : Int32))] [(.int (1 : Int32))])) _
    refine XS.goto X3.here hx rfl (pc0 := 17) (pc' := 31) rfl (hb hby d12_17) (by decide) (by decide) ?_
    show Steps p.tables e below (T3.setTop (mkF m 31 #[.val (.ref oa), .val (.ref ob), .val (.int (1 : Int32))] [(.int (1 : Int32))])) _
    exact retI X3 hx Bd.returns (hb hby d12_31) hr
  · show Q_rmCR_gt Z oa ob ia ta ib tb h0 n0 _ T3.heap _
    rw [e3]
    exact ⟨rfl, N3, rfl⟩
theorem d13_8 : decode prog_24_method_2_code 8 = .ok (.iconst 1, 1) := by decide +kernel
theorem d13_9 : decode prog_24_method_2_code 9 = .ok (.goto 4, 3) := by decide +kernel
def Q_rmOR_gt (Z : State) (oa : Addr) (ob : Addr) (ia : Int32) (ta : UInt64) (ib : Int32) (tb : UInt64) (h0 : Heap) (n0 : Nat) (v : Option Value) (h : Heap) (L : List Loc) : Prop := v = some (.int (1 : Int32)) ∧ Fr n0 L ∧ h = h0
theorem ef_rmOR_gt (m : MethodId) (oa : Addr) (ob : Addr) : entryFrame m #[(.ref oa), (.ref ob)] 2 = mkF m 0 #[.val (.ref oa), .val (.ref ob)] [] := by first | (simp [entryFrame, mkF, argsToLocals, Value.category]; done) | rfl
set_option maxRecDepth 65536 in
set_option maxHeartbeats 40000000 in
theorem rmOR_gt (l : Launch) (Z : State) (a0 : Array Value) (hw : ∀ d ∈ tables_1, d.before a0 Z = true) (ws : List Jvm.Cond) (oa : Addr) (ob : Addr) (ia : Int32) (ta : UInt64) (ib : Int32) (tb : UInt64) (h0 : Heap) (n0 : Nat) (Z0 : n0 ≤ h0.size) (F_value_oa : Fld Z h0 oa "com/example/sortition/sortition/Element" "value" "D" (.double ta)) (F_index_oa : Fld Z h0 oa "com/example/sortition/sortition/Element" "index" "I" (.int ia)) (F_value_ob : Fld Z h0 ob "com/example/sortition/sortition/Element" "value" "D" (.double tb)) (F_index_ob : Fld Z h0 ob "com/example/sortition/sortition/Element" "index" "I" (.int ib)) (hq0 : ¬ ((cmpValue (FP.dcmp ta tb) .g) < (0 : Int32))) (hq1 : (0 : Int32) < (cmpValue (FP.dcmp ta tb) .l)) :
    MetFree l (⟨"com/example/sortition/sortition/Element", "outranks", "(Lcom/example/sortition/sortition/Element;)Z"⟩ : MethodName) (head1 (Jvm.Cond.code (⟨"com/example/sortition/sortition/Element", "outranks", "(Lcom/example/sortition/sortition/Element;)Z"⟩ : MethodName) prog_24_method_2_code 2 (some .boolean) :: ws) ({ frames := 2, cells := 0, slots := 0, locals := 33 } : Room)) (fun a U => a = #[(.ref oa), (.ref ob)] ∧ Z.Warmed39 U.vm ∧ U.heap = h0) (fun _ _ _ _ _ => True) (fun _ U o U' => ∃ v L, o = .returned v ∧ Q_rmOR_gt Z oa ob ia ta ib tb h0 n0 v U'.heap L ∧ FrameEnd U o U' L ({ frames := 2, cells := 0, slots := 0, locals := 33 } : Room).cells ({ frames := 2, cells := 0, slots := 0, locals := 33 } : Room).slots) := by
  refine MetFree.of_bodySF (plainFor_of_name pn_4) hisR ?_
  intro p e s m args below meth c s₁ Bd hml0 hP hK
  obtain ⟨rfl, hZ, hh⟩ := hP
  have hx := Bd.exec
  have hby := Bd.bytes
  have hml : c.maxLocals = 2 := hml0
  have hown : s.vm.findClass "com/example/sortition/sortition/Element" = some m.cls := findClass_of_methodNamed Bd.named
  have hnm := (name_of_methodNamed Bd.named Bd.method).1
  have X0 : Stand p l e ({ frames := 2, cells := 0, slots := 0, locals := 33 } : Room) s m #[(.ref oa), (.ref ob)] below meth c s₁ [] 0 0 := Stand.of_body Bd
  have e0 : s₁.heap = h0 := by rw [← hh, Bd.state]; rfl
  have N0 := Fr.nil n0
  have pre0 : ∀ t, Steps p.tables e below (s₁.setTop (mkF m 0 #[.val (.ref oa), .val (.ref ob)] [])) t → Steps p.tables e below (s₁.setTop (entryFrame m #[(.ref oa), (.ref ob)] 2)) t := fun t k => castTop (ef_rmOR_gt m oa ob) k
  obtain ⟨_, _, ⟨T1, L1, k1, n1⟩, -, X1, ⟨Lc1, hQ1, l1, y1, z1⟩, st1⟩ := Jvm.LawKit.callS X0 hx (y := (⟨"com/example/sortition/sortition/Element", "compareRank", "(Lcom/example/sortition/sortition/Element;Lcom/example/sortition/sortition/Element;)I"⟩ : MethodName)) hown (mvT hZ (hw _ (List.mem_of_getElem? (i := 64) rfl))) (mvT hZ (hw _ (List.mem_of_getElem? (i := 65) rfl))) (mvT hZ (hw _ (List.mem_of_getElem? (i := 4) rfl))) (mvT hZ (hw _ (List.mem_of_getElem? (i := 66) rfl))) (by decide) (backOf (W := 0) (rmCR_gt l Z a0 hw [] oa ob ia ta ib tb h0 n0 Z0 F_value_oa F_index_oa F_value_ob F_index_ob hq0 hq1) hZ (hw _ (List.mem_of_getElem? (i := 66) rfl)) (hw _ (List.mem_of_getElem? (i := 4) rfl)) (by decide) (by decide)) (g := (mkF m 2 #[.val (.ref oa), .val (.ref ob)] [(.ref ob), (.ref oa)])) rfl (by rw [hml]; rfl) (argsL := [(.ref oa), (.ref ob)]) (rest := []) (lenOf pd_9 rfl) rfl (by show 2 * 0 + _ ≤ _; exact Nat.le_of_eq rfl) (hb hby d13_2) (fun _ _ => ⟨rfl, e0, (by decide : 0 + 0 ≤ _), (by decide : 0 + 0 ≤ _)⟩)
  dsimp only [Pt.U, Pt.locs, Pt.cells, Pt.slots] at X1 l1 y1 z1 st1 hQ1
  subst l1 y1 z1
  obtain ⟨rfl, Nq1, e1⟩ := hQ1
  have N1 := Fr.app N0 Nq1
  obtain ⟨fs, hr, hrun, hended, hW, hsame⟩ := X1.leave (v := some (.int (1 : Int32))) (fun h => by rw [Bd.returns] at h; cases h)
  refine ⟨_, _, pre0 _ ?_, hrun, hended, _, _, rfl, ?_, ⟨_, rfl⟩, hW, hsame.mono (by decide) (by decide)⟩
  · show Steps p.tables e below (s₁.setTop (mkF m 0 #[.val (.ref oa), .val (.ref ob)] [])) _
    refine XS.aloadN X0.here hx rfl (hb hby d13_0) rfl rfl ?_
    show Steps p.tables e below (s₁.setTop (mkF m 1 #[.val (.ref oa), .val (.ref ob)] [(.ref oa)])) _
    refine XS.aloadN X0.here hx rfl (hb hby d13_1) rfl rfl ?_
    show Steps p.tables e below (s₁.setTop (mkF m 2 #[.val (.ref oa), .val (.ref ob)] [(.ref ob), (.ref oa)])) _
    refine st1 _ ?_
    show Steps p.tables e below (T1.setTop (mkF m 5 #[.val (.ref oa), .val (.ref ob)] [(.int (1 : Int32))])) _
    refine XS.ifNo X1.here hx rfl (hb hby d13_5) rfl ((if0 _ _).trans (tlt (by decide : (0 : Int32) < (1 : Int32))).2.2.2) ?_
    show Steps p.tables e below (T1.setTop (mkF m 8 #[.val (.ref oa), .val (.ref ob)] [])) _
    refine XS.iconst X1.here hx rfl (hb hby d13_8) ?_
    show Steps p.tables e below (T1.setTop (mkF m 9 #[.val (.ref oa), .val (.ref ob)] [(.int (1 : Int32))])) _
    refine XS.goto X1.here hx rfl (pc0 := 9) (pc' := 13) rfl (hb hby d13_9) (by decide) (by decide) ?_
    show Steps p.tables e below (T1.setTop (mkF m 13 #[.val (.ref oa), .val (.ref ob)] [(.int (1 : Int32))])) _
    exact retN X1 hx (t := .boolean) Bd.returns (by simp) (hb hby d13_13) hr
  · show Q_rmOR_gt Z oa ob ia ta ib tb h0 n0 _ T1.heap _
    rw [e1]
    exact ⟨rfl, N1, rfl⟩
theorem d12_20 : decode prog_24_method_3_code 20 = .ok (.aload_n 1, 1) := by decide +kernel
theorem d12_21 : decode prog_24_method_3_code 21 = .ok (.getfield 39, 3) := by decide +kernel
theorem d12_24 : decode prog_24_method_3_code 24 = .ok (.aload_n 0, 1) := by decide +kernel
theorem d12_25 : decode prog_24_method_3_code 25 = .ok (.getfield 39, 3) := by decide +kernel
theorem d12_28 : decode prog_24_method_3_code 28 = .ok (.invokestatic 60, 3) := by decide +kernel
theorem pd_10 : parseMethodDescriptor "(II)I" = some ⟨[.int, .int], some .int⟩ := by decide +kernel
def Q_rmCR_eqlt (Z : State) (oa : Addr) (ob : Addr) (ia : Int32) (ta : UInt64) (ib : Int32) (h0 : Heap) (n0 : Nat) (v : Option Value) (h : Heap) (L : List Loc) : Prop := v = some (.int (-1 : Int32)) ∧ Fr n0 L ∧ h = h0
theorem ef_rmCR_eqlt (m : MethodId) (oa : Addr) (ob : Addr) : entryFrame m #[(.ref oa), (.ref ob)] 3 = mkF m 0 #[.val (.ref oa), .val (.ref ob), .unset] [] := by first | (simp [entryFrame, mkF, argsToLocals, Value.category]; done) | rfl
set_option maxRecDepth 65536 in
set_option maxHeartbeats 40000000 in
theorem rmCR_eqlt (l : Launch) (Z : State) (a0 : Array Value) (hw : ∀ d ∈ tables_1, d.before a0 Z = true) (ws : List Jvm.Cond) (oa : Addr) (ob : Addr) (ia : Int32) (ta : UInt64) (ib : Int32) (h0 : Heap) (n0 : Nat) (Z0 : n0 ≤ h0.size) (F_value_oa : Fld Z h0 oa "com/example/sortition/sortition/Element" "value" "D" (.double ta)) (F_index_oa : Fld Z h0 oa "com/example/sortition/sortition/Element" "index" "I" (.int ia)) (F_value_ob : Fld Z h0 ob "com/example/sortition/sortition/Element" "value" "D" (.double ta)) (F_index_ob : Fld Z h0 ob "com/example/sortition/sortition/Element" "index" "I" (.int ib)) (hn : NoNaN64 ta) (hq0 : ib < ia) :
    MetFree l (⟨"com/example/sortition/sortition/Element", "compareRank", "(Lcom/example/sortition/sortition/Element;Lcom/example/sortition/sortition/Element;)I"⟩ : MethodName) (head1 (Jvm.Cond.code (⟨"com/example/sortition/sortition/Element", "compareRank", "(Lcom/example/sortition/sortition/Element;Lcom/example/sortition/sortition/Element;)I"⟩ : MethodName) prog_24_method_3_code 3 (some .int) :: ws) ({ frames := 3, cells := 0, slots := 0, locals := 47 } : Room)) (fun a U => a = #[(.ref oa), (.ref ob)] ∧ Z.Warmed39 U.vm ∧ U.heap = h0) (fun _ _ _ _ _ => True) (fun _ U o U' => ∃ v L, o = .returned v ∧ Q_rmCR_eqlt Z oa ob ia ta ib h0 n0 v U'.heap L ∧ FrameEnd U o U' L ({ frames := 3, cells := 0, slots := 0, locals := 47 } : Room).cells ({ frames := 3, cells := 0, slots := 0, locals := 47 } : Room).slots) := by
  refine MetFree.of_bodySF (plainFor_of_name pn_4) hisR ?_
  intro p e s m args below meth c s₁ Bd hml0 hP hK
  obtain ⟨rfl, hZ, hh⟩ := hP
  have hx := Bd.exec
  have hby := Bd.bytes
  have hml : c.maxLocals = 3 := hml0
  have hown : s.vm.findClass "com/example/sortition/sortition/Element" = some m.cls := findClass_of_methodNamed Bd.named
  have hnm := (name_of_methodNamed Bd.named Bd.method).1
  have X0 : Stand p l e ({ frames := 3, cells := 0, slots := 0, locals := 47 } : Room) s m #[(.ref oa), (.ref ob)] below meth c s₁ [] 0 0 := Stand.of_body Bd
  have e0 : s₁.heap = h0 := by rw [← hh, Bd.state]; rfl
  have N0 := Fr.nil n0
  have pre0 : ∀ t, Steps p.tables e below (s₁.setTop (mkF m 0 #[.val (.ref oa), .val (.ref ob), .unset] [])) t → Steps p.tables e below (s₁.setTop (entryFrame m #[(.ref oa), (.ref ob)] 3)) t := fun t k => castTop (ef_rmCR_eqlt m oa ob) k
  obtain ⟨T1, X1, e1, st1⟩ := getF X0 hx hZ hown (host := "") (Or.inl (hw _ (List.mem_of_getElem? (i := 57) rfl))) Via.refl e0 F_value_oa (g := (mkF m 1 #[.val (.ref oa), .val (.ref ob), .unset] [(.ref oa)])) rfl rfl (hb hby d12_1)
  obtain ⟨T2, X2, e2, st2⟩ := getF X1 hx hZ hown (host := "") (Or.inl (hw _ (List.mem_of_getElem? (i := 57) rfl))) Via.refl e1 F_value_ob (g := (mkF m 5 #[.val (.ref oa), .val (.ref ob), .unset] [(.ref ob), (.double ta)])) rfl rfl (hb hby d12_5)
  obtain ⟨_, _, ⟨T3, L3, k3, n3⟩, -, X3, ⟨Lc3, hQ3, l3, y3, z3⟩, st3⟩ := Jvm.LawKit.callS X2 hx (y := (⟨"java/lang/Double", "compare", "(DD)I"⟩ : MethodName)) hown (mvT hZ (hw _ (List.mem_of_getElem? (i := 67) rfl))) (mvT hZ (hw _ (List.mem_of_getElem? (i := 68) rfl))) (mvT hZ (hw _ (List.mem_of_getElem? (i := 69) rfl))) (mvT hZ (hw _ (List.mem_of_getElem? (i := 70) rfl))) (by decide) (backOf (W := 0) (rmDC_eq l Z a0 hw [] ta ta h0 n0 Z0 hn) hZ (hw _ (List.mem_of_getElem? (i := 70) rfl)) (hw _ (List.mem_of_getElem? (i := 69) rfl)) (by decide) (by decide)) (g := (mkF m 8 #[.val (.ref oa), .val (.ref ob), .unset] [(.double ta), (.double ta)])) rfl (by rw [hml]; rfl) (argsL := [(.double ta), (.double ta)]) (rest := []) (lenOf pd_8 rfl) rfl (by show 2 * 0 + _ ≤ _; exact Nat.le_of_eq rfl) (hb hby d12_8) (fun _ _ => ⟨rfl, e2, (by decide : 0 + 0 ≤ _), (by decide : 0 + 0 ≤ _)⟩)
  dsimp only [Pt.U, Pt.locs, Pt.cells, Pt.slots] at X3 l3 y3 z3 st3 hQ3
  subst l3 y3 z3
  obtain ⟨rfl, Nq3, e3⟩ := hQ3
  have N3 := Fr.app N0 Nq3
  obtain ⟨T4, X4, e4, st4⟩ := getF X3 hx hZ hown (host := "") (Or.inl (hw _ (List.mem_of_getElem? (i := 53) rfl))) Via.refl e3 F_index_ob (g := (mkF m 21 #[.val (.ref oa), .val (.ref ob), .val (.int (0 : Int32))] [(.ref ob)])) rfl rfl (hb hby d12_21)
  obtain ⟨T5, X5, e5, st5⟩ := getF X4 hx hZ hown (host := "") (Or.inl (hw _ (List.mem_of_getElem? (i := 53) rfl))) Via.refl e4 F_index_oa (g := (mkF m 25 #[.val (.ref oa), .val (.ref ob), .val (.int (0 : Int32))] [(.ref oa), (.int ib)])) rfl rfl (hb hby d12_25)
  obtain ⟨_, _, ⟨T6, L6, k6, n6⟩, -, X6, ⟨Lc6, hQ6, l6, y6, z6⟩, st6⟩ := Jvm.LawKit.callS X5 hx (y := (⟨"java/lang/Integer", "compare", "(II)I"⟩ : MethodName)) hown (mvT hZ (hw _ (List.mem_of_getElem? (i := 80) rfl))) (mvT hZ (hw _ (List.mem_of_getElem? (i := 81) rfl))) (mvT hZ (hw _ (List.mem_of_getElem? (i := 82) rfl))) (mvT hZ (hw _ (List.mem_of_getElem? (i := 83) rfl))) (by decide) (backOf (W := 0) (rmIC_lt l Z a0 hw [] ib ia h0 n0 Z0 hq0) hZ (hw _ (List.mem_of_getElem? (i := 83) rfl)) (hw _ (List.mem_of_getElem? (i := 82) rfl)) (by decide) (by decide)) (g := (mkF m 28 #[.val (.ref oa), .val (.ref ob), .val (.int (0 : Int32))] [(.int ia), (.int ib)])) rfl (by rw [hml]; rfl) (argsL := [(.int ib), (.int ia)]) (rest := []) (lenOf pd_10 rfl) rfl (by show 2 * 0 + _ ≤ _; exact Nat.le_of_eq rfl) (hb hby d12_28) (fun _ _ => ⟨rfl, e5, (by decide : 0 + 0 ≤ _), (by decide : 0 + 0 ≤ _)⟩)
  dsimp only [Pt.U, Pt.locs, Pt.cells, Pt.slots] at X6 l6 y6 z6 st6 hQ6
  subst l6 y6 z6
  obtain ⟨rfl, Nq6, e6⟩ := hQ6
  have N6 := Fr.app N3 Nq6
  obtain ⟨fs, hr, hrun, hended, hW, hsame⟩ := X6.leave (v := some (.int (-1 : Int32))) (fun h => by rw [Bd.returns] at h; cases h)
  refine ⟨_, _, pre0 _ ?_, hrun, hended, _, _, rfl, ?_, ⟨_, rfl⟩, hW, hsame.mono (by decide) (by decide)⟩
  · show Steps p.tables e below (s₁.setTop (mkF m 0 #[.val (.ref oa), .val (.ref ob), .unset] [])) _
    refine XS.aloadN X0.here hx rfl (hb hby d12_0) rfl rfl ?_
    show Steps p.tables e below (s₁.setTop (mkF m 1 #[.val (.ref oa), .val (.ref ob), .unset] [(.ref oa)])) _
    refine st1 _ ?_
    show Steps p.tables e below (T1.setTop (mkF m 4 #[.val (.ref oa), .val (.ref ob), .unset] [(.double ta)])) _
    refine XS.aloadN X1.here hx rfl (hb hby d12_4) rfl rfl ?_
    show Steps p.tables e below (T1.setTop (mkF m 5 #[.val (.ref oa), .val (.ref ob), .unset] [(.ref ob), (.double ta)])) _
    refine st2 _ ?_
    show Steps p.tables e below (T2.setTop (mkF m 8 #[.val (.ref oa), .val (.ref ob), .unset] [(.double ta), (.double ta)])) _
    refine st3 _ ?_
    show Steps p.tables e below (T3.setTop (mkF m 11 #[.val (.ref oa), .val (.ref ob), .unset] [(.int (0 : Int32))])) _
    refine XS.istoreN X3.here hx rfl (hb hby d12_11) rfl (l' := #[.val (.ref oa), .val (.ref ob), .val (.int (0 : Int32))]) rfl ?_
    show Steps p.tables e below (T3.setTop (mkF m 12 #[.val (.ref oa), .val (.ref ob), .val (.int (0 : Int32))] [])) _
    refine XS.iloadN X3.here hx rfl (hb hby d12_12) rfl ?_
    show Steps p.tables e below (T3.setTop (mkF m 13 #[.val (.ref oa), .val (.ref ob), .val (.int (0 : Int32))] [(.int (0 : Int32))])) _
    refine XS.ifYes X3.here hx rfl (pc0 := 13) (pc' := 20) rfl (hb hby d12_13) rfl ((if0 _ _).trans (teq (rfl : (0 : Int32) = (0 : Int32))).1) (by decide) (by decide) ?_
    show Steps p.tables e below (T3.setTop (mkF m 20 #[.val (.ref oa), .val (.ref ob), .val (.int (0 : Int32))] [])) _
    refine XS.aloadN X3.here hx rfl (hb hby d12_20) rfl rfl ?_
    show Steps p.tables e below (T3.setTop (mkF m 21 #[.val (.ref oa), .val (.ref ob), .val (.int (0 : Int32))] [(.ref ob)])) _
    refine st4 _ ?_
    show Steps p.tables e below (T4.setTop (mkF m 24 #[.val (.ref oa), .val (.ref ob), .val (.int (0 : Int32))] [(.int ib)])) _
    refine XS.aloadN X4.here hx rfl (hb hby d12_24) rfl rfl ?_
    show Steps p.tables e below (T4.setTop (mkF m 25 #[.val (.ref oa), .val (.ref ob), .val (.int (0 : Int32))] [(.ref oa), (.int ib)])) _
    refine st5 _ ?_
    show Steps p.tables e below (T5.setTop (mkF m 28 #[.val (.ref oa), .val (.ref ob), .val (.int (0 : Int32))] [(.int ia), (.int ib)])) _
    refine st6 _ ?_
    show Steps p.tables e below (T6.setTop (mkF m 31 #[.val (.ref oa), .val (.ref ob), .val (.int (0 : Int32))] [(.int (-1 : Int32))])) _
    exact retI X6 hx Bd.returns (hb hby d12_31) hr
  · show Q_rmCR_eqlt Z oa ob ia ta ib h0 n0 _ T6.heap _
    rw [e6]
    exact ⟨rfl, N6, rfl⟩
def Q_rmOR_eqlt (Z : State) (oa : Addr) (ob : Addr) (ia : Int32) (ta : UInt64) (ib : Int32) (h0 : Heap) (n0 : Nat) (v : Option Value) (h : Heap) (L : List Loc) : Prop := v = some (.int (0 : Int32)) ∧ Fr n0 L ∧ h = h0
theorem ef_rmOR_eqlt (m : MethodId) (oa : Addr) (ob : Addr) : entryFrame m #[(.ref oa), (.ref ob)] 2 = mkF m 0 #[.val (.ref oa), .val (.ref ob)] [] := by first | (simp [entryFrame, mkF, argsToLocals, Value.category]; done) | rfl
set_option maxRecDepth 65536 in
set_option maxHeartbeats 40000000 in
theorem rmOR_eqlt (l : Launch) (Z : State) (a0 : Array Value) (hw : ∀ d ∈ tables_1, d.before a0 Z = true) (ws : List Jvm.Cond) (oa : Addr) (ob : Addr) (ia : Int32) (ta : UInt64) (ib : Int32) (h0 : Heap) (n0 : Nat) (Z0 : n0 ≤ h0.size) (F_value_oa : Fld Z h0 oa "com/example/sortition/sortition/Element" "value" "D" (.double ta)) (F_index_oa : Fld Z h0 oa "com/example/sortition/sortition/Element" "index" "I" (.int ia)) (F_value_ob : Fld Z h0 ob "com/example/sortition/sortition/Element" "value" "D" (.double ta)) (F_index_ob : Fld Z h0 ob "com/example/sortition/sortition/Element" "index" "I" (.int ib)) (hn : NoNaN64 ta) (hq0 : ib < ia) :
    MetFree l (⟨"com/example/sortition/sortition/Element", "outranks", "(Lcom/example/sortition/sortition/Element;)Z"⟩ : MethodName) (head1 (Jvm.Cond.code (⟨"com/example/sortition/sortition/Element", "outranks", "(Lcom/example/sortition/sortition/Element;)Z"⟩ : MethodName) prog_24_method_2_code 2 (some .boolean) :: ws) ({ frames := 4, cells := 0, slots := 0, locals := 61 } : Room)) (fun a U => a = #[(.ref oa), (.ref ob)] ∧ Z.Warmed39 U.vm ∧ U.heap = h0) (fun _ _ _ _ _ => True) (fun _ U o U' => ∃ v L, o = .returned v ∧ Q_rmOR_eqlt Z oa ob ia ta ib h0 n0 v U'.heap L ∧ FrameEnd U o U' L ({ frames := 4, cells := 0, slots := 0, locals := 61 } : Room).cells ({ frames := 4, cells := 0, slots := 0, locals := 61 } : Room).slots) := by
  refine MetFree.of_bodySF (plainFor_of_name pn_4) hisR ?_
  intro p e s m args below meth c s₁ Bd hml0 hP hK
  obtain ⟨rfl, hZ, hh⟩ := hP
  have hx := Bd.exec
  have hby := Bd.bytes
  have hml : c.maxLocals = 2 := hml0
  have hown : s.vm.findClass "com/example/sortition/sortition/Element" = some m.cls := findClass_of_methodNamed Bd.named
  have hnm := (name_of_methodNamed Bd.named Bd.method).1
  have X0 : Stand p l e ({ frames := 4, cells := 0, slots := 0, locals := 61 } : Room) s m #[(.ref oa), (.ref ob)] below meth c s₁ [] 0 0 := Stand.of_body Bd
  have e0 : s₁.heap = h0 := by rw [← hh, Bd.state]; rfl
  have N0 := Fr.nil n0
  have pre0 : ∀ t, Steps p.tables e below (s₁.setTop (mkF m 0 #[.val (.ref oa), .val (.ref ob)] [])) t → Steps p.tables e below (s₁.setTop (entryFrame m #[(.ref oa), (.ref ob)] 2)) t := fun t k => castTop (ef_rmOR_eqlt m oa ob) k
  obtain ⟨_, _, ⟨T1, L1, k1, n1⟩, -, X1, ⟨Lc1, hQ1, l1, y1, z1⟩, st1⟩ := Jvm.LawKit.callS X0 hx (y := (⟨"com/example/sortition/sortition/Element", "compareRank", "(Lcom/example/sortition/sortition/Element;Lcom/example/sortition/sortition/Element;)I"⟩ : MethodName)) hown (mvT hZ (hw _ (List.mem_of_getElem? (i := 64) rfl))) (mvT hZ (hw _ (List.mem_of_getElem? (i := 65) rfl))) (mvT hZ (hw _ (List.mem_of_getElem? (i := 4) rfl))) (mvT hZ (hw _ (List.mem_of_getElem? (i := 66) rfl))) (by decide) (backOf (W := 0) (rmCR_eqlt l Z a0 hw [] oa ob ia ta ib h0 n0 Z0 F_value_oa F_index_oa F_value_ob F_index_ob hn hq0) hZ (hw _ (List.mem_of_getElem? (i := 66) rfl)) (hw _ (List.mem_of_getElem? (i := 4) rfl)) (by decide) (by decide)) (g := (mkF m 2 #[.val (.ref oa), .val (.ref ob)] [(.ref ob), (.ref oa)])) rfl (by rw [hml]; rfl) (argsL := [(.ref oa), (.ref ob)]) (rest := []) (lenOf pd_9 rfl) rfl (by show 2 * 0 + _ ≤ _; exact Nat.le_of_eq rfl) (hb hby d13_2) (fun _ _ => ⟨rfl, e0, (by decide : 0 + 0 ≤ _), (by decide : 0 + 0 ≤ _)⟩)
  dsimp only [Pt.U, Pt.locs, Pt.cells, Pt.slots] at X1 l1 y1 z1 st1 hQ1
  subst l1 y1 z1
  obtain ⟨rfl, Nq1, e1⟩ := hQ1
  have N1 := Fr.app N0 Nq1
  obtain ⟨fs, hr, hrun, hended, hW, hsame⟩ := X1.leave (v := some (.int (0 : Int32))) (fun h => by rw [Bd.returns] at h; cases h)
  refine ⟨_, _, pre0 _ ?_, hrun, hended, _, _, rfl, ?_, ⟨_, rfl⟩, hW, hsame.mono (by decide) (by decide)⟩
  · show Steps p.tables e below (s₁.setTop (mkF m 0 #[.val (.ref oa), .val (.ref ob)] [])) _
    refine XS.aloadN X0.here hx rfl (hb hby d13_0) rfl rfl ?_
    show Steps p.tables e below (s₁.setTop (mkF m 1 #[.val (.ref oa), .val (.ref ob)] [(.ref oa)])) _
    refine XS.aloadN X0.here hx rfl (hb hby d13_1) rfl rfl ?_
    show Steps p.tables e below (s₁.setTop (mkF m 2 #[.val (.ref oa), .val (.ref ob)] [(.ref ob), (.ref oa)])) _
    refine st1 _ ?_
    show Steps p.tables e below (T1.setTop (mkF m 5 #[.val (.ref oa), .val (.ref ob)] [(.int (-1 : Int32))])) _
    refine XS.ifYes X1.here hx rfl (pc0 := 5) (pc' := 12) rfl (hb hby d13_5) rfl ((if0 _ _).trans (flt (by decide : ¬ ((0 : Int32) < (-1 : Int32)))).2.2.2) (by decide) (by decide) ?_
    show Steps p.tables e below (T1.setTop (mkF m 12 #[.val (.ref oa), .val (.ref ob)] [])) _
    refine XS.iconst X1.here hx rfl (hb hby d13_12) ?_
    show Steps p.tables e below (T1.setTop (mkF m 13 #[.val (.ref oa), .val (.ref ob)] [(.int (0 : Int32))])) _
    exact retN X1 hx (t := .boolean) Bd.returns (by simp) (hb hby d13_13) hr
  · show Q_rmOR_eqlt Z oa ob ia ta ib h0 n0 _ T1.heap _
    rw [e1]
    exact ⟨rfl, N1, rfl⟩
def Q_rmCR_eqeq (Z : State) (oa : Addr) (ob : Addr) (ia : Int32) (ta : UInt64) (ib : Int32) (h0 : Heap) (n0 : Nat) (v : Option Value) (h : Heap) (L : List Loc) : Prop := v = some (.int (0 : Int32)) ∧ Fr n0 L ∧ h = h0
theorem ef_rmCR_eqeq (m : MethodId) (oa : Addr) (ob : Addr) : entryFrame m #[(.ref oa), (.ref ob)] 3 = mkF m 0 #[.val (.ref oa), .val (.ref ob), .unset] [] := by first | (simp [entryFrame, mkF, argsToLocals, Value.category]; done) | rfl
set_option maxRecDepth 65536 in
set_option maxHeartbeats 40000000 in
theorem rmCR_eqeq (l : Launch) (Z : State) (a0 : Array Value) (hw : ∀ d ∈ tables_1, d.before a0 Z = true) (ws : List Jvm.Cond) (oa : Addr) (ob : Addr) (ia : Int32) (ta : UInt64) (ib : Int32) (h0 : Heap) (n0 : Nat) (Z0 : n0 ≤ h0.size) (F_value_oa : Fld Z h0 oa "com/example/sortition/sortition/Element" "value" "D" (.double ta)) (F_index_oa : Fld Z h0 oa "com/example/sortition/sortition/Element" "index" "I" (.int ia)) (F_value_ob : Fld Z h0 ob "com/example/sortition/sortition/Element" "value" "D" (.double ta)) (F_index_ob : Fld Z h0 ob "com/example/sortition/sortition/Element" "index" "I" (.int ib)) (hn : NoNaN64 ta) (hq0 : ¬ (ib < ia)) (hq1 : ib = ia) :
    MetFree l (⟨"com/example/sortition/sortition/Element", "compareRank", "(Lcom/example/sortition/sortition/Element;Lcom/example/sortition/sortition/Element;)I"⟩ : MethodName) (head1 (Jvm.Cond.code (⟨"com/example/sortition/sortition/Element", "compareRank", "(Lcom/example/sortition/sortition/Element;Lcom/example/sortition/sortition/Element;)I"⟩ : MethodName) prog_24_method_3_code 3 (some .int) :: ws) ({ frames := 3, cells := 0, slots := 0, locals := 47 } : Room)) (fun a U => a = #[(.ref oa), (.ref ob)] ∧ Z.Warmed39 U.vm ∧ U.heap = h0) (fun _ _ _ _ _ => True) (fun _ U o U' => ∃ v L, o = .returned v ∧ Q_rmCR_eqeq Z oa ob ia ta ib h0 n0 v U'.heap L ∧ FrameEnd U o U' L ({ frames := 3, cells := 0, slots := 0, locals := 47 } : Room).cells ({ frames := 3, cells := 0, slots := 0, locals := 47 } : Room).slots) := by
  refine MetFree.of_bodySF (plainFor_of_name pn_4) hisR ?_
  intro p e s m args below meth c s₁ Bd hml0 hP hK
  obtain ⟨rfl, hZ, hh⟩ := hP
  have hx := Bd.exec
  have hby := Bd.bytes
  have hml : c.maxLocals = 3 := hml0
  have hown : s.vm.findClass "com/example/sortition/sortition/Element" = some m.cls := findClass_of_methodNamed Bd.named
  have hnm := (name_of_methodNamed Bd.named Bd.method).1
  have X0 : Stand p l e ({ frames := 3, cells := 0, slots := 0, locals := 47 } : Room) s m #[(.ref oa), (.ref ob)] below meth c s₁ [] 0 0 := Stand.of_body Bd
  have e0 : s₁.heap = h0 := by rw [← hh, Bd.state]; rfl
  have N0 := Fr.nil n0
  have pre0 : ∀ t, Steps p.tables e below (s₁.setTop (mkF m 0 #[.val (.ref oa), .val (.ref ob), .unset] [])) t → Steps p.tables e below (s₁.setTop (entryFrame m #[(.ref oa), (.ref ob)] 3)) t := fun t k => castTop (ef_rmCR_eqeq m oa ob) k
  obtain ⟨T1, X1, e1, st1⟩ := getF X0 hx hZ hown (host := "") (Or.inl (hw _ (List.mem_of_getElem? (i := 57) rfl))) Via.refl e0 F_value_oa (g := (mkF m 1 #[.val (.ref oa), .val (.ref ob), .unset] [(.ref oa)])) rfl rfl (hb hby d12_1)
  obtain ⟨T2, X2, e2, st2⟩ := getF X1 hx hZ hown (host := "") (Or.inl (hw _ (List.mem_of_getElem? (i := 57) rfl))) Via.refl e1 F_value_ob (g := (mkF m 5 #[.val (.ref oa), .val (.ref ob), .unset] [(.ref ob), (.double ta)])) rfl rfl (hb hby d12_5)
  obtain ⟨_, _, ⟨T3, L3, k3, n3⟩, -, X3, ⟨Lc3, hQ3, l3, y3, z3⟩, st3⟩ := Jvm.LawKit.callS X2 hx (y := (⟨"java/lang/Double", "compare", "(DD)I"⟩ : MethodName)) hown (mvT hZ (hw _ (List.mem_of_getElem? (i := 67) rfl))) (mvT hZ (hw _ (List.mem_of_getElem? (i := 68) rfl))) (mvT hZ (hw _ (List.mem_of_getElem? (i := 69) rfl))) (mvT hZ (hw _ (List.mem_of_getElem? (i := 70) rfl))) (by decide) (backOf (W := 0) (rmDC_eq l Z a0 hw [] ta ta h0 n0 Z0 hn) hZ (hw _ (List.mem_of_getElem? (i := 70) rfl)) (hw _ (List.mem_of_getElem? (i := 69) rfl)) (by decide) (by decide)) (g := (mkF m 8 #[.val (.ref oa), .val (.ref ob), .unset] [(.double ta), (.double ta)])) rfl (by rw [hml]; rfl) (argsL := [(.double ta), (.double ta)]) (rest := []) (lenOf pd_8 rfl) rfl (by show 2 * 0 + _ ≤ _; exact Nat.le_of_eq rfl) (hb hby d12_8) (fun _ _ => ⟨rfl, e2, (by decide : 0 + 0 ≤ _), (by decide : 0 + 0 ≤ _)⟩)
  dsimp only [Pt.U, Pt.locs, Pt.cells, Pt.slots] at X3 l3 y3 z3 st3 hQ3
  subst l3 y3 z3
  obtain ⟨rfl, Nq3, e3⟩ := hQ3
  have N3 := Fr.app N0 Nq3
  obtain ⟨T4, X4, e4, st4⟩ := getF X3 hx hZ hown (host := "") (Or.inl (hw _ (List.mem_of_getElem? (i := 53) rfl))) Via.refl e3 F_index_ob (g := (mkF m 21 #[.val (.ref oa), .val (.ref ob), .val (.int (0 : Int32))] [(.ref ob)])) rfl rfl (hb hby d12_21)
  obtain ⟨T5, X5, e5, st5⟩ := getF X4 hx hZ hown (host := "") (Or.inl (hw _ (List.mem_of_getElem? (i := 53) rfl))) Via.refl e4 F_index_oa (g := (mkF m 25 #[.val (.ref oa), .val (.ref ob), .val (.int (0 : Int32))] [(.ref oa), (.int ib)])) rfl rfl (hb hby d12_25)
  obtain ⟨_, _, ⟨T6, L6, k6, n6⟩, -, X6, ⟨Lc6, hQ6, l6, y6, z6⟩, st6⟩ := Jvm.LawKit.callS X5 hx (y := (⟨"java/lang/Integer", "compare", "(II)I"⟩ : MethodName)) hown (mvT hZ (hw _ (List.mem_of_getElem? (i := 80) rfl))) (mvT hZ (hw _ (List.mem_of_getElem? (i := 81) rfl))) (mvT hZ (hw _ (List.mem_of_getElem? (i := 82) rfl))) (mvT hZ (hw _ (List.mem_of_getElem? (i := 83) rfl))) (by decide) (backOf (W := 0) (rmIC_eq l Z a0 hw [] ib ia h0 n0 Z0 hq0 hq1) hZ (hw _ (List.mem_of_getElem? (i := 83) rfl)) (hw _ (List.mem_of_getElem? (i := 82) rfl)) (by decide) (by decide)) (g := (mkF m 28 #[.val (.ref oa), .val (.ref ob), .val (.int (0 : Int32))] [(.int ia), (.int ib)])) rfl (by rw [hml]; rfl) (argsL := [(.int ib), (.int ia)]) (rest := []) (lenOf pd_10 rfl) rfl (by show 2 * 0 + _ ≤ _; exact Nat.le_of_eq rfl) (hb hby d12_28) (fun _ _ => ⟨rfl, e5, (by decide : 0 + 0 ≤ _), (by decide : 0 + 0 ≤ _)⟩)
  dsimp only [Pt.U, Pt.locs, Pt.cells, Pt.slots] at X6 l6 y6 z6 st6 hQ6
  subst l6 y6 z6
  obtain ⟨rfl, Nq6, e6⟩ := hQ6
  have N6 := Fr.app N3 Nq6
  obtain ⟨fs, hr, hrun, hended, hW, hsame⟩ := X6.leave (v := some (.int (0 : Int32))) (fun h => by rw [Bd.returns] at h; cases h)
  refine ⟨_, _, pre0 _ ?_, hrun, hended, _, _, rfl, ?_, ⟨_, rfl⟩, hW, hsame.mono (by decide) (by decide)⟩
  · show Steps p.tables e below (s₁.setTop (mkF m 0 #[.val (.ref oa), .val (.ref ob), .unset] [])) _
    refine XS.aloadN X0.here hx rfl (hb hby d12_0) rfl rfl ?_
    show Steps p.tables e below (s₁.setTop (mkF m 1 #[.val (.ref oa), .val (.ref ob), .unset] [(.ref oa)])) _
    refine st1 _ ?_
    show Steps p.tables e below (T1.setTop (mkF m 4 #[.val (.ref oa), .val (.ref ob), .unset] [(.double ta)])) _
    refine XS.aloadN X1.here hx rfl (hb hby d12_4) rfl rfl ?_
    show Steps p.tables e below (T1.setTop (mkF m 5 #[.val (.ref oa), .val (.ref ob), .unset] [(.ref ob), (.double ta)])) _
    refine st2 _ ?_
    show Steps p.tables e below (T2.setTop (mkF m 8 #[.val (.ref oa), .val (.ref ob), .unset] [(.double ta), (.double ta)])) _
    refine st3 _ ?_
    show Steps p.tables e below (T3.setTop (mkF m 11 #[.val (.ref oa), .val (.ref ob), .unset] [(.int (0 : Int32))])) _
    refine XS.istoreN X3.here hx rfl (hb hby d12_11) rfl (l' := #[.val (.ref oa), .val (.ref ob), .val (.int (0 : Int32))]) rfl ?_
    show Steps p.tables e below (T3.setTop (mkF m 12 #[.val (.ref oa), .val (.ref ob), .val (.int (0 : Int32))] [])) _
    refine XS.iloadN X3.here hx rfl (hb hby d12_12) rfl ?_
    show Steps p.tables e below (T3.setTop (mkF m 13 #[.val (.ref oa), .val (.ref ob), .val (.int (0 : Int32))] [(.int (0 : Int32))])) _
    refine XS.ifYes X3.here hx rfl (pc0 := 13) (pc' := 20) rfl (hb hby d12_13) rfl ((if0 _ _).trans (teq (rfl : (0 : Int32) = (0 : Int32))).1) (by decide) (by decide) ?_
    show Steps p.tables e below (T3.setTop (mkF m 20 #[.val (.ref oa), .val (.ref ob), .val (.int (0 : Int32))] [])) _
    refine XS.aloadN X3.here hx rfl (hb hby d12_20) rfl rfl ?_
    show Steps p.tables e below (T3.setTop (mkF m 21 #[.val (.ref oa), .val (.ref ob), .val (.int (0 : Int32))] [(.ref ob)])) _
    refine st4 _ ?_
    show Steps p.tables e below (T4.setTop (mkF m 24 #[.val (.ref oa), .val (.ref ob), .val (.int (0 : Int32))] [(.int ib)])) _
    refine XS.aloadN X4.here hx rfl (hb hby d12_24) rfl rfl ?_
    show Steps p.tables e below (T4.setTop (mkF m 25 #[.val (.ref oa), .val (.ref ob), .val (.int (0 : Int32))] [(.ref oa), (.int ib)])) _
    refine st5 _ ?_
    show Steps p.tables e below (T5.setTop (mkF m 28 #[.val (.ref oa), .val (.ref ob), .val (.int (0 : Int32))] [(.int ia), (.int ib)])) _
    refine st6 _ ?_
    show Steps p.tables e below (T6.setTop (mkF m 31 #[.val (.ref oa), .val (.ref ob), .val (.int (0 : Int32))] [(.int (0 : Int32))])) _
    exact retI X6 hx Bd.returns (hb hby d12_31) hr
  · show Q_rmCR_eqeq Z oa ob ia ta ib h0 n0 _ T6.heap _
    rw [e6]
    exact ⟨rfl, N6, rfl⟩
def Q_rmOR_eqeq (Z : State) (oa : Addr) (ob : Addr) (ia : Int32) (ta : UInt64) (ib : Int32) (h0 : Heap) (n0 : Nat) (v : Option Value) (h : Heap) (L : List Loc) : Prop := v = some (.int (0 : Int32)) ∧ Fr n0 L ∧ h = h0
theorem ef_rmOR_eqeq (m : MethodId) (oa : Addr) (ob : Addr) : entryFrame m #[(.ref oa), (.ref ob)] 2 = mkF m 0 #[.val (.ref oa), .val (.ref ob)] [] := by first | (simp [entryFrame, mkF, argsToLocals, Value.category]; done) | rfl
set_option maxRecDepth 65536 in
set_option maxHeartbeats 40000000 in
theorem rmOR_eqeq (l : Launch) (Z : State) (a0 : Array Value) (hw : ∀ d ∈ tables_1, d.before a0 Z = true) (ws : List Jvm.Cond) (oa : Addr) (ob : Addr) (ia : Int32) (ta : UInt64) (ib : Int32) (h0 : Heap) (n0 : Nat) (Z0 : n0 ≤ h0.size) (F_value_oa : Fld Z h0 oa "com/example/sortition/sortition/Element" "value" "D" (.double ta)) (F_index_oa : Fld Z h0 oa "com/example/sortition/sortition/Element" "index" "I" (.int ia)) (F_value_ob : Fld Z h0 ob "com/example/sortition/sortition/Element" "value" "D" (.double ta)) (F_index_ob : Fld Z h0 ob "com/example/sortition/sortition/Element" "index" "I" (.int ib)) (hn : NoNaN64 ta) (hq0 : ¬ (ib < ia)) (hq1 : ib = ia) :
    MetFree l (⟨"com/example/sortition/sortition/Element", "outranks", "(Lcom/example/sortition/sortition/Element;)Z"⟩ : MethodName) (head1 (Jvm.Cond.code (⟨"com/example/sortition/sortition/Element", "outranks", "(Lcom/example/sortition/sortition/Element;)Z"⟩ : MethodName) prog_24_method_2_code 2 (some .boolean) :: ws) ({ frames := 4, cells := 0, slots := 0, locals := 61 } : Room)) (fun a U => a = #[(.ref oa), (.ref ob)] ∧ Z.Warmed39 U.vm ∧ U.heap = h0) (fun _ _ _ _ _ => True) (fun _ U o U' => ∃ v L, o = .returned v ∧ Q_rmOR_eqeq Z oa ob ia ta ib h0 n0 v U'.heap L ∧ FrameEnd U o U' L ({ frames := 4, cells := 0, slots := 0, locals := 61 } : Room).cells ({ frames := 4, cells := 0, slots := 0, locals := 61 } : Room).slots) := by
  refine MetFree.of_bodySF (plainFor_of_name pn_4) hisR ?_
  intro p e s m args below meth c s₁ Bd hml0 hP hK
  obtain ⟨rfl, hZ, hh⟩ := hP
  have hx := Bd.exec
  have hby := Bd.bytes
  have hml : c.maxLocals = 2 := hml0
  have hown : s.vm.findClass "com/example/sortition/sortition/Element" = some m.cls := findClass_of_methodNamed Bd.named
  have hnm := (name_of_methodNamed Bd.named Bd.method).1
  have X0 : Stand p l e ({ frames := 4, cells := 0, slots := 0, locals := 61 } : Room) s m #[(.ref oa), (.ref ob)] below meth c s₁ [] 0 0 := Stand.of_body Bd
  have e0 : s₁.heap = h0 := by rw [← hh, Bd.state]; rfl
  have N0 := Fr.nil n0
  have pre0 : ∀ t, Steps p.tables e below (s₁.setTop (mkF m 0 #[.val (.ref oa), .val (.ref ob)] [])) t → Steps p.tables e below (s₁.setTop (entryFrame m #[(.ref oa), (.ref ob)] 2)) t := fun t k => castTop (ef_rmOR_eqeq m oa ob) k
  obtain ⟨_, _, ⟨T1, L1, k1, n1⟩, -, X1, ⟨Lc1, hQ1, l1, y1, z1⟩, st1⟩ := Jvm.LawKit.callS X0 hx (y := (⟨"com/example/sortition/sortition/Element", "compareRank", "(Lcom/example/sortition/sortition/Element;Lcom/example/sortition/sortition/Element;)I"⟩ : MethodName)) hown (mvT hZ (hw _ (List.mem_of_getElem? (i := 64) rfl))) (mvT hZ (hw _ (List.mem_of_getElem? (i := 65) rfl))) (mvT hZ (hw _ (List.mem_of_getElem? (i := 4) rfl))) (mvT hZ (hw _ (List.mem_of_getElem? (i := 66) rfl))) (by decide) (backOf (W := 0) (rmCR_eqeq l Z a0 hw [] oa ob ia ta ib h0 n0 Z0 F_value_oa F_index_oa F_value_ob F_index_ob hn hq0 hq1) hZ (hw _ (List.mem_of_getElem? (i := 66) rfl)) (hw _ (List.mem_of_getElem? (i := 4) rfl)) (by decide) (by decide)) (g := (mkF m 2 #[.val (.ref oa), .val (.ref ob)] [(.ref ob), (.ref oa)])) rfl (by rw [hml]; rfl) (argsL := [(.ref oa), (.ref ob)]) (rest := []) (lenOf pd_9 rfl) rfl (by show 2 * 0 + _ ≤ _; exact Nat.le_of_eq rfl) (hb hby d13_2) (fun _ _ => ⟨rfl, e0, (by decide : 0 + 0 ≤ _), (by decide : 0 + 0 ≤ _)⟩)
  dsimp only [Pt.U, Pt.locs, Pt.cells, Pt.slots] at X1 l1 y1 z1 st1 hQ1
  subst l1 y1 z1
  obtain ⟨rfl, Nq1, e1⟩ := hQ1
  have N1 := Fr.app N0 Nq1
  obtain ⟨fs, hr, hrun, hended, hW, hsame⟩ := X1.leave (v := some (.int (0 : Int32))) (fun h => by rw [Bd.returns] at h; cases h)
  refine ⟨_, _, pre0 _ ?_, hrun, hended, _, _, rfl, ?_, ⟨_, rfl⟩, hW, hsame.mono (by decide) (by decide)⟩
  · show Steps p.tables e below (s₁.setTop (mkF m 0 #[.val (.ref oa), .val (.ref ob)] [])) _
    refine XS.aloadN X0.here hx rfl (hb hby d13_0) rfl rfl ?_
    show Steps p.tables e below (s₁.setTop (mkF m 1 #[.val (.ref oa), .val (.ref ob)] [(.ref oa)])) _
    refine XS.aloadN X0.here hx rfl (hb hby d13_1) rfl rfl ?_
    show Steps p.tables e below (s₁.setTop (mkF m 2 #[.val (.ref oa), .val (.ref ob)] [(.ref ob), (.ref oa)])) _
    refine st1 _ ?_
    show Steps p.tables e below (T1.setTop (mkF m 5 #[.val (.ref oa), .val (.ref ob)] [(.int (0 : Int32))])) _
    refine XS.ifYes X1.here hx rfl (pc0 := 5) (pc' := 12) rfl (hb hby d13_5) rfl ((if0 _ _).trans (flt (by decide : ¬ ((0 : Int32) < (0 : Int32)))).2.2.2) (by decide) (by decide) ?_
    show Steps p.tables e below (T1.setTop (mkF m 12 #[.val (.ref oa), .val (.ref ob)] [])) _
    refine XS.iconst X1.here hx rfl (hb hby d13_12) ?_
    show Steps p.tables e below (T1.setTop (mkF m 13 #[.val (.ref oa), .val (.ref ob)] [(.int (0 : Int32))])) _
    exact retN X1 hx (t := .boolean) Bd.returns (by simp) (hb hby d13_13) hr
  · show Q_rmOR_eqeq Z oa ob ia ta ib h0 n0 _ T1.heap _
    rw [e1]
    exact ⟨rfl, N1, rfl⟩
def Q_rmCR_eqgt (Z : State) (oa : Addr) (ob : Addr) (ia : Int32) (ta : UInt64) (ib : Int32) (h0 : Heap) (n0 : Nat) (v : Option Value) (h : Heap) (L : List Loc) : Prop := v = some (.int (1 : Int32)) ∧ Fr n0 L ∧ h = h0
theorem ef_rmCR_eqgt (m : MethodId) (oa : Addr) (ob : Addr) : entryFrame m #[(.ref oa), (.ref ob)] 3 = mkF m 0 #[.val (.ref oa), .val (.ref ob), .unset] [] := by first | (simp [entryFrame, mkF, argsToLocals, Value.category]; done) | rfl
set_option maxRecDepth 65536 in
set_option maxHeartbeats 40000000 in
theorem rmCR_eqgt (l : Launch) (Z : State) (a0 : Array Value) (hw : ∀ d ∈ tables_1, d.before a0 Z = true) (ws : List Jvm.Cond) (oa : Addr) (ob : Addr) (ia : Int32) (ta : UInt64) (ib : Int32) (h0 : Heap) (n0 : Nat) (Z0 : n0 ≤ h0.size) (F_value_oa : Fld Z h0 oa "com/example/sortition/sortition/Element" "value" "D" (.double ta)) (F_index_oa : Fld Z h0 oa "com/example/sortition/sortition/Element" "index" "I" (.int ia)) (F_value_ob : Fld Z h0 ob "com/example/sortition/sortition/Element" "value" "D" (.double ta)) (F_index_ob : Fld Z h0 ob "com/example/sortition/sortition/Element" "index" "I" (.int ib)) (hn : NoNaN64 ta) (hq0 : ¬ (ib < ia)) (hq1 : ¬ (ib = ia)) :
    MetFree l (⟨"com/example/sortition/sortition/Element", "compareRank", "(Lcom/example/sortition/sortition/Element;Lcom/example/sortition/sortition/Element;)I"⟩ : MethodName) (head1 (Jvm.Cond.code (⟨"com/example/sortition/sortition/Element", "compareRank", "(Lcom/example/sortition/sortition/Element;Lcom/example/sortition/sortition/Element;)I"⟩ : MethodName) prog_24_method_3_code 3 (some .int) :: ws) ({ frames := 3, cells := 0, slots := 0, locals := 47 } : Room)) (fun a U => a = #[(.ref oa), (.ref ob)] ∧ Z.Warmed39 U.vm ∧ U.heap = h0) (fun _ _ _ _ _ => True) (fun _ U o U' => ∃ v L, o = .returned v ∧ Q_rmCR_eqgt Z oa ob ia ta ib h0 n0 v U'.heap L ∧ FrameEnd U o U' L ({ frames := 3, cells := 0, slots := 0, locals := 47 } : Room).cells ({ frames := 3, cells := 0, slots := 0, locals := 47 } : Room).slots) := by
  refine MetFree.of_bodySF (plainFor_of_name pn_4) hisR ?_
  intro p e s m args below meth c s₁ Bd hml0 hP hK
  obtain ⟨rfl, hZ, hh⟩ := hP
  have hx := Bd.exec
  have hby := Bd.bytes
  have hml : c.maxLocals = 3 := hml0
  have hown : s.vm.findClass "com/example/sortition/sortition/Element" = some m.cls := findClass_of_methodNamed Bd.named
  have hnm := (name_of_methodNamed Bd.named Bd.method).1
  have X0 : Stand p l e ({ frames := 3, cells := 0, slots := 0, locals := 47 } : Room) s m #[(.ref oa), (.ref ob)] below meth c s₁ [] 0 0 := Stand.of_body Bd
  have e0 : s₁.heap = h0 := by rw [← hh, Bd.state]; rfl
  have N0 := Fr.nil n0
  have pre0 : ∀ t, Steps p.tables e below (s₁.setTop (mkF m 0 #[.val (.ref oa), .val (.ref ob), .unset] [])) t → Steps p.tables e below (s₁.setTop (entryFrame m #[(.ref oa), (.ref ob)] 3)) t := fun t k => castTop (ef_rmCR_eqgt m oa ob) k
  obtain ⟨T1, X1, e1, st1⟩ := getF X0 hx hZ hown (host := "") (Or.inl (hw _ (List.mem_of_getElem? (i := 57) rfl))) Via.refl e0 F_value_oa (g := (mkF m 1 #[.val (.ref oa), .val (.ref ob), .unset] [(.ref oa)])) rfl rfl (hb hby d12_1)
  obtain ⟨T2, X2, e2, st2⟩ := getF X1 hx hZ hown (host := "") (Or.inl (hw _ (List.mem_of_getElem? (i := 57) rfl))) Via.refl e1 F_value_ob (g := (mkF m 5 #[.val (.ref oa), .val (.ref ob), .unset] [(.ref ob), (.double ta)])) rfl rfl (hb hby d12_5)
  obtain ⟨_, _, ⟨T3, L3, k3, n3⟩, -, X3, ⟨Lc3, hQ3, l3, y3, z3⟩, st3⟩ := Jvm.LawKit.callS X2 hx (y := (⟨"java/lang/Double", "compare", "(DD)I"⟩ : MethodName)) hown (mvT hZ (hw _ (List.mem_of_getElem? (i := 67) rfl))) (mvT hZ (hw _ (List.mem_of_getElem? (i := 68) rfl))) (mvT hZ (hw _ (List.mem_of_getElem? (i := 69) rfl))) (mvT hZ (hw _ (List.mem_of_getElem? (i := 70) rfl))) (by decide) (backOf (W := 0) (rmDC_eq l Z a0 hw [] ta ta h0 n0 Z0 hn) hZ (hw _ (List.mem_of_getElem? (i := 70) rfl)) (hw _ (List.mem_of_getElem? (i := 69) rfl)) (by decide) (by decide)) (g := (mkF m 8 #[.val (.ref oa), .val (.ref ob), .unset] [(.double ta), (.double ta)])) rfl (by rw [hml]; rfl) (argsL := [(.double ta), (.double ta)]) (rest := []) (lenOf pd_8 rfl) rfl (by show 2 * 0 + _ ≤ _; exact Nat.le_of_eq rfl) (hb hby d12_8) (fun _ _ => ⟨rfl, e2, (by decide : 0 + 0 ≤ _), (by decide : 0 + 0 ≤ _)⟩)
  dsimp only [Pt.U, Pt.locs, Pt.cells, Pt.slots] at X3 l3 y3 z3 st3 hQ3
  subst l3 y3 z3
  obtain ⟨rfl, Nq3, e3⟩ := hQ3
  have N3 := Fr.app N0 Nq3
  obtain ⟨T4, X4, e4, st4⟩ := getF X3 hx hZ hown (host := "") (Or.inl (hw _ (List.mem_of_getElem? (i := 53) rfl))) Via.refl e3 F_index_ob (g := (mkF m 21 #[.val (.ref oa), .val (.ref ob), .val (.int (0 : Int32))] [(.ref ob)])) rfl rfl (hb hby d12_21)
  obtain ⟨T5, X5, e5, st5⟩ := getF X4 hx hZ hown (host := "") (Or.inl (hw _ (List.mem_of_getElem? (i := 53) rfl))) Via.refl e4 F_index_oa (g := (mkF m 25 #[.val (.ref oa), .val (.ref ob), .val (.int (0 : Int32))] [(.ref oa), (.int ib)])) rfl rfl (hb hby d12_25)
  obtain ⟨_, _, ⟨T6, L6, k6, n6⟩, -, X6, ⟨Lc6, hQ6, l6, y6, z6⟩, st6⟩ := Jvm.LawKit.callS X5 hx (y := (⟨"java/lang/Integer", "compare", "(II)I"⟩ : MethodName)) hown (mvT hZ (hw _ (List.mem_of_getElem? (i := 80) rfl))) (mvT hZ (hw _ (List.mem_of_getElem? (i := 81) rfl))) (mvT hZ (hw _ (List.mem_of_getElem? (i := 82) rfl))) (mvT hZ (hw _ (List.mem_of_getElem? (i := 83) rfl))) (by decide) (backOf (W := 0) (rmIC_gt l Z a0 hw [] ib ia h0 n0 Z0 hq0 hq1) hZ (hw _ (List.mem_of_getElem? (i := 83) rfl)) (hw _ (List.mem_of_getElem? (i := 82) rfl)) (by decide) (by decide)) (g := (mkF m 28 #[.val (.ref oa), .val (.ref ob), .val (.int (0 : Int32))] [(.int ia), (.int ib)])) rfl (by rw [hml]; rfl) (argsL := [(.int ib), (.int ia)]) (rest := []) (lenOf pd_10 rfl) rfl (by show 2 * 0 + _ ≤ _; exact Nat.le_of_eq rfl) (hb hby d12_28) (fun _ _ => ⟨rfl, e5, (by decide : 0 + 0 ≤ _), (by decide : 0 + 0 ≤ _)⟩)
  dsimp only [Pt.U, Pt.locs, Pt.cells, Pt.slots] at X6 l6 y6 z6 st6 hQ6
  subst l6 y6 z6
  obtain ⟨rfl, Nq6, e6⟩ := hQ6
  have N6 := Fr.app N3 Nq6
  obtain ⟨fs, hr, hrun, hended, hW, hsame⟩ := X6.leave (v := some (.int (1 : Int32))) (fun h => by rw [Bd.returns] at h; cases h)
  refine ⟨_, _, pre0 _ ?_, hrun, hended, _, _, rfl, ?_, ⟨_, rfl⟩, hW, hsame.mono (by decide) (by decide)⟩
  · show Steps p.tables e below (s₁.setTop (mkF m 0 #[.val (.ref oa), .val (.ref ob), .unset] [])) _
    refine XS.aloadN X0.here hx rfl (hb hby d12_0) rfl rfl ?_
    show Steps p.tables e below (s₁.setTop (mkF m 1 #[.val (.ref oa), .val (.ref ob), .unset] [(.ref oa)])) _
    refine st1 _ ?_
    show Steps p.tables e below (T1.setTop (mkF m 4 #[.val (.ref oa), .val (.ref ob), .unset] [(.double ta)])) _
    refine XS.aloadN X1.here hx rfl (hb hby d12_4) rfl rfl ?_
    show Steps p.tables e below (T1.setTop (mkF m 5 #[.val (.ref oa), .val (.ref ob), .unset] [(.ref ob), (.double ta)])) _
    refine st2 _ ?_
    show Steps p.tables e below (T2.setTop (mkF m 8 #[.val (.ref oa), .val (.ref ob), .unset] [(.double ta), (.double ta)])) _
    refine st3 _ ?_
    show Steps p.tables e below (T3.setTop (mkF m 11 #[.val (.ref oa), .val (.ref ob), .unset] [(.int (0 : Int32))])) _
    refine XS.istoreN X3.here hx rfl (hb hby d12_11) rfl (l' := #[.val (.ref oa), .val (.ref ob), .val (.int (0 : Int32))]) rfl ?_
    show Steps p.tables e below (T3.setTop (mkF m 12 #[.val (.ref oa), .val (.ref ob), .val (.int (0 : Int32))] [])) _
    refine XS.iloadN X3.here hx rfl (hb hby d12_12) rfl ?_
    show Steps p.tables e below (T3.setTop (mkF m 13 #[.val (.ref oa), .val (.ref ob), .val (.int (0 : Int32))] [(.int (0 : Int32))])) _
    refine XS.ifYes X3.here hx rfl (pc0 := 13) (pc' := 20) rfl (hb hby d12_13) rfl ((if0 _ _).trans (teq (rfl : (0 : Int32) = (0 : Int32))).1) (by decide) (by decide) ?_
    show Steps p.tables e below (T3.setTop (mkF m 20 #[.val (.ref oa), .val (.ref ob), .val (.int (0 : Int32))] [])) _
    refine XS.aloadN X3.here hx rfl (hb hby d12_20) rfl rfl ?_
    show Steps p.tables e below (T3.setTop (mkF m 21 #[.val (.ref oa), .val (.ref ob), .val (.int (0 : Int32))] [(.ref ob)])) _
    refine st4 _ ?_
    show Steps p.tables e below (T4.setTop (mkF m 24 #[.val (.ref oa), .val (.ref ob), .val (.int (0 : Int32))] [(.int ib)])) _
    refine XS.aloadN X4.here hx rfl (hb hby d12_24) rfl rfl ?_
    show Steps p.tables e below (T4.setTop (mkF m 25 #[.val (.ref oa), .val (.ref ob), .val (.int (0 : Int32))] [(.ref oa), (.int ib)])) _
    refine st5 _ ?_
    show Steps p.tables e below (T5.setTop (mkF m 28 #[.val (.ref oa), .val (.ref ob), .val (.int (0 : Int32))] [(.int ia), (.int ib)])) _
    refine st6 _ ?_
    show Steps p.tables e below (T6.setTop (mkF m 31 #[.val (.ref oa), .val (.ref ob), .val (.int (0 : Int32))] [(.int (1 : Int32))])) _
    exact retI X6 hx Bd.returns (hb hby d12_31) hr
  · show Q_rmCR_eqgt Z oa ob ia ta ib h0 n0 _ T6.heap _
    rw [e6]
    exact ⟨rfl, N6, rfl⟩
def Q_rmOR_eqgt (Z : State) (oa : Addr) (ob : Addr) (ia : Int32) (ta : UInt64) (ib : Int32) (h0 : Heap) (n0 : Nat) (v : Option Value) (h : Heap) (L : List Loc) : Prop := v = some (.int (1 : Int32)) ∧ Fr n0 L ∧ h = h0
theorem ef_rmOR_eqgt (m : MethodId) (oa : Addr) (ob : Addr) : entryFrame m #[(.ref oa), (.ref ob)] 2 = mkF m 0 #[.val (.ref oa), .val (.ref ob)] [] := by first | (simp [entryFrame, mkF, argsToLocals, Value.category]; done) | rfl
set_option maxRecDepth 65536 in
set_option maxHeartbeats 40000000 in
theorem rmOR_eqgt (l : Launch) (Z : State) (a0 : Array Value) (hw : ∀ d ∈ tables_1, d.before a0 Z = true) (ws : List Jvm.Cond) (oa : Addr) (ob : Addr) (ia : Int32) (ta : UInt64) (ib : Int32) (h0 : Heap) (n0 : Nat) (Z0 : n0 ≤ h0.size) (F_value_oa : Fld Z h0 oa "com/example/sortition/sortition/Element" "value" "D" (.double ta)) (F_index_oa : Fld Z h0 oa "com/example/sortition/sortition/Element" "index" "I" (.int ia)) (F_value_ob : Fld Z h0 ob "com/example/sortition/sortition/Element" "value" "D" (.double ta)) (F_index_ob : Fld Z h0 ob "com/example/sortition/sortition/Element" "index" "I" (.int ib)) (hn : NoNaN64 ta) (hq0 : ¬ (ib < ia)) (hq1 : ¬ (ib = ia)) :
    MetFree l (⟨"com/example/sortition/sortition/Element", "outranks", "(Lcom/example/sortition/sortition/Element;)Z"⟩ : MethodName) (head1 (Jvm.Cond.code (⟨"com/example/sortition/sortition/Element", "outranks", "(Lcom/example/sortition/sortition/Element;)Z"⟩ : MethodName) prog_24_method_2_code 2 (some .boolean) :: ws) ({ frames := 4, cells := 0, slots := 0, locals := 61 } : Room)) (fun a U => a = #[(.ref oa), (.ref ob)] ∧ Z.Warmed39 U.vm ∧ U.heap = h0) (fun _ _ _ _ _ => True) (fun _ U o U' => ∃ v L, o = .returned v ∧ Q_rmOR_eqgt Z oa ob ia ta ib h0 n0 v U'.heap L ∧ FrameEnd U o U' L ({ frames := 4, cells := 0, slots := 0, locals := 61 } : Room).cells ({ frames := 4, cells := 0, slots := 0, locals := 61 } : Room).slots) := by
  refine MetFree.of_bodySF (plainFor_of_name pn_4) hisR ?_
  intro p e s m args below meth c s₁ Bd hml0 hP hK
  obtain ⟨rfl, hZ, hh⟩ := hP
  have hx := Bd.exec
  have hby := Bd.bytes
  have hml : c.maxLocals = 2 := hml0
  have hown : s.vm.findClass "com/example/sortition/sortition/Element" = some m.cls := findClass_of_methodNamed Bd.named
  have hnm := (name_of_methodNamed Bd.named Bd.method).1
  have X0 : Stand p l e ({ frames := 4, cells := 0, slots := 0, locals := 61 } : Room) s m #[(.ref oa), (.ref ob)] below meth c s₁ [] 0 0 := Stand.of_body Bd
  have e0 : s₁.heap = h0 := by rw [← hh, Bd.state]; rfl
  have N0 := Fr.nil n0
  have pre0 : ∀ t, Steps p.tables e below (s₁.setTop (mkF m 0 #[.val (.ref oa), .val (.ref ob)] [])) t → Steps p.tables e below (s₁.setTop (entryFrame m #[(.ref oa), (.ref ob)] 2)) t := fun t k => castTop (ef_rmOR_eqgt m oa ob) k
  obtain ⟨_, _, ⟨T1, L1, k1, n1⟩, -, X1, ⟨Lc1, hQ1, l1, y1, z1⟩, st1⟩ := Jvm.LawKit.callS X0 hx (y := (⟨"com/example/sortition/sortition/Element", "compareRank", "(Lcom/example/sortition/sortition/Element;Lcom/example/sortition/sortition/Element;)I"⟩ : MethodName)) hown (mvT hZ (hw _ (List.mem_of_getElem? (i := 64) rfl))) (mvT hZ (hw _ (List.mem_of_getElem? (i := 65) rfl))) (mvT hZ (hw _ (List.mem_of_getElem? (i := 4) rfl))) (mvT hZ (hw _ (List.mem_of_getElem? (i := 66) rfl))) (by decide) (backOf (W := 0) (rmCR_eqgt l Z a0 hw [] oa ob ia ta ib h0 n0 Z0 F_value_oa F_index_oa F_value_ob F_index_ob hn hq0 hq1) hZ (hw _ (List.mem_of_getElem? (i := 66) rfl)) (hw _ (List.mem_of_getElem? (i := 4) rfl)) (by decide) (by decide)) (g := (mkF m 2 #[.val (.ref oa), .val (.ref ob)] [(.ref ob), (.ref oa)])) rfl (by rw [hml]; rfl) (argsL := [(.ref oa), (.ref ob)]) (rest := []) (lenOf pd_9 rfl) rfl (by show 2 * 0 + _ ≤ _; exact Nat.le_of_eq rfl) (hb hby d13_2) (fun _ _ => ⟨rfl, e0, (by decide : 0 + 0 ≤ _), (by decide : 0 + 0 ≤ _)⟩)
  dsimp only [Pt.U, Pt.locs, Pt.cells, Pt.slots] at X1 l1 y1 z1 st1 hQ1
  subst l1 y1 z1
  obtain ⟨rfl, Nq1, e1⟩ := hQ1
  have N1 := Fr.app N0 Nq1
  obtain ⟨fs, hr, hrun, hended, hW, hsame⟩ := X1.leave (v := some (.int (1 : Int32))) (fun h => by rw [Bd.returns] at h; cases h)
  refine ⟨_, _, pre0 _ ?_, hrun, hended, _, _, rfl, ?_, ⟨_, rfl⟩, hW, hsame.mono (by decide) (by decide)⟩
  · show Steps p.tables e below (s₁.setTop (mkF m 0 #[.val (.ref oa), .val (.ref ob)] [])) _
    refine XS.aloadN X0.here hx rfl (hb hby d13_0) rfl rfl ?_
    show Steps p.tables e below (s₁.setTop (mkF m 1 #[.val (.ref oa), .val (.ref ob)] [(.ref oa)])) _
    refine XS.aloadN X0.here hx rfl (hb hby d13_1) rfl rfl ?_
    show Steps p.tables e below (s₁.setTop (mkF m 2 #[.val (.ref oa), .val (.ref ob)] [(.ref ob), (.ref oa)])) _
    refine st1 _ ?_
    show Steps p.tables e below (T1.setTop (mkF m 5 #[.val (.ref oa), .val (.ref ob)] [(.int (1 : Int32))])) _
    refine XS.ifNo X1.here hx rfl (hb hby d13_5) rfl ((if0 _ _).trans (tlt (by decide : (0 : Int32) < (1 : Int32))).2.2.2) ?_
    show Steps p.tables e below (T1.setTop (mkF m 8 #[.val (.ref oa), .val (.ref ob)] [])) _
    refine XS.iconst X1.here hx rfl (hb hby d13_8) ?_
    show Steps p.tables e below (T1.setTop (mkF m 9 #[.val (.ref oa), .val (.ref ob)] [(.int (1 : Int32))])) _
    refine XS.goto X1.here hx rfl (pc0 := 9) (pc' := 13) rfl (hb hby d13_9) (by decide) (by decide) ?_
    show Steps p.tables e below (T1.setTop (mkF m 13 #[.val (.ref oa), .val (.ref ob)] [(.int (1 : Int32))])) _
    exact retN X1 hx (t := .boolean) Bd.returns (by simp) (hb hby d13_13) hr
  · show Q_rmOR_eqgt Z oa ob ia ta ib h0 n0 _ T1.heap _
    rw [e1]
    exact ⟨rfl, N1, rfl⟩
def Q_rmCR_self (Z : State) (oa : Addr) (oa : Addr) (ia : Int32) (ta : UInt64) (h0 : Heap) (n0 : Nat) (v : Option Value) (h : Heap) (L : List Loc) : Prop := v = some (.int (0 : Int32)) ∧ Fr n0 L ∧ h = h0
theorem ef_rmCR_self (m : MethodId) (oa : Addr) (oa : Addr) : entryFrame m #[(.ref oa), (.ref oa)] 3 = mkF m 0 #[.val (.ref oa), .val (.ref oa), .unset] [] := by first | (simp [entryFrame, mkF, argsToLocals, Value.category]; done) | rfl
set_option maxRecDepth 65536 in
set_option maxHeartbeats 40000000 in
theorem rmCR_self (l : Launch) (Z : State) (a0 : Array Value) (hw : ∀ d ∈ tables_1, d.before a0 Z = true) (ws : List Jvm.Cond) (oa : Addr) (oa : Addr) (ia : Int32) (ta : UInt64) (h0 : Heap) (n0 : Nat) (Z0 : n0 ≤ h0.size) (F_value_oa : Fld Z h0 oa "com/example/sortition/sortition/Element" "value" "D" (.double ta)) (F_index_oa : Fld Z h0 oa "com/example/sortition/sortition/Element" "index" "I" (.int ia)) (hn : NoNaN64 ta) (hq0 : ¬ (ia < ia)) :
    MetFree l (⟨"com/example/sortition/sortition/Element", "compareRank", "(Lcom/example/sortition/sortition/Element;Lcom/example/sortition/sortition/Element;)I"⟩ : MethodName) (head1 (Jvm.Cond.code (⟨"com/example/sortition/sortition/Element", "compareRank", "(Lcom/example/sortition/sortition/Element;Lcom/example/sortition/sortition/Element;)I"⟩ : MethodName) prog_24_method_3_code 3 (some .int) :: ws) ({ frames := 3, cells := 0, slots := 0, locals := 47 } : Room)) (fun a U => a = #[(.ref oa), (.ref oa)] ∧ Z.Warmed39 U.vm ∧ U.heap = h0) (fun _ _ _ _ _ => True) (fun _ U o U' => ∃ v L, o = .returned v ∧ Q_rmCR_self Z oa oa ia ta h0 n0 v U'.heap L ∧ FrameEnd U o U' L ({ frames := 3, cells := 0, slots := 0, locals := 47 } : Room).cells ({ frames := 3, cells := 0, slots := 0, locals := 47 } : Room).slots) := by
  refine MetFree.of_bodySF (plainFor_of_name pn_4) hisR ?_
  intro p e s m args below meth c s₁ Bd hml0 hP hK
  obtain ⟨rfl, hZ, hh⟩ := hP
  have hx := Bd.exec
  have hby := Bd.bytes
  have hml : c.maxLocals = 3 := hml0
  have hown : s.vm.findClass "com/example/sortition/sortition/Element" = some m.cls := findClass_of_methodNamed Bd.named
  have hnm := (name_of_methodNamed Bd.named Bd.method).1
  have X0 : Stand p l e ({ frames := 3, cells := 0, slots := 0, locals := 47 } : Room) s m #[(.ref oa), (.ref oa)] below meth c s₁ [] 0 0 := Stand.of_body Bd
  have e0 : s₁.heap = h0 := by rw [← hh, Bd.state]; rfl
  have N0 := Fr.nil n0
  have pre0 : ∀ t, Steps p.tables e below (s₁.setTop (mkF m 0 #[.val (.ref oa), .val (.ref oa), .unset] [])) t → Steps p.tables e below (s₁.setTop (entryFrame m #[(.ref oa), (.ref oa)] 3)) t := fun t k => castTop (ef_rmCR_self m oa oa) k
  obtain ⟨T1, X1, e1, st1⟩ := getF X0 hx hZ hown (host := "") (Or.inl (hw _ (List.mem_of_getElem? (i := 57) rfl))) Via.refl e0 F_value_oa (g := (mkF m 1 #[.val (.ref oa), .val (.ref oa), .unset] [(.ref oa)])) rfl rfl (hb hby d12_1)
  obtain ⟨T2, X2, e2, st2⟩ := getF X1 hx hZ hown (host := "") (Or.inl (hw _ (List.mem_of_getElem? (i := 57) rfl))) Via.refl e1 F_value_oa (g := (mkF m 5 #[.val (.ref oa), .val (.ref oa), .unset] [(.ref oa), (.double ta)])) rfl rfl (hb hby d12_5)
  obtain ⟨_, _, ⟨T3, L3, k3, n3⟩, -, X3, ⟨Lc3, hQ3, l3, y3, z3⟩, st3⟩ := Jvm.LawKit.callS X2 hx (y := (⟨"java/lang/Double", "compare", "(DD)I"⟩ : MethodName)) hown (mvT hZ (hw _ (List.mem_of_getElem? (i := 67) rfl))) (mvT hZ (hw _ (List.mem_of_getElem? (i := 68) rfl))) (mvT hZ (hw _ (List.mem_of_getElem? (i := 69) rfl))) (mvT hZ (hw _ (List.mem_of_getElem? (i := 70) rfl))) (by decide) (backOf (W := 0) (rmDC_eq l Z a0 hw [] ta ta h0 n0 Z0 hn) hZ (hw _ (List.mem_of_getElem? (i := 70) rfl)) (hw _ (List.mem_of_getElem? (i := 69) rfl)) (by decide) (by decide)) (g := (mkF m 8 #[.val (.ref oa), .val (.ref oa), .unset] [(.double ta), (.double ta)])) rfl (by rw [hml]; rfl) (argsL := [(.double ta), (.double ta)]) (rest := []) (lenOf pd_8 rfl) rfl (by show 2 * 0 + _ ≤ _; exact Nat.le_of_eq rfl) (hb hby d12_8) (fun _ _ => ⟨rfl, e2, (by decide : 0 + 0 ≤ _), (by decide : 0 + 0 ≤ _)⟩)
  dsimp only [Pt.U, Pt.locs, Pt.cells, Pt.slots] at X3 l3 y3 z3 st3 hQ3
  subst l3 y3 z3
  obtain ⟨rfl, Nq3, e3⟩ := hQ3
  have N3 := Fr.app N0 Nq3
  obtain ⟨T4, X4, e4, st4⟩ := getF X3 hx hZ hown (host := "") (Or.inl (hw _ (List.mem_of_getElem? (i := 53) rfl))) Via.refl e3 F_index_oa (g := (mkF m 21 #[.val (.ref oa), .val (.ref oa), .val (.int (0 : Int32))] [(.ref oa)])) rfl rfl (hb hby d12_21)
  obtain ⟨T5, X5, e5, st5⟩ := getF X4 hx hZ hown (host := "") (Or.inl (hw _ (List.mem_of_getElem? (i := 53) rfl))) Via.refl e4 F_index_oa (g := (mkF m 25 #[.val (.ref oa), .val (.ref oa), .val (.int (0 : Int32))] [(.ref oa), (.int ia)])) rfl rfl (hb hby d12_25)
  obtain ⟨_, _, ⟨T6, L6, k6, n6⟩, -, X6, ⟨Lc6, hQ6, l6, y6, z6⟩, st6⟩ := Jvm.LawKit.callS X5 hx (y := (⟨"java/lang/Integer", "compare", "(II)I"⟩ : MethodName)) hown (mvT hZ (hw _ (List.mem_of_getElem? (i := 80) rfl))) (mvT hZ (hw _ (List.mem_of_getElem? (i := 81) rfl))) (mvT hZ (hw _ (List.mem_of_getElem? (i := 82) rfl))) (mvT hZ (hw _ (List.mem_of_getElem? (i := 83) rfl))) (by decide) (backOf (W := 0) (rmIC_self l Z a0 hw [] ia ia h0 n0 Z0 hq0) hZ (hw _ (List.mem_of_getElem? (i := 83) rfl)) (hw _ (List.mem_of_getElem? (i := 82) rfl)) (by decide) (by decide)) (g := (mkF m 28 #[.val (.ref oa), .val (.ref oa), .val (.int (0 : Int32))] [(.int ia), (.int ia)])) rfl (by rw [hml]; rfl) (argsL := [(.int ia), (.int ia)]) (rest := []) (lenOf pd_10 rfl) rfl (by show 2 * 0 + _ ≤ _; exact Nat.le_of_eq rfl) (hb hby d12_28) (fun _ _ => ⟨rfl, e5, (by decide : 0 + 0 ≤ _), (by decide : 0 + 0 ≤ _)⟩)
  dsimp only [Pt.U, Pt.locs, Pt.cells, Pt.slots] at X6 l6 y6 z6 st6 hQ6
  subst l6 y6 z6
  obtain ⟨rfl, Nq6, e6⟩ := hQ6
  have N6 := Fr.app N3 Nq6
  obtain ⟨fs, hr, hrun, hended, hW, hsame⟩ := X6.leave (v := some (.int (0 : Int32))) (fun h => by rw [Bd.returns] at h; cases h)
  refine ⟨_, _, pre0 _ ?_, hrun, hended, _, _, rfl, ?_, ⟨_, rfl⟩, hW, hsame.mono (by decide) (by decide)⟩
  · show Steps p.tables e below (s₁.setTop (mkF m 0 #[.val (.ref oa), .val (.ref oa), .unset] [])) _
    refine XS.aloadN X0.here hx rfl (hb hby d12_0) rfl rfl ?_
    show Steps p.tables e below (s₁.setTop (mkF m 1 #[.val (.ref oa), .val (.ref oa), .unset] [(.ref oa)])) _
    refine st1 _ ?_
    show Steps p.tables e below (T1.setTop (mkF m 4 #[.val (.ref oa), .val (.ref oa), .unset] [(.double ta)])) _
    refine XS.aloadN X1.here hx rfl (hb hby d12_4) rfl rfl ?_
    show Steps p.tables e below (T1.setTop (mkF m 5 #[.val (.ref oa), .val (.ref oa), .unset] [(.ref oa), (.double ta)])) _
    refine st2 _ ?_
    show Steps p.tables e below (T2.setTop (mkF m 8 #[.val (.ref oa), .val (.ref oa), .unset] [(.double ta), (.double ta)])) _
    refine st3 _ ?_
    show Steps p.tables e below (T3.setTop (mkF m 11 #[.val (.ref oa), .val (.ref oa), .unset] [(.int (0 : Int32))])) _
    refine XS.istoreN X3.here hx rfl (hb hby d12_11) rfl (l' := #[.val (.ref oa), .val (.ref oa), .val (.int (0 : Int32))]) rfl ?_
    show Steps p.tables e below (T3.setTop (mkF m 12 #[.val (.ref oa), .val (.ref oa), .val (.int (0 : Int32))] [])) _
    refine XS.iloadN X3.here hx rfl (hb hby d12_12) rfl ?_
    show Steps p.tables e below (T3.setTop (mkF m 13 #[.val (.ref oa), .val (.ref oa), .val (.int (0 : Int32))] [(.int (0 : Int32))])) _
    refine XS.ifYes X3.here hx rfl (pc0 := 13) (pc' := 20) rfl (hb hby d12_13) rfl ((if0 _ _).trans (teq (rfl : (0 : Int32) = (0 : Int32))).1) (by decide) (by decide) ?_
    show Steps p.tables e below (T3.setTop (mkF m 20 #[.val (.ref oa), .val (.ref oa), .val (.int (0 : Int32))] [])) _
    refine XS.aloadN X3.here hx rfl (hb hby d12_20) rfl rfl ?_
    show Steps p.tables e below (T3.setTop (mkF m 21 #[.val (.ref oa), .val (.ref oa), .val (.int (0 : Int32))] [(.ref oa)])) _
    refine st4 _ ?_
    show Steps p.tables e below (T4.setTop (mkF m 24 #[.val (.ref oa), .val (.ref oa), .val (.int (0 : Int32))] [(.int ia)])) _
    refine XS.aloadN X4.here hx rfl (hb hby d12_24) rfl rfl ?_
    show Steps p.tables e below (T4.setTop (mkF m 25 #[.val (.ref oa), .val (.ref oa), .val (.int (0 : Int32))] [(.ref oa), (.int ia)])) _
    refine st5 _ ?_
    show Steps p.tables e below (T5.setTop (mkF m 28 #[.val (.ref oa), .val (.ref oa), .val (.int (0 : Int32))] [(.int ia), (.int ia)])) _
    refine st6 _ ?_
    show Steps p.tables e below (T6.setTop (mkF m 31 #[.val (.ref oa), .val (.ref oa), .val (.int (0 : Int32))] [(.int (0 : Int32))])) _
    exact retI X6 hx Bd.returns (hb hby d12_31) hr
  · show Q_rmCR_self Z oa oa ia ta h0 n0 _ T6.heap _
    rw [e6]
    exact ⟨rfl, N6, rfl⟩
def Q_rmOR_self (Z : State) (oa : Addr) (oa : Addr) (ia : Int32) (ta : UInt64) (h0 : Heap) (n0 : Nat) (v : Option Value) (h : Heap) (L : List Loc) : Prop := v = some (.int (0 : Int32)) ∧ Fr n0 L ∧ h = h0
theorem ef_rmOR_self (m : MethodId) (oa : Addr) (oa : Addr) : entryFrame m #[(.ref oa), (.ref oa)] 2 = mkF m 0 #[.val (.ref oa), .val (.ref oa)] [] := by first | (simp [entryFrame, mkF, argsToLocals, Value.category]; done) | rfl
set_option maxRecDepth 65536 in
set_option maxHeartbeats 40000000 in
theorem rmOR_self (l : Launch) (Z : State) (a0 : Array Value) (hw : ∀ d ∈ tables_1, d.before a0 Z = true) (ws : List Jvm.Cond) (oa : Addr) (oa : Addr) (ia : Int32) (ta : UInt64) (h0 : Heap) (n0 : Nat) (Z0 : n0 ≤ h0.size) (F_value_oa : Fld Z h0 oa "com/example/sortition/sortition/Element" "value" "D" (.double ta)) (F_index_oa : Fld Z h0 oa "com/example/sortition/sortition/Element" "index" "I" (.int ia)) (hn : NoNaN64 ta) (hq0 : ¬ (ia < ia)) :
    MetFree l (⟨"com/example/sortition/sortition/Element", "outranks", "(Lcom/example/sortition/sortition/Element;)Z"⟩ : MethodName) (head1 (Jvm.Cond.code (⟨"com/example/sortition/sortition/Element", "outranks", "(Lcom/example/sortition/sortition/Element;)Z"⟩ : MethodName) prog_24_method_2_code 2 (some .boolean) :: ws) ({ frames := 4, cells := 0, slots := 0, locals := 61 } : Room)) (fun a U => a = #[(.ref oa), (.ref oa)] ∧ Z.Warmed39 U.vm ∧ U.heap = h0) (fun _ _ _ _ _ => True) (fun _ U o U' => ∃ v L, o = .returned v ∧ Q_rmOR_self Z oa oa ia ta h0 n0 v U'.heap L ∧ FrameEnd U o U' L ({ frames := 4, cells := 0, slots := 0, locals := 61 } : Room).cells ({ frames := 4, cells := 0, slots := 0, locals := 61 } : Room).slots) := by
  refine MetFree.of_bodySF (plainFor_of_name pn_4) hisR ?_
  intro p e s m args below meth c s₁ Bd hml0 hP hK
  obtain ⟨rfl, hZ, hh⟩ := hP
  have hx := Bd.exec
  have hby := Bd.bytes
  have hml : c.maxLocals = 2 := hml0
  have hown : s.vm.findClass "com/example/sortition/sortition/Element" = some m.cls := findClass_of_methodNamed Bd.named
  have hnm := (name_of_methodNamed Bd.named Bd.method).1
  have X0 : Stand p l e ({ frames := 4, cells := 0, slots := 0, locals := 61 } : Room) s m #[(.ref oa), (.ref oa)] below meth c s₁ [] 0 0 := Stand.of_body Bd
  have e0 : s₁.heap = h0 := by rw [← hh, Bd.state]; rfl
  have N0 := Fr.nil n0
  have pre0 : ∀ t, Steps p.tables e below (s₁.setTop (mkF m 0 #[.val (.ref oa), .val (.ref oa)] [])) t → Steps p.tables e below (s₁.setTop (entryFrame m #[(.ref oa), (.ref oa)] 2)) t := fun t k => castTop (ef_rmOR_self m oa oa) k
  obtain ⟨_, _, ⟨T1, L1, k1, n1⟩, -, X1, ⟨Lc1, hQ1, l1, y1, z1⟩, st1⟩ := Jvm.LawKit.callS X0 hx (y := (⟨"com/example/sortition/sortition/Element", "compareRank", "(Lcom/example/sortition/sortition/Element;Lcom/example/sortition/sortition/Element;)I"⟩ : MethodName)) hown (mvT hZ (hw _ (List.mem_of_getElem? (i := 64) rfl))) (mvT hZ (hw _ (List.mem_of_getElem? (i := 65) rfl))) (mvT hZ (hw _ (List.mem_of_getElem? (i := 4) rfl))) (mvT hZ (hw _ (List.mem_of_getElem? (i := 66) rfl))) (by decide) (backOf (W := 0) (rmCR_self l Z a0 hw [] oa oa ia ta h0 n0 Z0 F_value_oa F_index_oa hn hq0) hZ (hw _ (List.mem_of_getElem? (i := 66) rfl)) (hw _ (List.mem_of_getElem? (i := 4) rfl)) (by decide) (by decide)) (g := (mkF m 2 #[.val (.ref oa), .val (.ref oa)] [(.ref oa), (.ref oa)])) rfl (by rw [hml]; rfl) (argsL := [(.ref oa), (.ref oa)]) (rest := []) (lenOf pd_9 rfl) rfl (by show 2 * 0 + _ ≤ _; exact Nat.le_of_eq rfl) (hb hby d13_2) (fun _ _ => ⟨rfl, e0, (by decide : 0 + 0 ≤ _), (by decide : 0 + 0 ≤ _)⟩)
  dsimp only [Pt.U, Pt.locs, Pt.cells, Pt.slots] at X1 l1 y1 z1 st1 hQ1
  subst l1 y1 z1
  obtain ⟨rfl, Nq1, e1⟩ := hQ1
  have N1 := Fr.app N0 Nq1
  obtain ⟨fs, hr, hrun, hended, hW, hsame⟩ := X1.leave (v := some (.int (0 : Int32))) (fun h => by rw [Bd.returns] at h; cases h)
  refine ⟨_, _, pre0 _ ?_, hrun, hended, _, _, rfl, ?_, ⟨_, rfl⟩, hW, hsame.mono (by decide) (by decide)⟩
  · show Steps p.tables e below (s₁.setTop (mkF m 0 #[.val (.ref oa), .val (.ref oa)] [])) _
    refine XS.aloadN X0.here hx rfl (hb hby d13_0) rfl rfl ?_
    show Steps p.tables e below (s₁.setTop (mkF m 1 #[.val (.ref oa), .val (.ref oa)] [(.ref oa)])) _
    refine XS.aloadN X0.here hx rfl (hb hby d13_1) rfl rfl ?_
    show Steps p.tables e below (s₁.setTop (mkF m 2 #[.val (.ref oa), .val (.ref oa)] [(.ref oa), (.ref oa)])) _
    refine st1 _ ?_
    show Steps p.tables e below (T1.setTop (mkF m 5 #[.val (.ref oa), .val (.ref oa)] [(.int (0 : Int32))])) _
    refine XS.ifYes X1.here hx rfl (pc0 := 5) (pc' := 12) rfl (hb hby d13_5) rfl ((if0 _ _).trans (flt (by decide : ¬ ((0 : Int32) < (0 : Int32)))).2.2.2) (by decide) (by decide) ?_
    show Steps p.tables e below (T1.setTop (mkF m 12 #[.val (.ref oa), .val (.ref oa)] [])) _
    refine XS.iconst X1.here hx rfl (hb hby d13_12) ?_
    show Steps p.tables e below (T1.setTop (mkF m 13 #[.val (.ref oa), .val (.ref oa)] [(.int (0 : Int32))])) _
    exact retN X1 hx (t := .boolean) Bd.returns (by simp) (hb hby d13_13) hr
  · show Q_rmOR_self Z oa oa ia ta h0 n0 _ T1.heap _
    rw [e1]
    exact ⟨rfl, N1, rfl⟩
set_option maxRecDepth 65536 in
set_option maxHeartbeats 40000000 in
theorem pAt {p : Program} {l : Launch} {e : Env} {R : Room} {s : State} {m : MethodId} {args : Array Value} {below : List Frame} {meth : Method} {c : Code} {T0 : State} {locs : List Loc} {cells slots : Nat} {Z : State} {a0 : Array Value} (ji : Int32) (jj : Int32) (ja : Int32) (jb : Int32) (jc : Int32) (jf : Int32)
    (X0 : Stand p l e R s m args below meth c T0 locs cells slots) (hx : p.tables.exec = Jvm.exec) (hZ : Z.Warmed39 s.vm) (hw : ∀ d ∈ tables_1, d.before a0 Z = true) (hby : c.code = code) (hown : s.vm.findClass "com/example/sortition/sortition/ElementOutranksPinLaw" = some m.cls) (hc10 : (jf &&& (1 : Int32)) = (0 : Int32)) :
    ∀ target, Steps p.tables e below (T0.setTop (mkF m 24 #[.val (.int ji), .val (.int jj), .val (.int ja), .val (.int jb), .val (.int jc), .val (.int jf), .val (.int (ji &&& (2147483647 : Int32))), .val (.int (jj &&& (2147483647 : Int32))), .unset, .unset, .unset, .unset, .unset, .unset, .unset, .unset] [])) target → Steps p.tables e below (T0.setTop (mkF m 0 #[.val (.int ji), .val (.int jj), .val (.int ja), .val (.int jb), .val (.int jc), .val (.int jf), .unset, .unset, .unset, .unset, .unset, .unset, .unset, .unset, .unset, .unset] [])) target := by
  intro target kt
  show Steps p.tables e below (T0.setTop (mkF m 0 #[.val (.int ji), .val (.int jj), .val (.int ja), .val (.int jb), .val (.int jc), .val (.int jf), .unset, .unset, .unset, .unset, .unset, .unset, .unset, .unset, .unset, .unset] [])) _
  refine XS.iloadN X0.here hx rfl (hb hby at_0) rfl ?_
  show Steps p.tables e below (T0.setTop (mkF m 1 #[.val (.int ji), .val (.int jj), .val (.int ja), .val (.int jb), .val (.int jc), .val (.int jf), .unset, .unset, .unset, .unset, .unset, .unset, .unset, .unset, .unset, .unset] [(.int ji)])) _
  refine X0.ldcInt hx hown (mvT hZ (hw _ (List.mem_of_getElem? (i := 0) rfl))) (g := (mkF m 1 #[.val (.int ji), .val (.int jj), .val (.int ja), .val (.int jb), .val (.int jc), .val (.int jf), .unset, .unset, .unset, .unset, .unset, .unset, .unset, .unset, .unset, .unset] [(.int ji)])) rfl (hb hby at_1) _ ?_
  show Steps p.tables e below (T0.setTop (mkF m 3 #[.val (.int ji), .val (.int jj), .val (.int ja), .val (.int jb), .val (.int jc), .val (.int jf), .unset, .unset, .unset, .unset, .unset, .unset, .unset, .unset, .unset, .unset] [(.int (2147483647 : Int32)), (.int ji)])) _
  refine XS.iand X0.here hx rfl (hb hby at_3) rfl ?_
  show Steps p.tables e below (T0.setTop (mkF m 4 #[.val (.int ji), .val (.int jj), .val (.int ja), .val (.int jb), .val (.int jc), .val (.int jf), .unset, .unset, .unset, .unset, .unset, .unset, .unset, .unset, .unset, .unset] [(.int (ji &&& (2147483647 : Int32)))])) _
  refine XS.istore X0.here hx rfl (hb hby at_4) rfl (l' := #[.val (.int ji), .val (.int jj), .val (.int ja), .val (.int jb), .val (.int jc), .val (.int jf), .val (.int (ji &&& (2147483647 : Int32))), .unset, .unset, .unset, .unset, .unset, .unset, .unset, .unset, .unset]) rfl ?_
  show Steps p.tables e below (T0.setTop (mkF m 6 #[.val (.int ji), .val (.int jj), .val (.int ja), .val (.int jb), .val (.int jc), .val (.int jf), .val (.int (ji &&& (2147483647 : Int32))), .unset, .unset, .unset, .unset, .unset, .unset, .unset, .unset, .unset] [])) _
  refine XS.iload X0.here hx rfl (hb hby at_6) rfl ?_
  show Steps p.tables e below (T0.setTop (mkF m 8 #[.val (.int ji), .val (.int jj), .val (.int ja), .val (.int jb), .val (.int jc), .val (.int jf), .val (.int (ji &&& (2147483647 : Int32))), .unset, .unset, .unset, .unset, .unset, .unset, .unset, .unset, .unset] [(.int jf)])) _
  refine XS.iconst X0.here hx rfl (hb hby at_8) ?_
  show Steps p.tables e below (T0.setTop (mkF m 9 #[.val (.int ji), .val (.int jj), .val (.int ja), .val (.int jb), .val (.int jc), .val (.int jf), .val (.int (ji &&& (2147483647 : Int32))), .unset, .unset, .unset, .unset, .unset, .unset, .unset, .unset, .unset] [(.int (1 : Int32)), (.int jf)])) _
  refine XS.iand X0.here hx rfl (hb hby at_9) rfl ?_
  show Steps p.tables e below (T0.setTop (mkF m 10 #[.val (.int ji), .val (.int jj), .val (.int ja), .val (.int jb), .val (.int jc), .val (.int jf), .val (.int (ji &&& (2147483647 : Int32))), .unset, .unset, .unset, .unset, .unset, .unset, .unset, .unset, .unset] [(.int (jf &&& (1 : Int32)))])) _
  refine XS.ifYes X0.here hx rfl (pc0 := 10) (pc' := 18) rfl (hb hby at_10) rfl ((if0 _ _).trans (teq hc10).1) (by decide) (by decide) ?_
  show Steps p.tables e below (T0.setTop (mkF m 18 #[.val (.int ji), .val (.int jj), .val (.int ja), .val (.int jb), .val (.int jc), .val (.int jf), .val (.int (ji &&& (2147483647 : Int32))), .unset, .unset, .unset, .unset, .unset, .unset, .unset, .unset, .unset] [])) _
  refine XS.iloadN X0.here hx rfl (hb hby at_18) rfl ?_
  show Steps p.tables e below (T0.setTop (mkF m 19 #[.val (.int ji), .val (.int jj), .val (.int ja), .val (.int jb), .val (.int jc), .val (.int jf), .val (.int (ji &&& (2147483647 : Int32))), .unset, .unset, .unset, .unset, .unset, .unset, .unset, .unset, .unset] [(.int jj)])) _
  refine X0.ldcInt hx hown (mvT hZ (hw _ (List.mem_of_getElem? (i := 0) rfl))) (g := (mkF m 19 #[.val (.int ji), .val (.int jj), .val (.int ja), .val (.int jb), .val (.int jc), .val (.int jf), .val (.int (ji &&& (2147483647 : Int32))), .unset, .unset, .unset, .unset, .unset, .unset, .unset, .unset, .unset] [(.int jj)])) rfl (hb hby at_19) _ ?_
  show Steps p.tables e below (T0.setTop (mkF m 21 #[.val (.int ji), .val (.int jj), .val (.int ja), .val (.int jb), .val (.int jc), .val (.int jf), .val (.int (ji &&& (2147483647 : Int32))), .unset, .unset, .unset, .unset, .unset, .unset, .unset, .unset, .unset] [(.int (2147483647 : Int32)), (.int jj)])) _
  refine XS.iand X0.here hx rfl (hb hby at_21) rfl ?_
  show Steps p.tables e below (T0.setTop (mkF m 22 #[.val (.int ji), .val (.int jj), .val (.int ja), .val (.int jb), .val (.int jc), .val (.int jf), .val (.int (ji &&& (2147483647 : Int32))), .unset, .unset, .unset, .unset, .unset, .unset, .unset, .unset, .unset] [(.int (jj &&& (2147483647 : Int32)))])) _
  refine XS.istore X0.here hx rfl (hb hby at_22) rfl (l' := #[.val (.int ji), .val (.int jj), .val (.int ja), .val (.int jb), .val (.int jc), .val (.int jf), .val (.int (ji &&& (2147483647 : Int32))), .val (.int (jj &&& (2147483647 : Int32))), .unset, .unset, .unset, .unset, .unset, .unset, .unset, .unset]) rfl ?_
  exact kt
set_option maxRecDepth 65536 in
set_option maxHeartbeats 40000000 in
theorem pAf {p : Program} {l : Launch} {e : Env} {R : Room} {s : State} {m : MethodId} {args : Array Value} {below : List Frame} {meth : Method} {c : Code} {T0 : State} {locs : List Loc} {cells slots : Nat} {Z : State} {a0 : Array Value} (ji : Int32) (jj : Int32) (ja : Int32) (jb : Int32) (jc : Int32) (jf : Int32)
    (X0 : Stand p l e R s m args below meth c T0 locs cells slots) (hx : p.tables.exec = Jvm.exec) (hZ : Z.Warmed39 s.vm) (hw : ∀ d ∈ tables_1, d.before a0 Z = true) (hby : c.code = code) (hown : s.vm.findClass "com/example/sortition/sortition/ElementOutranksPinLaw" = some m.cls) (hc10 : ¬ ((jf &&& (1 : Int32)) = (0 : Int32))) :
    ∀ target, Steps p.tables e below (T0.setTop (mkF m 24 #[.val (.int ji), .val (.int jj), .val (.int ja), .val (.int jb), .val (.int jc), .val (.int jf), .val (.int (ji &&& (2147483647 : Int32))), .val (.int (ji &&& (2147483647 : Int32))), .unset, .unset, .unset, .unset, .unset, .unset, .unset, .unset] [])) target → Steps p.tables e below (T0.setTop (mkF m 0 #[.val (.int ji), .val (.int jj), .val (.int ja), .val (.int jb), .val (.int jc), .val (.int jf), .unset, .unset, .unset, .unset, .unset, .unset, .unset, .unset, .unset, .unset] [])) target := by
  intro target kt
  show Steps p.tables e below (T0.setTop (mkF m 0 #[.val (.int ji), .val (.int jj), .val (.int ja), .val (.int jb), .val (.int jc), .val (.int jf), .unset, .unset, .unset, .unset, .unset, .unset, .unset, .unset, .unset, .unset] [])) _
  refine XS.iloadN X0.here hx rfl (hb hby at_0) rfl ?_
  show Steps p.tables e below (T0.setTop (mkF m 1 #[.val (.int ji), .val (.int jj), .val (.int ja), .val (.int jb), .val (.int jc), .val (.int jf), .unset, .unset, .unset, .unset, .unset, .unset, .unset, .unset, .unset, .unset] [(.int ji)])) _
  refine X0.ldcInt hx hown (mvT hZ (hw _ (List.mem_of_getElem? (i := 0) rfl))) (g := (mkF m 1 #[.val (.int ji), .val (.int jj), .val (.int ja), .val (.int jb), .val (.int jc), .val (.int jf), .unset, .unset, .unset, .unset, .unset, .unset, .unset, .unset, .unset, .unset] [(.int ji)])) rfl (hb hby at_1) _ ?_
  show Steps p.tables e below (T0.setTop (mkF m 3 #[.val (.int ji), .val (.int jj), .val (.int ja), .val (.int jb), .val (.int jc), .val (.int jf), .unset, .unset, .unset, .unset, .unset, .unset, .unset, .unset, .unset, .unset] [(.int (2147483647 : Int32)), (.int ji)])) _
  refine XS.iand X0.here hx rfl (hb hby at_3) rfl ?_
  show Steps p.tables e below (T0.setTop (mkF m 4 #[.val (.int ji), .val (.int jj), .val (.int ja), .val (.int jb), .val (.int jc), .val (.int jf), .unset, .unset, .unset, .unset, .unset, .unset, .unset, .unset, .unset, .unset] [(.int (ji &&& (2147483647 : Int32)))])) _
  refine XS.istore X0.here hx rfl (hb hby at_4) rfl (l' := #[.val (.int ji), .val (.int jj), .val (.int ja), .val (.int jb), .val (.int jc), .val (.int jf), .val (.int (ji &&& (2147483647 : Int32))), .unset, .unset, .unset, .unset, .unset, .unset, .unset, .unset, .unset]) rfl ?_
  show Steps p.tables e below (T0.setTop (mkF m 6 #[.val (.int ji), .val (.int jj), .val (.int ja), .val (.int jb), .val (.int jc), .val (.int jf), .val (.int (ji &&& (2147483647 : Int32))), .unset, .unset, .unset, .unset, .unset, .unset, .unset, .unset, .unset] [])) _
  refine XS.iload X0.here hx rfl (hb hby at_6) rfl ?_
  show Steps p.tables e below (T0.setTop (mkF m 8 #[.val (.int ji), .val (.int jj), .val (.int ja), .val (.int jb), .val (.int jc), .val (.int jf), .val (.int (ji &&& (2147483647 : Int32))), .unset, .unset, .unset, .unset, .unset, .unset, .unset, .unset, .unset] [(.int jf)])) _
  refine XS.iconst X0.here hx rfl (hb hby at_8) ?_
  show Steps p.tables e below (T0.setTop (mkF m 9 #[.val (.int ji), .val (.int jj), .val (.int ja), .val (.int jb), .val (.int jc), .val (.int jf), .val (.int (ji &&& (2147483647 : Int32))), .unset, .unset, .unset, .unset, .unset, .unset, .unset, .unset, .unset] [(.int (1 : Int32)), (.int jf)])) _
  refine XS.iand X0.here hx rfl (hb hby at_9) rfl ?_
  show Steps p.tables e below (T0.setTop (mkF m 10 #[.val (.int ji), .val (.int jj), .val (.int ja), .val (.int jb), .val (.int jc), .val (.int jf), .val (.int (ji &&& (2147483647 : Int32))), .unset, .unset, .unset, .unset, .unset, .unset, .unset, .unset, .unset] [(.int (jf &&& (1 : Int32)))])) _
  refine XS.ifNo X0.here hx rfl (hb hby at_10) rfl ((if0 _ _).trans (feq hc10).1) ?_
  show Steps p.tables e below (T0.setTop (mkF m 13 #[.val (.int ji), .val (.int jj), .val (.int ja), .val (.int jb), .val (.int jc), .val (.int jf), .val (.int (ji &&& (2147483647 : Int32))), .unset, .unset, .unset, .unset, .unset, .unset, .unset, .unset, .unset] [])) _
  refine XS.iload X0.here hx rfl (hb hby at_13) rfl ?_
  show Steps p.tables e below (T0.setTop (mkF m 15 #[.val (.int ji), .val (.int jj), .val (.int ja), .val (.int jb), .val (.int jc), .val (.int jf), .val (.int (ji &&& (2147483647 : Int32))), .unset, .unset, .unset, .unset, .unset, .unset, .unset, .unset, .unset] [(.int (ji &&& (2147483647 : Int32)))])) _
  refine XS.goto X0.here hx rfl (pc0 := 15) (pc' := 22) rfl (hb hby at_15) (by decide) (by decide) ?_
  show Steps p.tables e below (T0.setTop (mkF m 22 #[.val (.int ji), .val (.int jj), .val (.int ja), .val (.int jb), .val (.int jc), .val (.int jf), .val (.int (ji &&& (2147483647 : Int32))), .unset, .unset, .unset, .unset, .unset, .unset, .unset, .unset, .unset] [(.int (ji &&& (2147483647 : Int32)))])) _
  refine XS.istore X0.here hx rfl (hb hby at_22) rfl (l' := #[.val (.int ji), .val (.int jj), .val (.int ja), .val (.int jb), .val (.int jc), .val (.int jf), .val (.int (ji &&& (2147483647 : Int32))), .val (.int (ji &&& (2147483647 : Int32))), .unset, .unset, .unset, .unset, .unset, .unset, .unset, .unset]) rfl ?_
  exact kt
set_option maxRecDepth 65536 in
set_option maxHeartbeats 40000000 in
theorem pB {p : Program} {l : Launch} {e : Env} {R : Room} {s : State} {m : MethodId} {args : Array Value} {below : List Frame} {meth : Method} {c : Code} {T0 : State} {locs : List Loc} {cells slots : Nat} {Z : State} {a0 : Array Value} (ji : Int32) (jj : Int32) (ja : Int32) (jb : Int32) (jc : Int32) (jf : Int32) (ia : Int32) (ib : Int32)
    (X0 : Stand p l e R s m args below meth c T0 locs cells slots) (hx : p.tables.exec = Jvm.exec) (hZ : Z.Warmed39 s.vm) (hw : ∀ d ∈ tables_1, d.before a0 Z = true) (hby : c.code = code) (hown : s.vm.findClass "com/example/sortition/sortition/ElementOutranksPinLaw" = some m.cls) :
    ∀ target, Steps p.tables e below (T0.setTop (mkF m 46 #[.val (.int ji), .val (.int jj), .val (.int ja), .val (.int jb), .val (.int jc), .val (.int jf), .val (.int ia), .val (.int ib), .val (.double (FP.ddiv (FP.i2d (ja &&& (7 : Int32))) 4611686018427387904)), .second, .val (.double (FP.ddiv (FP.i2d (jb &&& (7 : Int32))) 4611686018427387904)), .second, .unset, .unset, .unset, .unset] [])) target → Steps p.tables e below (T0.setTop (mkF m 24 #[.val (.int ji), .val (.int jj), .val (.int ja), .val (.int jb), .val (.int jc), .val (.int jf), .val (.int ia), .val (.int ib), .unset, .unset, .unset, .unset, .unset, .unset, .unset, .unset] [])) target := by
  intro target kt
  show Steps p.tables e below (T0.setTop (mkF m 24 #[.val (.int ji), .val (.int jj), .val (.int ja), .val (.int jb), .val (.int jc), .val (.int jf), .val (.int ia), .val (.int ib), .unset, .unset, .unset, .unset, .unset, .unset, .unset, .unset] [])) _
  refine XS.iloadN X0.here hx rfl (hb hby at_24) rfl ?_
  show Steps p.tables e below (T0.setTop (mkF m 25 #[.val (.int ji), .val (.int jj), .val (.int ja), .val (.int jb), .val (.int jc), .val (.int jf), .val (.int ia), .val (.int ib), .unset, .unset, .unset, .unset, .unset, .unset, .unset, .unset] [(.int ja)])) _
  refine XS.bipush X0.here hx rfl (hb hby at_25) ?_
  show Steps p.tables e below (T0.setTop (mkF m 27 #[.val (.int ji), .val (.int jj), .val (.int ja), .val (.int jb), .val (.int jc), .val (.int jf), .val (.int ia), .val (.int ib), .unset, .unset, .unset, .unset, .unset, .unset, .unset, .unset] [(.int (7 : Int32)), (.int ja)])) _
  refine XS.iand X0.here hx rfl (hb hby at_27) rfl ?_
  show Steps p.tables e below (T0.setTop (mkF m 28 #[.val (.int ji), .val (.int jj), .val (.int ja), .val (.int jb), .val (.int jc), .val (.int jf), .val (.int ia), .val (.int ib), .unset, .unset, .unset, .unset, .unset, .unset, .unset, .unset] [(.int (ja &&& (7 : Int32)))])) _
  refine XS.i2dS X0.here hx rfl (hb hby at_28) rfl rfl ?_
  show Steps p.tables e below (T0.setTop (mkF m 29 #[.val (.int ji), .val (.int jj), .val (.int ja), .val (.int jb), .val (.int jc), .val (.int jf), .val (.int ia), .val (.int ib), .unset, .unset, .unset, .unset, .unset, .unset, .unset, .unset] [(.double (FP.i2d (ja &&& (7 : Int32))))])) _
  refine X0.ldc2DoubleC hx hown (mvT hZ (hw _ (List.mem_of_getElem? (i := 1) rfl))) (g := (mkF m 29 #[.val (.int ji), .val (.int jj), .val (.int ja), .val (.int jb), .val (.int jc), .val (.int jf), .val (.int ia), .val (.int ib), .unset, .unset, .unset, .unset, .unset, .unset, .unset, .unset] [(.double (FP.i2d (ja &&& (7 : Int32))))])) rfl (hb hby at_29) _ ?_
  show Steps p.tables e below (T0.setTop (mkF m 32 #[.val (.int ji), .val (.int jj), .val (.int ja), .val (.int jb), .val (.int jc), .val (.int jf), .val (.int ia), .val (.int ib), .unset, .unset, .unset, .unset, .unset, .unset, .unset, .unset] [(.double 4611686018427387904), (.double (FP.i2d (ja &&& (7 : Int32))))])) _
  refine XS.ddivS X0.here hx rfl (hb hby at_32) rfl (own_nn ja) rfl ?_
  show Steps p.tables e below (T0.setTop (mkF m 33 #[.val (.int ji), .val (.int jj), .val (.int ja), .val (.int jb), .val (.int jc), .val (.int jf), .val (.int ia), .val (.int ib), .unset, .unset, .unset, .unset, .unset, .unset, .unset, .unset] [(.double (FP.ddiv (FP.i2d (ja &&& (7 : Int32))) 4611686018427387904))])) _
  refine XS.dstore X0.here hx rfl (hb hby at_33) rfl (l' := #[.val (.int ji), .val (.int jj), .val (.int ja), .val (.int jb), .val (.int jc), .val (.int jf), .val (.int ia), .val (.int ib), .val (.double (FP.ddiv (FP.i2d (ja &&& (7 : Int32))) 4611686018427387904)), .second, .unset, .unset, .unset, .unset, .unset, .unset]) rfl ?_
  show Steps p.tables e below (T0.setTop (mkF m 35 #[.val (.int ji), .val (.int jj), .val (.int ja), .val (.int jb), .val (.int jc), .val (.int jf), .val (.int ia), .val (.int ib), .val (.double (FP.ddiv (FP.i2d (ja &&& (7 : Int32))) 4611686018427387904)), .second, .unset, .unset, .unset, .unset, .unset, .unset] [])) _
  refine XS.iloadN X0.here hx rfl (hb hby at_35) rfl ?_
  show Steps p.tables e below (T0.setTop (mkF m 36 #[.val (.int ji), .val (.int jj), .val (.int ja), .val (.int jb), .val (.int jc), .val (.int jf), .val (.int ia), .val (.int ib), .val (.double (FP.ddiv (FP.i2d (ja &&& (7 : Int32))) 4611686018427387904)), .second, .unset, .unset, .unset, .unset, .unset, .unset] [(.int jb)])) _
  refine XS.bipush X0.here hx rfl (hb hby at_36) ?_
  show Steps p.tables e below (T0.setTop (mkF m 38 #[.val (.int ji), .val (.int jj), .val (.int ja), .val (.int jb), .val (.int jc), .val (.int jf), .val (.int ia), .val (.int ib), .val (.double (FP.ddiv (FP.i2d (ja &&& (7 : Int32))) 4611686018427387904)), .second, .unset, .unset, .unset, .unset, .unset, .unset] [(.int (7 : Int32)), (.int jb)])) _
  refine XS.iand X0.here hx rfl (hb hby at_38) rfl ?_
  show Steps p.tables e below (T0.setTop (mkF m 39 #[.val (.int ji), .val (.int jj), .val (.int ja), .val (.int jb), .val (.int jc), .val (.int jf), .val (.int ia), .val (.int ib), .val (.double (FP.ddiv (FP.i2d (ja &&& (7 : Int32))) 4611686018427387904)), .second, .unset, .unset, .unset, .unset, .unset, .unset] [(.int (jb &&& (7 : Int32)))])) _
  refine XS.i2dS X0.here hx rfl (hb hby at_39) rfl rfl ?_
  show Steps p.tables e below (T0.setTop (mkF m 40 #[.val (.int ji), .val (.int jj), .val (.int ja), .val (.int jb), .val (.int jc), .val (.int jf), .val (.int ia), .val (.int ib), .val (.double (FP.ddiv (FP.i2d (ja &&& (7 : Int32))) 4611686018427387904)), .second, .unset, .unset, .unset, .unset, .unset, .unset] [(.double (FP.i2d (jb &&& (7 : Int32))))])) _
  refine X0.ldc2DoubleC hx hown (mvT hZ (hw _ (List.mem_of_getElem? (i := 1) rfl))) (g := (mkF m 40 #[.val (.int ji), .val (.int jj), .val (.int ja), .val (.int jb), .val (.int jc), .val (.int jf), .val (.int ia), .val (.int ib), .val (.double (FP.ddiv (FP.i2d (ja &&& (7 : Int32))) 4611686018427387904)), .second, .unset, .unset, .unset, .unset, .unset, .unset] [(.double (FP.i2d (jb &&& (7 : Int32))))])) rfl (hb hby at_40) _ ?_
  show Steps p.tables e below (T0.setTop (mkF m 43 #[.val (.int ji), .val (.int jj), .val (.int ja), .val (.int jb), .val (.int jc), .val (.int jf), .val (.int ia), .val (.int ib), .val (.double (FP.ddiv (FP.i2d (ja &&& (7 : Int32))) 4611686018427387904)), .second, .unset, .unset, .unset, .unset, .unset, .unset] [(.double 4611686018427387904), (.double (FP.i2d (jb &&& (7 : Int32))))])) _
  refine XS.ddivS X0.here hx rfl (hb hby at_43) rfl (own_nn jb) rfl ?_
  show Steps p.tables e below (T0.setTop (mkF m 44 #[.val (.int ji), .val (.int jj), .val (.int ja), .val (.int jb), .val (.int jc), .val (.int jf), .val (.int ia), .val (.int ib), .val (.double (FP.ddiv (FP.i2d (ja &&& (7 : Int32))) 4611686018427387904)), .second, .unset, .unset, .unset, .unset, .unset, .unset] [(.double (FP.ddiv (FP.i2d (jb &&& (7 : Int32))) 4611686018427387904))])) _
  refine XS.dstore X0.here hx rfl (hb hby at_44) rfl (l' := #[.val (.int ji), .val (.int jj), .val (.int ja), .val (.int jb), .val (.int jc), .val (.int jf), .val (.int ia), .val (.int ib), .val (.double (FP.ddiv (FP.i2d (ja &&& (7 : Int32))) 4611686018427387904)), .second, .val (.double (FP.ddiv (FP.i2d (jb &&& (7 : Int32))) 4611686018427387904)), .second, .unset, .unset, .unset, .unset]) rfl ?_
  exact kt
set_option maxRecDepth 65536 in
set_option maxHeartbeats 40000000 in
theorem pCt {p : Program} {l : Launch} {e : Env} {R : Room} {s : State} {m : MethodId} {args : Array Value} {below : List Frame} {meth : Method} {c : Code} {T0 : State} {locs : List Loc} {cells slots : Nat} {Z : State} {a0 : Array Value} (ji : Int32) (jj : Int32) (ja : Int32) (jb : Int32) (jc : Int32) (jf : Int32) (ia : Int32) (ib : Int32) (va : UInt64) (vb : UInt64)
    (X0 : Stand p l e R s m args below meth c T0 locs cells slots) (hx : p.tables.exec = Jvm.exec) (hZ : Z.Warmed39 s.vm) (hw : ∀ d ∈ tables_1, d.before a0 Z = true) (hby : c.code = code) (hown : s.vm.findClass "com/example/sortition/sortition/ElementOutranksPinLaw" = some m.cls) (hc50 : (jf &&& (2 : Int32)) = (0 : Int32)) :
    ∀ target, Steps p.tables e below (T0.setTop (mkF m 65 #[.val (.int ji), .val (.int jj), .val (.int ja), .val (.int jb), .val (.int jc), .val (.int jf), .val (.int ia), .val (.int ib), .val (.double va), .second, .val (.double vb), .second, .unset, .unset, .unset, .unset] [])) target → Steps p.tables e below (T0.setTop (mkF m 46 #[.val (.int ji), .val (.int jj), .val (.int ja), .val (.int jb), .val (.int jc), .val (.int jf), .val (.int ia), .val (.int ib), .val (.double va), .second, .val (.double vb), .second, .unset, .unset, .unset, .unset] [])) target := by
  intro target kt
  show Steps p.tables e below (T0.setTop (mkF m 46 #[.val (.int ji), .val (.int jj), .val (.int ja), .val (.int jb), .val (.int jc), .val (.int jf), .val (.int ia), .val (.int ib), .val (.double va), .second, .val (.double vb), .second, .unset, .unset, .unset, .unset] [])) _
  refine XS.iload X0.here hx rfl (hb hby at_46) rfl ?_
  show Steps p.tables e below (T0.setTop (mkF m 48 #[.val (.int ji), .val (.int jj), .val (.int ja), .val (.int jb), .val (.int jc), .val (.int jf), .val (.int ia), .val (.int ib), .val (.double va), .second, .val (.double vb), .second, .unset, .unset, .unset, .unset] [(.int jf)])) _
  refine XS.iconst X0.here hx rfl (hb hby at_48) ?_
  show Steps p.tables e below (T0.setTop (mkF m 49 #[.val (.int ji), .val (.int jj), .val (.int ja), .val (.int jb), .val (.int jc), .val (.int jf), .val (.int ia), .val (.int ib), .val (.double va), .second, .val (.double vb), .second, .unset, .unset, .unset, .unset] [(.int (2 : Int32)), (.int jf)])) _
  refine XS.iand X0.here hx rfl (hb hby at_49) rfl ?_
  show Steps p.tables e below (T0.setTop (mkF m 50 #[.val (.int ji), .val (.int jj), .val (.int ja), .val (.int jb), .val (.int jc), .val (.int jf), .val (.int ia), .val (.int ib), .val (.double va), .second, .val (.double vb), .second, .unset, .unset, .unset, .unset] [(.int (jf &&& (2 : Int32)))])) _
  refine XS.ifYes X0.here hx rfl (pc0 := 50) (pc' := 65) rfl (hb hby at_50) rfl ((if0 _ _).trans (teq hc50).1) (by decide) (by decide) ?_
  exact kt
set_option maxRecDepth 65536 in
set_option maxHeartbeats 40000000 in
theorem pCft {p : Program} {l : Launch} {e : Env} {R : Room} {s : State} {m : MethodId} {args : Array Value} {below : List Frame} {meth : Method} {c : Code} {T0 : State} {locs : List Loc} {cells slots : Nat} {Z : State} {a0 : Array Value} (ji : Int32) (jj : Int32) (ja : Int32) (jb : Int32) (jc : Int32) (jf : Int32) (ia : Int32) (ib : Int32) (va : UInt64) (vb : UInt64)
    (X0 : Stand p l e R s m args below meth c T0 locs cells slots) (hx : p.tables.exec = Jvm.exec) (hZ : Z.Warmed39 s.vm) (hw : ∀ d ∈ tables_1, d.before a0 Z = true) (hby : c.code = code) (hown : s.vm.findClass "com/example/sortition/sortition/ElementOutranksPinLaw" = some m.cls) (hc50 : ¬ ((jf &&& (2 : Int32)) = (0 : Int32))) (hc57 : ¬ ((cmpValue (FP.dcmp va 0) .l) = (0 : Int32))) :
    ∀ target, Steps p.tables e below (T0.setTop (mkF m 65 #[.val (.int ji), .val (.int jj), .val (.int ja), .val (.int jb), .val (.int jc), .val (.int jf), .val (.int ia), .val (.int ib), .val (.double va), .second, .val (.double vb), .second, .unset, .unset, .unset, .unset] [])) target → Steps p.tables e below (T0.setTop (mkF m 46 #[.val (.int ji), .val (.int jj), .val (.int ja), .val (.int jb), .val (.int jc), .val (.int jf), .val (.int ia), .val (.int ib), .val (.double va), .second, .val (.double vb), .second, .unset, .unset, .unset, .unset] [])) target := by
  intro target kt
  show Steps p.tables e below (T0.setTop (mkF m 46 #[.val (.int ji), .val (.int jj), .val (.int ja), .val (.int jb), .val (.int jc), .val (.int jf), .val (.int ia), .val (.int ib), .val (.double va), .second, .val (.double vb), .second, .unset, .unset, .unset, .unset] [])) _
  refine XS.iload X0.here hx rfl (hb hby at_46) rfl ?_
  show Steps p.tables e below (T0.setTop (mkF m 48 #[.val (.int ji), .val (.int jj), .val (.int ja), .val (.int jb), .val (.int jc), .val (.int jf), .val (.int ia), .val (.int ib), .val (.double va), .second, .val (.double vb), .second, .unset, .unset, .unset, .unset] [(.int jf)])) _
  refine XS.iconst X0.here hx rfl (hb hby at_48) ?_
  show Steps p.tables e below (T0.setTop (mkF m 49 #[.val (.int ji), .val (.int jj), .val (.int ja), .val (.int jb), .val (.int jc), .val (.int jf), .val (.int ia), .val (.int ib), .val (.double va), .second, .val (.double vb), .second, .unset, .unset, .unset, .unset] [(.int (2 : Int32)), (.int jf)])) _
  refine XS.iand X0.here hx rfl (hb hby at_49) rfl ?_
  show Steps p.tables e below (T0.setTop (mkF m 50 #[.val (.int ji), .val (.int jj), .val (.int ja), .val (.int jb), .val (.int jc), .val (.int jf), .val (.int ia), .val (.int ib), .val (.double va), .second, .val (.double vb), .second, .unset, .unset, .unset, .unset] [(.int (jf &&& (2 : Int32)))])) _
  refine XS.ifNo X0.here hx rfl (hb hby at_50) rfl ((if0 _ _).trans (feq hc50).1) ?_
  show Steps p.tables e below (T0.setTop (mkF m 53 #[.val (.int ji), .val (.int jj), .val (.int ja), .val (.int jb), .val (.int jc), .val (.int jf), .val (.int ia), .val (.int ib), .val (.double va), .second, .val (.double vb), .second, .unset, .unset, .unset, .unset] [])) _
  refine XS.dload X0.here hx rfl (hb hby at_53) rfl ?_
  show Steps p.tables e below (T0.setTop (mkF m 55 #[.val (.int ji), .val (.int jj), .val (.int ja), .val (.int jb), .val (.int jc), .val (.int jf), .val (.int ia), .val (.int ib), .val (.double va), .second, .val (.double vb), .second, .unset, .unset, .unset, .unset] [(.double va)])) _
  refine XS.dconst0 X0.here hx rfl (hb hby at_55) (v := 0) rfl ?_
  show Steps p.tables e below (T0.setTop (mkF m 56 #[.val (.int ji), .val (.int jj), .val (.int ja), .val (.int jb), .val (.int jc), .val (.int jf), .val (.int ia), .val (.int ib), .val (.double va), .second, .val (.double vb), .second, .unset, .unset, .unset, .unset] [(.double 0), (.double va)])) _
  refine XS.dcmpS X0.here hx rfl (hb hby at_56) rfl rfl ?_
  show Steps p.tables e below (T0.setTop (mkF m 57 #[.val (.int ji), .val (.int jj), .val (.int ja), .val (.int jb), .val (.int jc), .val (.int jf), .val (.int ia), .val (.int ib), .val (.double va), .second, .val (.double vb), .second, .unset, .unset, .unset, .unset] [(.int (cmpValue (FP.dcmp va 0) .l))])) _
  refine XS.ifYes X0.here hx rfl (pc0 := 57) (pc' := 65) rfl (hb hby at_57) rfl ((if0 _ _).trans (feq hc57).2) (by decide) (by decide) ?_
  exact kt
set_option maxRecDepth 65536 in
set_option maxHeartbeats 40000000 in
theorem pCff {p : Program} {l : Launch} {e : Env} {R : Room} {s : State} {m : MethodId} {args : Array Value} {below : List Frame} {meth : Method} {c : Code} {T0 : State} {locs : List Loc} {cells slots : Nat} {Z : State} {a0 : Array Value} (ji : Int32) (jj : Int32) (ja : Int32) (jb : Int32) (jc : Int32) (jf : Int32) (ia : Int32) (ib : Int32) (va : UInt64) (vb : UInt64)
    (X0 : Stand p l e R s m args below meth c T0 locs cells slots) (hx : p.tables.exec = Jvm.exec) (hZ : Z.Warmed39 s.vm) (hw : ∀ d ∈ tables_1, d.before a0 Z = true) (hby : c.code = code) (hown : s.vm.findClass "com/example/sortition/sortition/ElementOutranksPinLaw" = some m.cls) (hc50 : ¬ ((jf &&& (2 : Int32)) = (0 : Int32))) (hc57 : (cmpValue (FP.dcmp va 0) .l) = (0 : Int32)) :
    ∀ target, Steps p.tables e below (T0.setTop (mkF m 65 #[.val (.int ji), .val (.int jj), .val (.int ja), .val (.int jb), .val (.int jc), .val (.int jf), .val (.int ia), .val (.int ib), .val (.double (FP.dneg va)), .second, .val (.double vb), .second, .unset, .unset, .unset, .unset] [])) target → Steps p.tables e below (T0.setTop (mkF m 46 #[.val (.int ji), .val (.int jj), .val (.int ja), .val (.int jb), .val (.int jc), .val (.int jf), .val (.int ia), .val (.int ib), .val (.double va), .second, .val (.double vb), .second, .unset, .unset, .unset, .unset] [])) target := by
  intro target kt
  show Steps p.tables e below (T0.setTop (mkF m 46 #[.val (.int ji), .val (.int jj), .val (.int ja), .val (.int jb), .val (.int jc), .val (.int jf), .val (.int ia), .val (.int ib), .val (.double va), .second, .val (.double vb), .second, .unset, .unset, .unset, .unset] [])) _
  refine XS.iload X0.here hx rfl (hb hby at_46) rfl ?_
  show Steps p.tables e below (T0.setTop (mkF m 48 #[.val (.int ji), .val (.int jj), .val (.int ja), .val (.int jb), .val (.int jc), .val (.int jf), .val (.int ia), .val (.int ib), .val (.double va), .second, .val (.double vb), .second, .unset, .unset, .unset, .unset] [(.int jf)])) _
  refine XS.iconst X0.here hx rfl (hb hby at_48) ?_
  show Steps p.tables e below (T0.setTop (mkF m 49 #[.val (.int ji), .val (.int jj), .val (.int ja), .val (.int jb), .val (.int jc), .val (.int jf), .val (.int ia), .val (.int ib), .val (.double va), .second, .val (.double vb), .second, .unset, .unset, .unset, .unset] [(.int (2 : Int32)), (.int jf)])) _
  refine XS.iand X0.here hx rfl (hb hby at_49) rfl ?_
  show Steps p.tables e below (T0.setTop (mkF m 50 #[.val (.int ji), .val (.int jj), .val (.int ja), .val (.int jb), .val (.int jc), .val (.int jf), .val (.int ia), .val (.int ib), .val (.double va), .second, .val (.double vb), .second, .unset, .unset, .unset, .unset] [(.int (jf &&& (2 : Int32)))])) _
  refine XS.ifNo X0.here hx rfl (hb hby at_50) rfl ((if0 _ _).trans (feq hc50).1) ?_
  show Steps p.tables e below (T0.setTop (mkF m 53 #[.val (.int ji), .val (.int jj), .val (.int ja), .val (.int jb), .val (.int jc), .val (.int jf), .val (.int ia), .val (.int ib), .val (.double va), .second, .val (.double vb), .second, .unset, .unset, .unset, .unset] [])) _
  refine XS.dload X0.here hx rfl (hb hby at_53) rfl ?_
  show Steps p.tables e below (T0.setTop (mkF m 55 #[.val (.int ji), .val (.int jj), .val (.int ja), .val (.int jb), .val (.int jc), .val (.int jf), .val (.int ia), .val (.int ib), .val (.double va), .second, .val (.double vb), .second, .unset, .unset, .unset, .unset] [(.double va)])) _
  refine XS.dconst0 X0.here hx rfl (hb hby at_55) (v := 0) rfl ?_
  show Steps p.tables e below (T0.setTop (mkF m 56 #[.val (.int ji), .val (.int jj), .val (.int ja), .val (.int jb), .val (.int jc), .val (.int jf), .val (.int ia), .val (.int ib), .val (.double va), .second, .val (.double vb), .second, .unset, .unset, .unset, .unset] [(.double 0), (.double va)])) _
  refine XS.dcmpS X0.here hx rfl (hb hby at_56) rfl rfl ?_
  show Steps p.tables e below (T0.setTop (mkF m 57 #[.val (.int ji), .val (.int jj), .val (.int ja), .val (.int jb), .val (.int jc), .val (.int jf), .val (.int ia), .val (.int ib), .val (.double va), .second, .val (.double vb), .second, .unset, .unset, .unset, .unset] [(.int (cmpValue (FP.dcmp va 0) .l))])) _
  refine XS.ifNo X0.here hx rfl (hb hby at_57) rfl ((if0 _ _).trans (teq hc57).2) ?_
  show Steps p.tables e below (T0.setTop (mkF m 60 #[.val (.int ji), .val (.int jj), .val (.int ja), .val (.int jb), .val (.int jc), .val (.int jf), .val (.int ia), .val (.int ib), .val (.double va), .second, .val (.double vb), .second, .unset, .unset, .unset, .unset] [])) _
  refine XS.dload X0.here hx rfl (hb hby at_60) rfl ?_
  show Steps p.tables e below (T0.setTop (mkF m 62 #[.val (.int ji), .val (.int jj), .val (.int ja), .val (.int jb), .val (.int jc), .val (.int jf), .val (.int ia), .val (.int ib), .val (.double va), .second, .val (.double vb), .second, .unset, .unset, .unset, .unset] [(.double va)])) _
  refine XS.dnegS X0.here hx rfl (hb hby at_62) rfl rfl ?_
  show Steps p.tables e below (T0.setTop (mkF m 63 #[.val (.int ji), .val (.int jj), .val (.int ja), .val (.int jb), .val (.int jc), .val (.int jf), .val (.int ia), .val (.int ib), .val (.double va), .second, .val (.double vb), .second, .unset, .unset, .unset, .unset] [(.double (FP.dneg va))])) _
  refine XS.dstore X0.here hx rfl (hb hby at_63) rfl (l' := #[.val (.int ji), .val (.int jj), .val (.int ja), .val (.int jb), .val (.int jc), .val (.int jf), .val (.int ia), .val (.int ib), .val (.double (FP.dneg va)), .second, .val (.double vb), .second, .unset, .unset, .unset, .unset]) rfl ?_
  exact kt
set_option maxRecDepth 65536 in
set_option maxHeartbeats 40000000 in
theorem pDt {p : Program} {l : Launch} {e : Env} {R : Room} {s : State} {m : MethodId} {args : Array Value} {below : List Frame} {meth : Method} {c : Code} {T0 : State} {locs : List Loc} {cells slots : Nat} {Z : State} {a0 : Array Value} (ji : Int32) (jj : Int32) (ja : Int32) (jb : Int32) (jc : Int32) (jf : Int32) (ia : Int32) (ib : Int32) (va : UInt64) (vb : UInt64)
    (X0 : Stand p l e R s m args below meth c T0 locs cells slots) (hx : p.tables.exec = Jvm.exec) (hZ : Z.Warmed39 s.vm) (hw : ∀ d ∈ tables_1, d.before a0 Z = true) (hby : c.code = code) (hown : s.vm.findClass "com/example/sortition/sortition/ElementOutranksPinLaw" = some m.cls) (hc69 : (jf &&& (4 : Int32)) = (0 : Int32)) :
    ∀ target, Steps p.tables e below (T0.setTop (mkF m 84 #[.val (.int ji), .val (.int jj), .val (.int ja), .val (.int jb), .val (.int jc), .val (.int jf), .val (.int ia), .val (.int ib), .val (.double va), .second, .val (.double vb), .second, .unset, .unset, .unset, .unset] [])) target → Steps p.tables e below (T0.setTop (mkF m 65 #[.val (.int ji), .val (.int jj), .val (.int ja), .val (.int jb), .val (.int jc), .val (.int jf), .val (.int ia), .val (.int ib), .val (.double va), .second, .val (.double vb), .second, .unset, .unset, .unset, .unset] [])) target := by
  intro target kt
  show Steps p.tables e below (T0.setTop (mkF m 65 #[.val (.int ji), .val (.int jj), .val (.int ja), .val (.int jb), .val (.int jc), .val (.int jf), .val (.int ia), .val (.int ib), .val (.double va), .second, .val (.double vb), .second, .unset, .unset, .unset, .unset] [])) _
  refine XS.iload X0.here hx rfl (hb hby at_65) rfl ?_
  show Steps p.tables e below (T0.setTop (mkF m 67 #[.val (.int ji), .val (.int jj), .val (.int ja), .val (.int jb), .val (.int jc), .val (.int jf), .val (.int ia), .val (.int ib), .val (.double va), .second, .val (.double vb), .second, .unset, .unset, .unset, .unset] [(.int jf)])) _
  refine XS.iconst X0.here hx rfl (hb hby at_67) ?_
  show Steps p.tables e below (T0.setTop (mkF m 68 #[.val (.int ji), .val (.int jj), .val (.int ja), .val (.int jb), .val (.int jc), .val (.int jf), .val (.int ia), .val (.int ib), .val (.double va), .second, .val (.double vb), .second, .unset, .unset, .unset, .unset] [(.int (4 : Int32)), (.int jf)])) _
  refine XS.iand X0.here hx rfl (hb hby at_68) rfl ?_
  show Steps p.tables e below (T0.setTop (mkF m 69 #[.val (.int ji), .val (.int jj), .val (.int ja), .val (.int jb), .val (.int jc), .val (.int jf), .val (.int ia), .val (.int ib), .val (.double va), .second, .val (.double vb), .second, .unset, .unset, .unset, .unset] [(.int (jf &&& (4 : Int32)))])) _
  refine XS.ifYes X0.here hx rfl (pc0 := 69) (pc' := 84) rfl (hb hby at_69) rfl ((if0 _ _).trans (teq hc69).1) (by decide) (by decide) ?_
  exact kt
set_option maxRecDepth 65536 in
set_option maxHeartbeats 40000000 in
theorem pDft {p : Program} {l : Launch} {e : Env} {R : Room} {s : State} {m : MethodId} {args : Array Value} {below : List Frame} {meth : Method} {c : Code} {T0 : State} {locs : List Loc} {cells slots : Nat} {Z : State} {a0 : Array Value} (ji : Int32) (jj : Int32) (ja : Int32) (jb : Int32) (jc : Int32) (jf : Int32) (ia : Int32) (ib : Int32) (va : UInt64) (vb : UInt64)
    (X0 : Stand p l e R s m args below meth c T0 locs cells slots) (hx : p.tables.exec = Jvm.exec) (hZ : Z.Warmed39 s.vm) (hw : ∀ d ∈ tables_1, d.before a0 Z = true) (hby : c.code = code) (hown : s.vm.findClass "com/example/sortition/sortition/ElementOutranksPinLaw" = some m.cls) (hc69 : ¬ ((jf &&& (4 : Int32)) = (0 : Int32))) (hc76 : ¬ ((cmpValue (FP.dcmp vb 0) .l) = (0 : Int32))) :
    ∀ target, Steps p.tables e below (T0.setTop (mkF m 84 #[.val (.int ji), .val (.int jj), .val (.int ja), .val (.int jb), .val (.int jc), .val (.int jf), .val (.int ia), .val (.int ib), .val (.double va), .second, .val (.double vb), .second, .unset, .unset, .unset, .unset] [])) target → Steps p.tables e below (T0.setTop (mkF m 65 #[.val (.int ji), .val (.int jj), .val (.int ja), .val (.int jb), .val (.int jc), .val (.int jf), .val (.int ia), .val (.int ib), .val (.double va), .second, .val (.double vb), .second, .unset, .unset, .unset, .unset] [])) target := by
  intro target kt
  show Steps p.tables e below (T0.setTop (mkF m 65 #[.val (.int ji), .val (.int jj), .val (.int ja), .val (.int jb), .val (.int jc), .val (.int jf), .val (.int ia), .val (.int ib), .val (.double va), .second, .val (.double vb), .second, .unset, .unset, .unset, .unset] [])) _
  refine XS.iload X0.here hx rfl (hb hby at_65) rfl ?_
  show Steps p.tables e below (T0.setTop (mkF m 67 #[.val (.int ji), .val (.int jj), .val (.int ja), .val (.int jb), .val (.int jc), .val (.int jf), .val (.int ia), .val (.int ib), .val (.double va), .second, .val (.double vb), .second, .unset, .unset, .unset, .unset] [(.int jf)])) _
  refine XS.iconst X0.here hx rfl (hb hby at_67) ?_
  show Steps p.tables e below (T0.setTop (mkF m 68 #[.val (.int ji), .val (.int jj), .val (.int ja), .val (.int jb), .val (.int jc), .val (.int jf), .val (.int ia), .val (.int ib), .val (.double va), .second, .val (.double vb), .second, .unset, .unset, .unset, .unset] [(.int (4 : Int32)), (.int jf)])) _
  refine XS.iand X0.here hx rfl (hb hby at_68) rfl ?_
  show Steps p.tables e below (T0.setTop (mkF m 69 #[.val (.int ji), .val (.int jj), .val (.int ja), .val (.int jb), .val (.int jc), .val (.int jf), .val (.int ia), .val (.int ib), .val (.double va), .second, .val (.double vb), .second, .unset, .unset, .unset, .unset] [(.int (jf &&& (4 : Int32)))])) _
  refine XS.ifNo X0.here hx rfl (hb hby at_69) rfl ((if0 _ _).trans (feq hc69).1) ?_
  show Steps p.tables e below (T0.setTop (mkF m 72 #[.val (.int ji), .val (.int jj), .val (.int ja), .val (.int jb), .val (.int jc), .val (.int jf), .val (.int ia), .val (.int ib), .val (.double va), .second, .val (.double vb), .second, .unset, .unset, .unset, .unset] [])) _
  refine XS.dload X0.here hx rfl (hb hby at_72) rfl ?_
  show Steps p.tables e below (T0.setTop (mkF m 74 #[.val (.int ji), .val (.int jj), .val (.int ja), .val (.int jb), .val (.int jc), .val (.int jf), .val (.int ia), .val (.int ib), .val (.double va), .second, .val (.double vb), .second, .unset, .unset, .unset, .unset] [(.double vb)])) _
  refine XS.dconst0 X0.here hx rfl (hb hby at_74) (v := 0) rfl ?_
  show Steps p.tables e below (T0.setTop (mkF m 75 #[.val (.int ji), .val (.int jj), .val (.int ja), .val (.int jb), .val (.int jc), .val (.int jf), .val (.int ia), .val (.int ib), .val (.double va), .second, .val (.double vb), .second, .unset, .unset, .unset, .unset] [(.double 0), (.double vb)])) _
  refine XS.dcmpS X0.here hx rfl (hb hby at_75) rfl rfl ?_
  show Steps p.tables e below (T0.setTop (mkF m 76 #[.val (.int ji), .val (.int jj), .val (.int ja), .val (.int jb), .val (.int jc), .val (.int jf), .val (.int ia), .val (.int ib), .val (.double va), .second, .val (.double vb), .second, .unset, .unset, .unset, .unset] [(.int (cmpValue (FP.dcmp vb 0) .l))])) _
  refine XS.ifYes X0.here hx rfl (pc0 := 76) (pc' := 84) rfl (hb hby at_76) rfl ((if0 _ _).trans (feq hc76).2) (by decide) (by decide) ?_
  exact kt
set_option maxRecDepth 65536 in
set_option maxHeartbeats 40000000 in
theorem pDff {p : Program} {l : Launch} {e : Env} {R : Room} {s : State} {m : MethodId} {args : Array Value} {below : List Frame} {meth : Method} {c : Code} {T0 : State} {locs : List Loc} {cells slots : Nat} {Z : State} {a0 : Array Value} (ji : Int32) (jj : Int32) (ja : Int32) (jb : Int32) (jc : Int32) (jf : Int32) (ia : Int32) (ib : Int32) (va : UInt64) (vb : UInt64)
    (X0 : Stand p l e R s m args below meth c T0 locs cells slots) (hx : p.tables.exec = Jvm.exec) (hZ : Z.Warmed39 s.vm) (hw : ∀ d ∈ tables_1, d.before a0 Z = true) (hby : c.code = code) (hown : s.vm.findClass "com/example/sortition/sortition/ElementOutranksPinLaw" = some m.cls) (hc69 : ¬ ((jf &&& (4 : Int32)) = (0 : Int32))) (hc76 : (cmpValue (FP.dcmp vb 0) .l) = (0 : Int32)) :
    ∀ target, Steps p.tables e below (T0.setTop (mkF m 84 #[.val (.int ji), .val (.int jj), .val (.int ja), .val (.int jb), .val (.int jc), .val (.int jf), .val (.int ia), .val (.int ib), .val (.double va), .second, .val (.double (FP.dneg vb)), .second, .unset, .unset, .unset, .unset] [])) target → Steps p.tables e below (T0.setTop (mkF m 65 #[.val (.int ji), .val (.int jj), .val (.int ja), .val (.int jb), .val (.int jc), .val (.int jf), .val (.int ia), .val (.int ib), .val (.double va), .second, .val (.double vb), .second, .unset, .unset, .unset, .unset] [])) target := by
  intro target kt
  show Steps p.tables e below (T0.setTop (mkF m 65 #[.val (.int ji), .val (.int jj), .val (.int ja), .val (.int jb), .val (.int jc), .val (.int jf), .val (.int ia), .val (.int ib), .val (.double va), .second, .val (.double vb), .second, .unset, .unset, .unset, .unset] [])) _
  refine XS.iload X0.here hx rfl (hb hby at_65) rfl ?_
  show Steps p.tables e below (T0.setTop (mkF m 67 #[.val (.int ji), .val (.int jj), .val (.int ja), .val (.int jb), .val (.int jc), .val (.int jf), .val (.int ia), .val (.int ib), .val (.double va), .second, .val (.double vb), .second, .unset, .unset, .unset, .unset] [(.int jf)])) _
  refine XS.iconst X0.here hx rfl (hb hby at_67) ?_
  show Steps p.tables e below (T0.setTop (mkF m 68 #[.val (.int ji), .val (.int jj), .val (.int ja), .val (.int jb), .val (.int jc), .val (.int jf), .val (.int ia), .val (.int ib), .val (.double va), .second, .val (.double vb), .second, .unset, .unset, .unset, .unset] [(.int (4 : Int32)), (.int jf)])) _
  refine XS.iand X0.here hx rfl (hb hby at_68) rfl ?_
  show Steps p.tables e below (T0.setTop (mkF m 69 #[.val (.int ji), .val (.int jj), .val (.int ja), .val (.int jb), .val (.int jc), .val (.int jf), .val (.int ia), .val (.int ib), .val (.double va), .second, .val (.double vb), .second, .unset, .unset, .unset, .unset] [(.int (jf &&& (4 : Int32)))])) _
  refine XS.ifNo X0.here hx rfl (hb hby at_69) rfl ((if0 _ _).trans (feq hc69).1) ?_
  show Steps p.tables e below (T0.setTop (mkF m 72 #[.val (.int ji), .val (.int jj), .val (.int ja), .val (.int jb), .val (.int jc), .val (.int jf), .val (.int ia), .val (.int ib), .val (.double va), .second, .val (.double vb), .second, .unset, .unset, .unset, .unset] [])) _
  refine XS.dload X0.here hx rfl (hb hby at_72) rfl ?_
  show Steps p.tables e below (T0.setTop (mkF m 74 #[.val (.int ji), .val (.int jj), .val (.int ja), .val (.int jb), .val (.int jc), .val (.int jf), .val (.int ia), .val (.int ib), .val (.double va), .second, .val (.double vb), .second, .unset, .unset, .unset, .unset] [(.double vb)])) _
  refine XS.dconst0 X0.here hx rfl (hb hby at_74) (v := 0) rfl ?_
  show Steps p.tables e below (T0.setTop (mkF m 75 #[.val (.int ji), .val (.int jj), .val (.int ja), .val (.int jb), .val (.int jc), .val (.int jf), .val (.int ia), .val (.int ib), .val (.double va), .second, .val (.double vb), .second, .unset, .unset, .unset, .unset] [(.double 0), (.double vb)])) _
  refine XS.dcmpS X0.here hx rfl (hb hby at_75) rfl rfl ?_
  show Steps p.tables e below (T0.setTop (mkF m 76 #[.val (.int ji), .val (.int jj), .val (.int ja), .val (.int jb), .val (.int jc), .val (.int jf), .val (.int ia), .val (.int ib), .val (.double va), .second, .val (.double vb), .second, .unset, .unset, .unset, .unset] [(.int (cmpValue (FP.dcmp vb 0) .l))])) _
  refine XS.ifNo X0.here hx rfl (hb hby at_76) rfl ((if0 _ _).trans (teq hc76).2) ?_
  show Steps p.tables e below (T0.setTop (mkF m 79 #[.val (.int ji), .val (.int jj), .val (.int ja), .val (.int jb), .val (.int jc), .val (.int jf), .val (.int ia), .val (.int ib), .val (.double va), .second, .val (.double vb), .second, .unset, .unset, .unset, .unset] [])) _
  refine XS.dload X0.here hx rfl (hb hby at_79) rfl ?_
  show Steps p.tables e below (T0.setTop (mkF m 81 #[.val (.int ji), .val (.int jj), .val (.int ja), .val (.int jb), .val (.int jc), .val (.int jf), .val (.int ia), .val (.int ib), .val (.double va), .second, .val (.double vb), .second, .unset, .unset, .unset, .unset] [(.double vb)])) _
  refine XS.dnegS X0.here hx rfl (hb hby at_81) rfl rfl ?_
  show Steps p.tables e below (T0.setTop (mkF m 82 #[.val (.int ji), .val (.int jj), .val (.int ja), .val (.int jb), .val (.int jc), .val (.int jf), .val (.int ia), .val (.int ib), .val (.double va), .second, .val (.double vb), .second, .unset, .unset, .unset, .unset] [(.double (FP.dneg vb))])) _
  refine XS.dstore X0.here hx rfl (hb hby at_82) rfl (l' := #[.val (.int ji), .val (.int jj), .val (.int ja), .val (.int jb), .val (.int jc), .val (.int jf), .val (.int ia), .val (.int ib), .val (.double va), .second, .val (.double (FP.dneg vb)), .second, .unset, .unset, .unset, .unset]) rfl ?_
  exact kt
def own_ib (ji jj jf : Int32) : Int32 := if (jf &&& (1 : Int32)) = (0 : Int32) then (jj &&& (2147483647 : Int32)) else (ji &&& (2147483647 : Int32))
def own_h (a : Int32) : UInt64 := FP.ddiv (FP.i2d (a &&& (7 : Int32))) 4611686018427387904
def own_v (a f b : Int32) : UInt64 := if (f &&& b) = (0 : Int32) then own_h a else if (cmpValue (FP.dcmp (own_h a) 0) .l) = (0 : Int32) then FP.dneg (own_h a) else own_h a
theorem own_v0 {a f b : Int32} (h1 : (f &&& b) = (0 : Int32)) : own_v a f b = own_h a := if_pos h1
theorem own_v1 {a f b : Int32} (h1 : ¬ (f &&& b) = (0 : Int32)) (h2 : (cmpValue (FP.dcmp (own_h a) 0) .l) = (0 : Int32)) : own_v a f b = FP.dneg (own_h a) := (if_neg h1).trans (if_pos h2)
theorem own_v2 {a f b : Int32} (h1 : ¬ (f &&& b) = (0 : Int32)) (h2 : ¬ (cmpValue (FP.dcmp (own_h a) 0) .l) = (0 : Int32)) : own_v a f b = own_h a := (if_neg h1).trans (if_neg h2)
theorem own_ib_ge (ji jj jf : Int32) : ¬ own_ib ji jj jf < (0 : Int32) := by unfold own_ib; split <;> exact own_31 _
theorem own_v_in (a f b : Int32) : own_v a f b ∈ own_tab := by
  unfold own_v
  by_cases h1 : (f &&& b) = (0 : Int32)
  · rw [if_pos h1]; exact own_in a
  · rw [if_neg h1]
    by_cases h2 : (cmpValue (FP.dcmp (own_h a) 0) .l) = (0 : Int32)
    · rw [if_pos h2]; exact own_neg _ (own_in a) h2
    · rw [if_neg h2]; exact own_in a
theorem own_pre {p : Program} {l : Launch} {e : Env} {R : Room} {s : State} {m : MethodId} {args : Array Value} {below : List Frame} {meth : Method} {c : Code} {T0 : State} {locs : List Loc} {cells slots : Nat} {Z : State} {a0 : Array Value} (ji jj ja jb jc jf : Int32) (X0 : Stand p l e R s m args below meth c T0 locs cells slots) (hx : p.tables.exec = Jvm.exec) (hZ : Z.Warmed39 s.vm) (hw : ∀ d ∈ tables_1, d.before a0 Z = true) (hby : c.code = code) (hown : s.vm.findClass "com/example/sortition/sortition/ElementOutranksPinLaw" = some m.cls) : ∀ target, Steps p.tables e below (T0.setTop (mkF m 84 #[.val (.int ji), .val (.int jj), .val (.int ja), .val (.int jb), .val (.int jc), .val (.int jf), .val (.int (ji &&& (2147483647 : Int32))), .val (.int (own_ib ji jj jf)), .val (.double (own_v ja jf 2)), .second, .val (.double (own_v jb jf 4)), .second, .unset, .unset, .unset, .unset] [])) target → Steps p.tables e below (T0.setTop (mkF m 0 #[.val (.int ji), .val (.int jj), .val (.int ja), .val (.int jb), .val (.int jc), .val (.int jf), .unset, .unset, .unset, .unset, .unset, .unset, .unset, .unset, .unset, .unset] [])) target := by
  have hA : ∀ target, Steps p.tables e below (T0.setTop (mkF m 24 #[.val (.int ji), .val (.int jj), .val (.int ja), .val (.int jb), .val (.int jc), .val (.int jf), .val (.int (ji &&& (2147483647 : Int32))), .val (.int (own_ib ji jj jf)), .unset, .unset, .unset, .unset, .unset, .unset, .unset, .unset] [])) target → Steps p.tables e below (T0.setTop (mkF m 0 #[.val (.int ji), .val (.int jj), .val (.int ja), .val (.int jb), .val (.int jc), .val (.int jf), .unset, .unset, .unset, .unset, .unset, .unset, .unset, .unset, .unset, .unset] [])) target := by
    unfold own_ib
    by_cases h : (jf &&& (1 : Int32)) = (0 : Int32)
    · rw [if_pos h]; exact pAt ji jj ja jb jc jf X0 hx hZ hw hby hown h
    · rw [if_neg h]; exact pAf ji jj ja jb jc jf X0 hx hZ hw hby hown h
  have hB : ∀ target, Steps p.tables e below (T0.setTop (mkF m 46 #[.val (.int ji), .val (.int jj), .val (.int ja), .val (.int jb), .val (.int jc), .val (.int jf), .val (.int (ji &&& (2147483647 : Int32))), .val (.int (own_ib ji jj jf)), .val (.double (own_h ja)), .second, .val (.double (own_h jb)), .second, .unset, .unset, .unset, .unset] [])) target → Steps p.tables e below (T0.setTop (mkF m 24 #[.val (.int ji), .val (.int jj), .val (.int ja), .val (.int jb), .val (.int jc), .val (.int jf), .val (.int (ji &&& (2147483647 : Int32))), .val (.int (own_ib ji jj jf)), .unset, .unset, .unset, .unset, .unset, .unset, .unset, .unset] [])) target := pB ji jj ja jb jc jf (ji &&& (2147483647 : Int32)) (own_ib ji jj jf) X0 hx hZ hw hby hown
  have hC : ∀ target, Steps p.tables e below (T0.setTop (mkF m 65 #[.val (.int ji), .val (.int jj), .val (.int ja), .val (.int jb), .val (.int jc), .val (.int jf), .val (.int (ji &&& (2147483647 : Int32))), .val (.int (own_ib ji jj jf)), .val (.double (own_v ja jf 2)), .second, .val (.double (own_h jb)), .second, .unset, .unset, .unset, .unset] [])) target → Steps p.tables e below (T0.setTop (mkF m 46 #[.val (.int ji), .val (.int jj), .val (.int ja), .val (.int jb), .val (.int jc), .val (.int jf), .val (.int (ji &&& (2147483647 : Int32))), .val (.int (own_ib ji jj jf)), .val (.double (own_h ja)), .second, .val (.double (own_h jb)), .second, .unset, .unset, .unset, .unset] [])) target := by
    by_cases h1 : (jf &&& (2 : Int32)) = (0 : Int32)
    · rw [own_v0 (a := ja) h1]; exact pCt ji jj ja jb jc jf (ji &&& (2147483647 : Int32)) (own_ib ji jj jf) (own_h ja) (own_h jb) X0 hx hZ hw hby hown h1
    · by_cases h2 : (cmpValue (FP.dcmp (own_h ja) 0) .l) = (0 : Int32)
      · rw [own_v1 (a := ja) h1 h2]; exact pCff ji jj ja jb jc jf (ji &&& (2147483647 : Int32)) (own_ib ji jj jf) (own_h ja) (own_h jb) X0 hx hZ hw hby hown h1 h2
      · rw [own_v2 (a := ja) h1 h2]; exact pCft ji jj ja jb jc jf (ji &&& (2147483647 : Int32)) (own_ib ji jj jf) (own_h ja) (own_h jb) X0 hx hZ hw hby hown h1 h2
  have hD : ∀ target, Steps p.tables e below (T0.setTop (mkF m 84 #[.val (.int ji), .val (.int jj), .val (.int ja), .val (.int jb), .val (.int jc), .val (.int jf), .val (.int (ji &&& (2147483647 : Int32))), .val (.int (own_ib ji jj jf)), .val (.double (own_v ja jf 2)), .second, .val (.double (own_v jb jf 4)), .second, .unset, .unset, .unset, .unset] [])) target → Steps p.tables e below (T0.setTop (mkF m 65 #[.val (.int ji), .val (.int jj), .val (.int ja), .val (.int jb), .val (.int jc), .val (.int jf), .val (.int (ji &&& (2147483647 : Int32))), .val (.int (own_ib ji jj jf)), .val (.double (own_v ja jf 2)), .second, .val (.double (own_h jb)), .second, .unset, .unset, .unset, .unset] [])) target := by
    by_cases h1 : (jf &&& (4 : Int32)) = (0 : Int32)
    · rw [own_v0 (a := jb) h1]; exact pDt ji jj ja jb jc jf (ji &&& (2147483647 : Int32)) (own_ib ji jj jf) (own_v ja jf 2) (own_h jb) X0 hx hZ hw hby hown h1
    · by_cases h2 : (cmpValue (FP.dcmp (own_h jb) 0) .l) = (0 : Int32)
      · rw [own_v1 (a := jb) h1 h2]; exact pDff ji jj ja jb jc jf (ji &&& (2147483647 : Int32)) (own_ib ji jj jf) (own_v ja jf 2) (own_h jb) X0 hx hZ hw hby hown h1 h2
      · rw [own_v2 (a := jb) h1 h2]; exact pDft ji jj ja jb jc jf (ji &&& (2147483647 : Int32)) (own_ib ji jj jf) (own_v ja jf 2) (own_h jb) X0 hx hZ hw hby hown h1 h2
  exact fun target kt => hA _ (hB _ (hC _ (hD _ kt)))
theorem pd_11 : parseMethodDescriptor "(C)Ljava/lang/String;" = some ⟨[.char], some (.object "java/lang/String")⟩ := by decide +kernel
theorem pd_12 : parseMethodDescriptor "(ILjava/lang/String;D)V" = some ⟨[.int, (.object "java/lang/String"), .double], none⟩ := by decide +kernel
theorem pd_13 : parseMethodDescriptor "(Lcom/example/sortition/sortition/Element;)Z" = some ⟨[(.object "com/example/sortition/sortition/Element")], some .boolean⟩ := by decide +kernel
theorem pn_9 : plainName "com/example/sortition/sortition/ElementOutranksPinLaw" = true := by first | (simp [plainName, overriddenIn]; done) | decide +kernel
def Q_rm0_gt (Z : State) (ji : Int32) (jj : Int32) (ja : Int32) (jb : Int32) (jc : Int32) (jf : Int32) (ia : Int32) (ib : Int32) (va : UInt64) (vb : UInt64) (s_CS : Int32) (h0 : Heap) (n0 : Nat) (v : Option Value) (h : Heap) (L : List Loc) : Prop := v = some (.int (1 : Int32)) ∧ Fr n0 L
theorem ef_rm0_gt (m : MethodId) (ji : Int32) (jj : Int32) (ja : Int32) (jb : Int32) (jc : Int32) (jf : Int32) : entryFrame m #[(.int ji), (.int jj), (.int ja), (.int jb), (.int jc), (.int jf)] maxLocals = mkF m 0 #[.val (.int ji), .val (.int jj), .val (.int ja), .val (.int jb), .val (.int jc), .val (.int jf), .unset, .unset, .unset, .unset, .unset, .unset, .unset, .unset, .unset, .unset] [] := by first | (simp [entryFrame, mkF, argsToLocals, Value.category, maxLocals]; done) | rfl
set_option maxRecDepth 65536 in
set_option maxHeartbeats 40000000 in
theorem rm0_gt (l : Launch) (Z : State) (a0 : Array Value) (hw : ∀ d ∈ tables_1, d.before a0 Z = true) (ws : List Jvm.Cond) (ji : Int32) (jj : Int32) (ja : Int32) (jb : Int32) (jc : Int32) (jf : Int32) (ia : Int32) (ib : Int32) (va : UInt64) (vb : UInt64) (s_CS : Int32) (h0 : Heap) (n0 : Nat) (Z0 : n0 ≤ h0.size) (hwS : ∀ a ∈ Bundle.stringAtoms, a.before a0 Z = true) (S_CS : Sta Z h0 "java/lang/String" "COMPACT_STRINGS" "Z" (.int s_CS)) (hcs : ¬ (s_CS = (0 : Int32))) (hia : (ji &&& (2147483647 : Int32)) = ia) (hib : (own_ib ji jj jf) = ib) (hva : (own_v ja jf 2) = va) (hvb : (own_v jb jf 4) = vb) (gia : ¬ (ia < (0 : Int32))) (gib : ¬ (ib < (0 : Int32))) (ma : va ∈ own_tab) (mb : vb ∈ own_tab) (k0 : (0 : Int32) < (cmpValue (FP.dcmp va vb) .l)) (k1 : ¬ ((0 : Int32) < (cmpValue (FP.dcmp vb va) .l))) (k2 : ¬ ((cmpValue (FP.dcmp va vb) .l) = (0 : Int32))) (k3 : ¬ ((cmpValue (FP.dcmp (FP.dadd va 0) (FP.dadd vb 0)) .g) < (0 : Int32))) (k4 : (0 : Int32) < (cmpValue (FP.dcmp (FP.dadd va 0) (FP.dadd vb 0)) .l)) (k5 : (cmpValue (FP.dcmp (FP.dadd vb 0) (FP.dadd va 0)) .g) < (0 : Int32)) :
    MetFree l x (head1 (Jvm.Cond.code x code maxLocals ret :: ws) room_1) (fun a U => a = #[(.int ji), (.int jj), (.int ja), (.int jb), (.int jc), (.int jf)] ∧ Z.Warmed39 U.vm ∧ U.heap = h0) (fun _ _ _ _ _ => True) (fun _ U o U' => ∃ v L, o = .returned v ∧ Q_rm0_gt Z ji jj ja jb jc jf ia ib va vb s_CS h0 n0 v U'.heap L ∧ ReturnedEndW U o U' L room_1.cells room_1.slots) := by
  refine MetFree.of_bodySF (plainFor_of_name pn_9) hisR ?_
  intro p e s m args below meth c s₁ Bd hml0 hP hK
  obtain ⟨rfl, hZ, hh⟩ := hP
  have hx := Bd.exec
  have hby := Bd.bytes
  have hml : c.maxLocals = 16 := hml0
  have hown : s.vm.findClass "com/example/sortition/sortition/ElementOutranksPinLaw" = some m.cls := findClass_of_methodNamed Bd.named
  have hnm := (name_of_methodNamed Bd.named Bd.method).1
  have X0 : Stand p l e room_1 s m #[(.int ji), (.int jj), (.int ja), (.int jb), (.int jc), (.int jf)] below meth c s₁ [] 0 0 := Stand.of_body Bd
  have e0 : s₁.heap = h0 := by rw [← hh, Bd.state]; rfl
  have N0 := Fr.nil n0
  have hS0 := (State.WarmedH.refl s).since 0
  have pre0 : ∀ t, Steps p.tables e below (s₁.setTop (mkF m 0 #[.val (.int ji), .val (.int jj), .val (.int ja), .val (.int jb), .val (.int jc), .val (.int jf), .unset, .unset, .unset, .unset, .unset, .unset, .unset, .unset, .unset, .unset] [])) t → Steps p.tables e below (s₁.setTop (entryFrame m #[(.int ji), (.int jj), (.int ja), (.int jb), (.int jc), (.int jf)] maxLocals)) t := fun t k => castTop (ef_rm0_gt m ji jj ja jb jc jf) k
  have stp := own_pre ji jj ja jb jc jf X0 hx hZ hw hby hown
  rw [hia, hib, hva, hvb] at stp
  obtain ⟨T1, h1, X1, e1, E1, A1, D1, -, st1⟩ := newO X0 hx hZ hown (hw _ (List.mem_of_getElem? (i := 2) rfl)) (hw _ (List.mem_of_getElem? (i := 3) rfl)) (hw _ (List.mem_of_getElem? (i := 4) rfl)) e0 (g := (mkF m 84 #[.val (.int ji), .val (.int jj), .val (.int ja), .val (.int jb), .val (.int jc), .val (.int jf), .val (.int ia), .val (.int ib), .val (.double va), .second, .val (.double vb), .second, .unset, .unset, .unset, .unset] [])) rfl (hb hby at_84) (by decide) (by decide)
  obtain ⟨b1, g1⟩ : ∃ z, z = h0.size := ⟨_, rfl⟩
  rw [← g1] at A1 D1 st1
  have F1_2 : Fld Z h1 b1 "com/example/sortition/sortition/Element" "index" "I" (.int (0 : Int32)) := D1 (Or.inr (hw _ (List.mem_of_getElem? (i := 54) rfl))) (ty := .int) (by decide)
  have F1_3 : Fld Z h1 b1 "com/example/sortition/sortition/Element" "id" "Ljava/lang/String;" .null := D1 (Or.inr (hw _ (List.mem_of_getElem? (i := 56) rfl))) (ty := (.object "java/lang/String")) (by decide)
  have F1_4 : Fld Z h1 b1 "com/example/sortition/sortition/Element" "value" "D" (.double 0) := D1 (Or.inr (hw _ (List.mem_of_getElem? (i := 58) rfl))) (ty := .double) (by decide)
  have f3 : Sta Z h1 "java/lang/String" "COMPACT_STRINGS" "Z" (.int s_CS) := (S_CS.ext E1)
  obtain ⟨_, _, ⟨T2, L2, k2, n2⟩, -, X2, ⟨Lc2, hQ2, l2, y2, z2⟩, st2⟩ := Jvm.LawKit.callS X1 hx (y := (⟨"java/lang/String", "valueOf", "(C)Ljava/lang/String;"⟩ : MethodName)) hown (mvT hZ (hw _ (List.mem_of_getElem? (i := 5) rfl))) (mvT hZ (hw _ (List.mem_of_getElem? (i := 6) rfl))) (mvT hZ (hw _ (List.mem_of_getElem? (i := 7) rfl))) (mvT hZ (hw _ (List.mem_of_getElem? (i := 8) rfl))) (by decide) (backOf (W := 3) (rmVO l Z a0 hw [] (jc &&& (255 : Int32)) s_CS h1 n0 (Nat.le_trans Z0 E1.1) (own_255 _) f3 hcs) hZ (hw _ (List.mem_of_getElem? (i := 8) rfl)) (hw _ (List.mem_of_getElem? (i := 7) rfl)) (by decide) (by decide)) (g := (mkF m 97 #[.val (.int ji), .val (.int jj), .val (.int ja), .val (.int jb), .val (.int jc), .val (.int jf), .val (.int ia), .val (.int ib), .val (.double va), .second, .val (.double vb), .second, .unset, .unset, .unset, .unset] [(.int (jc &&& (255 : Int32))), (.int ia), (.ref b1), (.ref b1)])) rfl (by rw [hml]; rfl) (argsL := [(.int (jc &&& (255 : Int32)))]) (rest := [(.int ia), (.ref b1), (.ref b1)]) (lenOf pd_11 rfl) rfl (by show 2 * 0 + _ ≤ _; exact Nat.le_of_eq rfl) (hb hby at_97) (fun _ _ => ⟨rfl, e1, (by decide : 1 + 2 ≤ _), (by decide : 3 + 5 ≤ _)⟩)
  dsimp only [Pt.U, Pt.locs, Pt.cells, Pt.slots] at X2 l2 y2 z2 st2 hQ2
  subst l2 y2 z2
  obtain ⟨nb_2, ab_2, kb_2, rfl, Nq2, gb2_0, gb2_1, Kp2, Fq2_0, Fq2_1, Fq2_2⟩ := hQ2
  have N2 := Fr.app N0 Nq2
  have f5 : Fld Z T2.heap b1 "com/example/sortition/sortition/Element" "index" "I" (.int (0 : Int32)) := (F1_2.keep Kp2 nin0)
  have f6 : Exa Z T2.heap b1 "com/example/sortition/sortition/Element" := (A1.keep Kp2)
  have f7 : Fld Z T2.heap b1 "com/example/sortition/sortition/Element" "id" "Ljava/lang/String;" .null := (F1_3.keep Kp2 nin0)
  have f8 : Fld Z T2.heap b1 "com/example/sortition/sortition/Element" "value" "D" (.double 0) := (F1_4.keep Kp2 nin0)
  obtain ⟨_, _, ⟨T4, L4, k4, n4⟩, -, X4, hSq4, hgq4, ⟨Lc4, hQ4, l4, y4, z4⟩, st4⟩ := X2.specialBackS hx (y := (⟨"com/example/sortition/sortition/Element", "<init>", "(ILjava/lang/String;D)V"⟩ : MethodName)) rfl hown (mvT hZ (hw _ (List.mem_of_getElem? (i := 31) rfl))) (mvT hZ (hw _ (List.mem_of_getElem? (i := 32) rfl))) (mvT hZ (hw _ (List.mem_of_getElem? (i := 33) rfl))) (by decide) (backOfS (W := 1) (rmEI l Z a0 hw [] b1 ia nb_2 va ab_2 kb_2 [(.int (nar .byte ((jc &&& (255 : Int32)).toInt8.toInt32)))] (.int (0 : Int32)) .null (.double 0) T2.heap n0 (Nat.le_trans (Nat.le_trans Z0 E1.1) Kp2.1) hwS Fq2_0 Fq2_1 Fq2_2 gia (own_ge0 _ ma) (own_inf _ ma) (own_nn0 ma) f5 f6 (Nat.le_trans Z0 (Nat.le_of_eq g1.symm)) f7 f8) hZ (hw _ (List.mem_of_getElem? (i := 33) rfl)) (hw _ (List.mem_of_getElem? (i := 4) rfl)) (by decide) (by decide)) (g := (mkF m 102 #[.val (.int ji), .val (.int jj), .val (.int ja), .val (.int jb), .val (.int jc), .val (.int jf), .val (.int ia), .val (.int ib), .val (.double va), .second, .val (.double vb), .second, .unset, .unset, .unset, .unset] [(.double va), (.ref nb_2), (.int ia), (.ref b1), (.ref b1)])) rfl (by rw [hml]; rfl) (Steps.refl _) (a := b1) (argsL := [(.int ia), (.ref nb_2), (.double va)]) (rest := [(.ref b1)]) (lenOf pd_12 rfl) rfl (by show 2 * 0 + _ ≤ _; exact Nat.le_of_eq rfl) (hb hby at_102) (fun _ _ => ⟨rfl, rfl, (by decide : 3 + 2 ≤ _), (by decide : 8 + 12 ≤ _)⟩)
  dsimp only [Pt.U, Pt.locs, Pt.cells, Pt.slots] at X4 l4 y4 z4 st4 hQ4 hSq4 hgq4
  subst l4 y4 z4
  obtain ⟨X4, hS4, hZ4, hown4⟩ := rebS (s := s) (vm0 := s.vm) hS0 (Nat.le_trans (Nat.le_trans (Nat.zero_le _) E1.1) Kp2.1) X4 hSq4 hgq4 hZ hown
  obtain ⟨rfl, Nq4, Kp4, Fq4_0, Fq4_1, Fq4_2⟩ := hQ4
  have N4 := Fr.app N2 Nq4
  obtain ⟨T9, h9, X9, e9, E9, A9, D9, -, st9⟩ := newO X4 hx hZ4 hown4 (hw _ (List.mem_of_getElem? (i := 2) rfl)) (hw _ (List.mem_of_getElem? (i := 3) rfl)) (hw _ (List.mem_of_getElem? (i := 4) rfl)) rfl (g := (mkF m 107 #[.val (.int ji), .val (.int jj), .val (.int ja), .val (.int jb), .val (.int jc), .val (.int jf), .val (.int ia), .val (.int ib), .val (.double va), .second, .val (.double vb), .second, .val (.ref b1), .unset, .unset, .unset] [])) rfl (hb hby at_107) (by decide) (by decide)
  obtain ⟨b9, g9⟩ : ∃ z, z = T4.heap.size := ⟨_, rfl⟩
  rw [← g9] at A9 D9 st9
  have F9_9 : Fld Z h9 b9 "com/example/sortition/sortition/Element" "index" "I" (.int (0 : Int32)) := D9 (Or.inr (hw _ (List.mem_of_getElem? (i := 54) rfl))) (ty := .int) (by decide)
  have F9_10 : Fld Z h9 b9 "com/example/sortition/sortition/Element" "id" "Ljava/lang/String;" .null := D9 (Or.inr (hw _ (List.mem_of_getElem? (i := 56) rfl))) (ty := (.object "java/lang/String")) (by decide)
  have F9_11 : Fld Z h9 b9 "com/example/sortition/sortition/Element" "value" "D" (.double 0) := D9 (Or.inr (hw _ (List.mem_of_getElem? (i := 58) rfl))) (ty := .double) (by decide)
  have f11 : Sta Z h9 "java/lang/String" "COMPACT_STRINGS" "Z" (.int s_CS) := ((Sta_keep (Sta_keep f3 Kp2 ns0) Kp4 (nsS f6.nostat ns0)).ext E9)
  obtain ⟨_, _, ⟨T10, L10, k10, n10⟩, -, X10, ⟨Lc10, hQ10, l10, y10, z10⟩, st10⟩ := Jvm.LawKit.callS X9 hx (y := (⟨"java/lang/String", "valueOf", "(C)Ljava/lang/String;"⟩ : MethodName)) hown4 (mvT hZ4 (hw _ (List.mem_of_getElem? (i := 5) rfl))) (mvT hZ4 (hw _ (List.mem_of_getElem? (i := 6) rfl))) (mvT hZ4 (hw _ (List.mem_of_getElem? (i := 7) rfl))) (mvT hZ4 (hw _ (List.mem_of_getElem? (i := 8) rfl))) (by decide) (backOf (W := 3) (rmVO l Z a0 hw [] (((jc.toUInt32 >>> ((8 : Int32) &&& 31).toUInt32).toInt32) &&& (255 : Int32)) s_CS h9 n0 (Nat.le_trans (Nat.le_trans (Nat.le_trans (Nat.le_trans Z0 E1.1) Kp2.1) Kp4.1) E9.1) (own_255 _) f11 hcs) hZ4 (hw _ (List.mem_of_getElem? (i := 8) rfl)) (hw _ (List.mem_of_getElem? (i := 7) rfl)) (by decide) (by decide)) (g := (mkF m 123 #[.val (.int ji), .val (.int jj), .val (.int ja), .val (.int jb), .val (.int jc), .val (.int jf), .val (.int ia), .val (.int ib), .val (.double va), .second, .val (.double vb), .second, .val (.ref b1), .unset, .unset, .unset] [(.int (((jc.toUInt32 >>> ((8 : Int32) &&& 31).toUInt32).toInt32) &&& (255 : Int32))), (.int ib), (.ref b9), (.ref b9)])) rfl (by rw [hml]; rfl) (argsL := [(.int (((jc.toUInt32 >>> ((8 : Int32) &&& 31).toUInt32).toInt32) &&& (255 : Int32)))]) (rest := [(.int ib), (.ref b9), (.ref b9)]) (lenOf pd_11 rfl) rfl (by show 2 * 0 + _ ≤ _; exact Nat.le_of_eq rfl) (hb hby at_123) (fun _ _ => ⟨rfl, e9, (by decide : 6 + 2 ≤ _), (by decide : 23 + 5 ≤ _)⟩)
  dsimp only [Pt.U, Pt.locs, Pt.cells, Pt.slots] at X10 l10 y10 z10 st10 hQ10
  subst l10 y10 z10
  obtain ⟨nb_10, ab_10, kb_10, rfl, Nq10, gb10_0, gb10_1, Kp10, Fq10_0, Fq10_1, Fq10_2⟩ := hQ10
  have N10 := Fr.app N4 Nq10
  have f13 : Fld Z T10.heap b9 "com/example/sortition/sortition/Element" "index" "I" (.int (0 : Int32)) := (F9_9.keep Kp10 nin0)
  have f14 : Exa Z T10.heap b9 "com/example/sortition/sortition/Element" := (A9.keep Kp10)
  have f15 : Fld Z T10.heap b9 "com/example/sortition/sortition/Element" "id" "Ljava/lang/String;" .null := (F9_10.keep Kp10 nin0)
  have f16 : Fld Z T10.heap b9 "com/example/sortition/sortition/Element" "value" "D" (.double 0) := (F9_11.keep Kp10 nin0)
  obtain ⟨_, _, ⟨T12, L12, k12, n12⟩, -, X12, hSq12, hgq12, ⟨Lc12, hQ12, l12, y12, z12⟩, st12⟩ := X10.specialBackS hx (y := (⟨"com/example/sortition/sortition/Element", "<init>", "(ILjava/lang/String;D)V"⟩ : MethodName)) rfl hown4 (mvT hZ4 (hw _ (List.mem_of_getElem? (i := 31) rfl))) (mvT hZ4 (hw _ (List.mem_of_getElem? (i := 32) rfl))) (mvT hZ4 (hw _ (List.mem_of_getElem? (i := 33) rfl))) (by decide) (backOfS (W := 1) (rmEI l Z a0 hw [] b9 ib nb_10 vb ab_10 kb_10 [(.int (nar .byte ((((jc.toUInt32 >>> ((8 : Int32) &&& 31).toUInt32).toInt32) &&& (255 : Int32)).toInt8.toInt32)))] (.int (0 : Int32)) .null (.double 0) T10.heap n0 (Nat.le_trans (Nat.le_trans (Nat.le_trans (Nat.le_trans (Nat.le_trans Z0 E1.1) Kp2.1) Kp4.1) E9.1) Kp10.1) hwS Fq10_0 Fq10_1 Fq10_2 gib (own_ge0 _ mb) (own_inf _ mb) (own_nn0 mb) f13 f14 (Nat.le_trans (Nat.le_trans (Nat.le_trans (Nat.le_trans Z0 E1.1) Kp2.1) Kp4.1) (Nat.le_of_eq g9.symm)) f15 f16) hZ4 (hw _ (List.mem_of_getElem? (i := 33) rfl)) (hw _ (List.mem_of_getElem? (i := 4) rfl)) (by decide) (by decide)) (g := (mkF m 128 #[.val (.int ji), .val (.int jj), .val (.int ja), .val (.int jb), .val (.int jc), .val (.int jf), .val (.int ia), .val (.int ib), .val (.double va), .second, .val (.double vb), .second, .val (.ref b1), .unset, .unset, .unset] [(.double vb), (.ref nb_10), (.int ib), (.ref b9), (.ref b9)])) rfl (by rw [hml]; rfl) (Steps.refl _) (a := b9) (argsL := [(.int ib), (.ref nb_10), (.double vb)]) (rest := [(.ref b9)]) (lenOf pd_12 rfl) rfl (by show 2 * 0 + _ ≤ _; exact Nat.le_of_eq rfl) (hb hby at_128) (fun _ _ => ⟨rfl, rfl, (by decide : 8 + 2 ≤ _), (by decide : 28 + 12 ≤ _)⟩)
  dsimp only [Pt.U, Pt.locs, Pt.cells, Pt.slots] at X12 l12 y12 z12 st12 hQ12 hSq12 hgq12
  subst l12 y12 z12
  obtain ⟨X12, hS12, hZ12, hown12⟩ := rebS (s := s) (vm0 := T4.vm) hS4 (Nat.le_trans (Nat.le_trans (Nat.le_refl _) E9.1) Kp10.1) X12 hSq12 hgq12 hZ4 hown4
  obtain ⟨rfl, Nq12, Kp12, Fq12_0, Fq12_1, Fq12_2⟩ := hQ12
  have N12 := Fr.app N10 Nq12
  have f18 : Fld Z T12.heap b1 "com/example/sortition/sortition/Element" "value" "D" (.double (FP.dadd va 0)) := (((Fq4_2.ext E9).keep Kp10 nin0).keep Kp12 (ninS (Nat.ne_of_lt (Nat.lt_of_lt_of_le Fq4_0.lt (Nat.le_of_eq g9.symm))) nin0))
  have f19 : Fld Z T12.heap b1 "com/example/sortition/sortition/Element" "index" "I" (.int ia) := (((Fq4_1.ext E9).keep Kp10 nin0).keep Kp12 (ninS (Nat.ne_of_lt (Nat.lt_of_lt_of_le Fq4_0.lt (Nat.le_of_eq g9.symm))) nin0))
  have f20 : Exa Z T12.heap b1 "com/example/sortition/sortition/Element" := (((Fq4_0.ext E9).keep Kp10).keep Kp12)
  obtain ⟨cq17, kq17, q17a, q17b, q17c⟩ := isOf hZ12 rfl f20
  obtain ⟨_, _, ⟨T17, L17, k17, n17⟩, -, X17, ⟨Lc17, hQ17, l17, y17, z17⟩, st17⟩ := X12.virtualBack hx (y := (⟨"com/example/sortition/sortition/Element", "outranks", "(Lcom/example/sortition/sortition/Element;)Z"⟩ : MethodName)) (z := (⟨"com/example/sortition/sortition/Element", "outranks", "(Lcom/example/sortition/sortition/Element;)Z"⟩ : MethodName)) hown12 (mvT hZ12 (hw _ (List.mem_of_getElem? (i := 59) rfl))) (mvT hZ12 (hw _ (List.mem_of_getElem? (i := 60) rfl))) (notFace_of_selects (args := #[]) (mvT hZ12 (hw _ (List.mem_of_getElem? (i := 62) rfl)))) (mvT hZ12 (hw _ (List.mem_of_getElem? (i := 62) rfl))) (mvT hZ12 (hw _ (List.mem_of_getElem? (i := 61) rfl))) (by decide) (backOf (W := 0) (rmOR_gt l Z a0 hw [] b1 b9 ia (FP.dadd va 0) ib (FP.dadd vb 0) T12.heap n0 (Nat.le_trans (Nat.le_trans (Nat.le_trans (Nat.le_trans (Nat.le_trans (Nat.le_trans Z0 E1.1) Kp2.1) Kp4.1) E9.1) Kp10.1) Kp12.1) f18 f19 Fq12_2 Fq12_1 k3 k4) hZ12 (hw _ (List.mem_of_getElem? (i := 63) rfl)) (hw _ (List.mem_of_getElem? (i := 4) rfl)) (by decide) (by decide)) q17a q17c (g := (mkF m 197 #[.val (.int ji), .val (.int jj), .val (.int ja), .val (.int jb), .val (.int jc), .val (.int jf), .val (.int ia), .val (.int ib), .val (.double va), .second, .val (.double vb), .second, .val (.ref b1), .val (.ref b9), .val (.int (1 : Int32)), .val (.int (0 : Int32))] [(.ref b9), (.ref b1)])) rfl (by rw [hml]; rfl) (Steps.refl _) (argsL := [(.ref b9)]) (rest := []) (lenOf pd_13 rfl) rfl (by show 2 * 0 + _ ≤ _; exact Nat.le_of_eq rfl) (hb hby at_197) (fun _ _ => ⟨rfl, rfl, (by decide : 10 + 0 ≤ _), (by decide : 40 + 0 ≤ _)⟩)
  dsimp only [Pt.U, Pt.locs, Pt.cells, Pt.slots] at X17 l17 y17 z17 st17 hQ17
  subst l17 y17 z17
  obtain ⟨rfl, Nq17, e17⟩ := hQ17
  have N17 := Fr.app N12 Nq17
  obtain ⟨cq21, kq21, q21a, q21b, q21c⟩ := isOf hZ12 e17 Fq12_0
  obtain ⟨_, _, ⟨T21, L21, k21, n21⟩, -, X21, ⟨Lc21, hQ21, l21, y21, z21⟩, st21⟩ := X17.virtualBack hx (y := (⟨"com/example/sortition/sortition/Element", "outranks", "(Lcom/example/sortition/sortition/Element;)Z"⟩ : MethodName)) (z := (⟨"com/example/sortition/sortition/Element", "outranks", "(Lcom/example/sortition/sortition/Element;)Z"⟩ : MethodName)) hown12 (mvT hZ12 (hw _ (List.mem_of_getElem? (i := 59) rfl))) (mvT hZ12 (hw _ (List.mem_of_getElem? (i := 60) rfl))) (notFace_of_selects (args := #[]) (mvT hZ12 (hw _ (List.mem_of_getElem? (i := 62) rfl)))) (mvT hZ12 (hw _ (List.mem_of_getElem? (i := 62) rfl))) (mvT hZ12 (hw _ (List.mem_of_getElem? (i := 61) rfl))) (by decide) (backOf (W := 0) (rmOR_lt l Z a0 hw [] b9 b1 ib (FP.dadd vb 0) ia (FP.dadd va 0) T12.heap n0 (Nat.le_trans (Nat.le_trans (Nat.le_trans (Nat.le_trans (Nat.le_trans (Nat.le_trans Z0 E1.1) Kp2.1) Kp4.1) E9.1) Kp10.1) Kp12.1) Fq12_2 Fq12_1 f18 f19 k5) hZ12 (hw _ (List.mem_of_getElem? (i := 63) rfl)) (hw _ (List.mem_of_getElem? (i := 4) rfl)) (by decide) (by decide)) q21a q21c (g := (mkF m 209 #[.val (.int ji), .val (.int jj), .val (.int ja), .val (.int jb), .val (.int jc), .val (.int jf), .val (.int ia), .val (.int ib), .val (.double va), .second, .val (.double vb), .second, .val (.ref b1), .val (.ref b9), .val (.int (1 : Int32)), .val (.int (0 : Int32))] [(.ref b1), (.ref b9)])) rfl (by rw [hml]; rfl) (Steps.refl _) (argsL := [(.ref b1)]) (rest := []) (lenOf pd_13 rfl) rfl (by show 2 * 0 + _ ≤ _; exact Nat.le_of_eq rfl) (hb hby at_209) (fun _ _ => ⟨rfl, e17, (by decide : 10 + 0 ≤ _), (by decide : 40 + 0 ≤ _)⟩)
  dsimp only [Pt.U, Pt.locs, Pt.cells, Pt.slots] at X21 l21 y21 z21 st21 hQ21
  subst l21 y21 z21
  obtain ⟨rfl, Nq21, e21⟩ := hQ21
  have N21 := Fr.app N17 Nq21
  obtain ⟨cq22, kq22, q22a, q22b, q22c⟩ := isOf hZ12 e21 f20
  obtain ⟨_, _, ⟨T22, L22, k22, n22⟩, -, X22, ⟨Lc22, hQ22, l22, y22, z22⟩, st22⟩ := X21.virtualBack hx (y := (⟨"com/example/sortition/sortition/Element", "outranks", "(Lcom/example/sortition/sortition/Element;)Z"⟩ : MethodName)) (z := (⟨"com/example/sortition/sortition/Element", "outranks", "(Lcom/example/sortition/sortition/Element;)Z"⟩ : MethodName)) hown12 (mvT hZ12 (hw _ (List.mem_of_getElem? (i := 59) rfl))) (mvT hZ12 (hw _ (List.mem_of_getElem? (i := 60) rfl))) (notFace_of_selects (args := #[]) (mvT hZ12 (hw _ (List.mem_of_getElem? (i := 62) rfl)))) (mvT hZ12 (hw _ (List.mem_of_getElem? (i := 62) rfl))) (mvT hZ12 (hw _ (List.mem_of_getElem? (i := 61) rfl))) (by decide) (backOf (W := 0) (rmOR_self l Z a0 hw [] b1 b1 ia (FP.dadd va 0) T12.heap n0 (Nat.le_trans (Nat.le_trans (Nat.le_trans (Nat.le_trans (Nat.le_trans (Nat.le_trans Z0 E1.1) Kp2.1) Kp4.1) E9.1) Kp10.1) Kp12.1) f18 f19 (own_nn0 ma) Int32.lt_irrefl) hZ12 (hw _ (List.mem_of_getElem? (i := 63) rfl)) (hw _ (List.mem_of_getElem? (i := 4) rfl)) (by decide) (by decide)) q22a q22c (g := (mkF m 221 #[.val (.int ji), .val (.int jj), .val (.int ja), .val (.int jb), .val (.int jc), .val (.int jf), .val (.int ia), .val (.int ib), .val (.double va), .second, .val (.double vb), .second, .val (.ref b1), .val (.ref b9), .val (.int (1 : Int32)), .val (.int (0 : Int32))] [(.ref b1), (.ref b1)])) rfl (by rw [hml]; rfl) (Steps.refl _) (argsL := [(.ref b1)]) (rest := []) (lenOf pd_13 rfl) rfl (by show 2 * 0 + _ ≤ _; exact Nat.le_of_eq rfl) (hb hby at_221) (fun _ _ => ⟨rfl, e21, (by decide : 10 + 0 ≤ _), (by decide : 40 + 0 ≤ _)⟩)
  dsimp only [Pt.U, Pt.locs, Pt.cells, Pt.slots] at X22 l22 y22 z22 st22 hQ22
  subst l22 y22 z22
  obtain ⟨rfl, Nq22, e22⟩ := hQ22
  have N22 := Fr.app N21 Nq22
  obtain ⟨fs, hr, hrun, hended, hRW⟩ := X22.leaveW (s := s) hS12 (by rw [e22]; exact (Nat.le_refl _)) (v := some (.int (1 : Int32))) (fun h => by rw [Bd.returns] at h; cases h)
  refine ⟨_, _, pre0 _ ?_, hrun, hended, _, _, rfl, ?_, hRW.1, hRW.2.1, hRW.2.2.1, hRW.2.2.2.mono (by decide) (by decide)⟩
  · show Steps p.tables e below (s₁.setTop (mkF m 0 #[.val (.int ji), .val (.int jj), .val (.int ja), .val (.int jb), .val (.int jc), .val (.int jf), .unset, .unset, .unset, .unset, .unset, .unset, .unset, .unset, .unset, .unset] [])) _
    refine stp _ ?_
    show Steps p.tables e below (s₁.setTop (mkF m 84 #[.val (.int ji), .val (.int jj), .val (.int ja), .val (.int jb), .val (.int jc), .val (.int jf), .val (.int ia), .val (.int ib), .val (.double va), .second, .val (.double vb), .second, .unset, .unset, .unset, .unset] [])) _
    refine st1 _ ?_
    show Steps p.tables e below (T1.setTop (mkF m 87 #[.val (.int ji), .val (.int jj), .val (.int ja), .val (.int jb), .val (.int jc), .val (.int jf), .val (.int ia), .val (.int ib), .val (.double va), .second, .val (.double vb), .second, .unset, .unset, .unset, .unset] [(.ref b1)])) _
    refine XS.dup X1.here hx rfl (hb hby at_87) rfl rfl ?_
    show Steps p.tables e below (T1.setTop (mkF m 88 #[.val (.int ji), .val (.int jj), .val (.int ja), .val (.int jb), .val (.int jc), .val (.int jf), .val (.int ia), .val (.int ib), .val (.double va), .second, .val (.double vb), .second, .unset, .unset, .unset, .unset] [(.ref b1), (.ref b1)])) _
    refine XS.iload X1.here hx rfl (hb hby at_88) rfl ?_
    show Steps p.tables e below (T1.setTop (mkF m 90 #[.val (.int ji), .val (.int jj), .val (.int ja), .val (.int jb), .val (.int jc), .val (.int jf), .val (.int ia), .val (.int ib), .val (.double va), .second, .val (.double vb), .second, .unset, .unset, .unset, .unset] [(.int ia), (.ref b1), (.ref b1)])) _
    refine XS.iload X1.here hx rfl (hb hby at_90) rfl ?_
    show Steps p.tables e below (T1.setTop (mkF m 92 #[.val (.int ji), .val (.int jj), .val (.int ja), .val (.int jb), .val (.int jc), .val (.int jf), .val (.int ia), .val (.int ib), .val (.double va), .second, .val (.double vb), .second, .unset, .unset, .unset, .unset] [(.int jc), (.int ia), (.ref b1), (.ref b1)])) _
    refine XS.sipush X1.here hx rfl (hb hby at_92) ?_
    show Steps p.tables e below (T1.setTop (mkF m 95 #[.val (.int ji), .val (.int jj), .val (.int ja), .val (.int jb), .val (.int jc), .val (.int jf), .val (.int ia), .val (.int ib), .val (.double va), .second, .val (.double vb), .second, .unset, .unset, .unset, .unset] [(.int (255 : Int32)), (.int jc), (.int ia), (.ref b1), (.ref b1)])) _
    refine XS.iand X1.here hx rfl (hb hby at_95) rfl ?_
    show Steps p.tables e below (T1.setTop (mkF m 96 #[.val (.int ji), .val (.int jj), .val (.int ja), .val (.int jb), .val (.int jc), .val (.int jf), .val (.int ia), .val (.int ib), .val (.double va), .second, .val (.double vb), .second, .unset, .unset, .unset, .unset] [(.int (jc &&& (255 : Int32))), (.int ia), (.ref b1), (.ref b1)])) _
    refine XS.i2c X1.here hx rfl (hb hby at_96) rfl ?_
    show Steps p.tables e below (T1.setTop (mkF m 97 #[.val (.int ji), .val (.int jj), .val (.int ja), .val (.int jb), .val (.int jc), .val (.int jf), .val (.int ia), .val (.int ib), .val (.double va), .second, .val (.double vb), .second, .unset, .unset, .unset, .unset] [(.int ((jc &&& (255 : Int32)).toUInt32.toUInt16.toUInt32.toInt32)), (.int ia), (.ref b1), (.ref b1)])) _
    rw [i2c_mask _]
    show Steps p.tables e below (T1.setTop (mkF m 97 #[.val (.int ji), .val (.int jj), .val (.int ja), .val (.int jb), .val (.int jc), .val (.int jf), .val (.int ia), .val (.int ib), .val (.double va), .second, .val (.double vb), .second, .unset, .unset, .unset, .unset] [(.int (jc &&& (255 : Int32))), (.int ia), (.ref b1), (.ref b1)])) _
    refine st2 _ ?_
    show Steps p.tables e below (T2.setTop (mkF m 100 #[.val (.int ji), .val (.int jj), .val (.int ja), .val (.int jb), .val (.int jc), .val (.int jf), .val (.int ia), .val (.int ib), .val (.double va), .second, .val (.double vb), .second, .unset, .unset, .unset, .unset] [(.ref nb_2), (.int ia), (.ref b1), (.ref b1)])) _
    refine XS.dload X2.here hx rfl (hb hby at_100) rfl ?_
    show Steps p.tables e below (T2.setTop (mkF m 102 #[.val (.int ji), .val (.int jj), .val (.int ja), .val (.int jb), .val (.int jc), .val (.int jf), .val (.int ia), .val (.int ib), .val (.double va), .second, .val (.double vb), .second, .unset, .unset, .unset, .unset] [(.double va), (.ref nb_2), (.int ia), (.ref b1), (.ref b1)])) _
    refine st4.trans ?_
    show Steps p.tables e below (T4.setTop (mkF m 105 #[.val (.int ji), .val (.int jj), .val (.int ja), .val (.int jb), .val (.int jc), .val (.int jf), .val (.int ia), .val (.int ib), .val (.double va), .second, .val (.double vb), .second, .unset, .unset, .unset, .unset] [(.ref b1)])) _
    refine XS.astore X4.here hx rfl (hb hby at_105) rfl rfl (l' := #[.val (.int ji), .val (.int jj), .val (.int ja), .val (.int jb), .val (.int jc), .val (.int jf), .val (.int ia), .val (.int ib), .val (.double va), .second, .val (.double vb), .second, .val (.ref b1), .unset, .unset, .unset]) rfl ?_
    show Steps p.tables e below (T4.setTop (mkF m 107 #[.val (.int ji), .val (.int jj), .val (.int ja), .val (.int jb), .val (.int jc), .val (.int jf), .val (.int ia), .val (.int ib), .val (.double va), .second, .val (.double vb), .second, .val (.ref b1), .unset, .unset, .unset] [])) _
    refine st9 _ ?_
    show Steps p.tables e below (T9.setTop (mkF m 110 #[.val (.int ji), .val (.int jj), .val (.int ja), .val (.int jb), .val (.int jc), .val (.int jf), .val (.int ia), .val (.int ib), .val (.double va), .second, .val (.double vb), .second, .val (.ref b1), .unset, .unset, .unset] [(.ref b9)])) _
    refine XS.dup X9.here hx rfl (hb hby at_110) rfl rfl ?_
    show Steps p.tables e below (T9.setTop (mkF m 111 #[.val (.int ji), .val (.int jj), .val (.int ja), .val (.int jb), .val (.int jc), .val (.int jf), .val (.int ia), .val (.int ib), .val (.double va), .second, .val (.double vb), .second, .val (.ref b1), .unset, .unset, .unset] [(.ref b9), (.ref b9)])) _
    refine XS.iload X9.here hx rfl (hb hby at_111) rfl ?_
    show Steps p.tables e below (T9.setTop (mkF m 113 #[.val (.int ji), .val (.int jj), .val (.int ja), .val (.int jb), .val (.int jc), .val (.int jf), .val (.int ia), .val (.int ib), .val (.double va), .second, .val (.double vb), .second, .val (.ref b1), .unset, .unset, .unset] [(.int ib), (.ref b9), (.ref b9)])) _
    refine XS.iload X9.here hx rfl (hb hby at_113) rfl ?_
    show Steps p.tables e below (T9.setTop (mkF m 115 #[.val (.int ji), .val (.int jj), .val (.int ja), .val (.int jb), .val (.int jc), .val (.int jf), .val (.int ia), .val (.int ib), .val (.double va), .second, .val (.double vb), .second, .val (.ref b1), .unset, .unset, .unset] [(.int jc), (.int ib), (.ref b9), (.ref b9)])) _
    refine XS.bipush X9.here hx rfl (hb hby at_115) ?_
    show Steps p.tables e below (T9.setTop (mkF m 117 #[.val (.int ji), .val (.int jj), .val (.int ja), .val (.int jb), .val (.int jc), .val (.int jf), .val (.int ia), .val (.int ib), .val (.double va), .second, .val (.double vb), .second, .val (.ref b1), .unset, .unset, .unset] [(.int (8 : Int32)), (.int jc), (.int ib), (.ref b9), (.ref b9)])) _
    refine XS.iushr X9.here hx rfl (hb hby at_117) rfl ?_
    show Steps p.tables e below (T9.setTop (mkF m 118 #[.val (.int ji), .val (.int jj), .val (.int ja), .val (.int jb), .val (.int jc), .val (.int jf), .val (.int ia), .val (.int ib), .val (.double va), .second, .val (.double vb), .second, .val (.ref b1), .unset, .unset, .unset] [(.int ((jc.toUInt32 >>> ((8 : Int32) &&& 31).toUInt32).toInt32)), (.int ib), (.ref b9), (.ref b9)])) _
    refine XS.sipush X9.here hx rfl (hb hby at_118) ?_
    show Steps p.tables e below (T9.setTop (mkF m 121 #[.val (.int ji), .val (.int jj), .val (.int ja), .val (.int jb), .val (.int jc), .val (.int jf), .val (.int ia), .val (.int ib), .val (.double va), .second, .val (.double vb), .second, .val (.ref b1), .unset, .unset, .unset] [(.int (255 : Int32)), (.int ((jc.toUInt32 >>> ((8 : Int32) &&& 31).toUInt32).toInt32)), (.int ib), (.ref b9), (.ref b9)])) _
    refine XS.iand X9.here hx rfl (hb hby at_121) rfl ?_
    show Steps p.tables e below (T9.setTop (mkF m 122 #[.val (.int ji), .val (.int jj), .val (.int ja), .val (.int jb), .val (.int jc), .val (.int jf), .val (.int ia), .val (.int ib), .val (.double va), .second, .val (.double vb), .second, .val (.ref b1), .unset, .unset, .unset] [(.int (((jc.toUInt32 >>> ((8 : Int32) &&& 31).toUInt32).toInt32) &&& (255 : Int32))), (.int ib), (.ref b9), (.ref b9)])) _
    refine XS.i2c X9.here hx rfl (hb hby at_122) rfl ?_
    show Steps p.tables e below (T9.setTop (mkF m 123 #[.val (.int ji), .val (.int jj), .val (.int ja), .val (.int jb), .val (.int jc), .val (.int jf), .val (.int ia), .val (.int ib), .val (.double va), .second, .val (.double vb), .second, .val (.ref b1), .unset, .unset, .unset] [(.int ((((jc.toUInt32 >>> ((8 : Int32) &&& 31).toUInt32).toInt32) &&& (255 : Int32)).toUInt32.toUInt16.toUInt32.toInt32)), (.int ib), (.ref b9), (.ref b9)])) _
    rw [i2c_mask _]
    show Steps p.tables e below (T9.setTop (mkF m 123 #[.val (.int ji), .val (.int jj), .val (.int ja), .val (.int jb), .val (.int jc), .val (.int jf), .val (.int ia), .val (.int ib), .val (.double va), .second, .val (.double vb), .second, .val (.ref b1), .unset, .unset, .unset] [(.int (((jc.toUInt32 >>> ((8 : Int32) &&& 31).toUInt32).toInt32) &&& (255 : Int32))), (.int ib), (.ref b9), (.ref b9)])) _
    refine st10 _ ?_
    show Steps p.tables e below (T10.setTop (mkF m 126 #[.val (.int ji), .val (.int jj), .val (.int ja), .val (.int jb), .val (.int jc), .val (.int jf), .val (.int ia), .val (.int ib), .val (.double va), .second, .val (.double vb), .second, .val (.ref b1), .unset, .unset, .unset] [(.ref nb_10), (.int ib), (.ref b9), (.ref b9)])) _
    refine XS.dload X10.here hx rfl (hb hby at_126) rfl ?_
    show Steps p.tables e below (T10.setTop (mkF m 128 #[.val (.int ji), .val (.int jj), .val (.int ja), .val (.int jb), .val (.int jc), .val (.int jf), .val (.int ia), .val (.int ib), .val (.double va), .second, .val (.double vb), .second, .val (.ref b1), .unset, .unset, .unset] [(.double vb), (.ref nb_10), (.int ib), (.ref b9), (.ref b9)])) _
    refine st12.trans ?_
    show Steps p.tables e below (T12.setTop (mkF m 131 #[.val (.int ji), .val (.int jj), .val (.int ja), .val (.int jb), .val (.int jc), .val (.int jf), .val (.int ia), .val (.int ib), .val (.double va), .second, .val (.double vb), .second, .val (.ref b1), .unset, .unset, .unset] [(.ref b9)])) _
    refine XS.astore X12.here hx rfl (hb hby at_131) rfl rfl (l' := #[.val (.int ji), .val (.int jj), .val (.int ja), .val (.int jb), .val (.int jc), .val (.int jf), .val (.int ia), .val (.int ib), .val (.double va), .second, .val (.double vb), .second, .val (.ref b1), .val (.ref b9), .unset, .unset]) rfl ?_
    show Steps p.tables e below (T12.setTop (mkF m 133 #[.val (.int ji), .val (.int jj), .val (.int ja), .val (.int jb), .val (.int jc), .val (.int jf), .val (.int ia), .val (.int ib), .val (.double va), .second, .val (.double vb), .second, .val (.ref b1), .val (.ref b9), .unset, .unset] [])) _
    refine XS.dload X12.here hx rfl (hb hby at_133) rfl ?_
    show Steps p.tables e below (T12.setTop (mkF m 135 #[.val (.int ji), .val (.int jj), .val (.int ja), .val (.int jb), .val (.int jc), .val (.int jf), .val (.int ia), .val (.int ib), .val (.double va), .second, .val (.double vb), .second, .val (.ref b1), .val (.ref b9), .unset, .unset] [(.double va)])) _
    refine XS.dload X12.here hx rfl (hb hby at_135) rfl ?_
    show Steps p.tables e below (T12.setTop (mkF m 137 #[.val (.int ji), .val (.int jj), .val (.int ja), .val (.int jb), .val (.int jc), .val (.int jf), .val (.int ia), .val (.int ib), .val (.double va), .second, .val (.double vb), .second, .val (.ref b1), .val (.ref b9), .unset, .unset] [(.double vb), (.double va)])) _
    refine XS.dcmpS X12.here hx rfl (hb hby at_137) rfl rfl ?_
    show Steps p.tables e below (T12.setTop (mkF m 138 #[.val (.int ji), .val (.int jj), .val (.int ja), .val (.int jb), .val (.int jc), .val (.int jf), .val (.int ia), .val (.int ib), .val (.double va), .second, .val (.double vb), .second, .val (.ref b1), .val (.ref b9), .unset, .unset] [(.int (cmpValue (FP.dcmp va vb) .l))])) _
    refine XS.ifYes X12.here hx rfl (pc0 := 138) (pc' := 156) rfl (hb hby at_138) rfl ((if0 _ _).trans (tlt k0).2.2.1) (by decide) (by decide) ?_
    show Steps p.tables e below (T12.setTop (mkF m 156 #[.val (.int ji), .val (.int jj), .val (.int ja), .val (.int jb), .val (.int jc), .val (.int jf), .val (.int ia), .val (.int ib), .val (.double va), .second, .val (.double vb), .second, .val (.ref b1), .val (.ref b9), .unset, .unset] [])) _
    refine XS.iconst X12.here hx rfl (hb hby at_156) ?_
    show Steps p.tables e below (T12.setTop (mkF m 157 #[.val (.int ji), .val (.int jj), .val (.int ja), .val (.int jb), .val (.int jc), .val (.int jf), .val (.int ia), .val (.int ib), .val (.double va), .second, .val (.double vb), .second, .val (.ref b1), .val (.ref b9), .unset, .unset] [(.int (1 : Int32))])) _
    refine XS.goto X12.here hx rfl (pc0 := 157) (pc' := 161) rfl (hb hby at_157) (by decide) (by decide) ?_
    show Steps p.tables e below (T12.setTop (mkF m 161 #[.val (.int ji), .val (.int jj), .val (.int ja), .val (.int jb), .val (.int jc), .val (.int jf), .val (.int ia), .val (.int ib), .val (.double va), .second, .val (.double vb), .second, .val (.ref b1), .val (.ref b9), .unset, .unset] [(.int (1 : Int32))])) _
    refine XS.istore X12.here hx rfl (hb hby at_161) rfl (l' := #[.val (.int ji), .val (.int jj), .val (.int ja), .val (.int jb), .val (.int jc), .val (.int jf), .val (.int ia), .val (.int ib), .val (.double va), .second, .val (.double vb), .second, .val (.ref b1), .val (.ref b9), .val (.int (1 : Int32)), .unset]) rfl ?_
    show Steps p.tables e below (T12.setTop (mkF m 163 #[.val (.int ji), .val (.int jj), .val (.int ja), .val (.int jb), .val (.int jc), .val (.int jf), .val (.int ia), .val (.int ib), .val (.double va), .second, .val (.double vb), .second, .val (.ref b1), .val (.ref b9), .val (.int (1 : Int32)), .unset] [])) _
    refine XS.dload X12.here hx rfl (hb hby at_163) rfl ?_
    show Steps p.tables e below (T12.setTop (mkF m 165 #[.val (.int ji), .val (.int jj), .val (.int ja), .val (.int jb), .val (.int jc), .val (.int jf), .val (.int ia), .val (.int ib), .val (.double va), .second, .val (.double vb), .second, .val (.ref b1), .val (.ref b9), .val (.int (1 : Int32)), .unset] [(.double vb)])) _
    refine XS.dload X12.here hx rfl (hb hby at_165) rfl ?_
    show Steps p.tables e below (T12.setTop (mkF m 167 #[.val (.int ji), .val (.int jj), .val (.int ja), .val (.int jb), .val (.int jc), .val (.int jf), .val (.int ia), .val (.int ib), .val (.double va), .second, .val (.double vb), .second, .val (.ref b1), .val (.ref b9), .val (.int (1 : Int32)), .unset] [(.double va), (.double vb)])) _
    refine XS.dcmpS X12.here hx rfl (hb hby at_167) rfl rfl ?_
    show Steps p.tables e below (T12.setTop (mkF m 168 #[.val (.int ji), .val (.int jj), .val (.int ja), .val (.int jb), .val (.int jc), .val (.int jf), .val (.int ia), .val (.int ib), .val (.double va), .second, .val (.double vb), .second, .val (.ref b1), .val (.ref b9), .val (.int (1 : Int32)), .unset] [(.int (cmpValue (FP.dcmp vb va) .l))])) _
    refine XS.ifNo X12.here hx rfl (hb hby at_168) rfl ((if0 _ _).trans (flt k1).2.2.1) ?_
    show Steps p.tables e below (T12.setTop (mkF m 171 #[.val (.int ji), .val (.int jj), .val (.int ja), .val (.int jb), .val (.int jc), .val (.int jf), .val (.int ia), .val (.int ib), .val (.double va), .second, .val (.double vb), .second, .val (.ref b1), .val (.ref b9), .val (.int (1 : Int32)), .unset] [])) _
    refine XS.dload X12.here hx rfl (hb hby at_171) rfl ?_
    show Steps p.tables e below (T12.setTop (mkF m 173 #[.val (.int ji), .val (.int jj), .val (.int ja), .val (.int jb), .val (.int jc), .val (.int jf), .val (.int ia), .val (.int ib), .val (.double va), .second, .val (.double vb), .second, .val (.ref b1), .val (.ref b9), .val (.int (1 : Int32)), .unset] [(.double va)])) _
    refine XS.dload X12.here hx rfl (hb hby at_173) rfl ?_
    show Steps p.tables e below (T12.setTop (mkF m 175 #[.val (.int ji), .val (.int jj), .val (.int ja), .val (.int jb), .val (.int jc), .val (.int jf), .val (.int ia), .val (.int ib), .val (.double va), .second, .val (.double vb), .second, .val (.ref b1), .val (.ref b9), .val (.int (1 : Int32)), .unset] [(.double vb), (.double va)])) _
    refine XS.dcmpS X12.here hx rfl (hb hby at_175) rfl rfl ?_
    show Steps p.tables e below (T12.setTop (mkF m 176 #[.val (.int ji), .val (.int jj), .val (.int ja), .val (.int jb), .val (.int jc), .val (.int jf), .val (.int ia), .val (.int ib), .val (.double va), .second, .val (.double vb), .second, .val (.ref b1), .val (.ref b9), .val (.int (1 : Int32)), .unset] [(.int (cmpValue (FP.dcmp va vb) .l))])) _
    refine XS.ifYes X12.here hx rfl (pc0 := 176) (pc' := 190) rfl (hb hby at_176) rfl ((if0 _ _).trans (feq k2).2) (by decide) (by decide) ?_
    show Steps p.tables e below (T12.setTop (mkF m 190 #[.val (.int ji), .val (.int jj), .val (.int ja), .val (.int jb), .val (.int jc), .val (.int jf), .val (.int ia), .val (.int ib), .val (.double va), .second, .val (.double vb), .second, .val (.ref b1), .val (.ref b9), .val (.int (1 : Int32)), .unset] [])) _
    refine XS.iconst X12.here hx rfl (hb hby at_190) ?_
    show Steps p.tables e below (T12.setTop (mkF m 191 #[.val (.int ji), .val (.int jj), .val (.int ja), .val (.int jb), .val (.int jc), .val (.int jf), .val (.int ia), .val (.int ib), .val (.double va), .second, .val (.double vb), .second, .val (.ref b1), .val (.ref b9), .val (.int (1 : Int32)), .unset] [(.int (0 : Int32))])) _
    refine XS.istore X12.here hx rfl (hb hby at_191) rfl (l' := #[.val (.int ji), .val (.int jj), .val (.int ja), .val (.int jb), .val (.int jc), .val (.int jf), .val (.int ia), .val (.int ib), .val (.double va), .second, .val (.double vb), .second, .val (.ref b1), .val (.ref b9), .val (.int (1 : Int32)), .val (.int (0 : Int32))]) rfl ?_
    show Steps p.tables e below (T12.setTop (mkF m 193 #[.val (.int ji), .val (.int jj), .val (.int ja), .val (.int jb), .val (.int jc), .val (.int jf), .val (.int ia), .val (.int ib), .val (.double va), .second, .val (.double vb), .second, .val (.ref b1), .val (.ref b9), .val (.int (1 : Int32)), .val (.int (0 : Int32))] [])) _
    refine XS.aload X12.here hx rfl (hb hby at_193) rfl rfl ?_
    show Steps p.tables e below (T12.setTop (mkF m 195 #[.val (.int ji), .val (.int jj), .val (.int ja), .val (.int jb), .val (.int jc), .val (.int jf), .val (.int ia), .val (.int ib), .val (.double va), .second, .val (.double vb), .second, .val (.ref b1), .val (.ref b9), .val (.int (1 : Int32)), .val (.int (0 : Int32))] [(.ref b1)])) _
    refine XS.aload X12.here hx rfl (hb hby at_195) rfl rfl ?_
    show Steps p.tables e below (T12.setTop (mkF m 197 #[.val (.int ji), .val (.int jj), .val (.int ja), .val (.int jb), .val (.int jc), .val (.int jf), .val (.int ia), .val (.int ib), .val (.double va), .second, .val (.double vb), .second, .val (.ref b1), .val (.ref b9), .val (.int (1 : Int32)), .val (.int (0 : Int32))] [(.ref b9), (.ref b1)])) _
    refine st17.trans ?_
    show Steps p.tables e below (T17.setTop (mkF m 200 #[.val (.int ji), .val (.int jj), .val (.int ja), .val (.int jb), .val (.int jc), .val (.int jf), .val (.int ia), .val (.int ib), .val (.double va), .second, .val (.double vb), .second, .val (.ref b1), .val (.ref b9), .val (.int (1 : Int32)), .val (.int (0 : Int32))] [(.int (1 : Int32))])) _
    refine XS.iload X17.here hx rfl (hb hby at_200) rfl ?_
    show Steps p.tables e below (T17.setTop (mkF m 202 #[.val (.int ji), .val (.int jj), .val (.int ja), .val (.int jb), .val (.int jc), .val (.int jf), .val (.int ia), .val (.int ib), .val (.double va), .second, .val (.double vb), .second, .val (.ref b1), .val (.ref b9), .val (.int (1 : Int32)), .val (.int (0 : Int32))] [(.int (1 : Int32)), (.int (1 : Int32))])) _
    refine XS.icmpNo X17.here hx rfl (hb hby at_202) rfl (teq (rfl : (1 : Int32) = (1 : Int32))).2 ?_
    show Steps p.tables e below (T17.setTop (mkF m 205 #[.val (.int ji), .val (.int jj), .val (.int ja), .val (.int jb), .val (.int jc), .val (.int jf), .val (.int ia), .val (.int ib), .val (.double va), .second, .val (.double vb), .second, .val (.ref b1), .val (.ref b9), .val (.int (1 : Int32)), .val (.int (0 : Int32))] [])) _
    refine XS.aload X17.here hx rfl (hb hby at_205) rfl rfl ?_
    show Steps p.tables e below (T17.setTop (mkF m 207 #[.val (.int ji), .val (.int jj), .val (.int ja), .val (.int jb), .val (.int jc), .val (.int jf), .val (.int ia), .val (.int ib), .val (.double va), .second, .val (.double vb), .second, .val (.ref b1), .val (.ref b9), .val (.int (1 : Int32)), .val (.int (0 : Int32))] [(.ref b9)])) _
    refine XS.aload X17.here hx rfl (hb hby at_207) rfl rfl ?_
    show Steps p.tables e below (T17.setTop (mkF m 209 #[.val (.int ji), .val (.int jj), .val (.int ja), .val (.int jb), .val (.int jc), .val (.int jf), .val (.int ia), .val (.int ib), .val (.double va), .second, .val (.double vb), .second, .val (.ref b1), .val (.ref b9), .val (.int (1 : Int32)), .val (.int (0 : Int32))] [(.ref b1), (.ref b9)])) _
    refine st21.trans ?_
    show Steps p.tables e below (T21.setTop (mkF m 212 #[.val (.int ji), .val (.int jj), .val (.int ja), .val (.int jb), .val (.int jc), .val (.int jf), .val (.int ia), .val (.int ib), .val (.double va), .second, .val (.double vb), .second, .val (.ref b1), .val (.ref b9), .val (.int (1 : Int32)), .val (.int (0 : Int32))] [(.int (0 : Int32))])) _
    refine XS.iload X21.here hx rfl (hb hby at_212) rfl ?_
    show Steps p.tables e below (T21.setTop (mkF m 214 #[.val (.int ji), .val (.int jj), .val (.int ja), .val (.int jb), .val (.int jc), .val (.int jf), .val (.int ia), .val (.int ib), .val (.double va), .second, .val (.double vb), .second, .val (.ref b1), .val (.ref b9), .val (.int (1 : Int32)), .val (.int (0 : Int32))] [(.int (0 : Int32)), (.int (0 : Int32))])) _
    refine XS.icmpNo X21.here hx rfl (hb hby at_214) rfl (teq (rfl : (0 : Int32) = (0 : Int32))).2 ?_
    show Steps p.tables e below (T21.setTop (mkF m 217 #[.val (.int ji), .val (.int jj), .val (.int ja), .val (.int jb), .val (.int jc), .val (.int jf), .val (.int ia), .val (.int ib), .val (.double va), .second, .val (.double vb), .second, .val (.ref b1), .val (.ref b9), .val (.int (1 : Int32)), .val (.int (0 : Int32))] [])) _
    refine XS.aload X21.here hx rfl (hb hby at_217) rfl rfl ?_
    show Steps p.tables e below (T21.setTop (mkF m 219 #[.val (.int ji), .val (.int jj), .val (.int ja), .val (.int jb), .val (.int jc), .val (.int jf), .val (.int ia), .val (.int ib), .val (.double va), .second, .val (.double vb), .second, .val (.ref b1), .val (.ref b9), .val (.int (1 : Int32)), .val (.int (0 : Int32))] [(.ref b1)])) _
    refine XS.aload X21.here hx rfl (hb hby at_219) rfl rfl ?_
    show Steps p.tables e below (T21.setTop (mkF m 221 #[.val (.int ji), .val (.int jj), .val (.int ja), .val (.int jb), .val (.int jc), .val (.int jf), .val (.int ia), .val (.int ib), .val (.double va), .second, .val (.double vb), .second, .val (.ref b1), .val (.ref b9), .val (.int (1 : Int32)), .val (.int (0 : Int32))] [(.ref b1), (.ref b1)])) _
    refine st22.trans ?_
    show Steps p.tables e below (T22.setTop (mkF m 224 #[.val (.int ji), .val (.int jj), .val (.int ja), .val (.int jb), .val (.int jc), .val (.int jf), .val (.int ia), .val (.int ib), .val (.double va), .second, .val (.double vb), .second, .val (.ref b1), .val (.ref b9), .val (.int (1 : Int32)), .val (.int (0 : Int32))] [(.int (0 : Int32))])) _
    refine XS.ifNo X22.here hx rfl (hb hby at_224) rfl ((if0 _ _).trans (teq (rfl : (0 : Int32) = (0 : Int32))).2) ?_
    show Steps p.tables e below (T22.setTop (mkF m 227 #[.val (.int ji), .val (.int jj), .val (.int ja), .val (.int jb), .val (.int jc), .val (.int jf), .val (.int ia), .val (.int ib), .val (.double va), .second, .val (.double vb), .second, .val (.ref b1), .val (.ref b9), .val (.int (1 : Int32)), .val (.int (0 : Int32))] [])) _
    refine XS.iconst X22.here hx rfl (hb hby at_227) ?_
    show Steps p.tables e below (T22.setTop (mkF m 228 #[.val (.int ji), .val (.int jj), .val (.int ja), .val (.int jb), .val (.int jc), .val (.int jf), .val (.int ia), .val (.int ib), .val (.double va), .second, .val (.double vb), .second, .val (.ref b1), .val (.ref b9), .val (.int (1 : Int32)), .val (.int (0 : Int32))] [(.int (1 : Int32))])) _
    refine XS.goto X22.here hx rfl (pc0 := 228) (pc' := 232) rfl (hb hby at_228) (by decide) (by decide) ?_
    show Steps p.tables e below (T22.setTop (mkF m 232 #[.val (.int ji), .val (.int jj), .val (.int ja), .val (.int jb), .val (.int jc), .val (.int jf), .val (.int ia), .val (.int ib), .val (.double va), .second, .val (.double vb), .second, .val (.ref b1), .val (.ref b9), .val (.int (1 : Int32)), .val (.int (0 : Int32))] [(.int (1 : Int32))])) _
    exact retN X22 hx (t := .boolean) Bd.returns (by simp) (hb hby at_232) hr
  · show Q_rm0_gt Z ji jj ja jb jc jf ia ib va vb s_CS h0 n0 _ T22.heap _
    rw [e22]
    exact ⟨rfl, N22⟩
def Q_rm0_lt (Z : State) (ji : Int32) (jj : Int32) (ja : Int32) (jb : Int32) (jc : Int32) (jf : Int32) (ia : Int32) (ib : Int32) (va : UInt64) (vb : UInt64) (s_CS : Int32) (h0 : Heap) (n0 : Nat) (v : Option Value) (h : Heap) (L : List Loc) : Prop := v = some (.int (1 : Int32)) ∧ Fr n0 L
theorem ef_rm0_lt (m : MethodId) (ji : Int32) (jj : Int32) (ja : Int32) (jb : Int32) (jc : Int32) (jf : Int32) : entryFrame m #[(.int ji), (.int jj), (.int ja), (.int jb), (.int jc), (.int jf)] maxLocals = mkF m 0 #[.val (.int ji), .val (.int jj), .val (.int ja), .val (.int jb), .val (.int jc), .val (.int jf), .unset, .unset, .unset, .unset, .unset, .unset, .unset, .unset, .unset, .unset] [] := by first | (simp [entryFrame, mkF, argsToLocals, Value.category, maxLocals]; done) | rfl
set_option maxRecDepth 65536 in
set_option maxHeartbeats 40000000 in
theorem rm0_lt (l : Launch) (Z : State) (a0 : Array Value) (hw : ∀ d ∈ tables_1, d.before a0 Z = true) (ws : List Jvm.Cond) (ji : Int32) (jj : Int32) (ja : Int32) (jb : Int32) (jc : Int32) (jf : Int32) (ia : Int32) (ib : Int32) (va : UInt64) (vb : UInt64) (s_CS : Int32) (h0 : Heap) (n0 : Nat) (Z0 : n0 ≤ h0.size) (hwS : ∀ a ∈ Bundle.stringAtoms, a.before a0 Z = true) (S_CS : Sta Z h0 "java/lang/String" "COMPACT_STRINGS" "Z" (.int s_CS)) (hcs : ¬ (s_CS = (0 : Int32))) (hia : (ji &&& (2147483647 : Int32)) = ia) (hib : (own_ib ji jj jf) = ib) (hva : (own_v ja jf 2) = va) (hvb : (own_v jb jf 4) = vb) (gia : ¬ (ia < (0 : Int32))) (gib : ¬ (ib < (0 : Int32))) (ma : va ∈ own_tab) (mb : vb ∈ own_tab) (k0 : ¬ ((0 : Int32) < (cmpValue (FP.dcmp va vb) .l))) (k1 : (0 : Int32) < (cmpValue (FP.dcmp vb va) .l)) (k2 : ¬ ((cmpValue (FP.dcmp va vb) .l) = (0 : Int32))) (k3 : (cmpValue (FP.dcmp (FP.dadd va 0) (FP.dadd vb 0)) .g) < (0 : Int32)) (k4 : ¬ ((cmpValue (FP.dcmp (FP.dadd vb 0) (FP.dadd va 0)) .g) < (0 : Int32))) (k5 : (0 : Int32) < (cmpValue (FP.dcmp (FP.dadd vb 0) (FP.dadd va 0)) .l)) :
    MetFree l x (head1 (Jvm.Cond.code x code maxLocals ret :: ws) room_1) (fun a U => a = #[(.int ji), (.int jj), (.int ja), (.int jb), (.int jc), (.int jf)] ∧ Z.Warmed39 U.vm ∧ U.heap = h0) (fun _ _ _ _ _ => True) (fun _ U o U' => ∃ v L, o = .returned v ∧ Q_rm0_lt Z ji jj ja jb jc jf ia ib va vb s_CS h0 n0 v U'.heap L ∧ ReturnedEndW U o U' L room_1.cells room_1.slots) := by
  refine MetFree.of_bodySF (plainFor_of_name pn_9) hisR ?_
  intro p e s m args below meth c s₁ Bd hml0 hP hK
  obtain ⟨rfl, hZ, hh⟩ := hP
  have hx := Bd.exec
  have hby := Bd.bytes
  have hml : c.maxLocals = 16 := hml0
  have hown : s.vm.findClass "com/example/sortition/sortition/ElementOutranksPinLaw" = some m.cls := findClass_of_methodNamed Bd.named
  have hnm := (name_of_methodNamed Bd.named Bd.method).1
  have X0 : Stand p l e room_1 s m #[(.int ji), (.int jj), (.int ja), (.int jb), (.int jc), (.int jf)] below meth c s₁ [] 0 0 := Stand.of_body Bd
  have e0 : s₁.heap = h0 := by rw [← hh, Bd.state]; rfl
  have N0 := Fr.nil n0
  have hS0 := (State.WarmedH.refl s).since 0
  have pre0 : ∀ t, Steps p.tables e below (s₁.setTop (mkF m 0 #[.val (.int ji), .val (.int jj), .val (.int ja), .val (.int jb), .val (.int jc), .val (.int jf), .unset, .unset, .unset, .unset, .unset, .unset, .unset, .unset, .unset, .unset] [])) t → Steps p.tables e below (s₁.setTop (entryFrame m #[(.int ji), (.int jj), (.int ja), (.int jb), (.int jc), (.int jf)] maxLocals)) t := fun t k => castTop (ef_rm0_lt m ji jj ja jb jc jf) k
  have stp := own_pre ji jj ja jb jc jf X0 hx hZ hw hby hown
  rw [hia, hib, hva, hvb] at stp
  obtain ⟨T1, h1, X1, e1, E1, A1, D1, -, st1⟩ := newO X0 hx hZ hown (hw _ (List.mem_of_getElem? (i := 2) rfl)) (hw _ (List.mem_of_getElem? (i := 3) rfl)) (hw _ (List.mem_of_getElem? (i := 4) rfl)) e0 (g := (mkF m 84 #[.val (.int ji), .val (.int jj), .val (.int ja), .val (.int jb), .val (.int jc), .val (.int jf), .val (.int ia), .val (.int ib), .val (.double va), .second, .val (.double vb), .second, .unset, .unset, .unset, .unset] [])) rfl (hb hby at_84) (by decide) (by decide)
  obtain ⟨b1, g1⟩ : ∃ z, z = h0.size := ⟨_, rfl⟩
  rw [← g1] at A1 D1 st1
  have F1_2 : Fld Z h1 b1 "com/example/sortition/sortition/Element" "index" "I" (.int (0 : Int32)) := D1 (Or.inr (hw _ (List.mem_of_getElem? (i := 54) rfl))) (ty := .int) (by decide)
  have F1_3 : Fld Z h1 b1 "com/example/sortition/sortition/Element" "id" "Ljava/lang/String;" .null := D1 (Or.inr (hw _ (List.mem_of_getElem? (i := 56) rfl))) (ty := (.object "java/lang/String")) (by decide)
  have F1_4 : Fld Z h1 b1 "com/example/sortition/sortition/Element" "value" "D" (.double 0) := D1 (Or.inr (hw _ (List.mem_of_getElem? (i := 58) rfl))) (ty := .double) (by decide)
  have f3 : Sta Z h1 "java/lang/String" "COMPACT_STRINGS" "Z" (.int s_CS) := (S_CS.ext E1)
  obtain ⟨_, _, ⟨T2, L2, k2, n2⟩, -, X2, ⟨Lc2, hQ2, l2, y2, z2⟩, st2⟩ := Jvm.LawKit.callS X1 hx (y := (⟨"java/lang/String", "valueOf", "(C)Ljava/lang/String;"⟩ : MethodName)) hown (mvT hZ (hw _ (List.mem_of_getElem? (i := 5) rfl))) (mvT hZ (hw _ (List.mem_of_getElem? (i := 6) rfl))) (mvT hZ (hw _ (List.mem_of_getElem? (i := 7) rfl))) (mvT hZ (hw _ (List.mem_of_getElem? (i := 8) rfl))) (by decide) (backOf (W := 3) (rmVO l Z a0 hw [] (jc &&& (255 : Int32)) s_CS h1 n0 (Nat.le_trans Z0 E1.1) (own_255 _) f3 hcs) hZ (hw _ (List.mem_of_getElem? (i := 8) rfl)) (hw _ (List.mem_of_getElem? (i := 7) rfl)) (by decide) (by decide)) (g := (mkF m 97 #[.val (.int ji), .val (.int jj), .val (.int ja), .val (.int jb), .val (.int jc), .val (.int jf), .val (.int ia), .val (.int ib), .val (.double va), .second, .val (.double vb), .second, .unset, .unset, .unset, .unset] [(.int (jc &&& (255 : Int32))), (.int ia), (.ref b1), (.ref b1)])) rfl (by rw [hml]; rfl) (argsL := [(.int (jc &&& (255 : Int32)))]) (rest := [(.int ia), (.ref b1), (.ref b1)]) (lenOf pd_11 rfl) rfl (by show 2 * 0 + _ ≤ _; exact Nat.le_of_eq rfl) (hb hby at_97) (fun _ _ => ⟨rfl, e1, (by decide : 1 + 2 ≤ _), (by decide : 3 + 5 ≤ _)⟩)
  dsimp only [Pt.U, Pt.locs, Pt.cells, Pt.slots] at X2 l2 y2 z2 st2 hQ2
  subst l2 y2 z2
  obtain ⟨nb_2, ab_2, kb_2, rfl, Nq2, gb2_0, gb2_1, Kp2, Fq2_0, Fq2_1, Fq2_2⟩ := hQ2
  have N2 := Fr.app N0 Nq2
  have f5 : Fld Z T2.heap b1 "com/example/sortition/sortition/Element" "index" "I" (.int (0 : Int32)) := (F1_2.keep Kp2 nin0)
  have f6 : Exa Z T2.heap b1 "com/example/sortition/sortition/Element" := (A1.keep Kp2)
  have f7 : Fld Z T2.heap b1 "com/example/sortition/sortition/Element" "id" "Ljava/lang/String;" .null := (F1_3.keep Kp2 nin0)
  have f8 : Fld Z T2.heap b1 "com/example/sortition/sortition/Element" "value" "D" (.double 0) := (F1_4.keep Kp2 nin0)
  obtain ⟨_, _, ⟨T4, L4, k4, n4⟩, -, X4, hSq4, hgq4, ⟨Lc4, hQ4, l4, y4, z4⟩, st4⟩ := X2.specialBackS hx (y := (⟨"com/example/sortition/sortition/Element", "<init>", "(ILjava/lang/String;D)V"⟩ : MethodName)) rfl hown (mvT hZ (hw _ (List.mem_of_getElem? (i := 31) rfl))) (mvT hZ (hw _ (List.mem_of_getElem? (i := 32) rfl))) (mvT hZ (hw _ (List.mem_of_getElem? (i := 33) rfl))) (by decide) (backOfS (W := 1) (rmEI l Z a0 hw [] b1 ia nb_2 va ab_2 kb_2 [(.int (nar .byte ((jc &&& (255 : Int32)).toInt8.toInt32)))] (.int (0 : Int32)) .null (.double 0) T2.heap n0 (Nat.le_trans (Nat.le_trans Z0 E1.1) Kp2.1) hwS Fq2_0 Fq2_1 Fq2_2 gia (own_ge0 _ ma) (own_inf _ ma) (own_nn0 ma) f5 f6 (Nat.le_trans Z0 (Nat.le_of_eq g1.symm)) f7 f8) hZ (hw _ (List.mem_of_getElem? (i := 33) rfl)) (hw _ (List.mem_of_getElem? (i := 4) rfl)) (by decide) (by decide)) (g := (mkF m 102 #[.val (.int ji), .val (.int jj), .val (.int ja), .val (.int jb), .val (.int jc), .val (.int jf), .val (.int ia), .val (.int ib), .val (.double va), .second, .val (.double vb), .second, .unset, .unset, .unset, .unset] [(.double va), (.ref nb_2), (.int ia), (.ref b1), (.ref b1)])) rfl (by rw [hml]; rfl) (Steps.refl _) (a := b1) (argsL := [(.int ia), (.ref nb_2), (.double va)]) (rest := [(.ref b1)]) (lenOf pd_12 rfl) rfl (by show 2 * 0 + _ ≤ _; exact Nat.le_of_eq rfl) (hb hby at_102) (fun _ _ => ⟨rfl, rfl, (by decide : 3 + 2 ≤ _), (by decide : 8 + 12 ≤ _)⟩)
  dsimp only [Pt.U, Pt.locs, Pt.cells, Pt.slots] at X4 l4 y4 z4 st4 hQ4 hSq4 hgq4
  subst l4 y4 z4
  obtain ⟨X4, hS4, hZ4, hown4⟩ := rebS (s := s) (vm0 := s.vm) hS0 (Nat.le_trans (Nat.le_trans (Nat.zero_le _) E1.1) Kp2.1) X4 hSq4 hgq4 hZ hown
  obtain ⟨rfl, Nq4, Kp4, Fq4_0, Fq4_1, Fq4_2⟩ := hQ4
  have N4 := Fr.app N2 Nq4
  obtain ⟨T9, h9, X9, e9, E9, A9, D9, -, st9⟩ := newO X4 hx hZ4 hown4 (hw _ (List.mem_of_getElem? (i := 2) rfl)) (hw _ (List.mem_of_getElem? (i := 3) rfl)) (hw _ (List.mem_of_getElem? (i := 4) rfl)) rfl (g := (mkF m 107 #[.val (.int ji), .val (.int jj), .val (.int ja), .val (.int jb), .val (.int jc), .val (.int jf), .val (.int ia), .val (.int ib), .val (.double va), .second, .val (.double vb), .second, .val (.ref b1), .unset, .unset, .unset] [])) rfl (hb hby at_107) (by decide) (by decide)
  obtain ⟨b9, g9⟩ : ∃ z, z = T4.heap.size := ⟨_, rfl⟩
  rw [← g9] at A9 D9 st9
  have F9_9 : Fld Z h9 b9 "com/example/sortition/sortition/Element" "index" "I" (.int (0 : Int32)) := D9 (Or.inr (hw _ (List.mem_of_getElem? (i := 54) rfl))) (ty := .int) (by decide)
  have F9_10 : Fld Z h9 b9 "com/example/sortition/sortition/Element" "id" "Ljava/lang/String;" .null := D9 (Or.inr (hw _ (List.mem_of_getElem? (i := 56) rfl))) (ty := (.object "java/lang/String")) (by decide)
  have F9_11 : Fld Z h9 b9 "com/example/sortition/sortition/Element" "value" "D" (.double 0) := D9 (Or.inr (hw _ (List.mem_of_getElem? (i := 58) rfl))) (ty := .double) (by decide)
  have f11 : Sta Z h9 "java/lang/String" "COMPACT_STRINGS" "Z" (.int s_CS) := ((Sta_keep (Sta_keep f3 Kp2 ns0) Kp4 (nsS f6.nostat ns0)).ext E9)
  obtain ⟨_, _, ⟨T10, L10, k10, n10⟩, -, X10, ⟨Lc10, hQ10, l10, y10, z10⟩, st10⟩ := Jvm.LawKit.callS X9 hx (y := (⟨"java/lang/String", "valueOf", "(C)Ljava/lang/String;"⟩ : MethodName)) hown4 (mvT hZ4 (hw _ (List.mem_of_getElem? (i := 5) rfl))) (mvT hZ4 (hw _ (List.mem_of_getElem? (i := 6) rfl))) (mvT hZ4 (hw _ (List.mem_of_getElem? (i := 7) rfl))) (mvT hZ4 (hw _ (List.mem_of_getElem? (i := 8) rfl))) (by decide) (backOf (W := 3) (rmVO l Z a0 hw [] (((jc.toUInt32 >>> ((8 : Int32) &&& 31).toUInt32).toInt32) &&& (255 : Int32)) s_CS h9 n0 (Nat.le_trans (Nat.le_trans (Nat.le_trans (Nat.le_trans Z0 E1.1) Kp2.1) Kp4.1) E9.1) (own_255 _) f11 hcs) hZ4 (hw _ (List.mem_of_getElem? (i := 8) rfl)) (hw _ (List.mem_of_getElem? (i := 7) rfl)) (by decide) (by decide)) (g := (mkF m 123 #[.val (.int ji), .val (.int jj), .val (.int ja), .val (.int jb), .val (.int jc), .val (.int jf), .val (.int ia), .val (.int ib), .val (.double va), .second, .val (.double vb), .second, .val (.ref b1), .unset, .unset, .unset] [(.int (((jc.toUInt32 >>> ((8 : Int32) &&& 31).toUInt32).toInt32) &&& (255 : Int32))), (.int ib), (.ref b9), (.ref b9)])) rfl (by rw [hml]; rfl) (argsL := [(.int (((jc.toUInt32 >>> ((8 : Int32) &&& 31).toUInt32).toInt32) &&& (255 : Int32)))]) (rest := [(.int ib), (.ref b9), (.ref b9)]) (lenOf pd_11 rfl) rfl (by show 2 * 0 + _ ≤ _; exact Nat.le_of_eq rfl) (hb hby at_123) (fun _ _ => ⟨rfl, e9, (by decide : 6 + 2 ≤ _), (by decide : 23 + 5 ≤ _)⟩)
  dsimp only [Pt.U, Pt.locs, Pt.cells, Pt.slots] at X10 l10 y10 z10 st10 hQ10
  subst l10 y10 z10
  obtain ⟨nb_10, ab_10, kb_10, rfl, Nq10, gb10_0, gb10_1, Kp10, Fq10_0, Fq10_1, Fq10_2⟩ := hQ10
  have N10 := Fr.app N4 Nq10
  have f13 : Fld Z T10.heap b9 "com/example/sortition/sortition/Element" "index" "I" (.int (0 : Int32)) := (F9_9.keep Kp10 nin0)
  have f14 : Exa Z T10.heap b9 "com/example/sortition/sortition/Element" := (A9.keep Kp10)
  have f15 : Fld Z T10.heap b9 "com/example/sortition/sortition/Element" "id" "Ljava/lang/String;" .null := (F9_10.keep Kp10 nin0)
  have f16 : Fld Z T10.heap b9 "com/example/sortition/sortition/Element" "value" "D" (.double 0) := (F9_11.keep Kp10 nin0)
  obtain ⟨_, _, ⟨T12, L12, k12, n12⟩, -, X12, hSq12, hgq12, ⟨Lc12, hQ12, l12, y12, z12⟩, st12⟩ := X10.specialBackS hx (y := (⟨"com/example/sortition/sortition/Element", "<init>", "(ILjava/lang/String;D)V"⟩ : MethodName)) rfl hown4 (mvT hZ4 (hw _ (List.mem_of_getElem? (i := 31) rfl))) (mvT hZ4 (hw _ (List.mem_of_getElem? (i := 32) rfl))) (mvT hZ4 (hw _ (List.mem_of_getElem? (i := 33) rfl))) (by decide) (backOfS (W := 1) (rmEI l Z a0 hw [] b9 ib nb_10 vb ab_10 kb_10 [(.int (nar .byte ((((jc.toUInt32 >>> ((8 : Int32) &&& 31).toUInt32).toInt32) &&& (255 : Int32)).toInt8.toInt32)))] (.int (0 : Int32)) .null (.double 0) T10.heap n0 (Nat.le_trans (Nat.le_trans (Nat.le_trans (Nat.le_trans (Nat.le_trans Z0 E1.1) Kp2.1) Kp4.1) E9.1) Kp10.1) hwS Fq10_0 Fq10_1 Fq10_2 gib (own_ge0 _ mb) (own_inf _ mb) (own_nn0 mb) f13 f14 (Nat.le_trans (Nat.le_trans (Nat.le_trans (Nat.le_trans Z0 E1.1) Kp2.1) Kp4.1) (Nat.le_of_eq g9.symm)) f15 f16) hZ4 (hw _ (List.mem_of_getElem? (i := 33) rfl)) (hw _ (List.mem_of_getElem? (i := 4) rfl)) (by decide) (by decide)) (g := (mkF m 128 #[.val (.int ji), .val (.int jj), .val (.int ja), .val (.int jb), .val (.int jc), .val (.int jf), .val (.int ia), .val (.int ib), .val (.double va), .second, .val (.double vb), .second, .val (.ref b1), .unset, .unset, .unset] [(.double vb), (.ref nb_10), (.int ib), (.ref b9), (.ref b9)])) rfl (by rw [hml]; rfl) (Steps.refl _) (a := b9) (argsL := [(.int ib), (.ref nb_10), (.double vb)]) (rest := [(.ref b9)]) (lenOf pd_12 rfl) rfl (by show 2 * 0 + _ ≤ _; exact Nat.le_of_eq rfl) (hb hby at_128) (fun _ _ => ⟨rfl, rfl, (by decide : 8 + 2 ≤ _), (by decide : 28 + 12 ≤ _)⟩)
  dsimp only [Pt.U, Pt.locs, Pt.cells, Pt.slots] at X12 l12 y12 z12 st12 hQ12 hSq12 hgq12
  subst l12 y12 z12
  obtain ⟨X12, hS12, hZ12, hown12⟩ := rebS (s := s) (vm0 := T4.vm) hS4 (Nat.le_trans (Nat.le_trans (Nat.le_refl _) E9.1) Kp10.1) X12 hSq12 hgq12 hZ4 hown4
  obtain ⟨rfl, Nq12, Kp12, Fq12_0, Fq12_1, Fq12_2⟩ := hQ12
  have N12 := Fr.app N10 Nq12
  have f18 : Fld Z T12.heap b1 "com/example/sortition/sortition/Element" "value" "D" (.double (FP.dadd va 0)) := (((Fq4_2.ext E9).keep Kp10 nin0).keep Kp12 (ninS (Nat.ne_of_lt (Nat.lt_of_lt_of_le Fq4_0.lt (Nat.le_of_eq g9.symm))) nin0))
  have f19 : Fld Z T12.heap b1 "com/example/sortition/sortition/Element" "index" "I" (.int ia) := (((Fq4_1.ext E9).keep Kp10 nin0).keep Kp12 (ninS (Nat.ne_of_lt (Nat.lt_of_lt_of_le Fq4_0.lt (Nat.le_of_eq g9.symm))) nin0))
  have f20 : Exa Z T12.heap b1 "com/example/sortition/sortition/Element" := (((Fq4_0.ext E9).keep Kp10).keep Kp12)
  obtain ⟨cq17, kq17, q17a, q17b, q17c⟩ := isOf hZ12 rfl f20
  obtain ⟨_, _, ⟨T17, L17, k17, n17⟩, -, X17, ⟨Lc17, hQ17, l17, y17, z17⟩, st17⟩ := X12.virtualBack hx (y := (⟨"com/example/sortition/sortition/Element", "outranks", "(Lcom/example/sortition/sortition/Element;)Z"⟩ : MethodName)) (z := (⟨"com/example/sortition/sortition/Element", "outranks", "(Lcom/example/sortition/sortition/Element;)Z"⟩ : MethodName)) hown12 (mvT hZ12 (hw _ (List.mem_of_getElem? (i := 59) rfl))) (mvT hZ12 (hw _ (List.mem_of_getElem? (i := 60) rfl))) (notFace_of_selects (args := #[]) (mvT hZ12 (hw _ (List.mem_of_getElem? (i := 62) rfl)))) (mvT hZ12 (hw _ (List.mem_of_getElem? (i := 62) rfl))) (mvT hZ12 (hw _ (List.mem_of_getElem? (i := 61) rfl))) (by decide) (backOf (W := 0) (rmOR_lt l Z a0 hw [] b1 b9 ia (FP.dadd va 0) ib (FP.dadd vb 0) T12.heap n0 (Nat.le_trans (Nat.le_trans (Nat.le_trans (Nat.le_trans (Nat.le_trans (Nat.le_trans Z0 E1.1) Kp2.1) Kp4.1) E9.1) Kp10.1) Kp12.1) f18 f19 Fq12_2 Fq12_1 k3) hZ12 (hw _ (List.mem_of_getElem? (i := 63) rfl)) (hw _ (List.mem_of_getElem? (i := 4) rfl)) (by decide) (by decide)) q17a q17c (g := (mkF m 197 #[.val (.int ji), .val (.int jj), .val (.int ja), .val (.int jb), .val (.int jc), .val (.int jf), .val (.int ia), .val (.int ib), .val (.double va), .second, .val (.double vb), .second, .val (.ref b1), .val (.ref b9), .val (.int (0 : Int32)), .val (.int (1 : Int32))] [(.ref b9), (.ref b1)])) rfl (by rw [hml]; rfl) (Steps.refl _) (argsL := [(.ref b9)]) (rest := []) (lenOf pd_13 rfl) rfl (by show 2 * 0 + _ ≤ _; exact Nat.le_of_eq rfl) (hb hby at_197) (fun _ _ => ⟨rfl, rfl, (by decide : 10 + 0 ≤ _), (by decide : 40 + 0 ≤ _)⟩)
  dsimp only [Pt.U, Pt.locs, Pt.cells, Pt.slots] at X17 l17 y17 z17 st17 hQ17
  subst l17 y17 z17
  obtain ⟨rfl, Nq17, e17⟩ := hQ17
  have N17 := Fr.app N12 Nq17
  obtain ⟨cq21, kq21, q21a, q21b, q21c⟩ := isOf hZ12 e17 Fq12_0
  obtain ⟨_, _, ⟨T21, L21, k21, n21⟩, -, X21, ⟨Lc21, hQ21, l21, y21, z21⟩, st21⟩ := X17.virtualBack hx (y := (⟨"com/example/sortition/sortition/Element", "outranks", "(Lcom/example/sortition/sortition/Element;)Z"⟩ : MethodName)) (z := (⟨"com/example/sortition/sortition/Element", "outranks", "(Lcom/example/sortition/sortition/Element;)Z"⟩ : MethodName)) hown12 (mvT hZ12 (hw _ (List.mem_of_getElem? (i := 59) rfl))) (mvT hZ12 (hw _ (List.mem_of_getElem? (i := 60) rfl))) (notFace_of_selects (args := #[]) (mvT hZ12 (hw _ (List.mem_of_getElem? (i := 62) rfl)))) (mvT hZ12 (hw _ (List.mem_of_getElem? (i := 62) rfl))) (mvT hZ12 (hw _ (List.mem_of_getElem? (i := 61) rfl))) (by decide) (backOf (W := 0) (rmOR_gt l Z a0 hw [] b9 b1 ib (FP.dadd vb 0) ia (FP.dadd va 0) T12.heap n0 (Nat.le_trans (Nat.le_trans (Nat.le_trans (Nat.le_trans (Nat.le_trans (Nat.le_trans Z0 E1.1) Kp2.1) Kp4.1) E9.1) Kp10.1) Kp12.1) Fq12_2 Fq12_1 f18 f19 k4 k5) hZ12 (hw _ (List.mem_of_getElem? (i := 63) rfl)) (hw _ (List.mem_of_getElem? (i := 4) rfl)) (by decide) (by decide)) q21a q21c (g := (mkF m 209 #[.val (.int ji), .val (.int jj), .val (.int ja), .val (.int jb), .val (.int jc), .val (.int jf), .val (.int ia), .val (.int ib), .val (.double va), .second, .val (.double vb), .second, .val (.ref b1), .val (.ref b9), .val (.int (0 : Int32)), .val (.int (1 : Int32))] [(.ref b1), (.ref b9)])) rfl (by rw [hml]; rfl) (Steps.refl _) (argsL := [(.ref b1)]) (rest := []) (lenOf pd_13 rfl) rfl (by show 2 * 0 + _ ≤ _; exact Nat.le_of_eq rfl) (hb hby at_209) (fun _ _ => ⟨rfl, e17, (by decide : 10 + 0 ≤ _), (by decide : 40 + 0 ≤ _)⟩)
  dsimp only [Pt.U, Pt.locs, Pt.cells, Pt.slots] at X21 l21 y21 z21 st21 hQ21
  subst l21 y21 z21
  obtain ⟨rfl, Nq21, e21⟩ := hQ21
  have N21 := Fr.app N17 Nq21
  obtain ⟨cq22, kq22, q22a, q22b, q22c⟩ := isOf hZ12 e21 f20
  obtain ⟨_, _, ⟨T22, L22, k22, n22⟩, -, X22, ⟨Lc22, hQ22, l22, y22, z22⟩, st22⟩ := X21.virtualBack hx (y := (⟨"com/example/sortition/sortition/Element", "outranks", "(Lcom/example/sortition/sortition/Element;)Z"⟩ : MethodName)) (z := (⟨"com/example/sortition/sortition/Element", "outranks", "(Lcom/example/sortition/sortition/Element;)Z"⟩ : MethodName)) hown12 (mvT hZ12 (hw _ (List.mem_of_getElem? (i := 59) rfl))) (mvT hZ12 (hw _ (List.mem_of_getElem? (i := 60) rfl))) (notFace_of_selects (args := #[]) (mvT hZ12 (hw _ (List.mem_of_getElem? (i := 62) rfl)))) (mvT hZ12 (hw _ (List.mem_of_getElem? (i := 62) rfl))) (mvT hZ12 (hw _ (List.mem_of_getElem? (i := 61) rfl))) (by decide) (backOf (W := 0) (rmOR_self l Z a0 hw [] b1 b1 ia (FP.dadd va 0) T12.heap n0 (Nat.le_trans (Nat.le_trans (Nat.le_trans (Nat.le_trans (Nat.le_trans (Nat.le_trans Z0 E1.1) Kp2.1) Kp4.1) E9.1) Kp10.1) Kp12.1) f18 f19 (own_nn0 ma) Int32.lt_irrefl) hZ12 (hw _ (List.mem_of_getElem? (i := 63) rfl)) (hw _ (List.mem_of_getElem? (i := 4) rfl)) (by decide) (by decide)) q22a q22c (g := (mkF m 221 #[.val (.int ji), .val (.int jj), .val (.int ja), .val (.int jb), .val (.int jc), .val (.int jf), .val (.int ia), .val (.int ib), .val (.double va), .second, .val (.double vb), .second, .val (.ref b1), .val (.ref b9), .val (.int (0 : Int32)), .val (.int (1 : Int32))] [(.ref b1), (.ref b1)])) rfl (by rw [hml]; rfl) (Steps.refl _) (argsL := [(.ref b1)]) (rest := []) (lenOf pd_13 rfl) rfl (by show 2 * 0 + _ ≤ _; exact Nat.le_of_eq rfl) (hb hby at_221) (fun _ _ => ⟨rfl, e21, (by decide : 10 + 0 ≤ _), (by decide : 40 + 0 ≤ _)⟩)
  dsimp only [Pt.U, Pt.locs, Pt.cells, Pt.slots] at X22 l22 y22 z22 st22 hQ22
  subst l22 y22 z22
  obtain ⟨rfl, Nq22, e22⟩ := hQ22
  have N22 := Fr.app N21 Nq22
  obtain ⟨fs, hr, hrun, hended, hRW⟩ := X22.leaveW (s := s) hS12 (by rw [e22]; exact (Nat.le_refl _)) (v := some (.int (1 : Int32))) (fun h => by rw [Bd.returns] at h; cases h)
  refine ⟨_, _, pre0 _ ?_, hrun, hended, _, _, rfl, ?_, hRW.1, hRW.2.1, hRW.2.2.1, hRW.2.2.2.mono (by decide) (by decide)⟩
  · show Steps p.tables e below (s₁.setTop (mkF m 0 #[.val (.int ji), .val (.int jj), .val (.int ja), .val (.int jb), .val (.int jc), .val (.int jf), .unset, .unset, .unset, .unset, .unset, .unset, .unset, .unset, .unset, .unset] [])) _
    refine stp _ ?_
    show Steps p.tables e below (s₁.setTop (mkF m 84 #[.val (.int ji), .val (.int jj), .val (.int ja), .val (.int jb), .val (.int jc), .val (.int jf), .val (.int ia), .val (.int ib), .val (.double va), .second, .val (.double vb), .second, .unset, .unset, .unset, .unset] [])) _
    refine st1 _ ?_
    show Steps p.tables e below (T1.setTop (mkF m 87 #[.val (.int ji), .val (.int jj), .val (.int ja), .val (.int jb), .val (.int jc), .val (.int jf), .val (.int ia), .val (.int ib), .val (.double va), .second, .val (.double vb), .second, .unset, .unset, .unset, .unset] [(.ref b1)])) _
    refine XS.dup X1.here hx rfl (hb hby at_87) rfl rfl ?_
    show Steps p.tables e below (T1.setTop (mkF m 88 #[.val (.int ji), .val (.int jj), .val (.int ja), .val (.int jb), .val (.int jc), .val (.int jf), .val (.int ia), .val (.int ib), .val (.double va), .second, .val (.double vb), .second, .unset, .unset, .unset, .unset] [(.ref b1), (.ref b1)])) _
    refine XS.iload X1.here hx rfl (hb hby at_88) rfl ?_
    show Steps p.tables e below (T1.setTop (mkF m 90 #[.val (.int ji), .val (.int jj), .val (.int ja), .val (.int jb), .val (.int jc), .val (.int jf), .val (.int ia), .val (.int ib), .val (.double va), .second, .val (.double vb), .second, .unset, .unset, .unset, .unset] [(.int ia), (.ref b1), (.ref b1)])) _
    refine XS.iload X1.here hx rfl (hb hby at_90) rfl ?_
    show Steps p.tables e below (T1.setTop (mkF m 92 #[.val (.int ji), .val (.int jj), .val (.int ja), .val (.int jb), .val (.int jc), .val (.int jf), .val (.int ia), .val (.int ib), .val (.double va), .second, .val (.double vb), .second, .unset, .unset, .unset, .unset] [(.int jc), (.int ia), (.ref b1), (.ref b1)])) _
    refine XS.sipush X1.here hx rfl (hb hby at_92) ?_
    show Steps p.tables e below (T1.setTop (mkF m 95 #[.val (.int ji), .val (.int jj), .val (.int ja), .val (.int jb), .val (.int jc), .val (.int jf), .val (.int ia), .val (.int ib), .val (.double va), .second, .val (.double vb), .second, .unset, .unset, .unset, .unset] [(.int (255 : Int32)), (.int jc), (.int ia), (.ref b1), (.ref b1)])) _
    refine XS.iand X1.here hx rfl (hb hby at_95) rfl ?_
    show Steps p.tables e below (T1.setTop (mkF m 96 #[.val (.int ji), .val (.int jj), .val (.int ja), .val (.int jb), .val (.int jc), .val (.int jf), .val (.int ia), .val (.int ib), .val (.double va), .second, .val (.double vb), .second, .unset, .unset, .unset, .unset] [(.int (jc &&& (255 : Int32))), (.int ia), (.ref b1), (.ref b1)])) _
    refine XS.i2c X1.here hx rfl (hb hby at_96) rfl ?_
    show Steps p.tables e below (T1.setTop (mkF m 97 #[.val (.int ji), .val (.int jj), .val (.int ja), .val (.int jb), .val (.int jc), .val (.int jf), .val (.int ia), .val (.int ib), .val (.double va), .second, .val (.double vb), .second, .unset, .unset, .unset, .unset] [(.int ((jc &&& (255 : Int32)).toUInt32.toUInt16.toUInt32.toInt32)), (.int ia), (.ref b1), (.ref b1)])) _
    rw [i2c_mask _]
    show Steps p.tables e below (T1.setTop (mkF m 97 #[.val (.int ji), .val (.int jj), .val (.int ja), .val (.int jb), .val (.int jc), .val (.int jf), .val (.int ia), .val (.int ib), .val (.double va), .second, .val (.double vb), .second, .unset, .unset, .unset, .unset] [(.int (jc &&& (255 : Int32))), (.int ia), (.ref b1), (.ref b1)])) _
    refine st2 _ ?_
    show Steps p.tables e below (T2.setTop (mkF m 100 #[.val (.int ji), .val (.int jj), .val (.int ja), .val (.int jb), .val (.int jc), .val (.int jf), .val (.int ia), .val (.int ib), .val (.double va), .second, .val (.double vb), .second, .unset, .unset, .unset, .unset] [(.ref nb_2), (.int ia), (.ref b1), (.ref b1)])) _
    refine XS.dload X2.here hx rfl (hb hby at_100) rfl ?_
    show Steps p.tables e below (T2.setTop (mkF m 102 #[.val (.int ji), .val (.int jj), .val (.int ja), .val (.int jb), .val (.int jc), .val (.int jf), .val (.int ia), .val (.int ib), .val (.double va), .second, .val (.double vb), .second, .unset, .unset, .unset, .unset] [(.double va), (.ref nb_2), (.int ia), (.ref b1), (.ref b1)])) _
    refine st4.trans ?_
    show Steps p.tables e below (T4.setTop (mkF m 105 #[.val (.int ji), .val (.int jj), .val (.int ja), .val (.int jb), .val (.int jc), .val (.int jf), .val (.int ia), .val (.int ib), .val (.double va), .second, .val (.double vb), .second, .unset, .unset, .unset, .unset] [(.ref b1)])) _
    refine XS.astore X4.here hx rfl (hb hby at_105) rfl rfl (l' := #[.val (.int ji), .val (.int jj), .val (.int ja), .val (.int jb), .val (.int jc), .val (.int jf), .val (.int ia), .val (.int ib), .val (.double va), .second, .val (.double vb), .second, .val (.ref b1), .unset, .unset, .unset]) rfl ?_
    show Steps p.tables e below (T4.setTop (mkF m 107 #[.val (.int ji), .val (.int jj), .val (.int ja), .val (.int jb), .val (.int jc), .val (.int jf), .val (.int ia), .val (.int ib), .val (.double va), .second, .val (.double vb), .second, .val (.ref b1), .unset, .unset, .unset] [])) _
    refine st9 _ ?_
    show Steps p.tables e below (T9.setTop (mkF m 110 #[.val (.int ji), .val (.int jj), .val (.int ja), .val (.int jb), .val (.int jc), .val (.int jf), .val (.int ia), .val (.int ib), .val (.double va), .second, .val (.double vb), .second, .val (.ref b1), .unset, .unset, .unset] [(.ref b9)])) _
    refine XS.dup X9.here hx rfl (hb hby at_110) rfl rfl ?_
    show Steps p.tables e below (T9.setTop (mkF m 111 #[.val (.int ji), .val (.int jj), .val (.int ja), .val (.int jb), .val (.int jc), .val (.int jf), .val (.int ia), .val (.int ib), .val (.double va), .second, .val (.double vb), .second, .val (.ref b1), .unset, .unset, .unset] [(.ref b9), (.ref b9)])) _
    refine XS.iload X9.here hx rfl (hb hby at_111) rfl ?_
    show Steps p.tables e below (T9.setTop (mkF m 113 #[.val (.int ji), .val (.int jj), .val (.int ja), .val (.int jb), .val (.int jc), .val (.int jf), .val (.int ia), .val (.int ib), .val (.double va), .second, .val (.double vb), .second, .val (.ref b1), .unset, .unset, .unset] [(.int ib), (.ref b9), (.ref b9)])) _
    refine XS.iload X9.here hx rfl (hb hby at_113) rfl ?_
    show Steps p.tables e below (T9.setTop (mkF m 115 #[.val (.int ji), .val (.int jj), .val (.int ja), .val (.int jb), .val (.int jc), .val (.int jf), .val (.int ia), .val (.int ib), .val (.double va), .second, .val (.double vb), .second, .val (.ref b1), .unset, .unset, .unset] [(.int jc), (.int ib), (.ref b9), (.ref b9)])) _
    refine XS.bipush X9.here hx rfl (hb hby at_115) ?_
    show Steps p.tables e below (T9.setTop (mkF m 117 #[.val (.int ji), .val (.int jj), .val (.int ja), .val (.int jb), .val (.int jc), .val (.int jf), .val (.int ia), .val (.int ib), .val (.double va), .second, .val (.double vb), .second, .val (.ref b1), .unset, .unset, .unset] [(.int (8 : Int32)), (.int jc), (.int ib), (.ref b9), (.ref b9)])) _
    refine XS.iushr X9.here hx rfl (hb hby at_117) rfl ?_
    show Steps p.tables e below (T9.setTop (mkF m 118 #[.val (.int ji), .val (.int jj), .val (.int ja), .val (.int jb), .val (.int jc), .val (.int jf), .val (.int ia), .val (.int ib), .val (.double va), .second, .val (.double vb), .second, .val (.ref b1), .unset, .unset, .unset] [(.int ((jc.toUInt32 >>> ((8 : Int32) &&& 31).toUInt32).toInt32)), (.int ib), (.ref b9), (.ref b9)])) _
    refine XS.sipush X9.here hx rfl (hb hby at_118) ?_
    show Steps p.tables e below (T9.setTop (mkF m 121 #[.val (.int ji), .val (.int jj), .val (.int ja), .val (.int jb), .val (.int jc), .val (.int jf), .val (.int ia), .val (.int ib), .val (.double va), .second, .val (.double vb), .second, .val (.ref b1), .unset, .unset, .unset] [(.int (255 : Int32)), (.int ((jc.toUInt32 >>> ((8 : Int32) &&& 31).toUInt32).toInt32)), (.int ib), (.ref b9), (.ref b9)])) _
    refine XS.iand X9.here hx rfl (hb hby at_121) rfl ?_
    show Steps p.tables e below (T9.setTop (mkF m 122 #[.val (.int ji), .val (.int jj), .val (.int ja), .val (.int jb), .val (.int jc), .val (.int jf), .val (.int ia), .val (.int ib), .val (.double va), .second, .val (.double vb), .second, .val (.ref b1), .unset, .unset, .unset] [(.int (((jc.toUInt32 >>> ((8 : Int32) &&& 31).toUInt32).toInt32) &&& (255 : Int32))), (.int ib), (.ref b9), (.ref b9)])) _
    refine XS.i2c X9.here hx rfl (hb hby at_122) rfl ?_
    show Steps p.tables e below (T9.setTop (mkF m 123 #[.val (.int ji), .val (.int jj), .val (.int ja), .val (.int jb), .val (.int jc), .val (.int jf), .val (.int ia), .val (.int ib), .val (.double va), .second, .val (.double vb), .second, .val (.ref b1), .unset, .unset, .unset] [(.int ((((jc.toUInt32 >>> ((8 : Int32) &&& 31).toUInt32).toInt32) &&& (255 : Int32)).toUInt32.toUInt16.toUInt32.toInt32)), (.int ib), (.ref b9), (.ref b9)])) _
    rw [i2c_mask _]
    show Steps p.tables e below (T9.setTop (mkF m 123 #[.val (.int ji), .val (.int jj), .val (.int ja), .val (.int jb), .val (.int jc), .val (.int jf), .val (.int ia), .val (.int ib), .val (.double va), .second, .val (.double vb), .second, .val (.ref b1), .unset, .unset, .unset] [(.int (((jc.toUInt32 >>> ((8 : Int32) &&& 31).toUInt32).toInt32) &&& (255 : Int32))), (.int ib), (.ref b9), (.ref b9)])) _
    refine st10 _ ?_
    show Steps p.tables e below (T10.setTop (mkF m 126 #[.val (.int ji), .val (.int jj), .val (.int ja), .val (.int jb), .val (.int jc), .val (.int jf), .val (.int ia), .val (.int ib), .val (.double va), .second, .val (.double vb), .second, .val (.ref b1), .unset, .unset, .unset] [(.ref nb_10), (.int ib), (.ref b9), (.ref b9)])) _
    refine XS.dload X10.here hx rfl (hb hby at_126) rfl ?_
    show Steps p.tables e below (T10.setTop (mkF m 128 #[.val (.int ji), .val (.int jj), .val (.int ja), .val (.int jb), .val (.int jc), .val (.int jf), .val (.int ia), .val (.int ib), .val (.double va), .second, .val (.double vb), .second, .val (.ref b1), .unset, .unset, .unset] [(.double vb), (.ref nb_10), (.int ib), (.ref b9), (.ref b9)])) _
    refine st12.trans ?_
    show Steps p.tables e below (T12.setTop (mkF m 131 #[.val (.int ji), .val (.int jj), .val (.int ja), .val (.int jb), .val (.int jc), .val (.int jf), .val (.int ia), .val (.int ib), .val (.double va), .second, .val (.double vb), .second, .val (.ref b1), .unset, .unset, .unset] [(.ref b9)])) _
    refine XS.astore X12.here hx rfl (hb hby at_131) rfl rfl (l' := #[.val (.int ji), .val (.int jj), .val (.int ja), .val (.int jb), .val (.int jc), .val (.int jf), .val (.int ia), .val (.int ib), .val (.double va), .second, .val (.double vb), .second, .val (.ref b1), .val (.ref b9), .unset, .unset]) rfl ?_
    show Steps p.tables e below (T12.setTop (mkF m 133 #[.val (.int ji), .val (.int jj), .val (.int ja), .val (.int jb), .val (.int jc), .val (.int jf), .val (.int ia), .val (.int ib), .val (.double va), .second, .val (.double vb), .second, .val (.ref b1), .val (.ref b9), .unset, .unset] [])) _
    refine XS.dload X12.here hx rfl (hb hby at_133) rfl ?_
    show Steps p.tables e below (T12.setTop (mkF m 135 #[.val (.int ji), .val (.int jj), .val (.int ja), .val (.int jb), .val (.int jc), .val (.int jf), .val (.int ia), .val (.int ib), .val (.double va), .second, .val (.double vb), .second, .val (.ref b1), .val (.ref b9), .unset, .unset] [(.double va)])) _
    refine XS.dload X12.here hx rfl (hb hby at_135) rfl ?_
    show Steps p.tables e below (T12.setTop (mkF m 137 #[.val (.int ji), .val (.int jj), .val (.int ja), .val (.int jb), .val (.int jc), .val (.int jf), .val (.int ia), .val (.int ib), .val (.double va), .second, .val (.double vb), .second, .val (.ref b1), .val (.ref b9), .unset, .unset] [(.double vb), (.double va)])) _
    refine XS.dcmpS X12.here hx rfl (hb hby at_137) rfl rfl ?_
    show Steps p.tables e below (T12.setTop (mkF m 138 #[.val (.int ji), .val (.int jj), .val (.int ja), .val (.int jb), .val (.int jc), .val (.int jf), .val (.int ia), .val (.int ib), .val (.double va), .second, .val (.double vb), .second, .val (.ref b1), .val (.ref b9), .unset, .unset] [(.int (cmpValue (FP.dcmp va vb) .l))])) _
    refine XS.ifNo X12.here hx rfl (hb hby at_138) rfl ((if0 _ _).trans (flt k0).2.2.1) ?_
    show Steps p.tables e below (T12.setTop (mkF m 141 #[.val (.int ji), .val (.int jj), .val (.int ja), .val (.int jb), .val (.int jc), .val (.int jf), .val (.int ia), .val (.int ib), .val (.double va), .second, .val (.double vb), .second, .val (.ref b1), .val (.ref b9), .unset, .unset] [])) _
    refine XS.dload X12.here hx rfl (hb hby at_141) rfl ?_
    show Steps p.tables e below (T12.setTop (mkF m 143 #[.val (.int ji), .val (.int jj), .val (.int ja), .val (.int jb), .val (.int jc), .val (.int jf), .val (.int ia), .val (.int ib), .val (.double va), .second, .val (.double vb), .second, .val (.ref b1), .val (.ref b9), .unset, .unset] [(.double va)])) _
    refine XS.dload X12.here hx rfl (hb hby at_143) rfl ?_
    show Steps p.tables e below (T12.setTop (mkF m 145 #[.val (.int ji), .val (.int jj), .val (.int ja), .val (.int jb), .val (.int jc), .val (.int jf), .val (.int ia), .val (.int ib), .val (.double va), .second, .val (.double vb), .second, .val (.ref b1), .val (.ref b9), .unset, .unset] [(.double vb), (.double va)])) _
    refine XS.dcmpS X12.here hx rfl (hb hby at_145) rfl rfl ?_
    show Steps p.tables e below (T12.setTop (mkF m 146 #[.val (.int ji), .val (.int jj), .val (.int ja), .val (.int jb), .val (.int jc), .val (.int jf), .val (.int ia), .val (.int ib), .val (.double va), .second, .val (.double vb), .second, .val (.ref b1), .val (.ref b9), .unset, .unset] [(.int (cmpValue (FP.dcmp va vb) .l))])) _
    refine XS.ifYes X12.here hx rfl (pc0 := 146) (pc' := 160) rfl (hb hby at_146) rfl ((if0 _ _).trans (feq k2).2) (by decide) (by decide) ?_
    show Steps p.tables e below (T12.setTop (mkF m 160 #[.val (.int ji), .val (.int jj), .val (.int ja), .val (.int jb), .val (.int jc), .val (.int jf), .val (.int ia), .val (.int ib), .val (.double va), .second, .val (.double vb), .second, .val (.ref b1), .val (.ref b9), .unset, .unset] [])) _
    refine XS.iconst X12.here hx rfl (hb hby at_160) ?_
    show Steps p.tables e below (T12.setTop (mkF m 161 #[.val (.int ji), .val (.int jj), .val (.int ja), .val (.int jb), .val (.int jc), .val (.int jf), .val (.int ia), .val (.int ib), .val (.double va), .second, .val (.double vb), .second, .val (.ref b1), .val (.ref b9), .unset, .unset] [(.int (0 : Int32))])) _
    refine XS.istore X12.here hx rfl (hb hby at_161) rfl (l' := #[.val (.int ji), .val (.int jj), .val (.int ja), .val (.int jb), .val (.int jc), .val (.int jf), .val (.int ia), .val (.int ib), .val (.double va), .second, .val (.double vb), .second, .val (.ref b1), .val (.ref b9), .val (.int (0 : Int32)), .unset]) rfl ?_
    show Steps p.tables e below (T12.setTop (mkF m 163 #[.val (.int ji), .val (.int jj), .val (.int ja), .val (.int jb), .val (.int jc), .val (.int jf), .val (.int ia), .val (.int ib), .val (.double va), .second, .val (.double vb), .second, .val (.ref b1), .val (.ref b9), .val (.int (0 : Int32)), .unset] [])) _
    refine XS.dload X12.here hx rfl (hb hby at_163) rfl ?_
    show Steps p.tables e below (T12.setTop (mkF m 165 #[.val (.int ji), .val (.int jj), .val (.int ja), .val (.int jb), .val (.int jc), .val (.int jf), .val (.int ia), .val (.int ib), .val (.double va), .second, .val (.double vb), .second, .val (.ref b1), .val (.ref b9), .val (.int (0 : Int32)), .unset] [(.double vb)])) _
    refine XS.dload X12.here hx rfl (hb hby at_165) rfl ?_
    show Steps p.tables e below (T12.setTop (mkF m 167 #[.val (.int ji), .val (.int jj), .val (.int ja), .val (.int jb), .val (.int jc), .val (.int jf), .val (.int ia), .val (.int ib), .val (.double va), .second, .val (.double vb), .second, .val (.ref b1), .val (.ref b9), .val (.int (0 : Int32)), .unset] [(.double va), (.double vb)])) _
    refine XS.dcmpS X12.here hx rfl (hb hby at_167) rfl rfl ?_
    show Steps p.tables e below (T12.setTop (mkF m 168 #[.val (.int ji), .val (.int jj), .val (.int ja), .val (.int jb), .val (.int jc), .val (.int jf), .val (.int ia), .val (.int ib), .val (.double va), .second, .val (.double vb), .second, .val (.ref b1), .val (.ref b9), .val (.int (0 : Int32)), .unset] [(.int (cmpValue (FP.dcmp vb va) .l))])) _
    refine XS.ifYes X12.here hx rfl (pc0 := 168) (pc' := 186) rfl (hb hby at_168) rfl ((if0 _ _).trans (tlt k1).2.2.1) (by decide) (by decide) ?_
    show Steps p.tables e below (T12.setTop (mkF m 186 #[.val (.int ji), .val (.int jj), .val (.int ja), .val (.int jb), .val (.int jc), .val (.int jf), .val (.int ia), .val (.int ib), .val (.double va), .second, .val (.double vb), .second, .val (.ref b1), .val (.ref b9), .val (.int (0 : Int32)), .unset] [])) _
    refine XS.iconst X12.here hx rfl (hb hby at_186) ?_
    show Steps p.tables e below (T12.setTop (mkF m 187 #[.val (.int ji), .val (.int jj), .val (.int ja), .val (.int jb), .val (.int jc), .val (.int jf), .val (.int ia), .val (.int ib), .val (.double va), .second, .val (.double vb), .second, .val (.ref b1), .val (.ref b9), .val (.int (0 : Int32)), .unset] [(.int (1 : Int32))])) _
    refine XS.goto X12.here hx rfl (pc0 := 187) (pc' := 191) rfl (hb hby at_187) (by decide) (by decide) ?_
    show Steps p.tables e below (T12.setTop (mkF m 191 #[.val (.int ji), .val (.int jj), .val (.int ja), .val (.int jb), .val (.int jc), .val (.int jf), .val (.int ia), .val (.int ib), .val (.double va), .second, .val (.double vb), .second, .val (.ref b1), .val (.ref b9), .val (.int (0 : Int32)), .unset] [(.int (1 : Int32))])) _
    refine XS.istore X12.here hx rfl (hb hby at_191) rfl (l' := #[.val (.int ji), .val (.int jj), .val (.int ja), .val (.int jb), .val (.int jc), .val (.int jf), .val (.int ia), .val (.int ib), .val (.double va), .second, .val (.double vb), .second, .val (.ref b1), .val (.ref b9), .val (.int (0 : Int32)), .val (.int (1 : Int32))]) rfl ?_
    show Steps p.tables e below (T12.setTop (mkF m 193 #[.val (.int ji), .val (.int jj), .val (.int ja), .val (.int jb), .val (.int jc), .val (.int jf), .val (.int ia), .val (.int ib), .val (.double va), .second, .val (.double vb), .second, .val (.ref b1), .val (.ref b9), .val (.int (0 : Int32)), .val (.int (1 : Int32))] [])) _
    refine XS.aload X12.here hx rfl (hb hby at_193) rfl rfl ?_
    show Steps p.tables e below (T12.setTop (mkF m 195 #[.val (.int ji), .val (.int jj), .val (.int ja), .val (.int jb), .val (.int jc), .val (.int jf), .val (.int ia), .val (.int ib), .val (.double va), .second, .val (.double vb), .second, .val (.ref b1), .val (.ref b9), .val (.int (0 : Int32)), .val (.int (1 : Int32))] [(.ref b1)])) _
    refine XS.aload X12.here hx rfl (hb hby at_195) rfl rfl ?_
    show Steps p.tables e below (T12.setTop (mkF m 197 #[.val (.int ji), .val (.int jj), .val (.int ja), .val (.int jb), .val (.int jc), .val (.int jf), .val (.int ia), .val (.int ib), .val (.double va), .second, .val (.double vb), .second, .val (.ref b1), .val (.ref b9), .val (.int (0 : Int32)), .val (.int (1 : Int32))] [(.ref b9), (.ref b1)])) _
    refine st17.trans ?_
    show Steps p.tables e below (T17.setTop (mkF m 200 #[.val (.int ji), .val (.int jj), .val (.int ja), .val (.int jb), .val (.int jc), .val (.int jf), .val (.int ia), .val (.int ib), .val (.double va), .second, .val (.double vb), .second, .val (.ref b1), .val (.ref b9), .val (.int (0 : Int32)), .val (.int (1 : Int32))] [(.int (0 : Int32))])) _
    refine XS.iload X17.here hx rfl (hb hby at_200) rfl ?_
    show Steps p.tables e below (T17.setTop (mkF m 202 #[.val (.int ji), .val (.int jj), .val (.int ja), .val (.int jb), .val (.int jc), .val (.int jf), .val (.int ia), .val (.int ib), .val (.double va), .second, .val (.double vb), .second, .val (.ref b1), .val (.ref b9), .val (.int (0 : Int32)), .val (.int (1 : Int32))] [(.int (0 : Int32)), (.int (0 : Int32))])) _
    refine XS.icmpNo X17.here hx rfl (hb hby at_202) rfl (teq (rfl : (0 : Int32) = (0 : Int32))).2 ?_
    show Steps p.tables e below (T17.setTop (mkF m 205 #[.val (.int ji), .val (.int jj), .val (.int ja), .val (.int jb), .val (.int jc), .val (.int jf), .val (.int ia), .val (.int ib), .val (.double va), .second, .val (.double vb), .second, .val (.ref b1), .val (.ref b9), .val (.int (0 : Int32)), .val (.int (1 : Int32))] [])) _
    refine XS.aload X17.here hx rfl (hb hby at_205) rfl rfl ?_
    show Steps p.tables e below (T17.setTop (mkF m 207 #[.val (.int ji), .val (.int jj), .val (.int ja), .val (.int jb), .val (.int jc), .val (.int jf), .val (.int ia), .val (.int ib), .val (.double va), .second, .val (.double vb), .second, .val (.ref b1), .val (.ref b9), .val (.int (0 : Int32)), .val (.int (1 : Int32))] [(.ref b9)])) _
    refine XS.aload X17.here hx rfl (hb hby at_207) rfl rfl ?_
    show Steps p.tables e below (T17.setTop (mkF m 209 #[.val (.int ji), .val (.int jj), .val (.int ja), .val (.int jb), .val (.int jc), .val (.int jf), .val (.int ia), .val (.int ib), .val (.double va), .second, .val (.double vb), .second, .val (.ref b1), .val (.ref b9), .val (.int (0 : Int32)), .val (.int (1 : Int32))] [(.ref b1), (.ref b9)])) _
    refine st21.trans ?_
    show Steps p.tables e below (T21.setTop (mkF m 212 #[.val (.int ji), .val (.int jj), .val (.int ja), .val (.int jb), .val (.int jc), .val (.int jf), .val (.int ia), .val (.int ib), .val (.double va), .second, .val (.double vb), .second, .val (.ref b1), .val (.ref b9), .val (.int (0 : Int32)), .val (.int (1 : Int32))] [(.int (1 : Int32))])) _
    refine XS.iload X21.here hx rfl (hb hby at_212) rfl ?_
    show Steps p.tables e below (T21.setTop (mkF m 214 #[.val (.int ji), .val (.int jj), .val (.int ja), .val (.int jb), .val (.int jc), .val (.int jf), .val (.int ia), .val (.int ib), .val (.double va), .second, .val (.double vb), .second, .val (.ref b1), .val (.ref b9), .val (.int (0 : Int32)), .val (.int (1 : Int32))] [(.int (1 : Int32)), (.int (1 : Int32))])) _
    refine XS.icmpNo X21.here hx rfl (hb hby at_214) rfl (teq (rfl : (1 : Int32) = (1 : Int32))).2 ?_
    show Steps p.tables e below (T21.setTop (mkF m 217 #[.val (.int ji), .val (.int jj), .val (.int ja), .val (.int jb), .val (.int jc), .val (.int jf), .val (.int ia), .val (.int ib), .val (.double va), .second, .val (.double vb), .second, .val (.ref b1), .val (.ref b9), .val (.int (0 : Int32)), .val (.int (1 : Int32))] [])) _
    refine XS.aload X21.here hx rfl (hb hby at_217) rfl rfl ?_
    show Steps p.tables e below (T21.setTop (mkF m 219 #[.val (.int ji), .val (.int jj), .val (.int ja), .val (.int jb), .val (.int jc), .val (.int jf), .val (.int ia), .val (.int ib), .val (.double va), .second, .val (.double vb), .second, .val (.ref b1), .val (.ref b9), .val (.int (0 : Int32)), .val (.int (1 : Int32))] [(.ref b1)])) _
    refine XS.aload X21.here hx rfl (hb hby at_219) rfl rfl ?_
    show Steps p.tables e below (T21.setTop (mkF m 221 #[.val (.int ji), .val (.int jj), .val (.int ja), .val (.int jb), .val (.int jc), .val (.int jf), .val (.int ia), .val (.int ib), .val (.double va), .second, .val (.double vb), .second, .val (.ref b1), .val (.ref b9), .val (.int (0 : Int32)), .val (.int (1 : Int32))] [(.ref b1), (.ref b1)])) _
    refine st22.trans ?_
    show Steps p.tables e below (T22.setTop (mkF m 224 #[.val (.int ji), .val (.int jj), .val (.int ja), .val (.int jb), .val (.int jc), .val (.int jf), .val (.int ia), .val (.int ib), .val (.double va), .second, .val (.double vb), .second, .val (.ref b1), .val (.ref b9), .val (.int (0 : Int32)), .val (.int (1 : Int32))] [(.int (0 : Int32))])) _
    refine XS.ifNo X22.here hx rfl (hb hby at_224) rfl ((if0 _ _).trans (teq (rfl : (0 : Int32) = (0 : Int32))).2) ?_
    show Steps p.tables e below (T22.setTop (mkF m 227 #[.val (.int ji), .val (.int jj), .val (.int ja), .val (.int jb), .val (.int jc), .val (.int jf), .val (.int ia), .val (.int ib), .val (.double va), .second, .val (.double vb), .second, .val (.ref b1), .val (.ref b9), .val (.int (0 : Int32)), .val (.int (1 : Int32))] [])) _
    refine XS.iconst X22.here hx rfl (hb hby at_227) ?_
    show Steps p.tables e below (T22.setTop (mkF m 228 #[.val (.int ji), .val (.int jj), .val (.int ja), .val (.int jb), .val (.int jc), .val (.int jf), .val (.int ia), .val (.int ib), .val (.double va), .second, .val (.double vb), .second, .val (.ref b1), .val (.ref b9), .val (.int (0 : Int32)), .val (.int (1 : Int32))] [(.int (1 : Int32))])) _
    refine XS.goto X22.here hx rfl (pc0 := 228) (pc' := 232) rfl (hb hby at_228) (by decide) (by decide) ?_
    show Steps p.tables e below (T22.setTop (mkF m 232 #[.val (.int ji), .val (.int jj), .val (.int ja), .val (.int jb), .val (.int jc), .val (.int jf), .val (.int ia), .val (.int ib), .val (.double va), .second, .val (.double vb), .second, .val (.ref b1), .val (.ref b9), .val (.int (0 : Int32)), .val (.int (1 : Int32))] [(.int (1 : Int32))])) _
    exact retN X22 hx (t := .boolean) Bd.returns (by simp) (hb hby at_232) hr
  · show Q_rm0_lt Z ji jj ja jb jc jf ia ib va vb s_CS h0 n0 _ T22.heap _
    rw [e22]
    exact ⟨rfl, N22⟩
def Q_rm0_el (Z : State) (ji : Int32) (jj : Int32) (ja : Int32) (jb : Int32) (jc : Int32) (jf : Int32) (ia : Int32) (ib : Int32) (va : UInt64) (vb : UInt64) (s_CS : Int32) (h0 : Heap) (n0 : Nat) (v : Option Value) (h : Heap) (L : List Loc) : Prop := v = some (.int (1 : Int32)) ∧ Fr n0 L
theorem ef_rm0_el (m : MethodId) (ji : Int32) (jj : Int32) (ja : Int32) (jb : Int32) (jc : Int32) (jf : Int32) : entryFrame m #[(.int ji), (.int jj), (.int ja), (.int jb), (.int jc), (.int jf)] maxLocals = mkF m 0 #[.val (.int ji), .val (.int jj), .val (.int ja), .val (.int jb), .val (.int jc), .val (.int jf), .unset, .unset, .unset, .unset, .unset, .unset, .unset, .unset, .unset, .unset] [] := by first | (simp [entryFrame, mkF, argsToLocals, Value.category, maxLocals]; done) | rfl
set_option maxRecDepth 65536 in
set_option maxHeartbeats 40000000 in
theorem rm0_el (l : Launch) (Z : State) (a0 : Array Value) (hw : ∀ d ∈ tables_1, d.before a0 Z = true) (ws : List Jvm.Cond) (ji : Int32) (jj : Int32) (ja : Int32) (jb : Int32) (jc : Int32) (jf : Int32) (ia : Int32) (ib : Int32) (va : UInt64) (vb : UInt64) (s_CS : Int32) (h0 : Heap) (n0 : Nat) (Z0 : n0 ≤ h0.size) (hwS : ∀ a ∈ Bundle.stringAtoms, a.before a0 Z = true) (S_CS : Sta Z h0 "java/lang/String" "COMPACT_STRINGS" "Z" (.int s_CS)) (hcs : ¬ (s_CS = (0 : Int32))) (hia : (ji &&& (2147483647 : Int32)) = ia) (hib : (own_ib ji jj jf) = ib) (hva : (own_v ja jf 2) = va) (hvb : (own_v jb jf 4) = vb) (gia : ¬ (ia < (0 : Int32))) (gib : ¬ (ib < (0 : Int32))) (ma : va ∈ own_tab) (mb : vb ∈ own_tab) (k0 : ¬ ((0 : Int32) < (cmpValue (FP.dcmp va vb) .l))) (k1 : ¬ ((0 : Int32) < (cmpValue (FP.dcmp vb va) .l))) (k2 : (cmpValue (FP.dcmp va vb) .l) = (0 : Int32)) (heq : (FP.dadd va 0) = (FP.dadd vb 0)) (k3 : ia < ib) (k4 : ¬ (ib < ia)) (k5 : ¬ (ib = ia)) :
    MetFree l x (head1 (Jvm.Cond.code x code maxLocals ret :: ws) room_1) (fun a U => a = #[(.int ji), (.int jj), (.int ja), (.int jb), (.int jc), (.int jf)] ∧ Z.Warmed39 U.vm ∧ U.heap = h0) (fun _ _ _ _ _ => True) (fun _ U o U' => ∃ v L, o = .returned v ∧ Q_rm0_el Z ji jj ja jb jc jf ia ib va vb s_CS h0 n0 v U'.heap L ∧ ReturnedEndW U o U' L room_1.cells room_1.slots) := by
  refine MetFree.of_bodySF (plainFor_of_name pn_9) hisR ?_
  intro p e s m args below meth c s₁ Bd hml0 hP hK
  obtain ⟨rfl, hZ, hh⟩ := hP
  have hx := Bd.exec
  have hby := Bd.bytes
  have hml : c.maxLocals = 16 := hml0
  have hown : s.vm.findClass "com/example/sortition/sortition/ElementOutranksPinLaw" = some m.cls := findClass_of_methodNamed Bd.named
  have hnm := (name_of_methodNamed Bd.named Bd.method).1
  have X0 : Stand p l e room_1 s m #[(.int ji), (.int jj), (.int ja), (.int jb), (.int jc), (.int jf)] below meth c s₁ [] 0 0 := Stand.of_body Bd
  have e0 : s₁.heap = h0 := by rw [← hh, Bd.state]; rfl
  have N0 := Fr.nil n0
  have hS0 := (State.WarmedH.refl s).since 0
  have pre0 : ∀ t, Steps p.tables e below (s₁.setTop (mkF m 0 #[.val (.int ji), .val (.int jj), .val (.int ja), .val (.int jb), .val (.int jc), .val (.int jf), .unset, .unset, .unset, .unset, .unset, .unset, .unset, .unset, .unset, .unset] [])) t → Steps p.tables e below (s₁.setTop (entryFrame m #[(.int ji), (.int jj), (.int ja), (.int jb), (.int jc), (.int jf)] maxLocals)) t := fun t k => castTop (ef_rm0_el m ji jj ja jb jc jf) k
  have stp := own_pre ji jj ja jb jc jf X0 hx hZ hw hby hown
  rw [hia, hib, hva, hvb] at stp
  obtain ⟨T1, h1, X1, e1, E1, A1, D1, -, st1⟩ := newO X0 hx hZ hown (hw _ (List.mem_of_getElem? (i := 2) rfl)) (hw _ (List.mem_of_getElem? (i := 3) rfl)) (hw _ (List.mem_of_getElem? (i := 4) rfl)) e0 (g := (mkF m 84 #[.val (.int ji), .val (.int jj), .val (.int ja), .val (.int jb), .val (.int jc), .val (.int jf), .val (.int ia), .val (.int ib), .val (.double va), .second, .val (.double vb), .second, .unset, .unset, .unset, .unset] [])) rfl (hb hby at_84) (by decide) (by decide)
  obtain ⟨b1, g1⟩ : ∃ z, z = h0.size := ⟨_, rfl⟩
  rw [← g1] at A1 D1 st1
  have F1_2 : Fld Z h1 b1 "com/example/sortition/sortition/Element" "index" "I" (.int (0 : Int32)) := D1 (Or.inr (hw _ (List.mem_of_getElem? (i := 54) rfl))) (ty := .int) (by decide)
  have F1_3 : Fld Z h1 b1 "com/example/sortition/sortition/Element" "id" "Ljava/lang/String;" .null := D1 (Or.inr (hw _ (List.mem_of_getElem? (i := 56) rfl))) (ty := (.object "java/lang/String")) (by decide)
  have F1_4 : Fld Z h1 b1 "com/example/sortition/sortition/Element" "value" "D" (.double 0) := D1 (Or.inr (hw _ (List.mem_of_getElem? (i := 58) rfl))) (ty := .double) (by decide)
  have f3 : Sta Z h1 "java/lang/String" "COMPACT_STRINGS" "Z" (.int s_CS) := (S_CS.ext E1)
  obtain ⟨_, _, ⟨T2, L2, k2, n2⟩, -, X2, ⟨Lc2, hQ2, l2, y2, z2⟩, st2⟩ := Jvm.LawKit.callS X1 hx (y := (⟨"java/lang/String", "valueOf", "(C)Ljava/lang/String;"⟩ : MethodName)) hown (mvT hZ (hw _ (List.mem_of_getElem? (i := 5) rfl))) (mvT hZ (hw _ (List.mem_of_getElem? (i := 6) rfl))) (mvT hZ (hw _ (List.mem_of_getElem? (i := 7) rfl))) (mvT hZ (hw _ (List.mem_of_getElem? (i := 8) rfl))) (by decide) (backOf (W := 3) (rmVO l Z a0 hw [] (jc &&& (255 : Int32)) s_CS h1 n0 (Nat.le_trans Z0 E1.1) (own_255 _) f3 hcs) hZ (hw _ (List.mem_of_getElem? (i := 8) rfl)) (hw _ (List.mem_of_getElem? (i := 7) rfl)) (by decide) (by decide)) (g := (mkF m 97 #[.val (.int ji), .val (.int jj), .val (.int ja), .val (.int jb), .val (.int jc), .val (.int jf), .val (.int ia), .val (.int ib), .val (.double va), .second, .val (.double vb), .second, .unset, .unset, .unset, .unset] [(.int (jc &&& (255 : Int32))), (.int ia), (.ref b1), (.ref b1)])) rfl (by rw [hml]; rfl) (argsL := [(.int (jc &&& (255 : Int32)))]) (rest := [(.int ia), (.ref b1), (.ref b1)]) (lenOf pd_11 rfl) rfl (by show 2 * 0 + _ ≤ _; exact Nat.le_of_eq rfl) (hb hby at_97) (fun _ _ => ⟨rfl, e1, (by decide : 1 + 2 ≤ _), (by decide : 3 + 5 ≤ _)⟩)
  dsimp only [Pt.U, Pt.locs, Pt.cells, Pt.slots] at X2 l2 y2 z2 st2 hQ2
  subst l2 y2 z2
  obtain ⟨nb_2, ab_2, kb_2, rfl, Nq2, gb2_0, gb2_1, Kp2, Fq2_0, Fq2_1, Fq2_2⟩ := hQ2
  have N2 := Fr.app N0 Nq2
  have f5 : Fld Z T2.heap b1 "com/example/sortition/sortition/Element" "index" "I" (.int (0 : Int32)) := (F1_2.keep Kp2 nin0)
  have f6 : Exa Z T2.heap b1 "com/example/sortition/sortition/Element" := (A1.keep Kp2)
  have f7 : Fld Z T2.heap b1 "com/example/sortition/sortition/Element" "id" "Ljava/lang/String;" .null := (F1_3.keep Kp2 nin0)
  have f8 : Fld Z T2.heap b1 "com/example/sortition/sortition/Element" "value" "D" (.double 0) := (F1_4.keep Kp2 nin0)
  obtain ⟨_, _, ⟨T4, L4, k4, n4⟩, -, X4, hSq4, hgq4, ⟨Lc4, hQ4, l4, y4, z4⟩, st4⟩ := X2.specialBackS hx (y := (⟨"com/example/sortition/sortition/Element", "<init>", "(ILjava/lang/String;D)V"⟩ : MethodName)) rfl hown (mvT hZ (hw _ (List.mem_of_getElem? (i := 31) rfl))) (mvT hZ (hw _ (List.mem_of_getElem? (i := 32) rfl))) (mvT hZ (hw _ (List.mem_of_getElem? (i := 33) rfl))) (by decide) (backOfS (W := 1) (rmEI l Z a0 hw [] b1 ia nb_2 va ab_2 kb_2 [(.int (nar .byte ((jc &&& (255 : Int32)).toInt8.toInt32)))] (.int (0 : Int32)) .null (.double 0) T2.heap n0 (Nat.le_trans (Nat.le_trans Z0 E1.1) Kp2.1) hwS Fq2_0 Fq2_1 Fq2_2 gia (own_ge0 _ ma) (own_inf _ ma) (own_nn0 ma) f5 f6 (Nat.le_trans Z0 (Nat.le_of_eq g1.symm)) f7 f8) hZ (hw _ (List.mem_of_getElem? (i := 33) rfl)) (hw _ (List.mem_of_getElem? (i := 4) rfl)) (by decide) (by decide)) (g := (mkF m 102 #[.val (.int ji), .val (.int jj), .val (.int ja), .val (.int jb), .val (.int jc), .val (.int jf), .val (.int ia), .val (.int ib), .val (.double va), .second, .val (.double vb), .second, .unset, .unset, .unset, .unset] [(.double va), (.ref nb_2), (.int ia), (.ref b1), (.ref b1)])) rfl (by rw [hml]; rfl) (Steps.refl _) (a := b1) (argsL := [(.int ia), (.ref nb_2), (.double va)]) (rest := [(.ref b1)]) (lenOf pd_12 rfl) rfl (by show 2 * 0 + _ ≤ _; exact Nat.le_of_eq rfl) (hb hby at_102) (fun _ _ => ⟨rfl, rfl, (by decide : 3 + 2 ≤ _), (by decide : 8 + 12 ≤ _)⟩)
  dsimp only [Pt.U, Pt.locs, Pt.cells, Pt.slots] at X4 l4 y4 z4 st4 hQ4 hSq4 hgq4
  subst l4 y4 z4
  obtain ⟨X4, hS4, hZ4, hown4⟩ := rebS (s := s) (vm0 := s.vm) hS0 (Nat.le_trans (Nat.le_trans (Nat.zero_le _) E1.1) Kp2.1) X4 hSq4 hgq4 hZ hown
  obtain ⟨rfl, Nq4, Kp4, Fq4_0, Fq4_1, Fq4_2⟩ := hQ4
  have N4 := Fr.app N2 Nq4
  obtain ⟨T9, h9, X9, e9, E9, A9, D9, -, st9⟩ := newO X4 hx hZ4 hown4 (hw _ (List.mem_of_getElem? (i := 2) rfl)) (hw _ (List.mem_of_getElem? (i := 3) rfl)) (hw _ (List.mem_of_getElem? (i := 4) rfl)) rfl (g := (mkF m 107 #[.val (.int ji), .val (.int jj), .val (.int ja), .val (.int jb), .val (.int jc), .val (.int jf), .val (.int ia), .val (.int ib), .val (.double va), .second, .val (.double vb), .second, .val (.ref b1), .unset, .unset, .unset] [])) rfl (hb hby at_107) (by decide) (by decide)
  obtain ⟨b9, g9⟩ : ∃ z, z = T4.heap.size := ⟨_, rfl⟩
  rw [← g9] at A9 D9 st9
  have F9_9 : Fld Z h9 b9 "com/example/sortition/sortition/Element" "index" "I" (.int (0 : Int32)) := D9 (Or.inr (hw _ (List.mem_of_getElem? (i := 54) rfl))) (ty := .int) (by decide)
  have F9_10 : Fld Z h9 b9 "com/example/sortition/sortition/Element" "id" "Ljava/lang/String;" .null := D9 (Or.inr (hw _ (List.mem_of_getElem? (i := 56) rfl))) (ty := (.object "java/lang/String")) (by decide)
  have F9_11 : Fld Z h9 b9 "com/example/sortition/sortition/Element" "value" "D" (.double 0) := D9 (Or.inr (hw _ (List.mem_of_getElem? (i := 58) rfl))) (ty := .double) (by decide)
  have f11 : Sta Z h9 "java/lang/String" "COMPACT_STRINGS" "Z" (.int s_CS) := ((Sta_keep (Sta_keep f3 Kp2 ns0) Kp4 (nsS f6.nostat ns0)).ext E9)
  obtain ⟨_, _, ⟨T10, L10, k10, n10⟩, -, X10, ⟨Lc10, hQ10, l10, y10, z10⟩, st10⟩ := Jvm.LawKit.callS X9 hx (y := (⟨"java/lang/String", "valueOf", "(C)Ljava/lang/String;"⟩ : MethodName)) hown4 (mvT hZ4 (hw _ (List.mem_of_getElem? (i := 5) rfl))) (mvT hZ4 (hw _ (List.mem_of_getElem? (i := 6) rfl))) (mvT hZ4 (hw _ (List.mem_of_getElem? (i := 7) rfl))) (mvT hZ4 (hw _ (List.mem_of_getElem? (i := 8) rfl))) (by decide) (backOf (W := 3) (rmVO l Z a0 hw [] (((jc.toUInt32 >>> ((8 : Int32) &&& 31).toUInt32).toInt32) &&& (255 : Int32)) s_CS h9 n0 (Nat.le_trans (Nat.le_trans (Nat.le_trans (Nat.le_trans Z0 E1.1) Kp2.1) Kp4.1) E9.1) (own_255 _) f11 hcs) hZ4 (hw _ (List.mem_of_getElem? (i := 8) rfl)) (hw _ (List.mem_of_getElem? (i := 7) rfl)) (by decide) (by decide)) (g := (mkF m 123 #[.val (.int ji), .val (.int jj), .val (.int ja), .val (.int jb), .val (.int jc), .val (.int jf), .val (.int ia), .val (.int ib), .val (.double va), .second, .val (.double vb), .second, .val (.ref b1), .unset, .unset, .unset] [(.int (((jc.toUInt32 >>> ((8 : Int32) &&& 31).toUInt32).toInt32) &&& (255 : Int32))), (.int ib), (.ref b9), (.ref b9)])) rfl (by rw [hml]; rfl) (argsL := [(.int (((jc.toUInt32 >>> ((8 : Int32) &&& 31).toUInt32).toInt32) &&& (255 : Int32)))]) (rest := [(.int ib), (.ref b9), (.ref b9)]) (lenOf pd_11 rfl) rfl (by show 2 * 0 + _ ≤ _; exact Nat.le_of_eq rfl) (hb hby at_123) (fun _ _ => ⟨rfl, e9, (by decide : 6 + 2 ≤ _), (by decide : 23 + 5 ≤ _)⟩)
  dsimp only [Pt.U, Pt.locs, Pt.cells, Pt.slots] at X10 l10 y10 z10 st10 hQ10
  subst l10 y10 z10
  obtain ⟨nb_10, ab_10, kb_10, rfl, Nq10, gb10_0, gb10_1, Kp10, Fq10_0, Fq10_1, Fq10_2⟩ := hQ10
  have N10 := Fr.app N4 Nq10
  have f13 : Fld Z T10.heap b9 "com/example/sortition/sortition/Element" "index" "I" (.int (0 : Int32)) := (F9_9.keep Kp10 nin0)
  have f14 : Exa Z T10.heap b9 "com/example/sortition/sortition/Element" := (A9.keep Kp10)
  have f15 : Fld Z T10.heap b9 "com/example/sortition/sortition/Element" "id" "Ljava/lang/String;" .null := (F9_10.keep Kp10 nin0)
  have f16 : Fld Z T10.heap b9 "com/example/sortition/sortition/Element" "value" "D" (.double 0) := (F9_11.keep Kp10 nin0)
  obtain ⟨_, _, ⟨T12, L12, k12, n12⟩, -, X12, hSq12, hgq12, ⟨Lc12, hQ12, l12, y12, z12⟩, st12⟩ := X10.specialBackS hx (y := (⟨"com/example/sortition/sortition/Element", "<init>", "(ILjava/lang/String;D)V"⟩ : MethodName)) rfl hown4 (mvT hZ4 (hw _ (List.mem_of_getElem? (i := 31) rfl))) (mvT hZ4 (hw _ (List.mem_of_getElem? (i := 32) rfl))) (mvT hZ4 (hw _ (List.mem_of_getElem? (i := 33) rfl))) (by decide) (backOfS (W := 1) (rmEI l Z a0 hw [] b9 ib nb_10 vb ab_10 kb_10 [(.int (nar .byte ((((jc.toUInt32 >>> ((8 : Int32) &&& 31).toUInt32).toInt32) &&& (255 : Int32)).toInt8.toInt32)))] (.int (0 : Int32)) .null (.double 0) T10.heap n0 (Nat.le_trans (Nat.le_trans (Nat.le_trans (Nat.le_trans (Nat.le_trans Z0 E1.1) Kp2.1) Kp4.1) E9.1) Kp10.1) hwS Fq10_0 Fq10_1 Fq10_2 gib (own_ge0 _ mb) (own_inf _ mb) (own_nn0 mb) f13 f14 (Nat.le_trans (Nat.le_trans (Nat.le_trans (Nat.le_trans Z0 E1.1) Kp2.1) Kp4.1) (Nat.le_of_eq g9.symm)) f15 f16) hZ4 (hw _ (List.mem_of_getElem? (i := 33) rfl)) (hw _ (List.mem_of_getElem? (i := 4) rfl)) (by decide) (by decide)) (g := (mkF m 128 #[.val (.int ji), .val (.int jj), .val (.int ja), .val (.int jb), .val (.int jc), .val (.int jf), .val (.int ia), .val (.int ib), .val (.double va), .second, .val (.double vb), .second, .val (.ref b1), .unset, .unset, .unset] [(.double vb), (.ref nb_10), (.int ib), (.ref b9), (.ref b9)])) rfl (by rw [hml]; rfl) (Steps.refl _) (a := b9) (argsL := [(.int ib), (.ref nb_10), (.double vb)]) (rest := [(.ref b9)]) (lenOf pd_12 rfl) rfl (by show 2 * 0 + _ ≤ _; exact Nat.le_of_eq rfl) (hb hby at_128) (fun _ _ => ⟨rfl, rfl, (by decide : 8 + 2 ≤ _), (by decide : 28 + 12 ≤ _)⟩)
  dsimp only [Pt.U, Pt.locs, Pt.cells, Pt.slots] at X12 l12 y12 z12 st12 hQ12 hSq12 hgq12
  subst l12 y12 z12
  obtain ⟨X12, hS12, hZ12, hown12⟩ := rebS (s := s) (vm0 := T4.vm) hS4 (Nat.le_trans (Nat.le_trans (Nat.le_refl _) E9.1) Kp10.1) X12 hSq12 hgq12 hZ4 hown4
  obtain ⟨rfl, Nq12, Kp12, Fq12_0, Fq12_1, Fq12_2⟩ := hQ12
  have N12 := Fr.app N10 Nq12
  have Fz17 : Fld Z T12.heap b9 "com/example/sortition/sortition/Element" "value" "D" (.double (FP.dadd va 0)) := by rw [heq]; exact Fq12_2
  have f19 : Fld Z T12.heap b1 "com/example/sortition/sortition/Element" "value" "D" (.double (FP.dadd va 0)) := (((Fq4_2.ext E9).keep Kp10 nin0).keep Kp12 (ninS (Nat.ne_of_lt (Nat.lt_of_lt_of_le Fq4_0.lt (Nat.le_of_eq g9.symm))) nin0))
  have f20 : Fld Z T12.heap b1 "com/example/sortition/sortition/Element" "index" "I" (.int ia) := (((Fq4_1.ext E9).keep Kp10 nin0).keep Kp12 (ninS (Nat.ne_of_lt (Nat.lt_of_lt_of_le Fq4_0.lt (Nat.le_of_eq g9.symm))) nin0))
  have f21 : Exa Z T12.heap b1 "com/example/sortition/sortition/Element" := (((Fq4_0.ext E9).keep Kp10).keep Kp12)
  obtain ⟨cq18, kq18, q18a, q18b, q18c⟩ := isOf hZ12 rfl f21
  obtain ⟨_, _, ⟨T18, L18, k18, n18⟩, -, X18, ⟨Lc18, hQ18, l18, y18, z18⟩, st18⟩ := X12.virtualBack hx (y := (⟨"com/example/sortition/sortition/Element", "outranks", "(Lcom/example/sortition/sortition/Element;)Z"⟩ : MethodName)) (z := (⟨"com/example/sortition/sortition/Element", "outranks", "(Lcom/example/sortition/sortition/Element;)Z"⟩ : MethodName)) hown12 (mvT hZ12 (hw _ (List.mem_of_getElem? (i := 59) rfl))) (mvT hZ12 (hw _ (List.mem_of_getElem? (i := 60) rfl))) (notFace_of_selects (args := #[]) (mvT hZ12 (hw _ (List.mem_of_getElem? (i := 62) rfl)))) (mvT hZ12 (hw _ (List.mem_of_getElem? (i := 62) rfl))) (mvT hZ12 (hw _ (List.mem_of_getElem? (i := 61) rfl))) (by decide) (backOf (W := 0) (rmOR_eqgt l Z a0 hw [] b1 b9 ia (FP.dadd va 0) ib T12.heap n0 (Nat.le_trans (Nat.le_trans (Nat.le_trans (Nat.le_trans (Nat.le_trans (Nat.le_trans Z0 E1.1) Kp2.1) Kp4.1) E9.1) Kp10.1) Kp12.1) f19 f20 Fz17 Fq12_1 (own_nn0 ma) k4 k5) hZ12 (hw _ (List.mem_of_getElem? (i := 63) rfl)) (hw _ (List.mem_of_getElem? (i := 4) rfl)) (by decide) (by decide)) q18a q18c (g := (mkF m 197 #[.val (.int ji), .val (.int jj), .val (.int ja), .val (.int jb), .val (.int jc), .val (.int jf), .val (.int ia), .val (.int ib), .val (.double va), .second, .val (.double vb), .second, .val (.ref b1), .val (.ref b9), .val (.int (1 : Int32)), .val (.int (0 : Int32))] [(.ref b9), (.ref b1)])) rfl (by rw [hml]; rfl) (Steps.refl _) (argsL := [(.ref b9)]) (rest := []) (lenOf pd_13 rfl) rfl (by show 2 * 0 + _ ≤ _; exact Nat.le_of_eq rfl) (hb hby at_197) (fun _ _ => ⟨rfl, rfl, (by decide : 10 + 0 ≤ _), (by decide : 40 + 0 ≤ _)⟩)
  dsimp only [Pt.U, Pt.locs, Pt.cells, Pt.slots] at X18 l18 y18 z18 st18 hQ18
  subst l18 y18 z18
  obtain ⟨rfl, Nq18, e18⟩ := hQ18
  have N18 := Fr.app N12 Nq18
  obtain ⟨cq22, kq22, q22a, q22b, q22c⟩ := isOf hZ12 e18 Fq12_0
  obtain ⟨_, _, ⟨T22, L22, k22, n22⟩, -, X22, ⟨Lc22, hQ22, l22, y22, z22⟩, st22⟩ := X18.virtualBack hx (y := (⟨"com/example/sortition/sortition/Element", "outranks", "(Lcom/example/sortition/sortition/Element;)Z"⟩ : MethodName)) (z := (⟨"com/example/sortition/sortition/Element", "outranks", "(Lcom/example/sortition/sortition/Element;)Z"⟩ : MethodName)) hown12 (mvT hZ12 (hw _ (List.mem_of_getElem? (i := 59) rfl))) (mvT hZ12 (hw _ (List.mem_of_getElem? (i := 60) rfl))) (notFace_of_selects (args := #[]) (mvT hZ12 (hw _ (List.mem_of_getElem? (i := 62) rfl)))) (mvT hZ12 (hw _ (List.mem_of_getElem? (i := 62) rfl))) (mvT hZ12 (hw _ (List.mem_of_getElem? (i := 61) rfl))) (by decide) (backOf (W := 0) (rmOR_eqlt l Z a0 hw [] b9 b1 ib (FP.dadd va 0) ia T12.heap n0 (Nat.le_trans (Nat.le_trans (Nat.le_trans (Nat.le_trans (Nat.le_trans (Nat.le_trans Z0 E1.1) Kp2.1) Kp4.1) E9.1) Kp10.1) Kp12.1) Fz17 Fq12_1 f19 f20 (own_nn0 ma) k3) hZ12 (hw _ (List.mem_of_getElem? (i := 63) rfl)) (hw _ (List.mem_of_getElem? (i := 4) rfl)) (by decide) (by decide)) q22a q22c (g := (mkF m 209 #[.val (.int ji), .val (.int jj), .val (.int ja), .val (.int jb), .val (.int jc), .val (.int jf), .val (.int ia), .val (.int ib), .val (.double va), .second, .val (.double vb), .second, .val (.ref b1), .val (.ref b9), .val (.int (1 : Int32)), .val (.int (0 : Int32))] [(.ref b1), (.ref b9)])) rfl (by rw [hml]; rfl) (Steps.refl _) (argsL := [(.ref b1)]) (rest := []) (lenOf pd_13 rfl) rfl (by show 2 * 0 + _ ≤ _; exact Nat.le_of_eq rfl) (hb hby at_209) (fun _ _ => ⟨rfl, e18, (by decide : 10 + 0 ≤ _), (by decide : 40 + 0 ≤ _)⟩)
  dsimp only [Pt.U, Pt.locs, Pt.cells, Pt.slots] at X22 l22 y22 z22 st22 hQ22
  subst l22 y22 z22
  obtain ⟨rfl, Nq22, e22⟩ := hQ22
  have N22 := Fr.app N18 Nq22
  obtain ⟨cq23, kq23, q23a, q23b, q23c⟩ := isOf hZ12 e22 f21
  obtain ⟨_, _, ⟨T23, L23, k23, n23⟩, -, X23, ⟨Lc23, hQ23, l23, y23, z23⟩, st23⟩ := X22.virtualBack hx (y := (⟨"com/example/sortition/sortition/Element", "outranks", "(Lcom/example/sortition/sortition/Element;)Z"⟩ : MethodName)) (z := (⟨"com/example/sortition/sortition/Element", "outranks", "(Lcom/example/sortition/sortition/Element;)Z"⟩ : MethodName)) hown12 (mvT hZ12 (hw _ (List.mem_of_getElem? (i := 59) rfl))) (mvT hZ12 (hw _ (List.mem_of_getElem? (i := 60) rfl))) (notFace_of_selects (args := #[]) (mvT hZ12 (hw _ (List.mem_of_getElem? (i := 62) rfl)))) (mvT hZ12 (hw _ (List.mem_of_getElem? (i := 62) rfl))) (mvT hZ12 (hw _ (List.mem_of_getElem? (i := 61) rfl))) (by decide) (backOf (W := 0) (rmOR_self l Z a0 hw [] b1 b1 ia (FP.dadd va 0) T12.heap n0 (Nat.le_trans (Nat.le_trans (Nat.le_trans (Nat.le_trans (Nat.le_trans (Nat.le_trans Z0 E1.1) Kp2.1) Kp4.1) E9.1) Kp10.1) Kp12.1) f19 f20 (own_nn0 ma) Int32.lt_irrefl) hZ12 (hw _ (List.mem_of_getElem? (i := 63) rfl)) (hw _ (List.mem_of_getElem? (i := 4) rfl)) (by decide) (by decide)) q23a q23c (g := (mkF m 221 #[.val (.int ji), .val (.int jj), .val (.int ja), .val (.int jb), .val (.int jc), .val (.int jf), .val (.int ia), .val (.int ib), .val (.double va), .second, .val (.double vb), .second, .val (.ref b1), .val (.ref b9), .val (.int (1 : Int32)), .val (.int (0 : Int32))] [(.ref b1), (.ref b1)])) rfl (by rw [hml]; rfl) (Steps.refl _) (argsL := [(.ref b1)]) (rest := []) (lenOf pd_13 rfl) rfl (by show 2 * 0 + _ ≤ _; exact Nat.le_of_eq rfl) (hb hby at_221) (fun _ _ => ⟨rfl, e22, (by decide : 10 + 0 ≤ _), (by decide : 40 + 0 ≤ _)⟩)
  dsimp only [Pt.U, Pt.locs, Pt.cells, Pt.slots] at X23 l23 y23 z23 st23 hQ23
  subst l23 y23 z23
  obtain ⟨rfl, Nq23, e23⟩ := hQ23
  have N23 := Fr.app N22 Nq23
  obtain ⟨fs, hr, hrun, hended, hRW⟩ := X23.leaveW (s := s) hS12 (by rw [e23]; exact (Nat.le_refl _)) (v := some (.int (1 : Int32))) (fun h => by rw [Bd.returns] at h; cases h)
  refine ⟨_, _, pre0 _ ?_, hrun, hended, _, _, rfl, ?_, hRW.1, hRW.2.1, hRW.2.2.1, hRW.2.2.2.mono (by decide) (by decide)⟩
  · show Steps p.tables e below (s₁.setTop (mkF m 0 #[.val (.int ji), .val (.int jj), .val (.int ja), .val (.int jb), .val (.int jc), .val (.int jf), .unset, .unset, .unset, .unset, .unset, .unset, .unset, .unset, .unset, .unset] [])) _
    refine stp _ ?_
    show Steps p.tables e below (s₁.setTop (mkF m 84 #[.val (.int ji), .val (.int jj), .val (.int ja), .val (.int jb), .val (.int jc), .val (.int jf), .val (.int ia), .val (.int ib), .val (.double va), .second, .val (.double vb), .second, .unset, .unset, .unset, .unset] [])) _
    refine st1 _ ?_
    show Steps p.tables e below (T1.setTop (mkF m 87 #[.val (.int ji), .val (.int jj), .val (.int ja), .val (.int jb), .val (.int jc), .val (.int jf), .val (.int ia), .val (.int ib), .val (.double va), .second, .val (.double vb), .second, .unset, .unset, .unset, .unset] [(.ref b1)])) _
    refine XS.dup X1.here hx rfl (hb hby at_87) rfl rfl ?_
    show Steps p.tables e below (T1.setTop (mkF m 88 #[.val (.int ji), .val (.int jj), .val (.int ja), .val (.int jb), .val (.int jc), .val (.int jf), .val (.int ia), .val (.int ib), .val (.double va), .second, .val (.double vb), .second, .unset, .unset, .unset, .unset] [(.ref b1), (.ref b1)])) _
    refine XS.iload X1.here hx rfl (hb hby at_88) rfl ?_
    show Steps p.tables e below (T1.setTop (mkF m 90 #[.val (.int ji), .val (.int jj), .val (.int ja), .val (.int jb), .val (.int jc), .val (.int jf), .val (.int ia), .val (.int ib), .val (.double va), .second, .val (.double vb), .second, .unset, .unset, .unset, .unset] [(.int ia), (.ref b1), (.ref b1)])) _
    refine XS.iload X1.here hx rfl (hb hby at_90) rfl ?_
    show Steps p.tables e below (T1.setTop (mkF m 92 #[.val (.int ji), .val (.int jj), .val (.int ja), .val (.int jb), .val (.int jc), .val (.int jf), .val (.int ia), .val (.int ib), .val (.double va), .second, .val (.double vb), .second, .unset, .unset, .unset, .unset] [(.int jc), (.int ia), (.ref b1), (.ref b1)])) _
    refine XS.sipush X1.here hx rfl (hb hby at_92) ?_
    show Steps p.tables e below (T1.setTop (mkF m 95 #[.val (.int ji), .val (.int jj), .val (.int ja), .val (.int jb), .val (.int jc), .val (.int jf), .val (.int ia), .val (.int ib), .val (.double va), .second, .val (.double vb), .second, .unset, .unset, .unset, .unset] [(.int (255 : Int32)), (.int jc), (.int ia), (.ref b1), (.ref b1)])) _
    refine XS.iand X1.here hx rfl (hb hby at_95) rfl ?_
    show Steps p.tables e below (T1.setTop (mkF m 96 #[.val (.int ji), .val (.int jj), .val (.int ja), .val (.int jb), .val (.int jc), .val (.int jf), .val (.int ia), .val (.int ib), .val (.double va), .second, .val (.double vb), .second, .unset, .unset, .unset, .unset] [(.int (jc &&& (255 : Int32))), (.int ia), (.ref b1), (.ref b1)])) _
    refine XS.i2c X1.here hx rfl (hb hby at_96) rfl ?_
    show Steps p.tables e below (T1.setTop (mkF m 97 #[.val (.int ji), .val (.int jj), .val (.int ja), .val (.int jb), .val (.int jc), .val (.int jf), .val (.int ia), .val (.int ib), .val (.double va), .second, .val (.double vb), .second, .unset, .unset, .unset, .unset] [(.int ((jc &&& (255 : Int32)).toUInt32.toUInt16.toUInt32.toInt32)), (.int ia), (.ref b1), (.ref b1)])) _
    rw [i2c_mask _]
    show Steps p.tables e below (T1.setTop (mkF m 97 #[.val (.int ji), .val (.int jj), .val (.int ja), .val (.int jb), .val (.int jc), .val (.int jf), .val (.int ia), .val (.int ib), .val (.double va), .second, .val (.double vb), .second, .unset, .unset, .unset, .unset] [(.int (jc &&& (255 : Int32))), (.int ia), (.ref b1), (.ref b1)])) _
    refine st2 _ ?_
    show Steps p.tables e below (T2.setTop (mkF m 100 #[.val (.int ji), .val (.int jj), .val (.int ja), .val (.int jb), .val (.int jc), .val (.int jf), .val (.int ia), .val (.int ib), .val (.double va), .second, .val (.double vb), .second, .unset, .unset, .unset, .unset] [(.ref nb_2), (.int ia), (.ref b1), (.ref b1)])) _
    refine XS.dload X2.here hx rfl (hb hby at_100) rfl ?_
    show Steps p.tables e below (T2.setTop (mkF m 102 #[.val (.int ji), .val (.int jj), .val (.int ja), .val (.int jb), .val (.int jc), .val (.int jf), .val (.int ia), .val (.int ib), .val (.double va), .second, .val (.double vb), .second, .unset, .unset, .unset, .unset] [(.double va), (.ref nb_2), (.int ia), (.ref b1), (.ref b1)])) _
    refine st4.trans ?_
    show Steps p.tables e below (T4.setTop (mkF m 105 #[.val (.int ji), .val (.int jj), .val (.int ja), .val (.int jb), .val (.int jc), .val (.int jf), .val (.int ia), .val (.int ib), .val (.double va), .second, .val (.double vb), .second, .unset, .unset, .unset, .unset] [(.ref b1)])) _
    refine XS.astore X4.here hx rfl (hb hby at_105) rfl rfl (l' := #[.val (.int ji), .val (.int jj), .val (.int ja), .val (.int jb), .val (.int jc), .val (.int jf), .val (.int ia), .val (.int ib), .val (.double va), .second, .val (.double vb), .second, .val (.ref b1), .unset, .unset, .unset]) rfl ?_
    show Steps p.tables e below (T4.setTop (mkF m 107 #[.val (.int ji), .val (.int jj), .val (.int ja), .val (.int jb), .val (.int jc), .val (.int jf), .val (.int ia), .val (.int ib), .val (.double va), .second, .val (.double vb), .second, .val (.ref b1), .unset, .unset, .unset] [])) _
    refine st9 _ ?_
    show Steps p.tables e below (T9.setTop (mkF m 110 #[.val (.int ji), .val (.int jj), .val (.int ja), .val (.int jb), .val (.int jc), .val (.int jf), .val (.int ia), .val (.int ib), .val (.double va), .second, .val (.double vb), .second, .val (.ref b1), .unset, .unset, .unset] [(.ref b9)])) _
    refine XS.dup X9.here hx rfl (hb hby at_110) rfl rfl ?_
    show Steps p.tables e below (T9.setTop (mkF m 111 #[.val (.int ji), .val (.int jj), .val (.int ja), .val (.int jb), .val (.int jc), .val (.int jf), .val (.int ia), .val (.int ib), .val (.double va), .second, .val (.double vb), .second, .val (.ref b1), .unset, .unset, .unset] [(.ref b9), (.ref b9)])) _
    refine XS.iload X9.here hx rfl (hb hby at_111) rfl ?_
    show Steps p.tables e below (T9.setTop (mkF m 113 #[.val (.int ji), .val (.int jj), .val (.int ja), .val (.int jb), .val (.int jc), .val (.int jf), .val (.int ia), .val (.int ib), .val (.double va), .second, .val (.double vb), .second, .val (.ref b1), .unset, .unset, .unset] [(.int ib), (.ref b9), (.ref b9)])) _
    refine XS.iload X9.here hx rfl (hb hby at_113) rfl ?_
    show Steps p.tables e below (T9.setTop (mkF m 115 #[.val (.int ji), .val (.int jj), .val (.int ja), .val (.int jb), .val (.int jc), .val (.int jf), .val (.int ia), .val (.int ib), .val (.double va), .second, .val (.double vb), .second, .val (.ref b1), .unset, .unset, .unset] [(.int jc), (.int ib), (.ref b9), (.ref b9)])) _
    refine XS.bipush X9.here hx rfl (hb hby at_115) ?_
    show Steps p.tables e below (T9.setTop (mkF m 117 #[.val (.int ji), .val (.int jj), .val (.int ja), .val (.int jb), .val (.int jc), .val (.int jf), .val (.int ia), .val (.int ib), .val (.double va), .second, .val (.double vb), .second, .val (.ref b1), .unset, .unset, .unset] [(.int (8 : Int32)), (.int jc), (.int ib), (.ref b9), (.ref b9)])) _
    refine XS.iushr X9.here hx rfl (hb hby at_117) rfl ?_
    show Steps p.tables e below (T9.setTop (mkF m 118 #[.val (.int ji), .val (.int jj), .val (.int ja), .val (.int jb), .val (.int jc), .val (.int jf), .val (.int ia), .val (.int ib), .val (.double va), .second, .val (.double vb), .second, .val (.ref b1), .unset, .unset, .unset] [(.int ((jc.toUInt32 >>> ((8 : Int32) &&& 31).toUInt32).toInt32)), (.int ib), (.ref b9), (.ref b9)])) _
    refine XS.sipush X9.here hx rfl (hb hby at_118) ?_
    show Steps p.tables e below (T9.setTop (mkF m 121 #[.val (.int ji), .val (.int jj), .val (.int ja), .val (.int jb), .val (.int jc), .val (.int jf), .val (.int ia), .val (.int ib), .val (.double va), .second, .val (.double vb), .second, .val (.ref b1), .unset, .unset, .unset] [(.int (255 : Int32)), (.int ((jc.toUInt32 >>> ((8 : Int32) &&& 31).toUInt32).toInt32)), (.int ib), (.ref b9), (.ref b9)])) _
    refine XS.iand X9.here hx rfl (hb hby at_121) rfl ?_
    show Steps p.tables e below (T9.setTop (mkF m 122 #[.val (.int ji), .val (.int jj), .val (.int ja), .val (.int jb), .val (.int jc), .val (.int jf), .val (.int ia), .val (.int ib), .val (.double va), .second, .val (.double vb), .second, .val (.ref b1), .unset, .unset, .unset] [(.int (((jc.toUInt32 >>> ((8 : Int32) &&& 31).toUInt32).toInt32) &&& (255 : Int32))), (.int ib), (.ref b9), (.ref b9)])) _
    refine XS.i2c X9.here hx rfl (hb hby at_122) rfl ?_
    show Steps p.tables e below (T9.setTop (mkF m 123 #[.val (.int ji), .val (.int jj), .val (.int ja), .val (.int jb), .val (.int jc), .val (.int jf), .val (.int ia), .val (.int ib), .val (.double va), .second, .val (.double vb), .second, .val (.ref b1), .unset, .unset, .unset] [(.int ((((jc.toUInt32 >>> ((8 : Int32) &&& 31).toUInt32).toInt32) &&& (255 : Int32)).toUInt32.toUInt16.toUInt32.toInt32)), (.int ib), (.ref b9), (.ref b9)])) _
    rw [i2c_mask _]
    show Steps p.tables e below (T9.setTop (mkF m 123 #[.val (.int ji), .val (.int jj), .val (.int ja), .val (.int jb), .val (.int jc), .val (.int jf), .val (.int ia), .val (.int ib), .val (.double va), .second, .val (.double vb), .second, .val (.ref b1), .unset, .unset, .unset] [(.int (((jc.toUInt32 >>> ((8 : Int32) &&& 31).toUInt32).toInt32) &&& (255 : Int32))), (.int ib), (.ref b9), (.ref b9)])) _
    refine st10 _ ?_
    show Steps p.tables e below (T10.setTop (mkF m 126 #[.val (.int ji), .val (.int jj), .val (.int ja), .val (.int jb), .val (.int jc), .val (.int jf), .val (.int ia), .val (.int ib), .val (.double va), .second, .val (.double vb), .second, .val (.ref b1), .unset, .unset, .unset] [(.ref nb_10), (.int ib), (.ref b9), (.ref b9)])) _
    refine XS.dload X10.here hx rfl (hb hby at_126) rfl ?_
    show Steps p.tables e below (T10.setTop (mkF m 128 #[.val (.int ji), .val (.int jj), .val (.int ja), .val (.int jb), .val (.int jc), .val (.int jf), .val (.int ia), .val (.int ib), .val (.double va), .second, .val (.double vb), .second, .val (.ref b1), .unset, .unset, .unset] [(.double vb), (.ref nb_10), (.int ib), (.ref b9), (.ref b9)])) _
    refine st12.trans ?_
    show Steps p.tables e below (T12.setTop (mkF m 131 #[.val (.int ji), .val (.int jj), .val (.int ja), .val (.int jb), .val (.int jc), .val (.int jf), .val (.int ia), .val (.int ib), .val (.double va), .second, .val (.double vb), .second, .val (.ref b1), .unset, .unset, .unset] [(.ref b9)])) _
    refine XS.astore X12.here hx rfl (hb hby at_131) rfl rfl (l' := #[.val (.int ji), .val (.int jj), .val (.int ja), .val (.int jb), .val (.int jc), .val (.int jf), .val (.int ia), .val (.int ib), .val (.double va), .second, .val (.double vb), .second, .val (.ref b1), .val (.ref b9), .unset, .unset]) rfl ?_
    show Steps p.tables e below (T12.setTop (mkF m 133 #[.val (.int ji), .val (.int jj), .val (.int ja), .val (.int jb), .val (.int jc), .val (.int jf), .val (.int ia), .val (.int ib), .val (.double va), .second, .val (.double vb), .second, .val (.ref b1), .val (.ref b9), .unset, .unset] [])) _
    refine XS.dload X12.here hx rfl (hb hby at_133) rfl ?_
    show Steps p.tables e below (T12.setTop (mkF m 135 #[.val (.int ji), .val (.int jj), .val (.int ja), .val (.int jb), .val (.int jc), .val (.int jf), .val (.int ia), .val (.int ib), .val (.double va), .second, .val (.double vb), .second, .val (.ref b1), .val (.ref b9), .unset, .unset] [(.double va)])) _
    refine XS.dload X12.here hx rfl (hb hby at_135) rfl ?_
    show Steps p.tables e below (T12.setTop (mkF m 137 #[.val (.int ji), .val (.int jj), .val (.int ja), .val (.int jb), .val (.int jc), .val (.int jf), .val (.int ia), .val (.int ib), .val (.double va), .second, .val (.double vb), .second, .val (.ref b1), .val (.ref b9), .unset, .unset] [(.double vb), (.double va)])) _
    refine XS.dcmpS X12.here hx rfl (hb hby at_137) rfl rfl ?_
    show Steps p.tables e below (T12.setTop (mkF m 138 #[.val (.int ji), .val (.int jj), .val (.int ja), .val (.int jb), .val (.int jc), .val (.int jf), .val (.int ia), .val (.int ib), .val (.double va), .second, .val (.double vb), .second, .val (.ref b1), .val (.ref b9), .unset, .unset] [(.int (cmpValue (FP.dcmp va vb) .l))])) _
    refine XS.ifNo X12.here hx rfl (hb hby at_138) rfl ((if0 _ _).trans (flt k0).2.2.1) ?_
    show Steps p.tables e below (T12.setTop (mkF m 141 #[.val (.int ji), .val (.int jj), .val (.int ja), .val (.int jb), .val (.int jc), .val (.int jf), .val (.int ia), .val (.int ib), .val (.double va), .second, .val (.double vb), .second, .val (.ref b1), .val (.ref b9), .unset, .unset] [])) _
    refine XS.dload X12.here hx rfl (hb hby at_141) rfl ?_
    show Steps p.tables e below (T12.setTop (mkF m 143 #[.val (.int ji), .val (.int jj), .val (.int ja), .val (.int jb), .val (.int jc), .val (.int jf), .val (.int ia), .val (.int ib), .val (.double va), .second, .val (.double vb), .second, .val (.ref b1), .val (.ref b9), .unset, .unset] [(.double va)])) _
    refine XS.dload X12.here hx rfl (hb hby at_143) rfl ?_
    show Steps p.tables e below (T12.setTop (mkF m 145 #[.val (.int ji), .val (.int jj), .val (.int ja), .val (.int jb), .val (.int jc), .val (.int jf), .val (.int ia), .val (.int ib), .val (.double va), .second, .val (.double vb), .second, .val (.ref b1), .val (.ref b9), .unset, .unset] [(.double vb), (.double va)])) _
    refine XS.dcmpS X12.here hx rfl (hb hby at_145) rfl rfl ?_
    show Steps p.tables e below (T12.setTop (mkF m 146 #[.val (.int ji), .val (.int jj), .val (.int ja), .val (.int jb), .val (.int jc), .val (.int jf), .val (.int ia), .val (.int ib), .val (.double va), .second, .val (.double vb), .second, .val (.ref b1), .val (.ref b9), .unset, .unset] [(.int (cmpValue (FP.dcmp va vb) .l))])) _
    refine XS.ifNo X12.here hx rfl (hb hby at_146) rfl ((if0 _ _).trans (teq k2).2) ?_
    show Steps p.tables e below (T12.setTop (mkF m 149 #[.val (.int ji), .val (.int jj), .val (.int ja), .val (.int jb), .val (.int jc), .val (.int jf), .val (.int ia), .val (.int ib), .val (.double va), .second, .val (.double vb), .second, .val (.ref b1), .val (.ref b9), .unset, .unset] [])) _
    refine XS.iload X12.here hx rfl (hb hby at_149) rfl ?_
    show Steps p.tables e below (T12.setTop (mkF m 151 #[.val (.int ji), .val (.int jj), .val (.int ja), .val (.int jb), .val (.int jc), .val (.int jf), .val (.int ia), .val (.int ib), .val (.double va), .second, .val (.double vb), .second, .val (.ref b1), .val (.ref b9), .unset, .unset] [(.int ia)])) _
    refine XS.iload X12.here hx rfl (hb hby at_151) rfl ?_
    show Steps p.tables e below (T12.setTop (mkF m 153 #[.val (.int ji), .val (.int jj), .val (.int ja), .val (.int jb), .val (.int jc), .val (.int jf), .val (.int ia), .val (.int ib), .val (.double va), .second, .val (.double vb), .second, .val (.ref b1), .val (.ref b9), .unset, .unset] [(.int ib), (.int ia)])) _
    refine XS.icmpNo X12.here hx rfl (hb hby at_153) rfl (tlt k3).2.1 ?_
    show Steps p.tables e below (T12.setTop (mkF m 156 #[.val (.int ji), .val (.int jj), .val (.int ja), .val (.int jb), .val (.int jc), .val (.int jf), .val (.int ia), .val (.int ib), .val (.double va), .second, .val (.double vb), .second, .val (.ref b1), .val (.ref b9), .unset, .unset] [])) _
    refine XS.iconst X12.here hx rfl (hb hby at_156) ?_
    show Steps p.tables e below (T12.setTop (mkF m 157 #[.val (.int ji), .val (.int jj), .val (.int ja), .val (.int jb), .val (.int jc), .val (.int jf), .val (.int ia), .val (.int ib), .val (.double va), .second, .val (.double vb), .second, .val (.ref b1), .val (.ref b9), .unset, .unset] [(.int (1 : Int32))])) _
    refine XS.goto X12.here hx rfl (pc0 := 157) (pc' := 161) rfl (hb hby at_157) (by decide) (by decide) ?_
    show Steps p.tables e below (T12.setTop (mkF m 161 #[.val (.int ji), .val (.int jj), .val (.int ja), .val (.int jb), .val (.int jc), .val (.int jf), .val (.int ia), .val (.int ib), .val (.double va), .second, .val (.double vb), .second, .val (.ref b1), .val (.ref b9), .unset, .unset] [(.int (1 : Int32))])) _
    refine XS.istore X12.here hx rfl (hb hby at_161) rfl (l' := #[.val (.int ji), .val (.int jj), .val (.int ja), .val (.int jb), .val (.int jc), .val (.int jf), .val (.int ia), .val (.int ib), .val (.double va), .second, .val (.double vb), .second, .val (.ref b1), .val (.ref b9), .val (.int (1 : Int32)), .unset]) rfl ?_
    show Steps p.tables e below (T12.setTop (mkF m 163 #[.val (.int ji), .val (.int jj), .val (.int ja), .val (.int jb), .val (.int jc), .val (.int jf), .val (.int ia), .val (.int ib), .val (.double va), .second, .val (.double vb), .second, .val (.ref b1), .val (.ref b9), .val (.int (1 : Int32)), .unset] [])) _
    refine XS.dload X12.here hx rfl (hb hby at_163) rfl ?_
    show Steps p.tables e below (T12.setTop (mkF m 165 #[.val (.int ji), .val (.int jj), .val (.int ja), .val (.int jb), .val (.int jc), .val (.int jf), .val (.int ia), .val (.int ib), .val (.double va), .second, .val (.double vb), .second, .val (.ref b1), .val (.ref b9), .val (.int (1 : Int32)), .unset] [(.double vb)])) _
    refine XS.dload X12.here hx rfl (hb hby at_165) rfl ?_
    show Steps p.tables e below (T12.setTop (mkF m 167 #[.val (.int ji), .val (.int jj), .val (.int ja), .val (.int jb), .val (.int jc), .val (.int jf), .val (.int ia), .val (.int ib), .val (.double va), .second, .val (.double vb), .second, .val (.ref b1), .val (.ref b9), .val (.int (1 : Int32)), .unset] [(.double va), (.double vb)])) _
    refine XS.dcmpS X12.here hx rfl (hb hby at_167) rfl rfl ?_
    show Steps p.tables e below (T12.setTop (mkF m 168 #[.val (.int ji), .val (.int jj), .val (.int ja), .val (.int jb), .val (.int jc), .val (.int jf), .val (.int ia), .val (.int ib), .val (.double va), .second, .val (.double vb), .second, .val (.ref b1), .val (.ref b9), .val (.int (1 : Int32)), .unset] [(.int (cmpValue (FP.dcmp vb va) .l))])) _
    refine XS.ifNo X12.here hx rfl (hb hby at_168) rfl ((if0 _ _).trans (flt k1).2.2.1) ?_
    show Steps p.tables e below (T12.setTop (mkF m 171 #[.val (.int ji), .val (.int jj), .val (.int ja), .val (.int jb), .val (.int jc), .val (.int jf), .val (.int ia), .val (.int ib), .val (.double va), .second, .val (.double vb), .second, .val (.ref b1), .val (.ref b9), .val (.int (1 : Int32)), .unset] [])) _
    refine XS.dload X12.here hx rfl (hb hby at_171) rfl ?_
    show Steps p.tables e below (T12.setTop (mkF m 173 #[.val (.int ji), .val (.int jj), .val (.int ja), .val (.int jb), .val (.int jc), .val (.int jf), .val (.int ia), .val (.int ib), .val (.double va), .second, .val (.double vb), .second, .val (.ref b1), .val (.ref b9), .val (.int (1 : Int32)), .unset] [(.double va)])) _
    refine XS.dload X12.here hx rfl (hb hby at_173) rfl ?_
    show Steps p.tables e below (T12.setTop (mkF m 175 #[.val (.int ji), .val (.int jj), .val (.int ja), .val (.int jb), .val (.int jc), .val (.int jf), .val (.int ia), .val (.int ib), .val (.double va), .second, .val (.double vb), .second, .val (.ref b1), .val (.ref b9), .val (.int (1 : Int32)), .unset] [(.double vb), (.double va)])) _
    refine XS.dcmpS X12.here hx rfl (hb hby at_175) rfl rfl ?_
    show Steps p.tables e below (T12.setTop (mkF m 176 #[.val (.int ji), .val (.int jj), .val (.int ja), .val (.int jb), .val (.int jc), .val (.int jf), .val (.int ia), .val (.int ib), .val (.double va), .second, .val (.double vb), .second, .val (.ref b1), .val (.ref b9), .val (.int (1 : Int32)), .unset] [(.int (cmpValue (FP.dcmp va vb) .l))])) _
    refine XS.ifNo X12.here hx rfl (hb hby at_176) rfl ((if0 _ _).trans (teq k2).2) ?_
    show Steps p.tables e below (T12.setTop (mkF m 179 #[.val (.int ji), .val (.int jj), .val (.int ja), .val (.int jb), .val (.int jc), .val (.int jf), .val (.int ia), .val (.int ib), .val (.double va), .second, .val (.double vb), .second, .val (.ref b1), .val (.ref b9), .val (.int (1 : Int32)), .unset] [])) _
    refine XS.iload X12.here hx rfl (hb hby at_179) rfl ?_
    show Steps p.tables e below (T12.setTop (mkF m 181 #[.val (.int ji), .val (.int jj), .val (.int ja), .val (.int jb), .val (.int jc), .val (.int jf), .val (.int ia), .val (.int ib), .val (.double va), .second, .val (.double vb), .second, .val (.ref b1), .val (.ref b9), .val (.int (1 : Int32)), .unset] [(.int ib)])) _
    refine XS.iload X12.here hx rfl (hb hby at_181) rfl ?_
    show Steps p.tables e below (T12.setTop (mkF m 183 #[.val (.int ji), .val (.int jj), .val (.int ja), .val (.int jb), .val (.int jc), .val (.int jf), .val (.int ia), .val (.int ib), .val (.double va), .second, .val (.double vb), .second, .val (.ref b1), .val (.ref b9), .val (.int (1 : Int32)), .unset] [(.int ia), (.int ib)])) _
    refine XS.icmpYes X12.here hx rfl (pc0 := 183) (pc' := 190) rfl (hb hby at_183) rfl (flt k4).2.1 (by decide) (by decide) ?_
    show Steps p.tables e below (T12.setTop (mkF m 190 #[.val (.int ji), .val (.int jj), .val (.int ja), .val (.int jb), .val (.int jc), .val (.int jf), .val (.int ia), .val (.int ib), .val (.double va), .second, .val (.double vb), .second, .val (.ref b1), .val (.ref b9), .val (.int (1 : Int32)), .unset] [])) _
    refine XS.iconst X12.here hx rfl (hb hby at_190) ?_
    show Steps p.tables e below (T12.setTop (mkF m 191 #[.val (.int ji), .val (.int jj), .val (.int ja), .val (.int jb), .val (.int jc), .val (.int jf), .val (.int ia), .val (.int ib), .val (.double va), .second, .val (.double vb), .second, .val (.ref b1), .val (.ref b9), .val (.int (1 : Int32)), .unset] [(.int (0 : Int32))])) _
    refine XS.istore X12.here hx rfl (hb hby at_191) rfl (l' := #[.val (.int ji), .val (.int jj), .val (.int ja), .val (.int jb), .val (.int jc), .val (.int jf), .val (.int ia), .val (.int ib), .val (.double va), .second, .val (.double vb), .second, .val (.ref b1), .val (.ref b9), .val (.int (1 : Int32)), .val (.int (0 : Int32))]) rfl ?_
    show Steps p.tables e below (T12.setTop (mkF m 193 #[.val (.int ji), .val (.int jj), .val (.int ja), .val (.int jb), .val (.int jc), .val (.int jf), .val (.int ia), .val (.int ib), .val (.double va), .second, .val (.double vb), .second, .val (.ref b1), .val (.ref b9), .val (.int (1 : Int32)), .val (.int (0 : Int32))] [])) _
    refine XS.aload X12.here hx rfl (hb hby at_193) rfl rfl ?_
    show Steps p.tables e below (T12.setTop (mkF m 195 #[.val (.int ji), .val (.int jj), .val (.int ja), .val (.int jb), .val (.int jc), .val (.int jf), .val (.int ia), .val (.int ib), .val (.double va), .second, .val (.double vb), .second, .val (.ref b1), .val (.ref b9), .val (.int (1 : Int32)), .val (.int (0 : Int32))] [(.ref b1)])) _
    refine XS.aload X12.here hx rfl (hb hby at_195) rfl rfl ?_
    show Steps p.tables e below (T12.setTop (mkF m 197 #[.val (.int ji), .val (.int jj), .val (.int ja), .val (.int jb), .val (.int jc), .val (.int jf), .val (.int ia), .val (.int ib), .val (.double va), .second, .val (.double vb), .second, .val (.ref b1), .val (.ref b9), .val (.int (1 : Int32)), .val (.int (0 : Int32))] [(.ref b9), (.ref b1)])) _
    refine st18.trans ?_
    show Steps p.tables e below (T18.setTop (mkF m 200 #[.val (.int ji), .val (.int jj), .val (.int ja), .val (.int jb), .val (.int jc), .val (.int jf), .val (.int ia), .val (.int ib), .val (.double va), .second, .val (.double vb), .second, .val (.ref b1), .val (.ref b9), .val (.int (1 : Int32)), .val (.int (0 : Int32))] [(.int (1 : Int32))])) _
    refine XS.iload X18.here hx rfl (hb hby at_200) rfl ?_
    show Steps p.tables e below (T18.setTop (mkF m 202 #[.val (.int ji), .val (.int jj), .val (.int ja), .val (.int jb), .val (.int jc), .val (.int jf), .val (.int ia), .val (.int ib), .val (.double va), .second, .val (.double vb), .second, .val (.ref b1), .val (.ref b9), .val (.int (1 : Int32)), .val (.int (0 : Int32))] [(.int (1 : Int32)), (.int (1 : Int32))])) _
    refine XS.icmpNo X18.here hx rfl (hb hby at_202) rfl (teq (rfl : (1 : Int32) = (1 : Int32))).2 ?_
    show Steps p.tables e below (T18.setTop (mkF m 205 #[.val (.int ji), .val (.int jj), .val (.int ja), .val (.int jb), .val (.int jc), .val (.int jf), .val (.int ia), .val (.int ib), .val (.double va), .second, .val (.double vb), .second, .val (.ref b1), .val (.ref b9), .val (.int (1 : Int32)), .val (.int (0 : Int32))] [])) _
    refine XS.aload X18.here hx rfl (hb hby at_205) rfl rfl ?_
    show Steps p.tables e below (T18.setTop (mkF m 207 #[.val (.int ji), .val (.int jj), .val (.int ja), .val (.int jb), .val (.int jc), .val (.int jf), .val (.int ia), .val (.int ib), .val (.double va), .second, .val (.double vb), .second, .val (.ref b1), .val (.ref b9), .val (.int (1 : Int32)), .val (.int (0 : Int32))] [(.ref b9)])) _
    refine XS.aload X18.here hx rfl (hb hby at_207) rfl rfl ?_
    show Steps p.tables e below (T18.setTop (mkF m 209 #[.val (.int ji), .val (.int jj), .val (.int ja), .val (.int jb), .val (.int jc), .val (.int jf), .val (.int ia), .val (.int ib), .val (.double va), .second, .val (.double vb), .second, .val (.ref b1), .val (.ref b9), .val (.int (1 : Int32)), .val (.int (0 : Int32))] [(.ref b1), (.ref b9)])) _
    refine st22.trans ?_
    show Steps p.tables e below (T22.setTop (mkF m 212 #[.val (.int ji), .val (.int jj), .val (.int ja), .val (.int jb), .val (.int jc), .val (.int jf), .val (.int ia), .val (.int ib), .val (.double va), .second, .val (.double vb), .second, .val (.ref b1), .val (.ref b9), .val (.int (1 : Int32)), .val (.int (0 : Int32))] [(.int (0 : Int32))])) _
    refine XS.iload X22.here hx rfl (hb hby at_212) rfl ?_
    show Steps p.tables e below (T22.setTop (mkF m 214 #[.val (.int ji), .val (.int jj), .val (.int ja), .val (.int jb), .val (.int jc), .val (.int jf), .val (.int ia), .val (.int ib), .val (.double va), .second, .val (.double vb), .second, .val (.ref b1), .val (.ref b9), .val (.int (1 : Int32)), .val (.int (0 : Int32))] [(.int (0 : Int32)), (.int (0 : Int32))])) _
    refine XS.icmpNo X22.here hx rfl (hb hby at_214) rfl (teq (rfl : (0 : Int32) = (0 : Int32))).2 ?_
    show Steps p.tables e below (T22.setTop (mkF m 217 #[.val (.int ji), .val (.int jj), .val (.int ja), .val (.int jb), .val (.int jc), .val (.int jf), .val (.int ia), .val (.int ib), .val (.double va), .second, .val (.double vb), .second, .val (.ref b1), .val (.ref b9), .val (.int (1 : Int32)), .val (.int (0 : Int32))] [])) _
    refine XS.aload X22.here hx rfl (hb hby at_217) rfl rfl ?_
    show Steps p.tables e below (T22.setTop (mkF m 219 #[.val (.int ji), .val (.int jj), .val (.int ja), .val (.int jb), .val (.int jc), .val (.int jf), .val (.int ia), .val (.int ib), .val (.double va), .second, .val (.double vb), .second, .val (.ref b1), .val (.ref b9), .val (.int (1 : Int32)), .val (.int (0 : Int32))] [(.ref b1)])) _
    refine XS.aload X22.here hx rfl (hb hby at_219) rfl rfl ?_
    show Steps p.tables e below (T22.setTop (mkF m 221 #[.val (.int ji), .val (.int jj), .val (.int ja), .val (.int jb), .val (.int jc), .val (.int jf), .val (.int ia), .val (.int ib), .val (.double va), .second, .val (.double vb), .second, .val (.ref b1), .val (.ref b9), .val (.int (1 : Int32)), .val (.int (0 : Int32))] [(.ref b1), (.ref b1)])) _
    refine st23.trans ?_
    show Steps p.tables e below (T23.setTop (mkF m 224 #[.val (.int ji), .val (.int jj), .val (.int ja), .val (.int jb), .val (.int jc), .val (.int jf), .val (.int ia), .val (.int ib), .val (.double va), .second, .val (.double vb), .second, .val (.ref b1), .val (.ref b9), .val (.int (1 : Int32)), .val (.int (0 : Int32))] [(.int (0 : Int32))])) _
    refine XS.ifNo X23.here hx rfl (hb hby at_224) rfl ((if0 _ _).trans (teq (rfl : (0 : Int32) = (0 : Int32))).2) ?_
    show Steps p.tables e below (T23.setTop (mkF m 227 #[.val (.int ji), .val (.int jj), .val (.int ja), .val (.int jb), .val (.int jc), .val (.int jf), .val (.int ia), .val (.int ib), .val (.double va), .second, .val (.double vb), .second, .val (.ref b1), .val (.ref b9), .val (.int (1 : Int32)), .val (.int (0 : Int32))] [])) _
    refine XS.iconst X23.here hx rfl (hb hby at_227) ?_
    show Steps p.tables e below (T23.setTop (mkF m 228 #[.val (.int ji), .val (.int jj), .val (.int ja), .val (.int jb), .val (.int jc), .val (.int jf), .val (.int ia), .val (.int ib), .val (.double va), .second, .val (.double vb), .second, .val (.ref b1), .val (.ref b9), .val (.int (1 : Int32)), .val (.int (0 : Int32))] [(.int (1 : Int32))])) _
    refine XS.goto X23.here hx rfl (pc0 := 228) (pc' := 232) rfl (hb hby at_228) (by decide) (by decide) ?_
    show Steps p.tables e below (T23.setTop (mkF m 232 #[.val (.int ji), .val (.int jj), .val (.int ja), .val (.int jb), .val (.int jc), .val (.int jf), .val (.int ia), .val (.int ib), .val (.double va), .second, .val (.double vb), .second, .val (.ref b1), .val (.ref b9), .val (.int (1 : Int32)), .val (.int (0 : Int32))] [(.int (1 : Int32))])) _
    exact retN X23 hx (t := .boolean) Bd.returns (by simp) (hb hby at_232) hr
  · show Q_rm0_el Z ji jj ja jb jc jf ia ib va vb s_CS h0 n0 _ T23.heap _
    rw [e23]
    exact ⟨rfl, N23⟩
def Q_rm0_eg (Z : State) (ji : Int32) (jj : Int32) (ja : Int32) (jb : Int32) (jc : Int32) (jf : Int32) (ia : Int32) (ib : Int32) (va : UInt64) (vb : UInt64) (s_CS : Int32) (h0 : Heap) (n0 : Nat) (v : Option Value) (h : Heap) (L : List Loc) : Prop := v = some (.int (1 : Int32)) ∧ Fr n0 L
theorem ef_rm0_eg (m : MethodId) (ji : Int32) (jj : Int32) (ja : Int32) (jb : Int32) (jc : Int32) (jf : Int32) : entryFrame m #[(.int ji), (.int jj), (.int ja), (.int jb), (.int jc), (.int jf)] maxLocals = mkF m 0 #[.val (.int ji), .val (.int jj), .val (.int ja), .val (.int jb), .val (.int jc), .val (.int jf), .unset, .unset, .unset, .unset, .unset, .unset, .unset, .unset, .unset, .unset] [] := by first | (simp [entryFrame, mkF, argsToLocals, Value.category, maxLocals]; done) | rfl
set_option maxRecDepth 65536 in
set_option maxHeartbeats 40000000 in
theorem rm0_eg (l : Launch) (Z : State) (a0 : Array Value) (hw : ∀ d ∈ tables_1, d.before a0 Z = true) (ws : List Jvm.Cond) (ji : Int32) (jj : Int32) (ja : Int32) (jb : Int32) (jc : Int32) (jf : Int32) (ia : Int32) (ib : Int32) (va : UInt64) (vb : UInt64) (s_CS : Int32) (h0 : Heap) (n0 : Nat) (Z0 : n0 ≤ h0.size) (hwS : ∀ a ∈ Bundle.stringAtoms, a.before a0 Z = true) (S_CS : Sta Z h0 "java/lang/String" "COMPACT_STRINGS" "Z" (.int s_CS)) (hcs : ¬ (s_CS = (0 : Int32))) (hia : (ji &&& (2147483647 : Int32)) = ia) (hib : (own_ib ji jj jf) = ib) (hva : (own_v ja jf 2) = va) (hvb : (own_v jb jf 4) = vb) (gia : ¬ (ia < (0 : Int32))) (gib : ¬ (ib < (0 : Int32))) (ma : va ∈ own_tab) (mb : vb ∈ own_tab) (k0 : ¬ ((0 : Int32) < (cmpValue (FP.dcmp va vb) .l))) (k1 : ¬ ((0 : Int32) < (cmpValue (FP.dcmp vb va) .l))) (k2 : (cmpValue (FP.dcmp va vb) .l) = (0 : Int32)) (heq : (FP.dadd va 0) = (FP.dadd vb 0)) (k3 : ib < ia) (k4 : ¬ (ia < ib)) (k5 : ¬ (ia = ib)) :
    MetFree l x (head1 (Jvm.Cond.code x code maxLocals ret :: ws) room_1) (fun a U => a = #[(.int ji), (.int jj), (.int ja), (.int jb), (.int jc), (.int jf)] ∧ Z.Warmed39 U.vm ∧ U.heap = h0) (fun _ _ _ _ _ => True) (fun _ U o U' => ∃ v L, o = .returned v ∧ Q_rm0_eg Z ji jj ja jb jc jf ia ib va vb s_CS h0 n0 v U'.heap L ∧ ReturnedEndW U o U' L room_1.cells room_1.slots) := by
  refine MetFree.of_bodySF (plainFor_of_name pn_9) hisR ?_
  intro p e s m args below meth c s₁ Bd hml0 hP hK
  obtain ⟨rfl, hZ, hh⟩ := hP
  have hx := Bd.exec
  have hby := Bd.bytes
  have hml : c.maxLocals = 16 := hml0
  have hown : s.vm.findClass "com/example/sortition/sortition/ElementOutranksPinLaw" = some m.cls := findClass_of_methodNamed Bd.named
  have hnm := (name_of_methodNamed Bd.named Bd.method).1
  have X0 : Stand p l e room_1 s m #[(.int ji), (.int jj), (.int ja), (.int jb), (.int jc), (.int jf)] below meth c s₁ [] 0 0 := Stand.of_body Bd
  have e0 : s₁.heap = h0 := by rw [← hh, Bd.state]; rfl
  have N0 := Fr.nil n0
  have hS0 := (State.WarmedH.refl s).since 0
  have pre0 : ∀ t, Steps p.tables e below (s₁.setTop (mkF m 0 #[.val (.int ji), .val (.int jj), .val (.int ja), .val (.int jb), .val (.int jc), .val (.int jf), .unset, .unset, .unset, .unset, .unset, .unset, .unset, .unset, .unset, .unset] [])) t → Steps p.tables e below (s₁.setTop (entryFrame m #[(.int ji), (.int jj), (.int ja), (.int jb), (.int jc), (.int jf)] maxLocals)) t := fun t k => castTop (ef_rm0_eg m ji jj ja jb jc jf) k
  have stp := own_pre ji jj ja jb jc jf X0 hx hZ hw hby hown
  rw [hia, hib, hva, hvb] at stp
  obtain ⟨T1, h1, X1, e1, E1, A1, D1, -, st1⟩ := newO X0 hx hZ hown (hw _ (List.mem_of_getElem? (i := 2) rfl)) (hw _ (List.mem_of_getElem? (i := 3) rfl)) (hw _ (List.mem_of_getElem? (i := 4) rfl)) e0 (g := (mkF m 84 #[.val (.int ji), .val (.int jj), .val (.int ja), .val (.int jb), .val (.int jc), .val (.int jf), .val (.int ia), .val (.int ib), .val (.double va), .second, .val (.double vb), .second, .unset, .unset, .unset, .unset] [])) rfl (hb hby at_84) (by decide) (by decide)
  obtain ⟨b1, g1⟩ : ∃ z, z = h0.size := ⟨_, rfl⟩
  rw [← g1] at A1 D1 st1
  have F1_2 : Fld Z h1 b1 "com/example/sortition/sortition/Element" "index" "I" (.int (0 : Int32)) := D1 (Or.inr (hw _ (List.mem_of_getElem? (i := 54) rfl))) (ty := .int) (by decide)
  have F1_3 : Fld Z h1 b1 "com/example/sortition/sortition/Element" "id" "Ljava/lang/String;" .null := D1 (Or.inr (hw _ (List.mem_of_getElem? (i := 56) rfl))) (ty := (.object "java/lang/String")) (by decide)
  have F1_4 : Fld Z h1 b1 "com/example/sortition/sortition/Element" "value" "D" (.double 0) := D1 (Or.inr (hw _ (List.mem_of_getElem? (i := 58) rfl))) (ty := .double) (by decide)
  have f3 : Sta Z h1 "java/lang/String" "COMPACT_STRINGS" "Z" (.int s_CS) := (S_CS.ext E1)
  obtain ⟨_, _, ⟨T2, L2, k2, n2⟩, -, X2, ⟨Lc2, hQ2, l2, y2, z2⟩, st2⟩ := Jvm.LawKit.callS X1 hx (y := (⟨"java/lang/String", "valueOf", "(C)Ljava/lang/String;"⟩ : MethodName)) hown (mvT hZ (hw _ (List.mem_of_getElem? (i := 5) rfl))) (mvT hZ (hw _ (List.mem_of_getElem? (i := 6) rfl))) (mvT hZ (hw _ (List.mem_of_getElem? (i := 7) rfl))) (mvT hZ (hw _ (List.mem_of_getElem? (i := 8) rfl))) (by decide) (backOf (W := 3) (rmVO l Z a0 hw [] (jc &&& (255 : Int32)) s_CS h1 n0 (Nat.le_trans Z0 E1.1) (own_255 _) f3 hcs) hZ (hw _ (List.mem_of_getElem? (i := 8) rfl)) (hw _ (List.mem_of_getElem? (i := 7) rfl)) (by decide) (by decide)) (g := (mkF m 97 #[.val (.int ji), .val (.int jj), .val (.int ja), .val (.int jb), .val (.int jc), .val (.int jf), .val (.int ia), .val (.int ib), .val (.double va), .second, .val (.double vb), .second, .unset, .unset, .unset, .unset] [(.int (jc &&& (255 : Int32))), (.int ia), (.ref b1), (.ref b1)])) rfl (by rw [hml]; rfl) (argsL := [(.int (jc &&& (255 : Int32)))]) (rest := [(.int ia), (.ref b1), (.ref b1)]) (lenOf pd_11 rfl) rfl (by show 2 * 0 + _ ≤ _; exact Nat.le_of_eq rfl) (hb hby at_97) (fun _ _ => ⟨rfl, e1, (by decide : 1 + 2 ≤ _), (by decide : 3 + 5 ≤ _)⟩)
  dsimp only [Pt.U, Pt.locs, Pt.cells, Pt.slots] at X2 l2 y2 z2 st2 hQ2
  subst l2 y2 z2
  obtain ⟨nb_2, ab_2, kb_2, rfl, Nq2, gb2_0, gb2_1, Kp2, Fq2_0, Fq2_1, Fq2_2⟩ := hQ2
  have N2 := Fr.app N0 Nq2
  have f5 : Fld Z T2.heap b1 "com/example/sortition/sortition/Element" "index" "I" (.int (0 : Int32)) := (F1_2.keep Kp2 nin0)
  have f6 : Exa Z T2.heap b1 "com/example/sortition/sortition/Element" := (A1.keep Kp2)
  have f7 : Fld Z T2.heap b1 "com/example/sortition/sortition/Element" "id" "Ljava/lang/String;" .null := (F1_3.keep Kp2 nin0)
  have f8 : Fld Z T2.heap b1 "com/example/sortition/sortition/Element" "value" "D" (.double 0) := (F1_4.keep Kp2 nin0)
  obtain ⟨_, _, ⟨T4, L4, k4, n4⟩, -, X4, hSq4, hgq4, ⟨Lc4, hQ4, l4, y4, z4⟩, st4⟩ := X2.specialBackS hx (y := (⟨"com/example/sortition/sortition/Element", "<init>", "(ILjava/lang/String;D)V"⟩ : MethodName)) rfl hown (mvT hZ (hw _ (List.mem_of_getElem? (i := 31) rfl))) (mvT hZ (hw _ (List.mem_of_getElem? (i := 32) rfl))) (mvT hZ (hw _ (List.mem_of_getElem? (i := 33) rfl))) (by decide) (backOfS (W := 1) (rmEI l Z a0 hw [] b1 ia nb_2 va ab_2 kb_2 [(.int (nar .byte ((jc &&& (255 : Int32)).toInt8.toInt32)))] (.int (0 : Int32)) .null (.double 0) T2.heap n0 (Nat.le_trans (Nat.le_trans Z0 E1.1) Kp2.1) hwS Fq2_0 Fq2_1 Fq2_2 gia (own_ge0 _ ma) (own_inf _ ma) (own_nn0 ma) f5 f6 (Nat.le_trans Z0 (Nat.le_of_eq g1.symm)) f7 f8) hZ (hw _ (List.mem_of_getElem? (i := 33) rfl)) (hw _ (List.mem_of_getElem? (i := 4) rfl)) (by decide) (by decide)) (g := (mkF m 102 #[.val (.int ji), .val (.int jj), .val (.int ja), .val (.int jb), .val (.int jc), .val (.int jf), .val (.int ia), .val (.int ib), .val (.double va), .second, .val (.double vb), .second, .unset, .unset, .unset, .unset] [(.double va), (.ref nb_2), (.int ia), (.ref b1), (.ref b1)])) rfl (by rw [hml]; rfl) (Steps.refl _) (a := b1) (argsL := [(.int ia), (.ref nb_2), (.double va)]) (rest := [(.ref b1)]) (lenOf pd_12 rfl) rfl (by show 2 * 0 + _ ≤ _; exact Nat.le_of_eq rfl) (hb hby at_102) (fun _ _ => ⟨rfl, rfl, (by decide : 3 + 2 ≤ _), (by decide : 8 + 12 ≤ _)⟩)
  dsimp only [Pt.U, Pt.locs, Pt.cells, Pt.slots] at X4 l4 y4 z4 st4 hQ4 hSq4 hgq4
  subst l4 y4 z4
  obtain ⟨X4, hS4, hZ4, hown4⟩ := rebS (s := s) (vm0 := s.vm) hS0 (Nat.le_trans (Nat.le_trans (Nat.zero_le _) E1.1) Kp2.1) X4 hSq4 hgq4 hZ hown
  obtain ⟨rfl, Nq4, Kp4, Fq4_0, Fq4_1, Fq4_2⟩ := hQ4
  have N4 := Fr.app N2 Nq4
  obtain ⟨T9, h9, X9, e9, E9, A9, D9, -, st9⟩ := newO X4 hx hZ4 hown4 (hw _ (List.mem_of_getElem? (i := 2) rfl)) (hw _ (List.mem_of_getElem? (i := 3) rfl)) (hw _ (List.mem_of_getElem? (i := 4) rfl)) rfl (g := (mkF m 107 #[.val (.int ji), .val (.int jj), .val (.int ja), .val (.int jb), .val (.int jc), .val (.int jf), .val (.int ia), .val (.int ib), .val (.double va), .second, .val (.double vb), .second, .val (.ref b1), .unset, .unset, .unset] [])) rfl (hb hby at_107) (by decide) (by decide)
  obtain ⟨b9, g9⟩ : ∃ z, z = T4.heap.size := ⟨_, rfl⟩
  rw [← g9] at A9 D9 st9
  have F9_9 : Fld Z h9 b9 "com/example/sortition/sortition/Element" "index" "I" (.int (0 : Int32)) := D9 (Or.inr (hw _ (List.mem_of_getElem? (i := 54) rfl))) (ty := .int) (by decide)
  have F9_10 : Fld Z h9 b9 "com/example/sortition/sortition/Element" "id" "Ljava/lang/String;" .null := D9 (Or.inr (hw _ (List.mem_of_getElem? (i := 56) rfl))) (ty := (.object "java/lang/String")) (by decide)
  have F9_11 : Fld Z h9 b9 "com/example/sortition/sortition/Element" "value" "D" (.double 0) := D9 (Or.inr (hw _ (List.mem_of_getElem? (i := 58) rfl))) (ty := .double) (by decide)
  have f11 : Sta Z h9 "java/lang/String" "COMPACT_STRINGS" "Z" (.int s_CS) := ((Sta_keep (Sta_keep f3 Kp2 ns0) Kp4 (nsS f6.nostat ns0)).ext E9)
  obtain ⟨_, _, ⟨T10, L10, k10, n10⟩, -, X10, ⟨Lc10, hQ10, l10, y10, z10⟩, st10⟩ := Jvm.LawKit.callS X9 hx (y := (⟨"java/lang/String", "valueOf", "(C)Ljava/lang/String;"⟩ : MethodName)) hown4 (mvT hZ4 (hw _ (List.mem_of_getElem? (i := 5) rfl))) (mvT hZ4 (hw _ (List.mem_of_getElem? (i := 6) rfl))) (mvT hZ4 (hw _ (List.mem_of_getElem? (i := 7) rfl))) (mvT hZ4 (hw _ (List.mem_of_getElem? (i := 8) rfl))) (by decide) (backOf (W := 3) (rmVO l Z a0 hw [] (((jc.toUInt32 >>> ((8 : Int32) &&& 31).toUInt32).toInt32) &&& (255 : Int32)) s_CS h9 n0 (Nat.le_trans (Nat.le_trans (Nat.le_trans (Nat.le_trans Z0 E1.1) Kp2.1) Kp4.1) E9.1) (own_255 _) f11 hcs) hZ4 (hw _ (List.mem_of_getElem? (i := 8) rfl)) (hw _ (List.mem_of_getElem? (i := 7) rfl)) (by decide) (by decide)) (g := (mkF m 123 #[.val (.int ji), .val (.int jj), .val (.int ja), .val (.int jb), .val (.int jc), .val (.int jf), .val (.int ia), .val (.int ib), .val (.double va), .second, .val (.double vb), .second, .val (.ref b1), .unset, .unset, .unset] [(.int (((jc.toUInt32 >>> ((8 : Int32) &&& 31).toUInt32).toInt32) &&& (255 : Int32))), (.int ib), (.ref b9), (.ref b9)])) rfl (by rw [hml]; rfl) (argsL := [(.int (((jc.toUInt32 >>> ((8 : Int32) &&& 31).toUInt32).toInt32) &&& (255 : Int32)))]) (rest := [(.int ib), (.ref b9), (.ref b9)]) (lenOf pd_11 rfl) rfl (by show 2 * 0 + _ ≤ _; exact Nat.le_of_eq rfl) (hb hby at_123) (fun _ _ => ⟨rfl, e9, (by decide : 6 + 2 ≤ _), (by decide : 23 + 5 ≤ _)⟩)
  dsimp only [Pt.U, Pt.locs, Pt.cells, Pt.slots] at X10 l10 y10 z10 st10 hQ10
  subst l10 y10 z10
  obtain ⟨nb_10, ab_10, kb_10, rfl, Nq10, gb10_0, gb10_1, Kp10, Fq10_0, Fq10_1, Fq10_2⟩ := hQ10
  have N10 := Fr.app N4 Nq10
  have f13 : Fld Z T10.heap b9 "com/example/sortition/sortition/Element" "index" "I" (.int (0 : Int32)) := (F9_9.keep Kp10 nin0)
  have f14 : Exa Z T10.heap b9 "com/example/sortition/sortition/Element" := (A9.keep Kp10)
  have f15 : Fld Z T10.heap b9 "com/example/sortition/sortition/Element" "id" "Ljava/lang/String;" .null := (F9_10.keep Kp10 nin0)
  have f16 : Fld Z T10.heap b9 "com/example/sortition/sortition/Element" "value" "D" (.double 0) := (F9_11.keep Kp10 nin0)
  obtain ⟨_, _, ⟨T12, L12, k12, n12⟩, -, X12, hSq12, hgq12, ⟨Lc12, hQ12, l12, y12, z12⟩, st12⟩ := X10.specialBackS hx (y := (⟨"com/example/sortition/sortition/Element", "<init>", "(ILjava/lang/String;D)V"⟩ : MethodName)) rfl hown4 (mvT hZ4 (hw _ (List.mem_of_getElem? (i := 31) rfl))) (mvT hZ4 (hw _ (List.mem_of_getElem? (i := 32) rfl))) (mvT hZ4 (hw _ (List.mem_of_getElem? (i := 33) rfl))) (by decide) (backOfS (W := 1) (rmEI l Z a0 hw [] b9 ib nb_10 vb ab_10 kb_10 [(.int (nar .byte ((((jc.toUInt32 >>> ((8 : Int32) &&& 31).toUInt32).toInt32) &&& (255 : Int32)).toInt8.toInt32)))] (.int (0 : Int32)) .null (.double 0) T10.heap n0 (Nat.le_trans (Nat.le_trans (Nat.le_trans (Nat.le_trans (Nat.le_trans Z0 E1.1) Kp2.1) Kp4.1) E9.1) Kp10.1) hwS Fq10_0 Fq10_1 Fq10_2 gib (own_ge0 _ mb) (own_inf _ mb) (own_nn0 mb) f13 f14 (Nat.le_trans (Nat.le_trans (Nat.le_trans (Nat.le_trans Z0 E1.1) Kp2.1) Kp4.1) (Nat.le_of_eq g9.symm)) f15 f16) hZ4 (hw _ (List.mem_of_getElem? (i := 33) rfl)) (hw _ (List.mem_of_getElem? (i := 4) rfl)) (by decide) (by decide)) (g := (mkF m 128 #[.val (.int ji), .val (.int jj), .val (.int ja), .val (.int jb), .val (.int jc), .val (.int jf), .val (.int ia), .val (.int ib), .val (.double va), .second, .val (.double vb), .second, .val (.ref b1), .unset, .unset, .unset] [(.double vb), (.ref nb_10), (.int ib), (.ref b9), (.ref b9)])) rfl (by rw [hml]; rfl) (Steps.refl _) (a := b9) (argsL := [(.int ib), (.ref nb_10), (.double vb)]) (rest := [(.ref b9)]) (lenOf pd_12 rfl) rfl (by show 2 * 0 + _ ≤ _; exact Nat.le_of_eq rfl) (hb hby at_128) (fun _ _ => ⟨rfl, rfl, (by decide : 8 + 2 ≤ _), (by decide : 28 + 12 ≤ _)⟩)
  dsimp only [Pt.U, Pt.locs, Pt.cells, Pt.slots] at X12 l12 y12 z12 st12 hQ12 hSq12 hgq12
  subst l12 y12 z12
  obtain ⟨X12, hS12, hZ12, hown12⟩ := rebS (s := s) (vm0 := T4.vm) hS4 (Nat.le_trans (Nat.le_trans (Nat.le_refl _) E9.1) Kp10.1) X12 hSq12 hgq12 hZ4 hown4
  obtain ⟨rfl, Nq12, Kp12, Fq12_0, Fq12_1, Fq12_2⟩ := hQ12
  have N12 := Fr.app N10 Nq12
  have Fz17 : Fld Z T12.heap b9 "com/example/sortition/sortition/Element" "value" "D" (.double (FP.dadd va 0)) := by rw [heq]; exact Fq12_2
  have f19 : Fld Z T12.heap b1 "com/example/sortition/sortition/Element" "value" "D" (.double (FP.dadd va 0)) := (((Fq4_2.ext E9).keep Kp10 nin0).keep Kp12 (ninS (Nat.ne_of_lt (Nat.lt_of_lt_of_le Fq4_0.lt (Nat.le_of_eq g9.symm))) nin0))
  have f20 : Fld Z T12.heap b1 "com/example/sortition/sortition/Element" "index" "I" (.int ia) := (((Fq4_1.ext E9).keep Kp10 nin0).keep Kp12 (ninS (Nat.ne_of_lt (Nat.lt_of_lt_of_le Fq4_0.lt (Nat.le_of_eq g9.symm))) nin0))
  have f21 : Exa Z T12.heap b1 "com/example/sortition/sortition/Element" := (((Fq4_0.ext E9).keep Kp10).keep Kp12)
  obtain ⟨cq18, kq18, q18a, q18b, q18c⟩ := isOf hZ12 rfl f21
  obtain ⟨_, _, ⟨T18, L18, k18, n18⟩, -, X18, ⟨Lc18, hQ18, l18, y18, z18⟩, st18⟩ := X12.virtualBack hx (y := (⟨"com/example/sortition/sortition/Element", "outranks", "(Lcom/example/sortition/sortition/Element;)Z"⟩ : MethodName)) (z := (⟨"com/example/sortition/sortition/Element", "outranks", "(Lcom/example/sortition/sortition/Element;)Z"⟩ : MethodName)) hown12 (mvT hZ12 (hw _ (List.mem_of_getElem? (i := 59) rfl))) (mvT hZ12 (hw _ (List.mem_of_getElem? (i := 60) rfl))) (notFace_of_selects (args := #[]) (mvT hZ12 (hw _ (List.mem_of_getElem? (i := 62) rfl)))) (mvT hZ12 (hw _ (List.mem_of_getElem? (i := 62) rfl))) (mvT hZ12 (hw _ (List.mem_of_getElem? (i := 61) rfl))) (by decide) (backOf (W := 0) (rmOR_eqlt l Z a0 hw [] b1 b9 ia (FP.dadd va 0) ib T12.heap n0 (Nat.le_trans (Nat.le_trans (Nat.le_trans (Nat.le_trans (Nat.le_trans (Nat.le_trans Z0 E1.1) Kp2.1) Kp4.1) E9.1) Kp10.1) Kp12.1) f19 f20 Fz17 Fq12_1 (own_nn0 ma) k3) hZ12 (hw _ (List.mem_of_getElem? (i := 63) rfl)) (hw _ (List.mem_of_getElem? (i := 4) rfl)) (by decide) (by decide)) q18a q18c (g := (mkF m 197 #[.val (.int ji), .val (.int jj), .val (.int ja), .val (.int jb), .val (.int jc), .val (.int jf), .val (.int ia), .val (.int ib), .val (.double va), .second, .val (.double vb), .second, .val (.ref b1), .val (.ref b9), .val (.int (0 : Int32)), .val (.int (1 : Int32))] [(.ref b9), (.ref b1)])) rfl (by rw [hml]; rfl) (Steps.refl _) (argsL := [(.ref b9)]) (rest := []) (lenOf pd_13 rfl) rfl (by show 2 * 0 + _ ≤ _; exact Nat.le_of_eq rfl) (hb hby at_197) (fun _ _ => ⟨rfl, rfl, (by decide : 10 + 0 ≤ _), (by decide : 40 + 0 ≤ _)⟩)
  dsimp only [Pt.U, Pt.locs, Pt.cells, Pt.slots] at X18 l18 y18 z18 st18 hQ18
  subst l18 y18 z18
  obtain ⟨rfl, Nq18, e18⟩ := hQ18
  have N18 := Fr.app N12 Nq18
  obtain ⟨cq22, kq22, q22a, q22b, q22c⟩ := isOf hZ12 e18 Fq12_0
  obtain ⟨_, _, ⟨T22, L22, k22, n22⟩, -, X22, ⟨Lc22, hQ22, l22, y22, z22⟩, st22⟩ := X18.virtualBack hx (y := (⟨"com/example/sortition/sortition/Element", "outranks", "(Lcom/example/sortition/sortition/Element;)Z"⟩ : MethodName)) (z := (⟨"com/example/sortition/sortition/Element", "outranks", "(Lcom/example/sortition/sortition/Element;)Z"⟩ : MethodName)) hown12 (mvT hZ12 (hw _ (List.mem_of_getElem? (i := 59) rfl))) (mvT hZ12 (hw _ (List.mem_of_getElem? (i := 60) rfl))) (notFace_of_selects (args := #[]) (mvT hZ12 (hw _ (List.mem_of_getElem? (i := 62) rfl)))) (mvT hZ12 (hw _ (List.mem_of_getElem? (i := 62) rfl))) (mvT hZ12 (hw _ (List.mem_of_getElem? (i := 61) rfl))) (by decide) (backOf (W := 0) (rmOR_eqgt l Z a0 hw [] b9 b1 ib (FP.dadd va 0) ia T12.heap n0 (Nat.le_trans (Nat.le_trans (Nat.le_trans (Nat.le_trans (Nat.le_trans (Nat.le_trans Z0 E1.1) Kp2.1) Kp4.1) E9.1) Kp10.1) Kp12.1) Fz17 Fq12_1 f19 f20 (own_nn0 ma) k4 k5) hZ12 (hw _ (List.mem_of_getElem? (i := 63) rfl)) (hw _ (List.mem_of_getElem? (i := 4) rfl)) (by decide) (by decide)) q22a q22c (g := (mkF m 209 #[.val (.int ji), .val (.int jj), .val (.int ja), .val (.int jb), .val (.int jc), .val (.int jf), .val (.int ia), .val (.int ib), .val (.double va), .second, .val (.double vb), .second, .val (.ref b1), .val (.ref b9), .val (.int (0 : Int32)), .val (.int (1 : Int32))] [(.ref b1), (.ref b9)])) rfl (by rw [hml]; rfl) (Steps.refl _) (argsL := [(.ref b1)]) (rest := []) (lenOf pd_13 rfl) rfl (by show 2 * 0 + _ ≤ _; exact Nat.le_of_eq rfl) (hb hby at_209) (fun _ _ => ⟨rfl, e18, (by decide : 10 + 0 ≤ _), (by decide : 40 + 0 ≤ _)⟩)
  dsimp only [Pt.U, Pt.locs, Pt.cells, Pt.slots] at X22 l22 y22 z22 st22 hQ22
  subst l22 y22 z22
  obtain ⟨rfl, Nq22, e22⟩ := hQ22
  have N22 := Fr.app N18 Nq22
  obtain ⟨cq23, kq23, q23a, q23b, q23c⟩ := isOf hZ12 e22 f21
  obtain ⟨_, _, ⟨T23, L23, k23, n23⟩, -, X23, ⟨Lc23, hQ23, l23, y23, z23⟩, st23⟩ := X22.virtualBack hx (y := (⟨"com/example/sortition/sortition/Element", "outranks", "(Lcom/example/sortition/sortition/Element;)Z"⟩ : MethodName)) (z := (⟨"com/example/sortition/sortition/Element", "outranks", "(Lcom/example/sortition/sortition/Element;)Z"⟩ : MethodName)) hown12 (mvT hZ12 (hw _ (List.mem_of_getElem? (i := 59) rfl))) (mvT hZ12 (hw _ (List.mem_of_getElem? (i := 60) rfl))) (notFace_of_selects (args := #[]) (mvT hZ12 (hw _ (List.mem_of_getElem? (i := 62) rfl)))) (mvT hZ12 (hw _ (List.mem_of_getElem? (i := 62) rfl))) (mvT hZ12 (hw _ (List.mem_of_getElem? (i := 61) rfl))) (by decide) (backOf (W := 0) (rmOR_self l Z a0 hw [] b1 b1 ia (FP.dadd va 0) T12.heap n0 (Nat.le_trans (Nat.le_trans (Nat.le_trans (Nat.le_trans (Nat.le_trans (Nat.le_trans Z0 E1.1) Kp2.1) Kp4.1) E9.1) Kp10.1) Kp12.1) f19 f20 (own_nn0 ma) Int32.lt_irrefl) hZ12 (hw _ (List.mem_of_getElem? (i := 63) rfl)) (hw _ (List.mem_of_getElem? (i := 4) rfl)) (by decide) (by decide)) q23a q23c (g := (mkF m 221 #[.val (.int ji), .val (.int jj), .val (.int ja), .val (.int jb), .val (.int jc), .val (.int jf), .val (.int ia), .val (.int ib), .val (.double va), .second, .val (.double vb), .second, .val (.ref b1), .val (.ref b9), .val (.int (0 : Int32)), .val (.int (1 : Int32))] [(.ref b1), (.ref b1)])) rfl (by rw [hml]; rfl) (Steps.refl _) (argsL := [(.ref b1)]) (rest := []) (lenOf pd_13 rfl) rfl (by show 2 * 0 + _ ≤ _; exact Nat.le_of_eq rfl) (hb hby at_221) (fun _ _ => ⟨rfl, e22, (by decide : 10 + 0 ≤ _), (by decide : 40 + 0 ≤ _)⟩)
  dsimp only [Pt.U, Pt.locs, Pt.cells, Pt.slots] at X23 l23 y23 z23 st23 hQ23
  subst l23 y23 z23
  obtain ⟨rfl, Nq23, e23⟩ := hQ23
  have N23 := Fr.app N22 Nq23
  obtain ⟨fs, hr, hrun, hended, hRW⟩ := X23.leaveW (s := s) hS12 (by rw [e23]; exact (Nat.le_refl _)) (v := some (.int (1 : Int32))) (fun h => by rw [Bd.returns] at h; cases h)
  refine ⟨_, _, pre0 _ ?_, hrun, hended, _, _, rfl, ?_, hRW.1, hRW.2.1, hRW.2.2.1, hRW.2.2.2.mono (by decide) (by decide)⟩
  · show Steps p.tables e below (s₁.setTop (mkF m 0 #[.val (.int ji), .val (.int jj), .val (.int ja), .val (.int jb), .val (.int jc), .val (.int jf), .unset, .unset, .unset, .unset, .unset, .unset, .unset, .unset, .unset, .unset] [])) _
    refine stp _ ?_
    show Steps p.tables e below (s₁.setTop (mkF m 84 #[.val (.int ji), .val (.int jj), .val (.int ja), .val (.int jb), .val (.int jc), .val (.int jf), .val (.int ia), .val (.int ib), .val (.double va), .second, .val (.double vb), .second, .unset, .unset, .unset, .unset] [])) _
    refine st1 _ ?_
    show Steps p.tables e below (T1.setTop (mkF m 87 #[.val (.int ji), .val (.int jj), .val (.int ja), .val (.int jb), .val (.int jc), .val (.int jf), .val (.int ia), .val (.int ib), .val (.double va), .second, .val (.double vb), .second, .unset, .unset, .unset, .unset] [(.ref b1)])) _
    refine XS.dup X1.here hx rfl (hb hby at_87) rfl rfl ?_
    show Steps p.tables e below (T1.setTop (mkF m 88 #[.val (.int ji), .val (.int jj), .val (.int ja), .val (.int jb), .val (.int jc), .val (.int jf), .val (.int ia), .val (.int ib), .val (.double va), .second, .val (.double vb), .second, .unset, .unset, .unset, .unset] [(.ref b1), (.ref b1)])) _
    refine XS.iload X1.here hx rfl (hb hby at_88) rfl ?_
    show Steps p.tables e below (T1.setTop (mkF m 90 #[.val (.int ji), .val (.int jj), .val (.int ja), .val (.int jb), .val (.int jc), .val (.int jf), .val (.int ia), .val (.int ib), .val (.double va), .second, .val (.double vb), .second, .unset, .unset, .unset, .unset] [(.int ia), (.ref b1), (.ref b1)])) _
    refine XS.iload X1.here hx rfl (hb hby at_90) rfl ?_
    show Steps p.tables e below (T1.setTop (mkF m 92 #[.val (.int ji), .val (.int jj), .val (.int ja), .val (.int jb), .val (.int jc), .val (.int jf), .val (.int ia), .val (.int ib), .val (.double va), .second, .val (.double vb), .second, .unset, .unset, .unset, .unset] [(.int jc), (.int ia), (.ref b1), (.ref b1)])) _
    refine XS.sipush X1.here hx rfl (hb hby at_92) ?_
    show Steps p.tables e below (T1.setTop (mkF m 95 #[.val (.int ji), .val (.int jj), .val (.int ja), .val (.int jb), .val (.int jc), .val (.int jf), .val (.int ia), .val (.int ib), .val (.double va), .second, .val (.double vb), .second, .unset, .unset, .unset, .unset] [(.int (255 : Int32)), (.int jc), (.int ia), (.ref b1), (.ref b1)])) _
    refine XS.iand X1.here hx rfl (hb hby at_95) rfl ?_
    show Steps p.tables e below (T1.setTop (mkF m 96 #[.val (.int ji), .val (.int jj), .val (.int ja), .val (.int jb), .val (.int jc), .val (.int jf), .val (.int ia), .val (.int ib), .val (.double va), .second, .val (.double vb), .second, .unset, .unset, .unset, .unset] [(.int (jc &&& (255 : Int32))), (.int ia), (.ref b1), (.ref b1)])) _
    refine XS.i2c X1.here hx rfl (hb hby at_96) rfl ?_
    show Steps p.tables e below (T1.setTop (mkF m 97 #[.val (.int ji), .val (.int jj), .val (.int ja), .val (.int jb), .val (.int jc), .val (.int jf), .val (.int ia), .val (.int ib), .val (.double va), .second, .val (.double vb), .second, .unset, .unset, .unset, .unset] [(.int ((jc &&& (255 : Int32)).toUInt32.toUInt16.toUInt32.toInt32)), (.int ia), (.ref b1), (.ref b1)])) _
    rw [i2c_mask _]
    show Steps p.tables e below (T1.setTop (mkF m 97 #[.val (.int ji), .val (.int jj), .val (.int ja), .val (.int jb), .val (.int jc), .val (.int jf), .val (.int ia), .val (.int ib), .val (.double va), .second, .val (.double vb), .second, .unset, .unset, .unset, .unset] [(.int (jc &&& (255 : Int32))), (.int ia), (.ref b1), (.ref b1)])) _
    refine st2 _ ?_
    show Steps p.tables e below (T2.setTop (mkF m 100 #[.val (.int ji), .val (.int jj), .val (.int ja), .val (.int jb), .val (.int jc), .val (.int jf), .val (.int ia), .val (.int ib), .val (.double va), .second, .val (.double vb), .second, .unset, .unset, .unset, .unset] [(.ref nb_2), (.int ia), (.ref b1), (.ref b1)])) _
    refine XS.dload X2.here hx rfl (hb hby at_100) rfl ?_
    show Steps p.tables e below (T2.setTop (mkF m 102 #[.val (.int ji), .val (.int jj), .val (.int ja), .val (.int jb), .val (.int jc), .val (.int jf), .val (.int ia), .val (.int ib), .val (.double va), .second, .val (.double vb), .second, .unset, .unset, .unset, .unset] [(.double va), (.ref nb_2), (.int ia), (.ref b1), (.ref b1)])) _
    refine st4.trans ?_
    show Steps p.tables e below (T4.setTop (mkF m 105 #[.val (.int ji), .val (.int jj), .val (.int ja), .val (.int jb), .val (.int jc), .val (.int jf), .val (.int ia), .val (.int ib), .val (.double va), .second, .val (.double vb), .second, .unset, .unset, .unset, .unset] [(.ref b1)])) _
    refine XS.astore X4.here hx rfl (hb hby at_105) rfl rfl (l' := #[.val (.int ji), .val (.int jj), .val (.int ja), .val (.int jb), .val (.int jc), .val (.int jf), .val (.int ia), .val (.int ib), .val (.double va), .second, .val (.double vb), .second, .val (.ref b1), .unset, .unset, .unset]) rfl ?_
    show Steps p.tables e below (T4.setTop (mkF m 107 #[.val (.int ji), .val (.int jj), .val (.int ja), .val (.int jb), .val (.int jc), .val (.int jf), .val (.int ia), .val (.int ib), .val (.double va), .second, .val (.double vb), .second, .val (.ref b1), .unset, .unset, .unset] [])) _
    refine st9 _ ?_
    show Steps p.tables e below (T9.setTop (mkF m 110 #[.val (.int ji), .val (.int jj), .val (.int ja), .val (.int jb), .val (.int jc), .val (.int jf), .val (.int ia), .val (.int ib), .val (.double va), .second, .val (.double vb), .second, .val (.ref b1), .unset, .unset, .unset] [(.ref b9)])) _
    refine XS.dup X9.here hx rfl (hb hby at_110) rfl rfl ?_
    show Steps p.tables e below (T9.setTop (mkF m 111 #[.val (.int ji), .val (.int jj), .val (.int ja), .val (.int jb), .val (.int jc), .val (.int jf), .val (.int ia), .val (.int ib), .val (.double va), .second, .val (.double vb), .second, .val (.ref b1), .unset, .unset, .unset] [(.ref b9), (.ref b9)])) _
    refine XS.iload X9.here hx rfl (hb hby at_111) rfl ?_
    show Steps p.tables e below (T9.setTop (mkF m 113 #[.val (.int ji), .val (.int jj), .val (.int ja), .val (.int jb), .val (.int jc), .val (.int jf), .val (.int ia), .val (.int ib), .val (.double va), .second, .val (.double vb), .second, .val (.ref b1), .unset, .unset, .unset] [(.int ib), (.ref b9), (.ref b9)])) _
    refine XS.iload X9.here hx rfl (hb hby at_113) rfl ?_
    show Steps p.tables e below (T9.setTop (mkF m 115 #[.val (.int ji), .val (.int jj), .val (.int ja), .val (.int jb), .val (.int jc), .val (.int jf), .val (.int ia), .val (.int ib), .val (.double va), .second, .val (.double vb), .second, .val (.ref b1), .unset, .unset, .unset] [(.int jc), (.int ib), (.ref b9), (.ref b9)])) _
    refine XS.bipush X9.here hx rfl (hb hby at_115) ?_
    show Steps p.tables e below (T9.setTop (mkF m 117 #[.val (.int ji), .val (.int jj), .val (.int ja), .val (.int jb), .val (.int jc), .val (.int jf), .val (.int ia), .val (.int ib), .val (.double va), .second, .val (.double vb), .second, .val (.ref b1), .unset, .unset, .unset] [(.int (8 : Int32)), (.int jc), (.int ib), (.ref b9), (.ref b9)])) _
    refine XS.iushr X9.here hx rfl (hb hby at_117) rfl ?_
    show Steps p.tables e below (T9.setTop (mkF m 118 #[.val (.int ji), .val (.int jj), .val (.int ja), .val (.int jb), .val (.int jc), .val (.int jf), .val (.int ia), .val (.int ib), .val (.double va), .second, .val (.double vb), .second, .val (.ref b1), .unset, .unset, .unset] [(.int ((jc.toUInt32 >>> ((8 : Int32) &&& 31).toUInt32).toInt32)), (.int ib), (.ref b9), (.ref b9)])) _
    refine XS.sipush X9.here hx rfl (hb hby at_118) ?_
    show Steps p.tables e below (T9.setTop (mkF m 121 #[.val (.int ji), .val (.int jj), .val (.int ja), .val (.int jb), .val (.int jc), .val (.int jf), .val (.int ia), .val (.int ib), .val (.double va), .second, .val (.double vb), .second, .val (.ref b1), .unset, .unset, .unset] [(.int (255 : Int32)), (.int ((jc.toUInt32 >>> ((8 : Int32) &&& 31).toUInt32).toInt32)), (.int ib), (.ref b9), (.ref b9)])) _
    refine XS.iand X9.here hx rfl (hb hby at_121) rfl ?_
    show Steps p.tables e below (T9.setTop (mkF m 122 #[.val (.int ji), .val (.int jj), .val (.int ja), .val (.int jb), .val (.int jc), .val (.int jf), .val (.int ia), .val (.int ib), .val (.double va), .second, .val (.double vb), .second, .val (.ref b1), .unset, .unset, .unset] [(.int (((jc.toUInt32 >>> ((8 : Int32) &&& 31).toUInt32).toInt32) &&& (255 : Int32))), (.int ib), (.ref b9), (.ref b9)])) _
    refine XS.i2c X9.here hx rfl (hb hby at_122) rfl ?_
    show Steps p.tables e below (T9.setTop (mkF m 123 #[.val (.int ji), .val (.int jj), .val (.int ja), .val (.int jb), .val (.int jc), .val (.int jf), .val (.int ia), .val (.int ib), .val (.double va), .second, .val (.double vb), .second, .val (.ref b1), .unset, .unset, .unset] [(.int ((((jc.toUInt32 >>> ((8 : Int32) &&& 31).toUInt32).toInt32) &&& (255 : Int32)).toUInt32.toUInt16.toUInt32.toInt32)), (.int ib), (.ref b9), (.ref b9)])) _
    rw [i2c_mask _]
    show Steps p.tables e below (T9.setTop (mkF m 123 #[.val (.int ji), .val (.int jj), .val (.int ja), .val (.int jb), .val (.int jc), .val (.int jf), .val (.int ia), .val (.int ib), .val (.double va), .second, .val (.double vb), .second, .val (.ref b1), .unset, .unset, .unset] [(.int (((jc.toUInt32 >>> ((8 : Int32) &&& 31).toUInt32).toInt32) &&& (255 : Int32))), (.int ib), (.ref b9), (.ref b9)])) _
    refine st10 _ ?_
    show Steps p.tables e below (T10.setTop (mkF m 126 #[.val (.int ji), .val (.int jj), .val (.int ja), .val (.int jb), .val (.int jc), .val (.int jf), .val (.int ia), .val (.int ib), .val (.double va), .second, .val (.double vb), .second, .val (.ref b1), .unset, .unset, .unset] [(.ref nb_10), (.int ib), (.ref b9), (.ref b9)])) _
    refine XS.dload X10.here hx rfl (hb hby at_126) rfl ?_
    show Steps p.tables e below (T10.setTop (mkF m 128 #[.val (.int ji), .val (.int jj), .val (.int ja), .val (.int jb), .val (.int jc), .val (.int jf), .val (.int ia), .val (.int ib), .val (.double va), .second, .val (.double vb), .second, .val (.ref b1), .unset, .unset, .unset] [(.double vb), (.ref nb_10), (.int ib), (.ref b9), (.ref b9)])) _
    refine st12.trans ?_
    show Steps p.tables e below (T12.setTop (mkF m 131 #[.val (.int ji), .val (.int jj), .val (.int ja), .val (.int jb), .val (.int jc), .val (.int jf), .val (.int ia), .val (.int ib), .val (.double va), .second, .val (.double vb), .second, .val (.ref b1), .unset, .unset, .unset] [(.ref b9)])) _
    refine XS.astore X12.here hx rfl (hb hby at_131) rfl rfl (l' := #[.val (.int ji), .val (.int jj), .val (.int ja), .val (.int jb), .val (.int jc), .val (.int jf), .val (.int ia), .val (.int ib), .val (.double va), .second, .val (.double vb), .second, .val (.ref b1), .val (.ref b9), .unset, .unset]) rfl ?_
    show Steps p.tables e below (T12.setTop (mkF m 133 #[.val (.int ji), .val (.int jj), .val (.int ja), .val (.int jb), .val (.int jc), .val (.int jf), .val (.int ia), .val (.int ib), .val (.double va), .second, .val (.double vb), .second, .val (.ref b1), .val (.ref b9), .unset, .unset] [])) _
    refine XS.dload X12.here hx rfl (hb hby at_133) rfl ?_
    show Steps p.tables e below (T12.setTop (mkF m 135 #[.val (.int ji), .val (.int jj), .val (.int ja), .val (.int jb), .val (.int jc), .val (.int jf), .val (.int ia), .val (.int ib), .val (.double va), .second, .val (.double vb), .second, .val (.ref b1), .val (.ref b9), .unset, .unset] [(.double va)])) _
    refine XS.dload X12.here hx rfl (hb hby at_135) rfl ?_
    show Steps p.tables e below (T12.setTop (mkF m 137 #[.val (.int ji), .val (.int jj), .val (.int ja), .val (.int jb), .val (.int jc), .val (.int jf), .val (.int ia), .val (.int ib), .val (.double va), .second, .val (.double vb), .second, .val (.ref b1), .val (.ref b9), .unset, .unset] [(.double vb), (.double va)])) _
    refine XS.dcmpS X12.here hx rfl (hb hby at_137) rfl rfl ?_
    show Steps p.tables e below (T12.setTop (mkF m 138 #[.val (.int ji), .val (.int jj), .val (.int ja), .val (.int jb), .val (.int jc), .val (.int jf), .val (.int ia), .val (.int ib), .val (.double va), .second, .val (.double vb), .second, .val (.ref b1), .val (.ref b9), .unset, .unset] [(.int (cmpValue (FP.dcmp va vb) .l))])) _
    refine XS.ifNo X12.here hx rfl (hb hby at_138) rfl ((if0 _ _).trans (flt k0).2.2.1) ?_
    show Steps p.tables e below (T12.setTop (mkF m 141 #[.val (.int ji), .val (.int jj), .val (.int ja), .val (.int jb), .val (.int jc), .val (.int jf), .val (.int ia), .val (.int ib), .val (.double va), .second, .val (.double vb), .second, .val (.ref b1), .val (.ref b9), .unset, .unset] [])) _
    refine XS.dload X12.here hx rfl (hb hby at_141) rfl ?_
    show Steps p.tables e below (T12.setTop (mkF m 143 #[.val (.int ji), .val (.int jj), .val (.int ja), .val (.int jb), .val (.int jc), .val (.int jf), .val (.int ia), .val (.int ib), .val (.double va), .second, .val (.double vb), .second, .val (.ref b1), .val (.ref b9), .unset, .unset] [(.double va)])) _
    refine XS.dload X12.here hx rfl (hb hby at_143) rfl ?_
    show Steps p.tables e below (T12.setTop (mkF m 145 #[.val (.int ji), .val (.int jj), .val (.int ja), .val (.int jb), .val (.int jc), .val (.int jf), .val (.int ia), .val (.int ib), .val (.double va), .second, .val (.double vb), .second, .val (.ref b1), .val (.ref b9), .unset, .unset] [(.double vb), (.double va)])) _
    refine XS.dcmpS X12.here hx rfl (hb hby at_145) rfl rfl ?_
    show Steps p.tables e below (T12.setTop (mkF m 146 #[.val (.int ji), .val (.int jj), .val (.int ja), .val (.int jb), .val (.int jc), .val (.int jf), .val (.int ia), .val (.int ib), .val (.double va), .second, .val (.double vb), .second, .val (.ref b1), .val (.ref b9), .unset, .unset] [(.int (cmpValue (FP.dcmp va vb) .l))])) _
    refine XS.ifNo X12.here hx rfl (hb hby at_146) rfl ((if0 _ _).trans (teq k2).2) ?_
    show Steps p.tables e below (T12.setTop (mkF m 149 #[.val (.int ji), .val (.int jj), .val (.int ja), .val (.int jb), .val (.int jc), .val (.int jf), .val (.int ia), .val (.int ib), .val (.double va), .second, .val (.double vb), .second, .val (.ref b1), .val (.ref b9), .unset, .unset] [])) _
    refine XS.iload X12.here hx rfl (hb hby at_149) rfl ?_
    show Steps p.tables e below (T12.setTop (mkF m 151 #[.val (.int ji), .val (.int jj), .val (.int ja), .val (.int jb), .val (.int jc), .val (.int jf), .val (.int ia), .val (.int ib), .val (.double va), .second, .val (.double vb), .second, .val (.ref b1), .val (.ref b9), .unset, .unset] [(.int ia)])) _
    refine XS.iload X12.here hx rfl (hb hby at_151) rfl ?_
    show Steps p.tables e below (T12.setTop (mkF m 153 #[.val (.int ji), .val (.int jj), .val (.int ja), .val (.int jb), .val (.int jc), .val (.int jf), .val (.int ia), .val (.int ib), .val (.double va), .second, .val (.double vb), .second, .val (.ref b1), .val (.ref b9), .unset, .unset] [(.int ib), (.int ia)])) _
    refine XS.icmpYes X12.here hx rfl (pc0 := 153) (pc' := 160) rfl (hb hby at_153) rfl (flt k4).2.1 (by decide) (by decide) ?_
    show Steps p.tables e below (T12.setTop (mkF m 160 #[.val (.int ji), .val (.int jj), .val (.int ja), .val (.int jb), .val (.int jc), .val (.int jf), .val (.int ia), .val (.int ib), .val (.double va), .second, .val (.double vb), .second, .val (.ref b1), .val (.ref b9), .unset, .unset] [])) _
    refine XS.iconst X12.here hx rfl (hb hby at_160) ?_
    show Steps p.tables e below (T12.setTop (mkF m 161 #[.val (.int ji), .val (.int jj), .val (.int ja), .val (.int jb), .val (.int jc), .val (.int jf), .val (.int ia), .val (.int ib), .val (.double va), .second, .val (.double vb), .second, .val (.ref b1), .val (.ref b9), .unset, .unset] [(.int (0 : Int32))])) _
    refine XS.istore X12.here hx rfl (hb hby at_161) rfl (l' := #[.val (.int ji), .val (.int jj), .val (.int ja), .val (.int jb), .val (.int jc), .val (.int jf), .val (.int ia), .val (.int ib), .val (.double va), .second, .val (.double vb), .second, .val (.ref b1), .val (.ref b9), .val (.int (0 : Int32)), .unset]) rfl ?_
    show Steps p.tables e below (T12.setTop (mkF m 163 #[.val (.int ji), .val (.int jj), .val (.int ja), .val (.int jb), .val (.int jc), .val (.int jf), .val (.int ia), .val (.int ib), .val (.double va), .second, .val (.double vb), .second, .val (.ref b1), .val (.ref b9), .val (.int (0 : Int32)), .unset] [])) _
    refine XS.dload X12.here hx rfl (hb hby at_163) rfl ?_
    show Steps p.tables e below (T12.setTop (mkF m 165 #[.val (.int ji), .val (.int jj), .val (.int ja), .val (.int jb), .val (.int jc), .val (.int jf), .val (.int ia), .val (.int ib), .val (.double va), .second, .val (.double vb), .second, .val (.ref b1), .val (.ref b9), .val (.int (0 : Int32)), .unset] [(.double vb)])) _
    refine XS.dload X12.here hx rfl (hb hby at_165) rfl ?_
    show Steps p.tables e below (T12.setTop (mkF m 167 #[.val (.int ji), .val (.int jj), .val (.int ja), .val (.int jb), .val (.int jc), .val (.int jf), .val (.int ia), .val (.int ib), .val (.double va), .second, .val (.double vb), .second, .val (.ref b1), .val (.ref b9), .val (.int (0 : Int32)), .unset] [(.double va), (.double vb)])) _
    refine XS.dcmpS X12.here hx rfl (hb hby at_167) rfl rfl ?_
    show Steps p.tables e below (T12.setTop (mkF m 168 #[.val (.int ji), .val (.int jj), .val (.int ja), .val (.int jb), .val (.int jc), .val (.int jf), .val (.int ia), .val (.int ib), .val (.double va), .second, .val (.double vb), .second, .val (.ref b1), .val (.ref b9), .val (.int (0 : Int32)), .unset] [(.int (cmpValue (FP.dcmp vb va) .l))])) _
    refine XS.ifNo X12.here hx rfl (hb hby at_168) rfl ((if0 _ _).trans (flt k1).2.2.1) ?_
    show Steps p.tables e below (T12.setTop (mkF m 171 #[.val (.int ji), .val (.int jj), .val (.int ja), .val (.int jb), .val (.int jc), .val (.int jf), .val (.int ia), .val (.int ib), .val (.double va), .second, .val (.double vb), .second, .val (.ref b1), .val (.ref b9), .val (.int (0 : Int32)), .unset] [])) _
    refine XS.dload X12.here hx rfl (hb hby at_171) rfl ?_
    show Steps p.tables e below (T12.setTop (mkF m 173 #[.val (.int ji), .val (.int jj), .val (.int ja), .val (.int jb), .val (.int jc), .val (.int jf), .val (.int ia), .val (.int ib), .val (.double va), .second, .val (.double vb), .second, .val (.ref b1), .val (.ref b9), .val (.int (0 : Int32)), .unset] [(.double va)])) _
    refine XS.dload X12.here hx rfl (hb hby at_173) rfl ?_
    show Steps p.tables e below (T12.setTop (mkF m 175 #[.val (.int ji), .val (.int jj), .val (.int ja), .val (.int jb), .val (.int jc), .val (.int jf), .val (.int ia), .val (.int ib), .val (.double va), .second, .val (.double vb), .second, .val (.ref b1), .val (.ref b9), .val (.int (0 : Int32)), .unset] [(.double vb), (.double va)])) _
    refine XS.dcmpS X12.here hx rfl (hb hby at_175) rfl rfl ?_
    show Steps p.tables e below (T12.setTop (mkF m 176 #[.val (.int ji), .val (.int jj), .val (.int ja), .val (.int jb), .val (.int jc), .val (.int jf), .val (.int ia), .val (.int ib), .val (.double va), .second, .val (.double vb), .second, .val (.ref b1), .val (.ref b9), .val (.int (0 : Int32)), .unset] [(.int (cmpValue (FP.dcmp va vb) .l))])) _
    refine XS.ifNo X12.here hx rfl (hb hby at_176) rfl ((if0 _ _).trans (teq k2).2) ?_
    show Steps p.tables e below (T12.setTop (mkF m 179 #[.val (.int ji), .val (.int jj), .val (.int ja), .val (.int jb), .val (.int jc), .val (.int jf), .val (.int ia), .val (.int ib), .val (.double va), .second, .val (.double vb), .second, .val (.ref b1), .val (.ref b9), .val (.int (0 : Int32)), .unset] [])) _
    refine XS.iload X12.here hx rfl (hb hby at_179) rfl ?_
    show Steps p.tables e below (T12.setTop (mkF m 181 #[.val (.int ji), .val (.int jj), .val (.int ja), .val (.int jb), .val (.int jc), .val (.int jf), .val (.int ia), .val (.int ib), .val (.double va), .second, .val (.double vb), .second, .val (.ref b1), .val (.ref b9), .val (.int (0 : Int32)), .unset] [(.int ib)])) _
    refine XS.iload X12.here hx rfl (hb hby at_181) rfl ?_
    show Steps p.tables e below (T12.setTop (mkF m 183 #[.val (.int ji), .val (.int jj), .val (.int ja), .val (.int jb), .val (.int jc), .val (.int jf), .val (.int ia), .val (.int ib), .val (.double va), .second, .val (.double vb), .second, .val (.ref b1), .val (.ref b9), .val (.int (0 : Int32)), .unset] [(.int ia), (.int ib)])) _
    refine XS.icmpNo X12.here hx rfl (hb hby at_183) rfl (tlt k3).2.1 ?_
    show Steps p.tables e below (T12.setTop (mkF m 186 #[.val (.int ji), .val (.int jj), .val (.int ja), .val (.int jb), .val (.int jc), .val (.int jf), .val (.int ia), .val (.int ib), .val (.double va), .second, .val (.double vb), .second, .val (.ref b1), .val (.ref b9), .val (.int (0 : Int32)), .unset] [])) _
    refine XS.iconst X12.here hx rfl (hb hby at_186) ?_
    show Steps p.tables e below (T12.setTop (mkF m 187 #[.val (.int ji), .val (.int jj), .val (.int ja), .val (.int jb), .val (.int jc), .val (.int jf), .val (.int ia), .val (.int ib), .val (.double va), .second, .val (.double vb), .second, .val (.ref b1), .val (.ref b9), .val (.int (0 : Int32)), .unset] [(.int (1 : Int32))])) _
    refine XS.goto X12.here hx rfl (pc0 := 187) (pc' := 191) rfl (hb hby at_187) (by decide) (by decide) ?_
    show Steps p.tables e below (T12.setTop (mkF m 191 #[.val (.int ji), .val (.int jj), .val (.int ja), .val (.int jb), .val (.int jc), .val (.int jf), .val (.int ia), .val (.int ib), .val (.double va), .second, .val (.double vb), .second, .val (.ref b1), .val (.ref b9), .val (.int (0 : Int32)), .unset] [(.int (1 : Int32))])) _
    refine XS.istore X12.here hx rfl (hb hby at_191) rfl (l' := #[.val (.int ji), .val (.int jj), .val (.int ja), .val (.int jb), .val (.int jc), .val (.int jf), .val (.int ia), .val (.int ib), .val (.double va), .second, .val (.double vb), .second, .val (.ref b1), .val (.ref b9), .val (.int (0 : Int32)), .val (.int (1 : Int32))]) rfl ?_
    show Steps p.tables e below (T12.setTop (mkF m 193 #[.val (.int ji), .val (.int jj), .val (.int ja), .val (.int jb), .val (.int jc), .val (.int jf), .val (.int ia), .val (.int ib), .val (.double va), .second, .val (.double vb), .second, .val (.ref b1), .val (.ref b9), .val (.int (0 : Int32)), .val (.int (1 : Int32))] [])) _
    refine XS.aload X12.here hx rfl (hb hby at_193) rfl rfl ?_
    show Steps p.tables e below (T12.setTop (mkF m 195 #[.val (.int ji), .val (.int jj), .val (.int ja), .val (.int jb), .val (.int jc), .val (.int jf), .val (.int ia), .val (.int ib), .val (.double va), .second, .val (.double vb), .second, .val (.ref b1), .val (.ref b9), .val (.int (0 : Int32)), .val (.int (1 : Int32))] [(.ref b1)])) _
    refine XS.aload X12.here hx rfl (hb hby at_195) rfl rfl ?_
    show Steps p.tables e below (T12.setTop (mkF m 197 #[.val (.int ji), .val (.int jj), .val (.int ja), .val (.int jb), .val (.int jc), .val (.int jf), .val (.int ia), .val (.int ib), .val (.double va), .second, .val (.double vb), .second, .val (.ref b1), .val (.ref b9), .val (.int (0 : Int32)), .val (.int (1 : Int32))] [(.ref b9), (.ref b1)])) _
    refine st18.trans ?_
    show Steps p.tables e below (T18.setTop (mkF m 200 #[.val (.int ji), .val (.int jj), .val (.int ja), .val (.int jb), .val (.int jc), .val (.int jf), .val (.int ia), .val (.int ib), .val (.double va), .second, .val (.double vb), .second, .val (.ref b1), .val (.ref b9), .val (.int (0 : Int32)), .val (.int (1 : Int32))] [(.int (0 : Int32))])) _
    refine XS.iload X18.here hx rfl (hb hby at_200) rfl ?_
    show Steps p.tables e below (T18.setTop (mkF m 202 #[.val (.int ji), .val (.int jj), .val (.int ja), .val (.int jb), .val (.int jc), .val (.int jf), .val (.int ia), .val (.int ib), .val (.double va), .second, .val (.double vb), .second, .val (.ref b1), .val (.ref b9), .val (.int (0 : Int32)), .val (.int (1 : Int32))] [(.int (0 : Int32)), (.int (0 : Int32))])) _
    refine XS.icmpNo X18.here hx rfl (hb hby at_202) rfl (teq (rfl : (0 : Int32) = (0 : Int32))).2 ?_
    show Steps p.tables e below (T18.setTop (mkF m 205 #[.val (.int ji), .val (.int jj), .val (.int ja), .val (.int jb), .val (.int jc), .val (.int jf), .val (.int ia), .val (.int ib), .val (.double va), .second, .val (.double vb), .second, .val (.ref b1), .val (.ref b9), .val (.int (0 : Int32)), .val (.int (1 : Int32))] [])) _
    refine XS.aload X18.here hx rfl (hb hby at_205) rfl rfl ?_
    show Steps p.tables e below (T18.setTop (mkF m 207 #[.val (.int ji), .val (.int jj), .val (.int ja), .val (.int jb), .val (.int jc), .val (.int jf), .val (.int ia), .val (.int ib), .val (.double va), .second, .val (.double vb), .second, .val (.ref b1), .val (.ref b9), .val (.int (0 : Int32)), .val (.int (1 : Int32))] [(.ref b9)])) _
    refine XS.aload X18.here hx rfl (hb hby at_207) rfl rfl ?_
    show Steps p.tables e below (T18.setTop (mkF m 209 #[.val (.int ji), .val (.int jj), .val (.int ja), .val (.int jb), .val (.int jc), .val (.int jf), .val (.int ia), .val (.int ib), .val (.double va), .second, .val (.double vb), .second, .val (.ref b1), .val (.ref b9), .val (.int (0 : Int32)), .val (.int (1 : Int32))] [(.ref b1), (.ref b9)])) _
    refine st22.trans ?_
    show Steps p.tables e below (T22.setTop (mkF m 212 #[.val (.int ji), .val (.int jj), .val (.int ja), .val (.int jb), .val (.int jc), .val (.int jf), .val (.int ia), .val (.int ib), .val (.double va), .second, .val (.double vb), .second, .val (.ref b1), .val (.ref b9), .val (.int (0 : Int32)), .val (.int (1 : Int32))] [(.int (1 : Int32))])) _
    refine XS.iload X22.here hx rfl (hb hby at_212) rfl ?_
    show Steps p.tables e below (T22.setTop (mkF m 214 #[.val (.int ji), .val (.int jj), .val (.int ja), .val (.int jb), .val (.int jc), .val (.int jf), .val (.int ia), .val (.int ib), .val (.double va), .second, .val (.double vb), .second, .val (.ref b1), .val (.ref b9), .val (.int (0 : Int32)), .val (.int (1 : Int32))] [(.int (1 : Int32)), (.int (1 : Int32))])) _
    refine XS.icmpNo X22.here hx rfl (hb hby at_214) rfl (teq (rfl : (1 : Int32) = (1 : Int32))).2 ?_
    show Steps p.tables e below (T22.setTop (mkF m 217 #[.val (.int ji), .val (.int jj), .val (.int ja), .val (.int jb), .val (.int jc), .val (.int jf), .val (.int ia), .val (.int ib), .val (.double va), .second, .val (.double vb), .second, .val (.ref b1), .val (.ref b9), .val (.int (0 : Int32)), .val (.int (1 : Int32))] [])) _
    refine XS.aload X22.here hx rfl (hb hby at_217) rfl rfl ?_
    show Steps p.tables e below (T22.setTop (mkF m 219 #[.val (.int ji), .val (.int jj), .val (.int ja), .val (.int jb), .val (.int jc), .val (.int jf), .val (.int ia), .val (.int ib), .val (.double va), .second, .val (.double vb), .second, .val (.ref b1), .val (.ref b9), .val (.int (0 : Int32)), .val (.int (1 : Int32))] [(.ref b1)])) _
    refine XS.aload X22.here hx rfl (hb hby at_219) rfl rfl ?_
    show Steps p.tables e below (T22.setTop (mkF m 221 #[.val (.int ji), .val (.int jj), .val (.int ja), .val (.int jb), .val (.int jc), .val (.int jf), .val (.int ia), .val (.int ib), .val (.double va), .second, .val (.double vb), .second, .val (.ref b1), .val (.ref b9), .val (.int (0 : Int32)), .val (.int (1 : Int32))] [(.ref b1), (.ref b1)])) _
    refine st23.trans ?_
    show Steps p.tables e below (T23.setTop (mkF m 224 #[.val (.int ji), .val (.int jj), .val (.int ja), .val (.int jb), .val (.int jc), .val (.int jf), .val (.int ia), .val (.int ib), .val (.double va), .second, .val (.double vb), .second, .val (.ref b1), .val (.ref b9), .val (.int (0 : Int32)), .val (.int (1 : Int32))] [(.int (0 : Int32))])) _
    refine XS.ifNo X23.here hx rfl (hb hby at_224) rfl ((if0 _ _).trans (teq (rfl : (0 : Int32) = (0 : Int32))).2) ?_
    show Steps p.tables e below (T23.setTop (mkF m 227 #[.val (.int ji), .val (.int jj), .val (.int ja), .val (.int jb), .val (.int jc), .val (.int jf), .val (.int ia), .val (.int ib), .val (.double va), .second, .val (.double vb), .second, .val (.ref b1), .val (.ref b9), .val (.int (0 : Int32)), .val (.int (1 : Int32))] [])) _
    refine XS.iconst X23.here hx rfl (hb hby at_227) ?_
    show Steps p.tables e below (T23.setTop (mkF m 228 #[.val (.int ji), .val (.int jj), .val (.int ja), .val (.int jb), .val (.int jc), .val (.int jf), .val (.int ia), .val (.int ib), .val (.double va), .second, .val (.double vb), .second, .val (.ref b1), .val (.ref b9), .val (.int (0 : Int32)), .val (.int (1 : Int32))] [(.int (1 : Int32))])) _
    refine XS.goto X23.here hx rfl (pc0 := 228) (pc' := 232) rfl (hb hby at_228) (by decide) (by decide) ?_
    show Steps p.tables e below (T23.setTop (mkF m 232 #[.val (.int ji), .val (.int jj), .val (.int ja), .val (.int jb), .val (.int jc), .val (.int jf), .val (.int ia), .val (.int ib), .val (.double va), .second, .val (.double vb), .second, .val (.ref b1), .val (.ref b9), .val (.int (0 : Int32)), .val (.int (1 : Int32))] [(.int (1 : Int32))])) _
    exact retN X23 hx (t := .boolean) Bd.returns (by simp) (hb hby at_232) hr
  · show Q_rm0_eg Z ji jj ja jb jc jf ia ib va vb s_CS h0 n0 _ T23.heap _
    rw [e23]
    exact ⟨rfl, N23⟩
def Q_rm0_ee (Z : State) (ji : Int32) (jj : Int32) (ja : Int32) (jb : Int32) (jc : Int32) (jf : Int32) (ia : Int32) (ib : Int32) (va : UInt64) (vb : UInt64) (s_CS : Int32) (h0 : Heap) (n0 : Nat) (v : Option Value) (h : Heap) (L : List Loc) : Prop := v = some (.int (1 : Int32)) ∧ Fr n0 L
theorem ef_rm0_ee (m : MethodId) (ji : Int32) (jj : Int32) (ja : Int32) (jb : Int32) (jc : Int32) (jf : Int32) : entryFrame m #[(.int ji), (.int jj), (.int ja), (.int jb), (.int jc), (.int jf)] maxLocals = mkF m 0 #[.val (.int ji), .val (.int jj), .val (.int ja), .val (.int jb), .val (.int jc), .val (.int jf), .unset, .unset, .unset, .unset, .unset, .unset, .unset, .unset, .unset, .unset] [] := by first | (simp [entryFrame, mkF, argsToLocals, Value.category, maxLocals]; done) | rfl
set_option maxRecDepth 65536 in
set_option maxHeartbeats 40000000 in
theorem rm0_ee (l : Launch) (Z : State) (a0 : Array Value) (hw : ∀ d ∈ tables_1, d.before a0 Z = true) (ws : List Jvm.Cond) (ji : Int32) (jj : Int32) (ja : Int32) (jb : Int32) (jc : Int32) (jf : Int32) (ia : Int32) (ib : Int32) (va : UInt64) (vb : UInt64) (s_CS : Int32) (h0 : Heap) (n0 : Nat) (Z0 : n0 ≤ h0.size) (hwS : ∀ a ∈ Bundle.stringAtoms, a.before a0 Z = true) (S_CS : Sta Z h0 "java/lang/String" "COMPACT_STRINGS" "Z" (.int s_CS)) (hcs : ¬ (s_CS = (0 : Int32))) (hia : (ji &&& (2147483647 : Int32)) = ia) (hib : (own_ib ji jj jf) = ib) (hva : (own_v ja jf 2) = va) (hvb : (own_v jb jf 4) = vb) (gia : ¬ (ia < (0 : Int32))) (gib : ¬ (ib < (0 : Int32))) (ma : va ∈ own_tab) (mb : vb ∈ own_tab) (k0 : ¬ ((0 : Int32) < (cmpValue (FP.dcmp va vb) .l))) (k1 : ¬ ((0 : Int32) < (cmpValue (FP.dcmp vb va) .l))) (k2 : (cmpValue (FP.dcmp va vb) .l) = (0 : Int32)) (heq : (FP.dadd va 0) = (FP.dadd vb 0)) (k3 : ib = ia) (k4 : ¬ (ia < ib)) (k5 : ¬ (ib < ia)) (k6 : ia = ib) :
    MetFree l x (head1 (Jvm.Cond.code x code maxLocals ret :: ws) room_1) (fun a U => a = #[(.int ji), (.int jj), (.int ja), (.int jb), (.int jc), (.int jf)] ∧ Z.Warmed39 U.vm ∧ U.heap = h0) (fun _ _ _ _ _ => True) (fun _ U o U' => ∃ v L, o = .returned v ∧ Q_rm0_ee Z ji jj ja jb jc jf ia ib va vb s_CS h0 n0 v U'.heap L ∧ ReturnedEndW U o U' L room_1.cells room_1.slots) := by
  refine MetFree.of_bodySF (plainFor_of_name pn_9) hisR ?_
  intro p e s m args below meth c s₁ Bd hml0 hP hK
  obtain ⟨rfl, hZ, hh⟩ := hP
  have hx := Bd.exec
  have hby := Bd.bytes
  have hml : c.maxLocals = 16 := hml0
  have hown : s.vm.findClass "com/example/sortition/sortition/ElementOutranksPinLaw" = some m.cls := findClass_of_methodNamed Bd.named
  have hnm := (name_of_methodNamed Bd.named Bd.method).1
  have X0 : Stand p l e room_1 s m #[(.int ji), (.int jj), (.int ja), (.int jb), (.int jc), (.int jf)] below meth c s₁ [] 0 0 := Stand.of_body Bd
  have e0 : s₁.heap = h0 := by rw [← hh, Bd.state]; rfl
  have N0 := Fr.nil n0
  have hS0 := (State.WarmedH.refl s).since 0
  have pre0 : ∀ t, Steps p.tables e below (s₁.setTop (mkF m 0 #[.val (.int ji), .val (.int jj), .val (.int ja), .val (.int jb), .val (.int jc), .val (.int jf), .unset, .unset, .unset, .unset, .unset, .unset, .unset, .unset, .unset, .unset] [])) t → Steps p.tables e below (s₁.setTop (entryFrame m #[(.int ji), (.int jj), (.int ja), (.int jb), (.int jc), (.int jf)] maxLocals)) t := fun t k => castTop (ef_rm0_ee m ji jj ja jb jc jf) k
  have stp := own_pre ji jj ja jb jc jf X0 hx hZ hw hby hown
  rw [hia, hib, hva, hvb] at stp
  obtain ⟨T1, h1, X1, e1, E1, A1, D1, -, st1⟩ := newO X0 hx hZ hown (hw _ (List.mem_of_getElem? (i := 2) rfl)) (hw _ (List.mem_of_getElem? (i := 3) rfl)) (hw _ (List.mem_of_getElem? (i := 4) rfl)) e0 (g := (mkF m 84 #[.val (.int ji), .val (.int jj), .val (.int ja), .val (.int jb), .val (.int jc), .val (.int jf), .val (.int ia), .val (.int ib), .val (.double va), .second, .val (.double vb), .second, .unset, .unset, .unset, .unset] [])) rfl (hb hby at_84) (by decide) (by decide)
  obtain ⟨b1, g1⟩ : ∃ z, z = h0.size := ⟨_, rfl⟩
  rw [← g1] at A1 D1 st1
  have F1_2 : Fld Z h1 b1 "com/example/sortition/sortition/Element" "index" "I" (.int (0 : Int32)) := D1 (Or.inr (hw _ (List.mem_of_getElem? (i := 54) rfl))) (ty := .int) (by decide)
  have F1_3 : Fld Z h1 b1 "com/example/sortition/sortition/Element" "id" "Ljava/lang/String;" .null := D1 (Or.inr (hw _ (List.mem_of_getElem? (i := 56) rfl))) (ty := (.object "java/lang/String")) (by decide)
  have F1_4 : Fld Z h1 b1 "com/example/sortition/sortition/Element" "value" "D" (.double 0) := D1 (Or.inr (hw _ (List.mem_of_getElem? (i := 58) rfl))) (ty := .double) (by decide)
  have f3 : Sta Z h1 "java/lang/String" "COMPACT_STRINGS" "Z" (.int s_CS) := (S_CS.ext E1)
  obtain ⟨_, _, ⟨T2, L2, k2, n2⟩, -, X2, ⟨Lc2, hQ2, l2, y2, z2⟩, st2⟩ := Jvm.LawKit.callS X1 hx (y := (⟨"java/lang/String", "valueOf", "(C)Ljava/lang/String;"⟩ : MethodName)) hown (mvT hZ (hw _ (List.mem_of_getElem? (i := 5) rfl))) (mvT hZ (hw _ (List.mem_of_getElem? (i := 6) rfl))) (mvT hZ (hw _ (List.mem_of_getElem? (i := 7) rfl))) (mvT hZ (hw _ (List.mem_of_getElem? (i := 8) rfl))) (by decide) (backOf (W := 3) (rmVO l Z a0 hw [] (jc &&& (255 : Int32)) s_CS h1 n0 (Nat.le_trans Z0 E1.1) (own_255 _) f3 hcs) hZ (hw _ (List.mem_of_getElem? (i := 8) rfl)) (hw _ (List.mem_of_getElem? (i := 7) rfl)) (by decide) (by decide)) (g := (mkF m 97 #[.val (.int ji), .val (.int jj), .val (.int ja), .val (.int jb), .val (.int jc), .val (.int jf), .val (.int ia), .val (.int ib), .val (.double va), .second, .val (.double vb), .second, .unset, .unset, .unset, .unset] [(.int (jc &&& (255 : Int32))), (.int ia), (.ref b1), (.ref b1)])) rfl (by rw [hml]; rfl) (argsL := [(.int (jc &&& (255 : Int32)))]) (rest := [(.int ia), (.ref b1), (.ref b1)]) (lenOf pd_11 rfl) rfl (by show 2 * 0 + _ ≤ _; exact Nat.le_of_eq rfl) (hb hby at_97) (fun _ _ => ⟨rfl, e1, (by decide : 1 + 2 ≤ _), (by decide : 3 + 5 ≤ _)⟩)
  dsimp only [Pt.U, Pt.locs, Pt.cells, Pt.slots] at X2 l2 y2 z2 st2 hQ2
  subst l2 y2 z2
  obtain ⟨nb_2, ab_2, kb_2, rfl, Nq2, gb2_0, gb2_1, Kp2, Fq2_0, Fq2_1, Fq2_2⟩ := hQ2
  have N2 := Fr.app N0 Nq2
  have f5 : Fld Z T2.heap b1 "com/example/sortition/sortition/Element" "index" "I" (.int (0 : Int32)) := (F1_2.keep Kp2 nin0)
  have f6 : Exa Z T2.heap b1 "com/example/sortition/sortition/Element" := (A1.keep Kp2)
  have f7 : Fld Z T2.heap b1 "com/example/sortition/sortition/Element" "id" "Ljava/lang/String;" .null := (F1_3.keep Kp2 nin0)
  have f8 : Fld Z T2.heap b1 "com/example/sortition/sortition/Element" "value" "D" (.double 0) := (F1_4.keep Kp2 nin0)
  obtain ⟨_, _, ⟨T4, L4, k4, n4⟩, -, X4, hSq4, hgq4, ⟨Lc4, hQ4, l4, y4, z4⟩, st4⟩ := X2.specialBackS hx (y := (⟨"com/example/sortition/sortition/Element", "<init>", "(ILjava/lang/String;D)V"⟩ : MethodName)) rfl hown (mvT hZ (hw _ (List.mem_of_getElem? (i := 31) rfl))) (mvT hZ (hw _ (List.mem_of_getElem? (i := 32) rfl))) (mvT hZ (hw _ (List.mem_of_getElem? (i := 33) rfl))) (by decide) (backOfS (W := 1) (rmEI l Z a0 hw [] b1 ia nb_2 va ab_2 kb_2 [(.int (nar .byte ((jc &&& (255 : Int32)).toInt8.toInt32)))] (.int (0 : Int32)) .null (.double 0) T2.heap n0 (Nat.le_trans (Nat.le_trans Z0 E1.1) Kp2.1) hwS Fq2_0 Fq2_1 Fq2_2 gia (own_ge0 _ ma) (own_inf _ ma) (own_nn0 ma) f5 f6 (Nat.le_trans Z0 (Nat.le_of_eq g1.symm)) f7 f8) hZ (hw _ (List.mem_of_getElem? (i := 33) rfl)) (hw _ (List.mem_of_getElem? (i := 4) rfl)) (by decide) (by decide)) (g := (mkF m 102 #[.val (.int ji), .val (.int jj), .val (.int ja), .val (.int jb), .val (.int jc), .val (.int jf), .val (.int ia), .val (.int ib), .val (.double va), .second, .val (.double vb), .second, .unset, .unset, .unset, .unset] [(.double va), (.ref nb_2), (.int ia), (.ref b1), (.ref b1)])) rfl (by rw [hml]; rfl) (Steps.refl _) (a := b1) (argsL := [(.int ia), (.ref nb_2), (.double va)]) (rest := [(.ref b1)]) (lenOf pd_12 rfl) rfl (by show 2 * 0 + _ ≤ _; exact Nat.le_of_eq rfl) (hb hby at_102) (fun _ _ => ⟨rfl, rfl, (by decide : 3 + 2 ≤ _), (by decide : 8 + 12 ≤ _)⟩)
  dsimp only [Pt.U, Pt.locs, Pt.cells, Pt.slots] at X4 l4 y4 z4 st4 hQ4 hSq4 hgq4
  subst l4 y4 z4
  obtain ⟨X4, hS4, hZ4, hown4⟩ := rebS (s := s) (vm0 := s.vm) hS0 (Nat.le_trans (Nat.le_trans (Nat.zero_le _) E1.1) Kp2.1) X4 hSq4 hgq4 hZ hown
  obtain ⟨rfl, Nq4, Kp4, Fq4_0, Fq4_1, Fq4_2⟩ := hQ4
  have N4 := Fr.app N2 Nq4
  obtain ⟨T9, h9, X9, e9, E9, A9, D9, -, st9⟩ := newO X4 hx hZ4 hown4 (hw _ (List.mem_of_getElem? (i := 2) rfl)) (hw _ (List.mem_of_getElem? (i := 3) rfl)) (hw _ (List.mem_of_getElem? (i := 4) rfl)) rfl (g := (mkF m 107 #[.val (.int ji), .val (.int jj), .val (.int ja), .val (.int jb), .val (.int jc), .val (.int jf), .val (.int ia), .val (.int ib), .val (.double va), .second, .val (.double vb), .second, .val (.ref b1), .unset, .unset, .unset] [])) rfl (hb hby at_107) (by decide) (by decide)
  obtain ⟨b9, g9⟩ : ∃ z, z = T4.heap.size := ⟨_, rfl⟩
  rw [← g9] at A9 D9 st9
  have F9_9 : Fld Z h9 b9 "com/example/sortition/sortition/Element" "index" "I" (.int (0 : Int32)) := D9 (Or.inr (hw _ (List.mem_of_getElem? (i := 54) rfl))) (ty := .int) (by decide)
  have F9_10 : Fld Z h9 b9 "com/example/sortition/sortition/Element" "id" "Ljava/lang/String;" .null := D9 (Or.inr (hw _ (List.mem_of_getElem? (i := 56) rfl))) (ty := (.object "java/lang/String")) (by decide)
  have F9_11 : Fld Z h9 b9 "com/example/sortition/sortition/Element" "value" "D" (.double 0) := D9 (Or.inr (hw _ (List.mem_of_getElem? (i := 58) rfl))) (ty := .double) (by decide)
  have f11 : Sta Z h9 "java/lang/String" "COMPACT_STRINGS" "Z" (.int s_CS) := ((Sta_keep (Sta_keep f3 Kp2 ns0) Kp4 (nsS f6.nostat ns0)).ext E9)
  obtain ⟨_, _, ⟨T10, L10, k10, n10⟩, -, X10, ⟨Lc10, hQ10, l10, y10, z10⟩, st10⟩ := Jvm.LawKit.callS X9 hx (y := (⟨"java/lang/String", "valueOf", "(C)Ljava/lang/String;"⟩ : MethodName)) hown4 (mvT hZ4 (hw _ (List.mem_of_getElem? (i := 5) rfl))) (mvT hZ4 (hw _ (List.mem_of_getElem? (i := 6) rfl))) (mvT hZ4 (hw _ (List.mem_of_getElem? (i := 7) rfl))) (mvT hZ4 (hw _ (List.mem_of_getElem? (i := 8) rfl))) (by decide) (backOf (W := 3) (rmVO l Z a0 hw [] (((jc.toUInt32 >>> ((8 : Int32) &&& 31).toUInt32).toInt32) &&& (255 : Int32)) s_CS h9 n0 (Nat.le_trans (Nat.le_trans (Nat.le_trans (Nat.le_trans Z0 E1.1) Kp2.1) Kp4.1) E9.1) (own_255 _) f11 hcs) hZ4 (hw _ (List.mem_of_getElem? (i := 8) rfl)) (hw _ (List.mem_of_getElem? (i := 7) rfl)) (by decide) (by decide)) (g := (mkF m 123 #[.val (.int ji), .val (.int jj), .val (.int ja), .val (.int jb), .val (.int jc), .val (.int jf), .val (.int ia), .val (.int ib), .val (.double va), .second, .val (.double vb), .second, .val (.ref b1), .unset, .unset, .unset] [(.int (((jc.toUInt32 >>> ((8 : Int32) &&& 31).toUInt32).toInt32) &&& (255 : Int32))), (.int ib), (.ref b9), (.ref b9)])) rfl (by rw [hml]; rfl) (argsL := [(.int (((jc.toUInt32 >>> ((8 : Int32) &&& 31).toUInt32).toInt32) &&& (255 : Int32)))]) (rest := [(.int ib), (.ref b9), (.ref b9)]) (lenOf pd_11 rfl) rfl (by show 2 * 0 + _ ≤ _; exact Nat.le_of_eq rfl) (hb hby at_123) (fun _ _ => ⟨rfl, e9, (by decide : 6 + 2 ≤ _), (by decide : 23 + 5 ≤ _)⟩)
  dsimp only [Pt.U, Pt.locs, Pt.cells, Pt.slots] at X10 l10 y10 z10 st10 hQ10
  subst l10 y10 z10
  obtain ⟨nb_10, ab_10, kb_10, rfl, Nq10, gb10_0, gb10_1, Kp10, Fq10_0, Fq10_1, Fq10_2⟩ := hQ10
  have N10 := Fr.app N4 Nq10
  have f13 : Fld Z T10.heap b9 "com/example/sortition/sortition/Element" "index" "I" (.int (0 : Int32)) := (F9_9.keep Kp10 nin0)
  have f14 : Exa Z T10.heap b9 "com/example/sortition/sortition/Element" := (A9.keep Kp10)
  have f15 : Fld Z T10.heap b9 "com/example/sortition/sortition/Element" "id" "Ljava/lang/String;" .null := (F9_10.keep Kp10 nin0)
  have f16 : Fld Z T10.heap b9 "com/example/sortition/sortition/Element" "value" "D" (.double 0) := (F9_11.keep Kp10 nin0)
  obtain ⟨_, _, ⟨T12, L12, k12, n12⟩, -, X12, hSq12, hgq12, ⟨Lc12, hQ12, l12, y12, z12⟩, st12⟩ := X10.specialBackS hx (y := (⟨"com/example/sortition/sortition/Element", "<init>", "(ILjava/lang/String;D)V"⟩ : MethodName)) rfl hown4 (mvT hZ4 (hw _ (List.mem_of_getElem? (i := 31) rfl))) (mvT hZ4 (hw _ (List.mem_of_getElem? (i := 32) rfl))) (mvT hZ4 (hw _ (List.mem_of_getElem? (i := 33) rfl))) (by decide) (backOfS (W := 1) (rmEI l Z a0 hw [] b9 ib nb_10 vb ab_10 kb_10 [(.int (nar .byte ((((jc.toUInt32 >>> ((8 : Int32) &&& 31).toUInt32).toInt32) &&& (255 : Int32)).toInt8.toInt32)))] (.int (0 : Int32)) .null (.double 0) T10.heap n0 (Nat.le_trans (Nat.le_trans (Nat.le_trans (Nat.le_trans (Nat.le_trans Z0 E1.1) Kp2.1) Kp4.1) E9.1) Kp10.1) hwS Fq10_0 Fq10_1 Fq10_2 gib (own_ge0 _ mb) (own_inf _ mb) (own_nn0 mb) f13 f14 (Nat.le_trans (Nat.le_trans (Nat.le_trans (Nat.le_trans Z0 E1.1) Kp2.1) Kp4.1) (Nat.le_of_eq g9.symm)) f15 f16) hZ4 (hw _ (List.mem_of_getElem? (i := 33) rfl)) (hw _ (List.mem_of_getElem? (i := 4) rfl)) (by decide) (by decide)) (g := (mkF m 128 #[.val (.int ji), .val (.int jj), .val (.int ja), .val (.int jb), .val (.int jc), .val (.int jf), .val (.int ia), .val (.int ib), .val (.double va), .second, .val (.double vb), .second, .val (.ref b1), .unset, .unset, .unset] [(.double vb), (.ref nb_10), (.int ib), (.ref b9), (.ref b9)])) rfl (by rw [hml]; rfl) (Steps.refl _) (a := b9) (argsL := [(.int ib), (.ref nb_10), (.double vb)]) (rest := [(.ref b9)]) (lenOf pd_12 rfl) rfl (by show 2 * 0 + _ ≤ _; exact Nat.le_of_eq rfl) (hb hby at_128) (fun _ _ => ⟨rfl, rfl, (by decide : 8 + 2 ≤ _), (by decide : 28 + 12 ≤ _)⟩)
  dsimp only [Pt.U, Pt.locs, Pt.cells, Pt.slots] at X12 l12 y12 z12 st12 hQ12 hSq12 hgq12
  subst l12 y12 z12
  obtain ⟨X12, hS12, hZ12, hown12⟩ := rebS (s := s) (vm0 := T4.vm) hS4 (Nat.le_trans (Nat.le_trans (Nat.le_refl _) E9.1) Kp10.1) X12 hSq12 hgq12 hZ4 hown4
  obtain ⟨rfl, Nq12, Kp12, Fq12_0, Fq12_1, Fq12_2⟩ := hQ12
  have N12 := Fr.app N10 Nq12
  have Fz17 : Fld Z T12.heap b9 "com/example/sortition/sortition/Element" "value" "D" (.double (FP.dadd va 0)) := by rw [heq]; exact Fq12_2
  have f19 : Fld Z T12.heap b1 "com/example/sortition/sortition/Element" "value" "D" (.double (FP.dadd va 0)) := (((Fq4_2.ext E9).keep Kp10 nin0).keep Kp12 (ninS (Nat.ne_of_lt (Nat.lt_of_lt_of_le Fq4_0.lt (Nat.le_of_eq g9.symm))) nin0))
  have f20 : Fld Z T12.heap b1 "com/example/sortition/sortition/Element" "index" "I" (.int ia) := (((Fq4_1.ext E9).keep Kp10 nin0).keep Kp12 (ninS (Nat.ne_of_lt (Nat.lt_of_lt_of_le Fq4_0.lt (Nat.le_of_eq g9.symm))) nin0))
  have f21 : Exa Z T12.heap b1 "com/example/sortition/sortition/Element" := (((Fq4_0.ext E9).keep Kp10).keep Kp12)
  obtain ⟨cq18, kq18, q18a, q18b, q18c⟩ := isOf hZ12 rfl f21
  obtain ⟨_, _, ⟨T18, L18, k18, n18⟩, -, X18, ⟨Lc18, hQ18, l18, y18, z18⟩, st18⟩ := X12.virtualBack hx (y := (⟨"com/example/sortition/sortition/Element", "outranks", "(Lcom/example/sortition/sortition/Element;)Z"⟩ : MethodName)) (z := (⟨"com/example/sortition/sortition/Element", "outranks", "(Lcom/example/sortition/sortition/Element;)Z"⟩ : MethodName)) hown12 (mvT hZ12 (hw _ (List.mem_of_getElem? (i := 59) rfl))) (mvT hZ12 (hw _ (List.mem_of_getElem? (i := 60) rfl))) (notFace_of_selects (args := #[]) (mvT hZ12 (hw _ (List.mem_of_getElem? (i := 62) rfl)))) (mvT hZ12 (hw _ (List.mem_of_getElem? (i := 62) rfl))) (mvT hZ12 (hw _ (List.mem_of_getElem? (i := 61) rfl))) (by decide) (backOf (W := 0) (rmOR_eqeq l Z a0 hw [] b1 b9 ia (FP.dadd va 0) ib T12.heap n0 (Nat.le_trans (Nat.le_trans (Nat.le_trans (Nat.le_trans (Nat.le_trans (Nat.le_trans Z0 E1.1) Kp2.1) Kp4.1) E9.1) Kp10.1) Kp12.1) f19 f20 Fz17 Fq12_1 (own_nn0 ma) k5 k3) hZ12 (hw _ (List.mem_of_getElem? (i := 63) rfl)) (hw _ (List.mem_of_getElem? (i := 4) rfl)) (by decide) (by decide)) q18a q18c (g := (mkF m 197 #[.val (.int ji), .val (.int jj), .val (.int ja), .val (.int jb), .val (.int jc), .val (.int jf), .val (.int ia), .val (.int ib), .val (.double va), .second, .val (.double vb), .second, .val (.ref b1), .val (.ref b9), .val (.int (0 : Int32)), .val (.int (0 : Int32))] [(.ref b9), (.ref b1)])) rfl (by rw [hml]; rfl) (Steps.refl _) (argsL := [(.ref b9)]) (rest := []) (lenOf pd_13 rfl) rfl (by show 2 * 0 + _ ≤ _; exact Nat.le_of_eq rfl) (hb hby at_197) (fun _ _ => ⟨rfl, rfl, (by decide : 10 + 0 ≤ _), (by decide : 40 + 0 ≤ _)⟩)
  dsimp only [Pt.U, Pt.locs, Pt.cells, Pt.slots] at X18 l18 y18 z18 st18 hQ18
  subst l18 y18 z18
  obtain ⟨rfl, Nq18, e18⟩ := hQ18
  have N18 := Fr.app N12 Nq18
  obtain ⟨cq22, kq22, q22a, q22b, q22c⟩ := isOf hZ12 e18 Fq12_0
  obtain ⟨_, _, ⟨T22, L22, k22, n22⟩, -, X22, ⟨Lc22, hQ22, l22, y22, z22⟩, st22⟩ := X18.virtualBack hx (y := (⟨"com/example/sortition/sortition/Element", "outranks", "(Lcom/example/sortition/sortition/Element;)Z"⟩ : MethodName)) (z := (⟨"com/example/sortition/sortition/Element", "outranks", "(Lcom/example/sortition/sortition/Element;)Z"⟩ : MethodName)) hown12 (mvT hZ12 (hw _ (List.mem_of_getElem? (i := 59) rfl))) (mvT hZ12 (hw _ (List.mem_of_getElem? (i := 60) rfl))) (notFace_of_selects (args := #[]) (mvT hZ12 (hw _ (List.mem_of_getElem? (i := 62) rfl)))) (mvT hZ12 (hw _ (List.mem_of_getElem? (i := 62) rfl))) (mvT hZ12 (hw _ (List.mem_of_getElem? (i := 61) rfl))) (by decide) (backOf (W := 0) (rmOR_eqeq l Z a0 hw [] b9 b1 ib (FP.dadd va 0) ia T12.heap n0 (Nat.le_trans (Nat.le_trans (Nat.le_trans (Nat.le_trans (Nat.le_trans (Nat.le_trans Z0 E1.1) Kp2.1) Kp4.1) E9.1) Kp10.1) Kp12.1) Fz17 Fq12_1 f19 f20 (own_nn0 ma) k4 k6) hZ12 (hw _ (List.mem_of_getElem? (i := 63) rfl)) (hw _ (List.mem_of_getElem? (i := 4) rfl)) (by decide) (by decide)) q22a q22c (g := (mkF m 209 #[.val (.int ji), .val (.int jj), .val (.int ja), .val (.int jb), .val (.int jc), .val (.int jf), .val (.int ia), .val (.int ib), .val (.double va), .second, .val (.double vb), .second, .val (.ref b1), .val (.ref b9), .val (.int (0 : Int32)), .val (.int (0 : Int32))] [(.ref b1), (.ref b9)])) rfl (by rw [hml]; rfl) (Steps.refl _) (argsL := [(.ref b1)]) (rest := []) (lenOf pd_13 rfl) rfl (by show 2 * 0 + _ ≤ _; exact Nat.le_of_eq rfl) (hb hby at_209) (fun _ _ => ⟨rfl, e18, (by decide : 10 + 0 ≤ _), (by decide : 40 + 0 ≤ _)⟩)
  dsimp only [Pt.U, Pt.locs, Pt.cells, Pt.slots] at X22 l22 y22 z22 st22 hQ22
  subst l22 y22 z22
  obtain ⟨rfl, Nq22, e22⟩ := hQ22
  have N22 := Fr.app N18 Nq22
  obtain ⟨cq23, kq23, q23a, q23b, q23c⟩ := isOf hZ12 e22 f21
  obtain ⟨_, _, ⟨T23, L23, k23, n23⟩, -, X23, ⟨Lc23, hQ23, l23, y23, z23⟩, st23⟩ := X22.virtualBack hx (y := (⟨"com/example/sortition/sortition/Element", "outranks", "(Lcom/example/sortition/sortition/Element;)Z"⟩ : MethodName)) (z := (⟨"com/example/sortition/sortition/Element", "outranks", "(Lcom/example/sortition/sortition/Element;)Z"⟩ : MethodName)) hown12 (mvT hZ12 (hw _ (List.mem_of_getElem? (i := 59) rfl))) (mvT hZ12 (hw _ (List.mem_of_getElem? (i := 60) rfl))) (notFace_of_selects (args := #[]) (mvT hZ12 (hw _ (List.mem_of_getElem? (i := 62) rfl)))) (mvT hZ12 (hw _ (List.mem_of_getElem? (i := 62) rfl))) (mvT hZ12 (hw _ (List.mem_of_getElem? (i := 61) rfl))) (by decide) (backOf (W := 0) (rmOR_self l Z a0 hw [] b1 b1 ia (FP.dadd va 0) T12.heap n0 (Nat.le_trans (Nat.le_trans (Nat.le_trans (Nat.le_trans (Nat.le_trans (Nat.le_trans Z0 E1.1) Kp2.1) Kp4.1) E9.1) Kp10.1) Kp12.1) f19 f20 (own_nn0 ma) Int32.lt_irrefl) hZ12 (hw _ (List.mem_of_getElem? (i := 63) rfl)) (hw _ (List.mem_of_getElem? (i := 4) rfl)) (by decide) (by decide)) q23a q23c (g := (mkF m 221 #[.val (.int ji), .val (.int jj), .val (.int ja), .val (.int jb), .val (.int jc), .val (.int jf), .val (.int ia), .val (.int ib), .val (.double va), .second, .val (.double vb), .second, .val (.ref b1), .val (.ref b9), .val (.int (0 : Int32)), .val (.int (0 : Int32))] [(.ref b1), (.ref b1)])) rfl (by rw [hml]; rfl) (Steps.refl _) (argsL := [(.ref b1)]) (rest := []) (lenOf pd_13 rfl) rfl (by show 2 * 0 + _ ≤ _; exact Nat.le_of_eq rfl) (hb hby at_221) (fun _ _ => ⟨rfl, e22, (by decide : 10 + 0 ≤ _), (by decide : 40 + 0 ≤ _)⟩)
  dsimp only [Pt.U, Pt.locs, Pt.cells, Pt.slots] at X23 l23 y23 z23 st23 hQ23
  subst l23 y23 z23
  obtain ⟨rfl, Nq23, e23⟩ := hQ23
  have N23 := Fr.app N22 Nq23
  obtain ⟨fs, hr, hrun, hended, hRW⟩ := X23.leaveW (s := s) hS12 (by rw [e23]; exact (Nat.le_refl _)) (v := some (.int (1 : Int32))) (fun h => by rw [Bd.returns] at h; cases h)
  refine ⟨_, _, pre0 _ ?_, hrun, hended, _, _, rfl, ?_, hRW.1, hRW.2.1, hRW.2.2.1, hRW.2.2.2.mono (by decide) (by decide)⟩
  · show Steps p.tables e below (s₁.setTop (mkF m 0 #[.val (.int ji), .val (.int jj), .val (.int ja), .val (.int jb), .val (.int jc), .val (.int jf), .unset, .unset, .unset, .unset, .unset, .unset, .unset, .unset, .unset, .unset] [])) _
    refine stp _ ?_
    show Steps p.tables e below (s₁.setTop (mkF m 84 #[.val (.int ji), .val (.int jj), .val (.int ja), .val (.int jb), .val (.int jc), .val (.int jf), .val (.int ia), .val (.int ib), .val (.double va), .second, .val (.double vb), .second, .unset, .unset, .unset, .unset] [])) _
    refine st1 _ ?_
    show Steps p.tables e below (T1.setTop (mkF m 87 #[.val (.int ji), .val (.int jj), .val (.int ja), .val (.int jb), .val (.int jc), .val (.int jf), .val (.int ia), .val (.int ib), .val (.double va), .second, .val (.double vb), .second, .unset, .unset, .unset, .unset] [(.ref b1)])) _
    refine XS.dup X1.here hx rfl (hb hby at_87) rfl rfl ?_
    show Steps p.tables e below (T1.setTop (mkF m 88 #[.val (.int ji), .val (.int jj), .val (.int ja), .val (.int jb), .val (.int jc), .val (.int jf), .val (.int ia), .val (.int ib), .val (.double va), .second, .val (.double vb), .second, .unset, .unset, .unset, .unset] [(.ref b1), (.ref b1)])) _
    refine XS.iload X1.here hx rfl (hb hby at_88) rfl ?_
    show Steps p.tables e below (T1.setTop (mkF m 90 #[.val (.int ji), .val (.int jj), .val (.int ja), .val (.int jb), .val (.int jc), .val (.int jf), .val (.int ia), .val (.int ib), .val (.double va), .second, .val (.double vb), .second, .unset, .unset, .unset, .unset] [(.int ia), (.ref b1), (.ref b1)])) _
    refine XS.iload X1.here hx rfl (hb hby at_90) rfl ?_
    show Steps p.tables e below (T1.setTop (mkF m 92 #[.val (.int ji), .val (.int jj), .val (.int ja), .val (.int jb), .val (.int jc), .val (.int jf), .val (.int ia), .val (.int ib), .val (.double va), .second, .val (.double vb), .second, .unset, .unset, .unset, .unset] [(.int jc), (.int ia), (.ref b1), (.ref b1)])) _
    refine XS.sipush X1.here hx rfl (hb hby at_92) ?_
    show Steps p.tables e below (T1.setTop (mkF m 95 #[.val (.int ji), .val (.int jj), .val (.int ja), .val (.int jb), .val (.int jc), .val (.int jf), .val (.int ia), .val (.int ib), .val (.double va), .second, .val (.double vb), .second, .unset, .unset, .unset, .unset] [(.int (255 : Int32)), (.int jc), (.int ia), (.ref b1), (.ref b1)])) _
    refine XS.iand X1.here hx rfl (hb hby at_95) rfl ?_
    show Steps p.tables e below (T1.setTop (mkF m 96 #[.val (.int ji), .val (.int jj), .val (.int ja), .val (.int jb), .val (.int jc), .val (.int jf), .val (.int ia), .val (.int ib), .val (.double va), .second, .val (.double vb), .second, .unset, .unset, .unset, .unset] [(.int (jc &&& (255 : Int32))), (.int ia), (.ref b1), (.ref b1)])) _
    refine XS.i2c X1.here hx rfl (hb hby at_96) rfl ?_
    show Steps p.tables e below (T1.setTop (mkF m 97 #[.val (.int ji), .val (.int jj), .val (.int ja), .val (.int jb), .val (.int jc), .val (.int jf), .val (.int ia), .val (.int ib), .val (.double va), .second, .val (.double vb), .second, .unset, .unset, .unset, .unset] [(.int ((jc &&& (255 : Int32)).toUInt32.toUInt16.toUInt32.toInt32)), (.int ia), (.ref b1), (.ref b1)])) _
    rw [i2c_mask _]
    show Steps p.tables e below (T1.setTop (mkF m 97 #[.val (.int ji), .val (.int jj), .val (.int ja), .val (.int jb), .val (.int jc), .val (.int jf), .val (.int ia), .val (.int ib), .val (.double va), .second, .val (.double vb), .second, .unset, .unset, .unset, .unset] [(.int (jc &&& (255 : Int32))), (.int ia), (.ref b1), (.ref b1)])) _
    refine st2 _ ?_
    show Steps p.tables e below (T2.setTop (mkF m 100 #[.val (.int ji), .val (.int jj), .val (.int ja), .val (.int jb), .val (.int jc), .val (.int jf), .val (.int ia), .val (.int ib), .val (.double va), .second, .val (.double vb), .second, .unset, .unset, .unset, .unset] [(.ref nb_2), (.int ia), (.ref b1), (.ref b1)])) _
    refine XS.dload X2.here hx rfl (hb hby at_100) rfl ?_
    show Steps p.tables e below (T2.setTop (mkF m 102 #[.val (.int ji), .val (.int jj), .val (.int ja), .val (.int jb), .val (.int jc), .val (.int jf), .val (.int ia), .val (.int ib), .val (.double va), .second, .val (.double vb), .second, .unset, .unset, .unset, .unset] [(.double va), (.ref nb_2), (.int ia), (.ref b1), (.ref b1)])) _
    refine st4.trans ?_
    show Steps p.tables e below (T4.setTop (mkF m 105 #[.val (.int ji), .val (.int jj), .val (.int ja), .val (.int jb), .val (.int jc), .val (.int jf), .val (.int ia), .val (.int ib), .val (.double va), .second, .val (.double vb), .second, .unset, .unset, .unset, .unset] [(.ref b1)])) _
    refine XS.astore X4.here hx rfl (hb hby at_105) rfl rfl (l' := #[.val (.int ji), .val (.int jj), .val (.int ja), .val (.int jb), .val (.int jc), .val (.int jf), .val (.int ia), .val (.int ib), .val (.double va), .second, .val (.double vb), .second, .val (.ref b1), .unset, .unset, .unset]) rfl ?_
    show Steps p.tables e below (T4.setTop (mkF m 107 #[.val (.int ji), .val (.int jj), .val (.int ja), .val (.int jb), .val (.int jc), .val (.int jf), .val (.int ia), .val (.int ib), .val (.double va), .second, .val (.double vb), .second, .val (.ref b1), .unset, .unset, .unset] [])) _
    refine st9 _ ?_
    show Steps p.tables e below (T9.setTop (mkF m 110 #[.val (.int ji), .val (.int jj), .val (.int ja), .val (.int jb), .val (.int jc), .val (.int jf), .val (.int ia), .val (.int ib), .val (.double va), .second, .val (.double vb), .second, .val (.ref b1), .unset, .unset, .unset] [(.ref b9)])) _
    refine XS.dup X9.here hx rfl (hb hby at_110) rfl rfl ?_
    show Steps p.tables e below (T9.setTop (mkF m 111 #[.val (.int ji), .val (.int jj), .val (.int ja), .val (.int jb), .val (.int jc), .val (.int jf), .val (.int ia), .val (.int ib), .val (.double va), .second, .val (.double vb), .second, .val (.ref b1), .unset, .unset, .unset] [(.ref b9), (.ref b9)])) _
    refine XS.iload X9.here hx rfl (hb hby at_111) rfl ?_
    show Steps p.tables e below (T9.setTop (mkF m 113 #[.val (.int ji), .val (.int jj), .val (.int ja), .val (.int jb), .val (.int jc), .val (.int jf), .val (.int ia), .val (.int ib), .val (.double va), .second, .val (.double vb), .second, .val (.ref b1), .unset, .unset, .unset] [(.int ib), (.ref b9), (.ref b9)])) _
    refine XS.iload X9.here hx rfl (hb hby at_113) rfl ?_
    show Steps p.tables e below (T9.setTop (mkF m 115 #[.val (.int ji), .val (.int jj), .val (.int ja), .val (.int jb), .val (.int jc), .val (.int jf), .val (.int ia), .val (.int ib), .val (.double va), .second, .val (.double vb), .second, .val (.ref b1), .unset, .unset, .unset] [(.int jc), (.int ib), (.ref b9), (.ref b9)])) _
    refine XS.bipush X9.here hx rfl (hb hby at_115) ?_
    show Steps p.tables e below (T9.setTop (mkF m 117 #[.val (.int ji), .val (.int jj), .val (.int ja), .val (.int jb), .val (.int jc), .val (.int jf), .val (.int ia), .val (.int ib), .val (.double va), .second, .val (.double vb), .second, .val (.ref b1), .unset, .unset, .unset] [(.int (8 : Int32)), (.int jc), (.int ib), (.ref b9), (.ref b9)])) _
    refine XS.iushr X9.here hx rfl (hb hby at_117) rfl ?_
    show Steps p.tables e below (T9.setTop (mkF m 118 #[.val (.int ji), .val (.int jj), .val (.int ja), .val (.int jb), .val (.int jc), .val (.int jf), .val (.int ia), .val (.int ib), .val (.double va), .second, .val (.double vb), .second, .val (.ref b1), .unset, .unset, .unset] [(.int ((jc.toUInt32 >>> ((8 : Int32) &&& 31).toUInt32).toInt32)), (.int ib), (.ref b9), (.ref b9)])) _
    refine XS.sipush X9.here hx rfl (hb hby at_118) ?_
    show Steps p.tables e below (T9.setTop (mkF m 121 #[.val (.int ji), .val (.int jj), .val (.int ja), .val (.int jb), .val (.int jc), .val (.int jf), .val (.int ia), .val (.int ib), .val (.double va), .second, .val (.double vb), .second, .val (.ref b1), .unset, .unset, .unset] [(.int (255 : Int32)), (.int ((jc.toUInt32 >>> ((8 : Int32) &&& 31).toUInt32).toInt32)), (.int ib), (.ref b9), (.ref b9)])) _
    refine XS.iand X9.here hx rfl (hb hby at_121) rfl ?_
    show Steps p.tables e below (T9.setTop (mkF m 122 #[.val (.int ji), .val (.int jj), .val (.int ja), .val (.int jb), .val (.int jc), .val (.int jf), .val (.int ia), .val (.int ib), .val (.double va), .second, .val (.double vb), .second, .val (.ref b1), .unset, .unset, .unset] [(.int (((jc.toUInt32 >>> ((8 : Int32) &&& 31).toUInt32).toInt32) &&& (255 : Int32))), (.int ib), (.ref b9), (.ref b9)])) _
    refine XS.i2c X9.here hx rfl (hb hby at_122) rfl ?_
    show Steps p.tables e below (T9.setTop (mkF m 123 #[.val (.int ji), .val (.int jj), .val (.int ja), .val (.int jb), .val (.int jc), .val (.int jf), .val (.int ia), .val (.int ib), .val (.double va), .second, .val (.double vb), .second, .val (.ref b1), .unset, .unset, .unset] [(.int ((((jc.toUInt32 >>> ((8 : Int32) &&& 31).toUInt32).toInt32) &&& (255 : Int32)).toUInt32.toUInt16.toUInt32.toInt32)), (.int ib), (.ref b9), (.ref b9)])) _
    rw [i2c_mask _]
    show Steps p.tables e below (T9.setTop (mkF m 123 #[.val (.int ji), .val (.int jj), .val (.int ja), .val (.int jb), .val (.int jc), .val (.int jf), .val (.int ia), .val (.int ib), .val (.double va), .second, .val (.double vb), .second, .val (.ref b1), .unset, .unset, .unset] [(.int (((jc.toUInt32 >>> ((8 : Int32) &&& 31).toUInt32).toInt32) &&& (255 : Int32))), (.int ib), (.ref b9), (.ref b9)])) _
    refine st10 _ ?_
    show Steps p.tables e below (T10.setTop (mkF m 126 #[.val (.int ji), .val (.int jj), .val (.int ja), .val (.int jb), .val (.int jc), .val (.int jf), .val (.int ia), .val (.int ib), .val (.double va), .second, .val (.double vb), .second, .val (.ref b1), .unset, .unset, .unset] [(.ref nb_10), (.int ib), (.ref b9), (.ref b9)])) _
    refine XS.dload X10.here hx rfl (hb hby at_126) rfl ?_
    show Steps p.tables e below (T10.setTop (mkF m 128 #[.val (.int ji), .val (.int jj), .val (.int ja), .val (.int jb), .val (.int jc), .val (.int jf), .val (.int ia), .val (.int ib), .val (.double va), .second, .val (.double vb), .second, .val (.ref b1), .unset, .unset, .unset] [(.double vb), (.ref nb_10), (.int ib), (.ref b9), (.ref b9)])) _
    refine st12.trans ?_
    show Steps p.tables e below (T12.setTop (mkF m 131 #[.val (.int ji), .val (.int jj), .val (.int ja), .val (.int jb), .val (.int jc), .val (.int jf), .val (.int ia), .val (.int ib), .val (.double va), .second, .val (.double vb), .second, .val (.ref b1), .unset, .unset, .unset] [(.ref b9)])) _
    refine XS.astore X12.here hx rfl (hb hby at_131) rfl rfl (l' := #[.val (.int ji), .val (.int jj), .val (.int ja), .val (.int jb), .val (.int jc), .val (.int jf), .val (.int ia), .val (.int ib), .val (.double va), .second, .val (.double vb), .second, .val (.ref b1), .val (.ref b9), .unset, .unset]) rfl ?_
    show Steps p.tables e below (T12.setTop (mkF m 133 #[.val (.int ji), .val (.int jj), .val (.int ja), .val (.int jb), .val (.int jc), .val (.int jf), .val (.int ia), .val (.int ib), .val (.double va), .second, .val (.double vb), .second, .val (.ref b1), .val (.ref b9), .unset, .unset] [])) _
    refine XS.dload X12.here hx rfl (hb hby at_133) rfl ?_
    show Steps p.tables e below (T12.setTop (mkF m 135 #[.val (.int ji), .val (.int jj), .val (.int ja), .val (.int jb), .val (.int jc), .val (.int jf), .val (.int ia), .val (.int ib), .val (.double va), .second, .val (.double vb), .second, .val (.ref b1), .val (.ref b9), .unset, .unset] [(.double va)])) _
    refine XS.dload X12.here hx rfl (hb hby at_135) rfl ?_
    show Steps p.tables e below (T12.setTop (mkF m 137 #[.val (.int ji), .val (.int jj), .val (.int ja), .val (.int jb), .val (.int jc), .val (.int jf), .val (.int ia), .val (.int ib), .val (.double va), .second, .val (.double vb), .second, .val (.ref b1), .val (.ref b9), .unset, .unset] [(.double vb), (.double va)])) _
    refine XS.dcmpS X12.here hx rfl (hb hby at_137) rfl rfl ?_
    show Steps p.tables e below (T12.setTop (mkF m 138 #[.val (.int ji), .val (.int jj), .val (.int ja), .val (.int jb), .val (.int jc), .val (.int jf), .val (.int ia), .val (.int ib), .val (.double va), .second, .val (.double vb), .second, .val (.ref b1), .val (.ref b9), .unset, .unset] [(.int (cmpValue (FP.dcmp va vb) .l))])) _
    refine XS.ifNo X12.here hx rfl (hb hby at_138) rfl ((if0 _ _).trans (flt k0).2.2.1) ?_
    show Steps p.tables e below (T12.setTop (mkF m 141 #[.val (.int ji), .val (.int jj), .val (.int ja), .val (.int jb), .val (.int jc), .val (.int jf), .val (.int ia), .val (.int ib), .val (.double va), .second, .val (.double vb), .second, .val (.ref b1), .val (.ref b9), .unset, .unset] [])) _
    refine XS.dload X12.here hx rfl (hb hby at_141) rfl ?_
    show Steps p.tables e below (T12.setTop (mkF m 143 #[.val (.int ji), .val (.int jj), .val (.int ja), .val (.int jb), .val (.int jc), .val (.int jf), .val (.int ia), .val (.int ib), .val (.double va), .second, .val (.double vb), .second, .val (.ref b1), .val (.ref b9), .unset, .unset] [(.double va)])) _
    refine XS.dload X12.here hx rfl (hb hby at_143) rfl ?_
    show Steps p.tables e below (T12.setTop (mkF m 145 #[.val (.int ji), .val (.int jj), .val (.int ja), .val (.int jb), .val (.int jc), .val (.int jf), .val (.int ia), .val (.int ib), .val (.double va), .second, .val (.double vb), .second, .val (.ref b1), .val (.ref b9), .unset, .unset] [(.double vb), (.double va)])) _
    refine XS.dcmpS X12.here hx rfl (hb hby at_145) rfl rfl ?_
    show Steps p.tables e below (T12.setTop (mkF m 146 #[.val (.int ji), .val (.int jj), .val (.int ja), .val (.int jb), .val (.int jc), .val (.int jf), .val (.int ia), .val (.int ib), .val (.double va), .second, .val (.double vb), .second, .val (.ref b1), .val (.ref b9), .unset, .unset] [(.int (cmpValue (FP.dcmp va vb) .l))])) _
    refine XS.ifNo X12.here hx rfl (hb hby at_146) rfl ((if0 _ _).trans (teq k2).2) ?_
    show Steps p.tables e below (T12.setTop (mkF m 149 #[.val (.int ji), .val (.int jj), .val (.int ja), .val (.int jb), .val (.int jc), .val (.int jf), .val (.int ia), .val (.int ib), .val (.double va), .second, .val (.double vb), .second, .val (.ref b1), .val (.ref b9), .unset, .unset] [])) _
    refine XS.iload X12.here hx rfl (hb hby at_149) rfl ?_
    show Steps p.tables e below (T12.setTop (mkF m 151 #[.val (.int ji), .val (.int jj), .val (.int ja), .val (.int jb), .val (.int jc), .val (.int jf), .val (.int ia), .val (.int ib), .val (.double va), .second, .val (.double vb), .second, .val (.ref b1), .val (.ref b9), .unset, .unset] [(.int ia)])) _
    refine XS.iload X12.here hx rfl (hb hby at_151) rfl ?_
    show Steps p.tables e below (T12.setTop (mkF m 153 #[.val (.int ji), .val (.int jj), .val (.int ja), .val (.int jb), .val (.int jc), .val (.int jf), .val (.int ia), .val (.int ib), .val (.double va), .second, .val (.double vb), .second, .val (.ref b1), .val (.ref b9), .unset, .unset] [(.int ib), (.int ia)])) _
    refine XS.icmpYes X12.here hx rfl (pc0 := 153) (pc' := 160) rfl (hb hby at_153) rfl (flt k4).2.1 (by decide) (by decide) ?_
    show Steps p.tables e below (T12.setTop (mkF m 160 #[.val (.int ji), .val (.int jj), .val (.int ja), .val (.int jb), .val (.int jc), .val (.int jf), .val (.int ia), .val (.int ib), .val (.double va), .second, .val (.double vb), .second, .val (.ref b1), .val (.ref b9), .unset, .unset] [])) _
    refine XS.iconst X12.here hx rfl (hb hby at_160) ?_
    show Steps p.tables e below (T12.setTop (mkF m 161 #[.val (.int ji), .val (.int jj), .val (.int ja), .val (.int jb), .val (.int jc), .val (.int jf), .val (.int ia), .val (.int ib), .val (.double va), .second, .val (.double vb), .second, .val (.ref b1), .val (.ref b9), .unset, .unset] [(.int (0 : Int32))])) _
    refine XS.istore X12.here hx rfl (hb hby at_161) rfl (l' := #[.val (.int ji), .val (.int jj), .val (.int ja), .val (.int jb), .val (.int jc), .val (.int jf), .val (.int ia), .val (.int ib), .val (.double va), .second, .val (.double vb), .second, .val (.ref b1), .val (.ref b9), .val (.int (0 : Int32)), .unset]) rfl ?_
    show Steps p.tables e below (T12.setTop (mkF m 163 #[.val (.int ji), .val (.int jj), .val (.int ja), .val (.int jb), .val (.int jc), .val (.int jf), .val (.int ia), .val (.int ib), .val (.double va), .second, .val (.double vb), .second, .val (.ref b1), .val (.ref b9), .val (.int (0 : Int32)), .unset] [])) _
    refine XS.dload X12.here hx rfl (hb hby at_163) rfl ?_
    show Steps p.tables e below (T12.setTop (mkF m 165 #[.val (.int ji), .val (.int jj), .val (.int ja), .val (.int jb), .val (.int jc), .val (.int jf), .val (.int ia), .val (.int ib), .val (.double va), .second, .val (.double vb), .second, .val (.ref b1), .val (.ref b9), .val (.int (0 : Int32)), .unset] [(.double vb)])) _
    refine XS.dload X12.here hx rfl (hb hby at_165) rfl ?_
    show Steps p.tables e below (T12.setTop (mkF m 167 #[.val (.int ji), .val (.int jj), .val (.int ja), .val (.int jb), .val (.int jc), .val (.int jf), .val (.int ia), .val (.int ib), .val (.double va), .second, .val (.double vb), .second, .val (.ref b1), .val (.ref b9), .val (.int (0 : Int32)), .unset] [(.double va), (.double vb)])) _
    refine XS.dcmpS X12.here hx rfl (hb hby at_167) rfl rfl ?_
    show Steps p.tables e below (T12.setTop (mkF m 168 #[.val (.int ji), .val (.int jj), .val (.int ja), .val (.int jb), .val (.int jc), .val (.int jf), .val (.int ia), .val (.int ib), .val (.double va), .second, .val (.double vb), .second, .val (.ref b1), .val (.ref b9), .val (.int (0 : Int32)), .unset] [(.int (cmpValue (FP.dcmp vb va) .l))])) _
    refine XS.ifNo X12.here hx rfl (hb hby at_168) rfl ((if0 _ _).trans (flt k1).2.2.1) ?_
    show Steps p.tables e below (T12.setTop (mkF m 171 #[.val (.int ji), .val (.int jj), .val (.int ja), .val (.int jb), .val (.int jc), .val (.int jf), .val (.int ia), .val (.int ib), .val (.double va), .second, .val (.double vb), .second, .val (.ref b1), .val (.ref b9), .val (.int (0 : Int32)), .unset] [])) _
    refine XS.dload X12.here hx rfl (hb hby at_171) rfl ?_
    show Steps p.tables e below (T12.setTop (mkF m 173 #[.val (.int ji), .val (.int jj), .val (.int ja), .val (.int jb), .val (.int jc), .val (.int jf), .val (.int ia), .val (.int ib), .val (.double va), .second, .val (.double vb), .second, .val (.ref b1), .val (.ref b9), .val (.int (0 : Int32)), .unset] [(.double va)])) _
    refine XS.dload X12.here hx rfl (hb hby at_173) rfl ?_
    show Steps p.tables e below (T12.setTop (mkF m 175 #[.val (.int ji), .val (.int jj), .val (.int ja), .val (.int jb), .val (.int jc), .val (.int jf), .val (.int ia), .val (.int ib), .val (.double va), .second, .val (.double vb), .second, .val (.ref b1), .val (.ref b9), .val (.int (0 : Int32)), .unset] [(.double vb), (.double va)])) _
    refine XS.dcmpS X12.here hx rfl (hb hby at_175) rfl rfl ?_
    show Steps p.tables e below (T12.setTop (mkF m 176 #[.val (.int ji), .val (.int jj), .val (.int ja), .val (.int jb), .val (.int jc), .val (.int jf), .val (.int ia), .val (.int ib), .val (.double va), .second, .val (.double vb), .second, .val (.ref b1), .val (.ref b9), .val (.int (0 : Int32)), .unset] [(.int (cmpValue (FP.dcmp va vb) .l))])) _
    refine XS.ifNo X12.here hx rfl (hb hby at_176) rfl ((if0 _ _).trans (teq k2).2) ?_
    show Steps p.tables e below (T12.setTop (mkF m 179 #[.val (.int ji), .val (.int jj), .val (.int ja), .val (.int jb), .val (.int jc), .val (.int jf), .val (.int ia), .val (.int ib), .val (.double va), .second, .val (.double vb), .second, .val (.ref b1), .val (.ref b9), .val (.int (0 : Int32)), .unset] [])) _
    refine XS.iload X12.here hx rfl (hb hby at_179) rfl ?_
    show Steps p.tables e below (T12.setTop (mkF m 181 #[.val (.int ji), .val (.int jj), .val (.int ja), .val (.int jb), .val (.int jc), .val (.int jf), .val (.int ia), .val (.int ib), .val (.double va), .second, .val (.double vb), .second, .val (.ref b1), .val (.ref b9), .val (.int (0 : Int32)), .unset] [(.int ib)])) _
    refine XS.iload X12.here hx rfl (hb hby at_181) rfl ?_
    show Steps p.tables e below (T12.setTop (mkF m 183 #[.val (.int ji), .val (.int jj), .val (.int ja), .val (.int jb), .val (.int jc), .val (.int jf), .val (.int ia), .val (.int ib), .val (.double va), .second, .val (.double vb), .second, .val (.ref b1), .val (.ref b9), .val (.int (0 : Int32)), .unset] [(.int ia), (.int ib)])) _
    refine XS.icmpYes X12.here hx rfl (pc0 := 183) (pc' := 190) rfl (hb hby at_183) rfl (flt k5).2.1 (by decide) (by decide) ?_
    show Steps p.tables e below (T12.setTop (mkF m 190 #[.val (.int ji), .val (.int jj), .val (.int ja), .val (.int jb), .val (.int jc), .val (.int jf), .val (.int ia), .val (.int ib), .val (.double va), .second, .val (.double vb), .second, .val (.ref b1), .val (.ref b9), .val (.int (0 : Int32)), .unset] [])) _
    refine XS.iconst X12.here hx rfl (hb hby at_190) ?_
    show Steps p.tables e below (T12.setTop (mkF m 191 #[.val (.int ji), .val (.int jj), .val (.int ja), .val (.int jb), .val (.int jc), .val (.int jf), .val (.int ia), .val (.int ib), .val (.double va), .second, .val (.double vb), .second, .val (.ref b1), .val (.ref b9), .val (.int (0 : Int32)), .unset] [(.int (0 : Int32))])) _
    refine XS.istore X12.here hx rfl (hb hby at_191) rfl (l' := #[.val (.int ji), .val (.int jj), .val (.int ja), .val (.int jb), .val (.int jc), .val (.int jf), .val (.int ia), .val (.int ib), .val (.double va), .second, .val (.double vb), .second, .val (.ref b1), .val (.ref b9), .val (.int (0 : Int32)), .val (.int (0 : Int32))]) rfl ?_
    show Steps p.tables e below (T12.setTop (mkF m 193 #[.val (.int ji), .val (.int jj), .val (.int ja), .val (.int jb), .val (.int jc), .val (.int jf), .val (.int ia), .val (.int ib), .val (.double va), .second, .val (.double vb), .second, .val (.ref b1), .val (.ref b9), .val (.int (0 : Int32)), .val (.int (0 : Int32))] [])) _
    refine XS.aload X12.here hx rfl (hb hby at_193) rfl rfl ?_
    show Steps p.tables e below (T12.setTop (mkF m 195 #[.val (.int ji), .val (.int jj), .val (.int ja), .val (.int jb), .val (.int jc), .val (.int jf), .val (.int ia), .val (.int ib), .val (.double va), .second, .val (.double vb), .second, .val (.ref b1), .val (.ref b9), .val (.int (0 : Int32)), .val (.int (0 : Int32))] [(.ref b1)])) _
    refine XS.aload X12.here hx rfl (hb hby at_195) rfl rfl ?_
    show Steps p.tables e below (T12.setTop (mkF m 197 #[.val (.int ji), .val (.int jj), .val (.int ja), .val (.int jb), .val (.int jc), .val (.int jf), .val (.int ia), .val (.int ib), .val (.double va), .second, .val (.double vb), .second, .val (.ref b1), .val (.ref b9), .val (.int (0 : Int32)), .val (.int (0 : Int32))] [(.ref b9), (.ref b1)])) _
    refine st18.trans ?_
    show Steps p.tables e below (T18.setTop (mkF m 200 #[.val (.int ji), .val (.int jj), .val (.int ja), .val (.int jb), .val (.int jc), .val (.int jf), .val (.int ia), .val (.int ib), .val (.double va), .second, .val (.double vb), .second, .val (.ref b1), .val (.ref b9), .val (.int (0 : Int32)), .val (.int (0 : Int32))] [(.int (0 : Int32))])) _
    refine XS.iload X18.here hx rfl (hb hby at_200) rfl ?_
    show Steps p.tables e below (T18.setTop (mkF m 202 #[.val (.int ji), .val (.int jj), .val (.int ja), .val (.int jb), .val (.int jc), .val (.int jf), .val (.int ia), .val (.int ib), .val (.double va), .second, .val (.double vb), .second, .val (.ref b1), .val (.ref b9), .val (.int (0 : Int32)), .val (.int (0 : Int32))] [(.int (0 : Int32)), (.int (0 : Int32))])) _
    refine XS.icmpNo X18.here hx rfl (hb hby at_202) rfl (teq (rfl : (0 : Int32) = (0 : Int32))).2 ?_
    show Steps p.tables e below (T18.setTop (mkF m 205 #[.val (.int ji), .val (.int jj), .val (.int ja), .val (.int jb), .val (.int jc), .val (.int jf), .val (.int ia), .val (.int ib), .val (.double va), .second, .val (.double vb), .second, .val (.ref b1), .val (.ref b9), .val (.int (0 : Int32)), .val (.int (0 : Int32))] [])) _
    refine XS.aload X18.here hx rfl (hb hby at_205) rfl rfl ?_
    show Steps p.tables e below (T18.setTop (mkF m 207 #[.val (.int ji), .val (.int jj), .val (.int ja), .val (.int jb), .val (.int jc), .val (.int jf), .val (.int ia), .val (.int ib), .val (.double va), .second, .val (.double vb), .second, .val (.ref b1), .val (.ref b9), .val (.int (0 : Int32)), .val (.int (0 : Int32))] [(.ref b9)])) _
    refine XS.aload X18.here hx rfl (hb hby at_207) rfl rfl ?_
    show Steps p.tables e below (T18.setTop (mkF m 209 #[.val (.int ji), .val (.int jj), .val (.int ja), .val (.int jb), .val (.int jc), .val (.int jf), .val (.int ia), .val (.int ib), .val (.double va), .second, .val (.double vb), .second, .val (.ref b1), .val (.ref b9), .val (.int (0 : Int32)), .val (.int (0 : Int32))] [(.ref b1), (.ref b9)])) _
    refine st22.trans ?_
    show Steps p.tables e below (T22.setTop (mkF m 212 #[.val (.int ji), .val (.int jj), .val (.int ja), .val (.int jb), .val (.int jc), .val (.int jf), .val (.int ia), .val (.int ib), .val (.double va), .second, .val (.double vb), .second, .val (.ref b1), .val (.ref b9), .val (.int (0 : Int32)), .val (.int (0 : Int32))] [(.int (0 : Int32))])) _
    refine XS.iload X22.here hx rfl (hb hby at_212) rfl ?_
    show Steps p.tables e below (T22.setTop (mkF m 214 #[.val (.int ji), .val (.int jj), .val (.int ja), .val (.int jb), .val (.int jc), .val (.int jf), .val (.int ia), .val (.int ib), .val (.double va), .second, .val (.double vb), .second, .val (.ref b1), .val (.ref b9), .val (.int (0 : Int32)), .val (.int (0 : Int32))] [(.int (0 : Int32)), (.int (0 : Int32))])) _
    refine XS.icmpNo X22.here hx rfl (hb hby at_214) rfl (teq (rfl : (0 : Int32) = (0 : Int32))).2 ?_
    show Steps p.tables e below (T22.setTop (mkF m 217 #[.val (.int ji), .val (.int jj), .val (.int ja), .val (.int jb), .val (.int jc), .val (.int jf), .val (.int ia), .val (.int ib), .val (.double va), .second, .val (.double vb), .second, .val (.ref b1), .val (.ref b9), .val (.int (0 : Int32)), .val (.int (0 : Int32))] [])) _
    refine XS.aload X22.here hx rfl (hb hby at_217) rfl rfl ?_
    show Steps p.tables e below (T22.setTop (mkF m 219 #[.val (.int ji), .val (.int jj), .val (.int ja), .val (.int jb), .val (.int jc), .val (.int jf), .val (.int ia), .val (.int ib), .val (.double va), .second, .val (.double vb), .second, .val (.ref b1), .val (.ref b9), .val (.int (0 : Int32)), .val (.int (0 : Int32))] [(.ref b1)])) _
    refine XS.aload X22.here hx rfl (hb hby at_219) rfl rfl ?_
    show Steps p.tables e below (T22.setTop (mkF m 221 #[.val (.int ji), .val (.int jj), .val (.int ja), .val (.int jb), .val (.int jc), .val (.int jf), .val (.int ia), .val (.int ib), .val (.double va), .second, .val (.double vb), .second, .val (.ref b1), .val (.ref b9), .val (.int (0 : Int32)), .val (.int (0 : Int32))] [(.ref b1), (.ref b1)])) _
    refine st23.trans ?_
    show Steps p.tables e below (T23.setTop (mkF m 224 #[.val (.int ji), .val (.int jj), .val (.int ja), .val (.int jb), .val (.int jc), .val (.int jf), .val (.int ia), .val (.int ib), .val (.double va), .second, .val (.double vb), .second, .val (.ref b1), .val (.ref b9), .val (.int (0 : Int32)), .val (.int (0 : Int32))] [(.int (0 : Int32))])) _
    refine XS.ifNo X23.here hx rfl (hb hby at_224) rfl ((if0 _ _).trans (teq (rfl : (0 : Int32) = (0 : Int32))).2) ?_
    show Steps p.tables e below (T23.setTop (mkF m 227 #[.val (.int ji), .val (.int jj), .val (.int ja), .val (.int jb), .val (.int jc), .val (.int jf), .val (.int ia), .val (.int ib), .val (.double va), .second, .val (.double vb), .second, .val (.ref b1), .val (.ref b9), .val (.int (0 : Int32)), .val (.int (0 : Int32))] [])) _
    refine XS.iconst X23.here hx rfl (hb hby at_227) ?_
    show Steps p.tables e below (T23.setTop (mkF m 228 #[.val (.int ji), .val (.int jj), .val (.int ja), .val (.int jb), .val (.int jc), .val (.int jf), .val (.int ia), .val (.int ib), .val (.double va), .second, .val (.double vb), .second, .val (.ref b1), .val (.ref b9), .val (.int (0 : Int32)), .val (.int (0 : Int32))] [(.int (1 : Int32))])) _
    refine XS.goto X23.here hx rfl (pc0 := 228) (pc' := 232) rfl (hb hby at_228) (by decide) (by decide) ?_
    show Steps p.tables e below (T23.setTop (mkF m 232 #[.val (.int ji), .val (.int jj), .val (.int ja), .val (.int jb), .val (.int jc), .val (.int jf), .val (.int ia), .val (.int ib), .val (.double va), .second, .val (.double vb), .second, .val (.ref b1), .val (.ref b9), .val (.int (0 : Int32)), .val (.int (0 : Int32))] [(.int (1 : Int32))])) _
    exact retN X23 hx (t := .boolean) Bd.returns (by simp) (hb hby at_232) hr
  · show Q_rm0_ee Z ji jj ja jb jc jf ia ib va vb s_CS h0 n0 _ T23.heap _
    rw [e23]
    exact ⟨rfl, N23⟩
set_option maxRecDepth 65536 in
set_option maxHeartbeats 40000000 in
theorem rm0 (l : Launch) (Z : State) (a0 : Array Value) (hw : ∀ d ∈ tables_1, d.before a0 Z = true) (ws : List Jvm.Cond) (ji jj ja jb jc jf : Int32) (s_CS : Int32) (h0 : Heap) (n0 : Nat) (Z0 : n0 ≤ h0.size) (hwS : ∀ a ∈ Bundle.stringAtoms, a.before a0 Z = true) (S_CS : Sta Z h0 "java/lang/String" "COMPACT_STRINGS" "Z" (.int s_CS)) (hcs : ¬ (s_CS = (0 : Int32))) :
    MetFree l x (head1 (Jvm.Cond.code x code maxLocals ret :: ws) room_1) (fun a U => a = #[(.int ji), (.int jj), (.int ja), (.int jb), (.int jc), (.int jf)] ∧ Z.Warmed39 U.vm ∧ U.heap = h0) (fun _ _ _ _ _ => True) (fun _ U o U' => ∃ v L, o = .returned v ∧ (v = some (.int (1 : Int32)) ∧ Fr n0 L) ∧ ReturnedEndW U o U' L room_1.cells room_1.slots) := by
  have ma := own_v_in ja jf 2
  have mb := own_v_in jb jf 4
  by_cases c0 : (0 : Int32) < cmpValue (FP.dcmp (own_v ja jf 2) (own_v jb jf 4)) .l
  · obtain ⟨q1, q2, q3, q4, q5⟩ := own_gt _ ma _ mb c0
    exact rm0_gt l Z a0 hw ws ji jj ja jb jc jf _ _ _ _ s_CS h0 n0 Z0 hwS S_CS hcs rfl rfl rfl rfl (own_31 _) (own_ib_ge _ _ _) ma mb c0 q4 q5 q1 q2 q3
  · by_cases c1 : cmpValue (FP.dcmp (own_v ja jf 2) (own_v jb jf 4)) .l = (0 : Int32)
    · obtain ⟨q1, q2⟩ := own_eq _ ma _ mb c1
      by_cases c2 : (ji &&& (2147483647 : Int32)) < own_ib ji jj jf
      · have q3 : ¬ own_ib ji jj jf < (ji &&& (2147483647 : Int32)) := fun q => Int32.lt_irrefl (Int32.lt_trans c2 q)
        have q4 : ¬ own_ib ji jj jf = (ji &&& (2147483647 : Int32)) := fun q => by rw [q] at c2; exact Int32.lt_irrefl c2
        exact rm0_el l Z a0 hw ws ji jj ja jb jc jf _ _ _ _ s_CS h0 n0 Z0 hwS S_CS hcs rfl rfl rfl rfl (own_31 _) (own_ib_ge _ _ _) ma mb c0 q2 c1 q1 c2 q3 q4
      · by_cases c3 : own_ib ji jj jf < (ji &&& (2147483647 : Int32))
        · have q4 : ¬ (ji &&& (2147483647 : Int32)) = own_ib ji jj jf := fun q => by rw [q] at c3; exact Int32.lt_irrefl c3
          exact rm0_eg l Z a0 hw ws ji jj ja jb jc jf _ _ _ _ s_CS h0 n0 Z0 hwS S_CS hcs rfl rfl rfl rfl (own_31 _) (own_ib_ge _ _ _) ma mb c0 q2 c1 q1 c3 c2 q4
        · have q4 : (ji &&& (2147483647 : Int32)) = own_ib ji jj jf := Int32.le_antisymm (Int32.not_lt.mp c3) (Int32.not_lt.mp c2)
          exact rm0_ee l Z a0 hw ws ji jj ja jb jc jf _ _ _ _ s_CS h0 n0 Z0 hwS S_CS hcs rfl rfl rfl rfl (own_31 _) (own_ib_ge _ _ _) ma mb c0 q2 c1 q1 q4.symm c2 c3 q4
    · have c2 := own_lt _ ma _ mb c0 c1
      obtain ⟨q1, q2, q3, q4, q5⟩ := own_gt _ mb _ ma c2
      exact rm0_lt l Z a0 hw ws ji jj ja jb jc jf _ _ _ _ s_CS h0 n0 Z0 hwS S_CS hcs rfl rfl rfl rfl (own_31 _) (own_ib_ge _ _ _) ma mb c0 c2 c1 q3 q1 q2
set_option maxRecDepth 65536 in
set_option maxHeartbeats 40000000 in
theorem comes_1 {Post : Tables → Env → Array Value → State → Outcome → State → Prop} (hpost : ∀ tb e args s v u, (limb_1_1.after args s (.returned v) u = true ∧ limb_1_2.after args s (.returned v) u = true ∧ True) → ReturnedEndW s (.returned v) u (Jvm.fieldLocs frame_1_writes args s ++ Jvm.arrayLocs frame_1_arrays args s ++ Jvm.staticLocs frame_1_statics s) 24 1152 → Post tb e args s (.returned v) u) :
    ArmFor flags0 classFile x code maxLocals ret World_1 tables_1 room_1 Calls_1 rest_1 Pre_1 Post := by
  intro l hfl _ _ p e ha hc hk s m args below hf hA hF happ hP
  obtain ⟨hcalls, hrest, hpre⟩ := hP
  obtain ⟨-, -, -, hnamed, -, -, -, hat⟩ := (Spec.applies_iff hf).mp happ
  obtain ⟨hg, hn⟩ := and_e (Cond.before_iff.mp (show (Jvm.Cond.and given_1 narrow_1).before args s = true from hpre))
  obtain ⟨hc0, hr0⟩ := and_e hg
  obtain ⟨hv0, hr1⟩ := and_e hr0
  obtain ⟨hv1, hr2⟩ := and_e hr1
  obtain ⟨hv2, hr3⟩ := and_e hr2
  obtain ⟨hv3, hr4⟩ := and_e hr3
  obtain ⟨hv4, hr5⟩ := and_e hr4
  have hv5 := hr5
  obtain ⟨w0, w1, w2, w3, w4, w5, rfl⟩ : ∃ w0 w1 w2 w3 w4 w5 : Value, args = #[w0, w1, w2, w3, w4, w5] := by
    have hs : args.size = 6 := by simpa [Cond.value, given_1] using hc0
    obtain ⟨L⟩ := args
    match L, hs with
    | [w0, w1, w2, w3, w4, w5], _ => exact ⟨w0, w1, w2, w3, w4, w5, rfl⟩
  have hw := fun d (hd : d ∈ tables_1) => atoms_spec (ws := Jvm.Cond.code x code maxLocals ret :: tables_1) hat d (List.mem_cons_of_mem _ hd)
  have hfit : Fit s := fun {y c} hc i hi => by
    obtain ⟨ha, rfl⟩ := Array.getElem?_eq_some_iff.mp hc
    have q := List.all_eq_true.mp ((Array.all_eq_true_iff_forall_mem.mp hF) _ (Array.getElem_mem ha)) i (List.mem_range.mpr hi)
    simpa [Array.getElem?_eq_getElem hi] using q
  obtain ⟨hsets, hown0⟩ := atoms_of _ (rest_1_c_eq ▸ (show rest_1_c.before _ s = true from hrest))
  have n9 := not_v (Cond.before_iff.mp (hsets _ (List.mem_of_getElem? (i := 2) rfl)))
  obtain ⟨i9, e9⟩ := is_v (Cond.before_iff.mp (hsets _ (List.mem_of_getElem? (i := 1) rfl)))
  have S0 : Sta s s.heap "java/lang/String" "COMPACT_STRINGS" "Z" (.int i9) := Sta.start e9 (Or.inl (hsets _ (List.mem_of_getElem? (i := 0) rfl)))
  have c9 : ¬ (i9 = (0 : Int32)) := gotF (Cond.eq_ints e9 (Term.int_eval (0))) n9
  obtain ⟨i0, ei0⟩ := is_v hv0
  obtain rfl : w0 = (.int i0) := Option.some.inj ei0
  obtain ⟨i1, ei1⟩ := is_v hv1
  obtain rfl : w1 = (.int i1) := Option.some.inj ei1
  obtain ⟨i2, ei2⟩ := is_v hv2
  obtain rfl : w2 = (.int i2) := Option.some.inj ei2
  obtain ⟨i3, ei3⟩ := is_v hv3
  obtain rfl : w3 = (.int i3) := Option.some.inj ei3
  obtain ⟨i4, ei4⟩ := is_v hv4
  obtain rfl : w4 = (.int i4) := Option.some.inj ei4
  obtain ⟨i5, ei5⟩ := is_v hv5
  obtain rfl : w5 = (.int i5) := Option.some.inj ei5
  obtain ⟨n, o, h1, h2, h3, _, L, rfl, ⟨rfl, N⟩, hq⟩ := rm0 l s _ hw tables_1 i0 i1 i2 i3 i4 i5 i9 s.heap s.heap.size (Nat.le_refl _) (own_hwS hw) S0 c9 p e ha hc hk s m _ below hf ((Spec.applies_iff_loose hf).mp happ).1 ⟨rfl, State.Warmed39.refl s, rfl⟩ trivial
  refine ⟨n, _, h1, h2, h3, hpost _ _ _ _ _ _ ⟨Cond.after_iff.mpr rfl, Cond.after_iff.mpr (eq_i res_at (Term.int_eval (1)) rfl), trivial⟩ ⟨hq.1, hq.2.1, hq.2.2.1, (hq.2.2.2.sift fun y hy => Or.inr (N y hy)).mono (by decide) (by decide)⟩⟩
theorem main_1_1 : Claimed_1_1 := comes_1 fun _ _ _ _ _ _ h hF => ⟨h.1, hF⟩
theorem main_1_2 : Claimed_1_2 := comes_1 fun _ _ _ _ _ _ h hF => ⟨h.2.1, hF⟩
end Jvm.Pilot.@@N@@
namespace Jvm.Pilot.@@N@@
open Jvm Jvm.ClassFile Sem Op Lib Jvm.Free Jvm.Stand Jvm.Pilot.@@N@@.Jvm.D
/-! MADE BY PROGRAM (witnessworld.py) out of the Statement's table words and the real class files: 22 classes; the members and pool entries that the words name. The judged class is class 1, her method 1. -/
namespace start1
open Jvm.ClassFile
def u (s : String) : CpInfo := .utf8 (stringToUtf16 s)
/-- a pool by its gaps: so many unusable entries, then the entry; so many at the end -/
def gap : Nat → List CpInfo → List CpInfo
  | 0, r => r
  | n + 1, r => .unusable :: gap n r
def poolList (es : List (Nat × CpInfo)) (last : Nat) : List CpInfo := es.foldr (fun e r => gap e.1 (e.2 :: r)) (gap last [])
def pool (es : List (Nat × CpInfo)) (last : Nat) : Array CpInfo := ⟨poolList es last⟩
def fileOf (pool : Array CpInfo) (this : Nat) (attrs : Array Attribute := #[]) (ms : Array MethodInfo := #[]) (fl : Nat := 33) (sup : Nat := 0) (ifs : Array Nat := #[]) (fds : Array FieldInfo := #[]) : ClassFile where
  minorVersion := 0
  majorVersion := 65
  constantPool := pool
  accessFlags := fl
  thisClass := this
  superClass := sup
  interfaces := ifs
  fields := fds
  methods := ms
  attributes := attrs
def plain (name : String) (sup : Option ClassId) : Class where
  name := name
  kind := .ordinary
  loader := none
  accessFlags := 33
  super := sup
  interfaces := #[]
  cf := none
  fields := #[]
  methods := #[]
  instanceTypes := #[]
  staticTypes := #[]
  resolved := #[]
  callSites := []
  init := .initialized
  statics := none
  mirror := none

def pool0 : Array CpInfo := pool [(5, u "<init>"), (0, u "()V"), (1, .class_ 10), (1, u "java/lang/Object")] 113

def k0c0 : Code := { maxStack := 0, maxLocals := 1, code := object_method_1_code, exceptionTable := #[], attributes := #[] }
def k0m0 : Method := { name := "<init>", desc := "()V", sig := { parameters := [], returnType := none }, accessFlags := 1, code := some k0c0 }
/-- java/lang/Object -/
def k0 : Class := { plain "java/lang/Object" none with
  accessFlags := 33
  interfaces := #[]
  cf := some (fileOf pool0 8 #[] #[{ accessFlags := 1, nameIndex := 5, descriptorIndex := 6, attributes := #[] }] 33 0 #[] #[])
  fields := #[]
  methods := #[k0m0]
  instanceTypes := #[]
  staticTypes := #[]
  resolved := Array.replicate 124 none
  statics := none }

def pool1 : Array CpInfo := pool [(2, .class_ 4), (1, u "java/lang/Object"), (0, u "<init>"), (0, u "()V"), (0, .integer 2147483647), (0, .double 4611686018427387904), (1, .class_ 11), (0, u "com/example/sortition/sortition/Element"), (0, .methodref 13 14), (0, .class_ 15), (0, .nameAndType 16 17), (0, u "java/lang/String"), (0, u "valueOf"), (0, u "(C)Ljava/lang/String;"), (0, .methodref 10 19), (0, .nameAndType 5 20), (0, u "(ILjava/lang/String;D)V"), (0, .methodref 10 22), (0, .nameAndType 23 24), (0, u "outranks"), (0, u "(Lcom/example/sortition/sortition/Element;)Z"), (0, .class_ 26), (0, u "com/example/sortition/sortition/ElementOutranksPinLaw"), (2, u "law"), (0, u "(IIIIII)Z")] 3

def k1m0 : Method := { name := "<init>", desc := "()V", sig := { parameters := [], returnType := none }, accessFlags := 1, code := none }
def k1c1 : Code := { maxStack := 6, maxLocals := 16, code := code, exceptionTable := #[], attributes := #[] }
def k1m1 : Method := { name := "law", desc := "(IIIIII)Z", sig := { parameters := [.int, .int, .int, .int, .int, .int], returnType := some .boolean }, accessFlags := 9, code := some k1c1 }
/-- com/example/sortition/sortition/ElementOutranksPinLaw -/
def k1 : Class := { plain "com/example/sortition/sortition/ElementOutranksPinLaw" (some 0) with
  accessFlags := 49
  interfaces := #[]
  cf := some (fileOf pool1 25 #[] #[{ accessFlags := 1, nameIndex := 5, descriptorIndex := 6, attributes := #[] }, { accessFlags := 9, nameIndex := 29, descriptorIndex := 30, attributes := #[] }] 49 2 #[] #[])
  fields := #[]
  methods := #[k1m0, k1m1]
  instanceTypes := #[]
  staticTypes := #[]
  resolved := Array.replicate 34 none
  statics := none }

def pool2 : Array CpInfo := pool [(1, .methodref 2 3), (0, .class_ 4), (0, .nameAndType 5 6), (0, u "java/lang/Object"), (0, u "<init>"), (0, u "()V"), (0, .class_ 8), (0, u "java/lang/Record")] 13

def k2c0 : Code := { maxStack := 1, maxLocals := 1, code := jdk_30_method_1_code, exceptionTable := #[], attributes := #[] }
def k2m0 : Method := { name := "<init>", desc := "()V", sig := { parameters := [], returnType := none }, accessFlags := 4, code := some k2c0 }
/-- java/lang/Record -/
def k2 : Class := { plain "java/lang/Record" (some 0) with
  accessFlags := 1057
  interfaces := #[]
  cf := some (fileOf pool2 7 #[] #[{ accessFlags := 4, nameIndex := 5, descriptorIndex := 6, attributes := #[] }] 1057 2 #[] #[])
  fields := #[]
  methods := #[k2m0]
  instanceTypes := #[]
  staticTypes := #[]
  resolved := Array.replicate 22 none
  statics := none }

def pool3 : Array CpInfo := pool [(1, .methodref 2 3), (0, .class_ 4), (0, .nameAndType 5 6), (0, u "java/lang/Record"), (0, u "<init>"), (0, u "()V"), (0, .string 8), (0, u "id"), (0, .methodref 10 11), (0, .class_ 12), (0, .nameAndType 13 14), (0, u "java/util/Objects"), (0, u "requireNonNull"), (0, u "(Ljava/lang/Object;Ljava/lang/String;)Ljava/lang/Object;"), (9, .methodref 25 26), (0, .class_ 27), (0, .nameAndType 28 29), (0, u "java/lang/String"), (0, u "isEmpty"), (0, u "()Z"), (2, .class_ 33), (0, u "java/lang/Double"), (0, .double 9218868437227405312), (4, .fieldref 40 41), (0, .class_ 42), (0, .nameAndType 43 44), (0, u "com/example/sortition/sortition/Element"), (0, u "index"), (0, u "I"), (0, .fieldref 40 46), (0, .nameAndType 8 47), (0, u "Ljava/lang/String;"), (0, .fieldref 40 49), (0, .nameAndType 50 51), (0, u "value"), (0, u "D"), (0, .methodref 40 53), (0, .nameAndType 54 55), (0, u "compareRank"), (0, u "(Lcom/example/sortition/sortition/Element;Lcom/example/sortition/sortition/Element;)I"), (0, .methodref 32 57), (0, .nameAndType 58 59), (0, u "compare"), (0, u "(DD)I"), (0, .methodref 61 62), (0, .class_ 63), (0, .nameAndType 58 64), (0, u "java/lang/Integer"), (0, u "(II)I"), (35, u "RANK"), (0, u "Ljava/util/Comparator;"), (2, u "(ILjava/lang/String;D)V"), (4, u "outranks"), (0, u "(Lcom/example/sortition/sortition/Element;)Z")] 50

def k3c0 : Code := { maxStack := 5, maxLocals := 5, code := prog_24_method_1_code, exceptionTable := #[], attributes := #[] }
def k3m0 : Method := { name := "<init>", desc := "(ILjava/lang/String;D)V", sig := { parameters := [.int, (.object "java/lang/String"), .double], returnType := none }, accessFlags := 1, code := some k3c0 }
def k3c1 : Code := { maxStack := 2, maxLocals := 2, code := prog_24_method_2_code, exceptionTable := #[], attributes := #[] }
def k3m1 : Method := { name := "outranks", desc := "(Lcom/example/sortition/sortition/Element;)Z", sig := { parameters := [(.object "com/example/sortition/sortition/Element")], returnType := some .boolean }, accessFlags := 1, code := some k3c1 }
def k3c2 : Code := { maxStack := 4, maxLocals := 3, code := prog_24_method_3_code, exceptionTable := #[], attributes := #[] }
def k3m2 : Method := { name := "compareRank", desc := "(Lcom/example/sortition/sortition/Element;Lcom/example/sortition/sortition/Element;)I", sig := { parameters := [(.object "com/example/sortition/sortition/Element"), (.object "com/example/sortition/sortition/Element")], returnType := some .int }, accessFlags := 10, code := some k3c2 }
/-- com/example/sortition/sortition/Element -/
def k3 : Class := { plain "com/example/sortition/sortition/Element" (some 2) with
  accessFlags := 49
  interfaces := #[]
  cf := some (fileOf pool3 40 #[] #[{ accessFlags := 1, nameIndex := 5, descriptorIndex := 104, attributes := #[] }, { accessFlags := 1, nameIndex := 109, descriptorIndex := 110, attributes := #[] }, { accessFlags := 10, nameIndex := 54, descriptorIndex := 55, attributes := #[] }] 49 2 #[] #[{ accessFlags := 18, nameIndex := 43, descriptorIndex := 44, attributes := #[] }, { accessFlags := 18, nameIndex := 8, descriptorIndex := 47, attributes := #[] }, { accessFlags := 18, nameIndex := 50, descriptorIndex := 51, attributes := #[] }, { accessFlags := 25, nameIndex := 100, descriptorIndex := 101, attributes := #[] }])
  fields := #[{ name := "index", type := .int, accessFlags := 18, slot := 0, constantValue := 0 }, { name := "id", type := (.object "java/lang/String"), accessFlags := 18, slot := 1, constantValue := 0 }, { name := "value", type := .double, accessFlags := 18, slot := 2, constantValue := 0 }, { name := "RANK", type := (.object "java/util/Comparator"), accessFlags := 25, slot := 0, constantValue := 0 }]
  methods := #[k3m0, k3m1, k3m2]
  instanceTypes := #[.int, (.object "java/lang/String"), .double]
  staticTypes := #[(.object "java/util/Comparator")]
  resolved := Array.replicate 161 none
  statics := none }

def pool4 : Array CpInfo := pool [(1, .class_ 2), (0, u "java/io/Serializable"), (0, .class_ 4), (0, u "java/lang/Object")] 2

/-- java/io/Serializable -/
def k4 : Class := { plain "java/io/Serializable" (some 0) with
  accessFlags := 1537
  interfaces := #[]
  cf := some (fileOf pool4 1 #[] #[] 1537 3 #[] #[])
  fields := #[]
  methods := #[]
  instanceTypes := #[]
  staticTypes := #[]
  resolved := Array.replicate 7 none
  statics := none }

def pool5 : Array CpInfo := pool [(1, .class_ 2), (0, u "java/lang/Comparable"), (0, .class_ 4), (0, u "java/lang/Object")] 7

/-- java/lang/Comparable -/
def k5 : Class := { plain "java/lang/Comparable" (some 0) with
  accessFlags := 1537
  interfaces := #[]
  cf := some (fileOf pool5 1 #[] #[] 1537 3 #[] #[])
  fields := #[]
  methods := #[]
  instanceTypes := #[]
  staticTypes := #[]
  resolved := Array.replicate 12 none
  statics := none }

def pool6 : Array CpInfo := pool [(2, .class_ 4), (1, u "java/lang/CharSequence"), (42, .class_ 48), (0, u "java/lang/CharSequence$1CodePointIterator"), (10, .class_ 60), (0, u "java/lang/CharSequence$1CharIterator"), (5, .class_ 67), (0, u "java/lang/Object")] 63

/-- java/lang/CharSequence -/
def k6 : Class := { plain "java/lang/CharSequence" (some 0) with
  accessFlags := 1537
  interfaces := #[]
  cf := some (fileOf pool6 2 #[.nestMembers #[47, 59]] #[] 1537 66 #[] #[])
  fields := #[]
  methods := #[]
  instanceTypes := #[]
  staticTypes := #[]
  resolved := Array.replicate 131 none
  statics := none }

def pool7 : Array CpInfo := pool [(1, .class_ 2), (0, u "java/lang/constant/Constable"), (0, .class_ 4), (0, u "java/lang/Object")] 6

/-- java/lang/constant/Constable -/
def k7 : Class := { plain "java/lang/constant/Constable" (some 0) with
  accessFlags := 1537
  interfaces := #[]
  cf := some (fileOf pool7 1 #[] #[] 1537 3 #[] #[])
  fields := #[]
  methods := #[]
  instanceTypes := #[]
  staticTypes := #[]
  resolved := Array.replicate 11 none
  statics := none }

def pool8 : Array CpInfo := pool [(1, .class_ 2), (0, u "java/lang/constant/ConstantDesc"), (0, .class_ 4), (0, u "java/lang/Object")] 32

/-- java/lang/constant/ConstantDesc -/
def k8 : Class := { plain "java/lang/constant/ConstantDesc" (some 0) with
  accessFlags := 1537
  interfaces := #[]
  cf := some (fileOf pool8 1 #[] #[] 1537 3 #[] #[])
  fields := #[]
  methods := #[]
  instanceTypes := #[]
  staticTypes := #[]
  resolved := Array.replicate 37 none
  statics := none }

def pool9 : Array CpInfo := pool [(1, .methodref 2 3), (0, .class_ 4), (0, .nameAndType 5 6), (0, u "java/lang/Object"), (0, u "<init>"), (0, u "()V"), (2, .fieldref 10 11), (0, .class_ 12), (0, .nameAndType 13 14), (0, u "java/lang/String"), (0, u "value"), (0, u "[B"), (0, .fieldref 10 16), (0, .nameAndType 17 18), (0, u "coder"), (0, u "B"), (2, u "hash"), (0, u "I"), (2, u "hashIsZero"), (0, u "Z"), (11, .fieldref 10 39), (0, .nameAndType 40 26), (0, u "COMPACT_STRINGS"), (12, u "toBytes"), (53, .class_ 109), (1, u "java/lang/StringLatin1"), (32, u "()Z"), (66, .methodref 10 210), (0, .nameAndType 5 211), (0, u "([BB)V"), (157, u "(C)Z"), (205, .class_ 576), (0, u "java/lang/CharSequence"), (22, u "CASE_INSENSITIVE_ORDER"), (0, u "Ljava/util/Comparator;"), (91, u "isEmpty"), (89, u "valueOf"), (0, u "(C)Ljava/lang/String;"), (231, .methodref 107 1016), (0, .nameAndType 1017 369), (0, u "canEncode"), (0, .methodref 107 1019), (0, .nameAndType 53 1020), (0, u "(C)[B"), (80, u "serialPersistentFields"), (0, u "[Ljava/io/ObjectStreamField;"), (0, .class_ 1104), (0, u "java/lang/String$CaseInsensitiveComparator"), (1, .class_ 1107), (0, u "java/io/Serializable"), (0, .class_ 1109), (0, u "java/lang/Comparable"), (0, .class_ 1111), (0, u "java/lang/constant/Constable"), (0, .class_ 1113), (0, u "java/lang/constant/ConstantDesc"), (2, u "serialVersionUID"), (0, u "J"), (3, u "REPL"), (0, u "C"), (2, u "LATIN1"), (1, u "UTF16")] 323

def k9m0 : Method := { name := "<init>", desc := "()V", sig := { parameters := [], returnType := none }, accessFlags := 1, code := none }
def k9c1 : Code := { maxStack := 1, maxLocals := 1, code := jdk_42_method_55_code, exceptionTable := #[], attributes := #[] }
def k9m1 : Method := { name := "isEmpty", desc := "()Z", sig := { parameters := [], returnType := some .boolean }, accessFlags := 1, code := some k9c1 }
def k9c2 : Code := { maxStack := 4, maxLocals := 1, code := jdk_42_method_139_code, exceptionTable := #[], attributes := #[] }
def k9m2 : Method := { name := "valueOf", desc := "(C)Ljava/lang/String;", sig := { parameters := [.char], returnType := some (.object "java/lang/String") }, accessFlags := 9, code := some k9c2 }
def k9c3 : Code := { maxStack := 2, maxLocals := 3, code := jdk_42_method_151_code, exceptionTable := #[], attributes := #[] }
def k9m3 : Method := { name := "<init>", desc := "([BB)V", sig := { parameters := [(.array .byte), .byte], returnType := none }, accessFlags := 0, code := some k9c3 }
/-- java/lang/String -/
def k9 : Class := { plain "java/lang/String" (some 0) with
  accessFlags := 49
  interfaces := #[4, 5, 6, 7, 8]
  cf := some (fileOf pool9 10 #[.nestMembers #[1103]] #[{ accessFlags := 1, nameIndex := 5, descriptorIndex := 6, attributes := #[] }, { accessFlags := 1, nameIndex := 692, descriptorIndex := 142, attributes := #[] }, { accessFlags := 9, nameIndex := 782, descriptorIndex := 783, attributes := #[] }, { accessFlags := 0, nameIndex := 5, descriptorIndex := 211, attributes := #[] }] 49 2 #[1106, 1108, 575, 1110, 1112] #[{ accessFlags := 18, nameIndex := 13, descriptorIndex := 14, attributes := #[] }, { accessFlags := 18, nameIndex := 17, descriptorIndex := 18, attributes := #[] }, { accessFlags := 2, nameIndex := 21, descriptorIndex := 22, attributes := #[] }, { accessFlags := 2, nameIndex := 25, descriptorIndex := 26, attributes := #[] }, { accessFlags := 26, nameIndex := 1116, descriptorIndex := 1117, attributes := #[] }, { accessFlags := 24, nameIndex := 40, descriptorIndex := 26, attributes := #[] }, { accessFlags := 26, nameIndex := 1101, descriptorIndex := 1102, attributes := #[] }, { accessFlags := 26, nameIndex := 1121, descriptorIndex := 1122, attributes := #[] }, { accessFlags := 25, nameIndex := 599, descriptorIndex := 600, attributes := #[] }, { accessFlags := 24, nameIndex := 1125, descriptorIndex := 18, attributes := #[] }, { accessFlags := 24, nameIndex := 1127, descriptorIndex := 18, attributes := #[] }])
  fields := #[{ name := "value", type := (.array .byte), accessFlags := 18, slot := 0, constantValue := 0 }, { name := "coder", type := .byte, accessFlags := 18, slot := 1, constantValue := 0 }, { name := "hash", type := .int, accessFlags := 2, slot := 2, constantValue := 0 }, { name := "hashIsZero", type := .boolean, accessFlags := 2, slot := 3, constantValue := 0 }, { name := "serialVersionUID", type := .long, accessFlags := 26, slot := 0, constantValue := 0 }, { name := "COMPACT_STRINGS", type := .boolean, accessFlags := 24, slot := 1, constantValue := 0 }, { name := "serialPersistentFields", type := (.array (.object "java/io/ObjectStreamField")), accessFlags := 26, slot := 2, constantValue := 0 }, { name := "REPL", type := .char, accessFlags := 26, slot := 3, constantValue := 0 }, { name := "CASE_INSENSITIVE_ORDER", type := (.object "java/util/Comparator"), accessFlags := 25, slot := 4, constantValue := 0 }, { name := "LATIN1", type := .byte, accessFlags := 24, slot := 5, constantValue := 0 }, { name := "UTF16", type := .byte, accessFlags := 24, slot := 6, constantValue := 0 }]
  methods := #[k9m0, k9m1, k9m2, k9m3]
  instanceTypes := #[(.array .byte), .byte, .int, .boolean]
  staticTypes := #[.long, .boolean, (.array (.object "java/io/ObjectStreamField")), .char, (.object "java/util/Comparator"), .byte, .byte]
  resolved := Array.replicate 1451 none
  statics := some 0 }

def pool10 : Array CpInfo := pool [(4, .class_ 6), (1, u "java/lang/Object"), (0, u "<init>"), (0, u "()V"), (5, .class_ 16), (1, u "java/lang/StringLatin1"), (73, u "canEncode"), (14, u "(C)Z"), (15, u "$assertionsDisabled"), (0, u "Z"), (98, .class_ 223), (1, u "java/lang/StringLatin1$LinesSpliterator"), (156, u "toBytes"), (1, u "(C)[B"), (7, .class_ 391), (0, u "java/lang/StringLatin1$CharsSpliterator")] 3

def k10m0 : Method := { name := "<init>", desc := "()V", sig := { parameters := [], returnType := none }, accessFlags := 0, code := none }
def k10c1 : Code := { maxStack := 2, maxLocals := 1, code := jdk_43_method_3_code, exceptionTable := #[], attributes := #[] }
def k10m1 : Method := { name := "canEncode", desc := "(C)Z", sig := { parameters := [.char], returnType := some .boolean }, accessFlags := 9, code := some k10c1 }
def k10c2 : Code := { maxStack := 4, maxLocals := 1, code := jdk_43_method_46_code, exceptionTable := #[], attributes := #[] }
def k10m2 : Method := { name := "toBytes", desc := "(C)[B", sig := { parameters := [.char], returnType := some (.array .byte) }, accessFlags := 9, code := some k10c2 }
/-- java/lang/StringLatin1 -/
def k10 : Class := { plain "java/lang/StringLatin1" (some 0) with
  accessFlags := 48
  interfaces := #[]
  cf := some (fileOf pool10 14 #[.nestMembers #[390, 221]] #[{ accessFlags := 0, nameIndex := 7, descriptorIndex := 8, attributes := #[] }, { accessFlags := 9, nameIndex := 90, descriptorIndex := 105, attributes := #[] }, { accessFlags := 9, nameIndex := 380, descriptorIndex := 382, attributes := #[] }] 48 4 #[] #[{ accessFlags := 4120, nameIndex := 121, descriptorIndex := 122, attributes := #[] }])
  fields := #[{ name := "$assertionsDisabled", type := .boolean, accessFlags := 4120, slot := 0, constantValue := 0 }]
  methods := #[k10m0, k10m1, k10m2]
  instanceTypes := #[]
  staticTypes := #[.boolean]
  resolved := Array.replicate 395 none
  statics := none }

def pool11 : Array CpInfo := pool [(2, .class_ 4), (1, u "java/lang/Object"), (0, u "<init>"), (0, u "()V"), (35, .class_ 44), (1, u "java/util/Objects"), (0, u "requireNonNull"), (48, u "(Ljava/lang/Object;Ljava/lang/String;)Ljava/lang/Object;")] 89

def k11m0 : Method := { name := "<init>", desc := "()V", sig := { parameters := [], returnType := none }, accessFlags := 2, code := none }
def k11c1 : Code := { maxStack := 3, maxLocals := 2, code := jdk_31_method_11_code, exceptionTable := #[], attributes := #[] }
def k11m1 : Method := { name := "requireNonNull", desc := "(Ljava/lang/Object;Ljava/lang/String;)Ljava/lang/Object;", sig := { parameters := [(.object "java/lang/Object"), (.object "java/lang/String")], returnType := some (.object "java/lang/Object") }, accessFlags := 9, code := some k11c1 }
/-- java/util/Objects -/
def k11 : Class := { plain "java/util/Objects" (some 0) with
  accessFlags := 49
  interfaces := #[]
  cf := some (fileOf pool11 42 #[] #[{ accessFlags := 2, nameIndex := 5, descriptorIndex := 6, attributes := #[] }, { accessFlags := 9, nameIndex := 45, descriptorIndex := 94, attributes := #[] }] 49 2 #[] #[])
  fields := #[]
  methods := #[k11m0, k11m1]
  instanceTypes := #[]
  staticTypes := #[]
  resolved := Array.replicate 184 none
  statics := none }

def pool12 : Array CpInfo := pool [(2, .class_ 4), (1, u "java/lang/Object"), (0, u "<init>"), (0, u "()V"), (1, .class_ 10), (1, u "java/lang/Number"), (2, .class_ 14), (0, u "java/io/Serializable"), (0, u "serialVersionUID"), (0, u "J")] 20

def k12m0 : Method := { name := "<init>", desc := "()V", sig := { parameters := [], returnType := none }, accessFlags := 1, code := none }
/-- java/lang/Number -/
def k12 : Class := { plain "java/lang/Number" (some 0) with
  accessFlags := 1057
  interfaces := #[4]
  cf := some (fileOf pool12 8 #[] #[{ accessFlags := 1, nameIndex := 5, descriptorIndex := 6, attributes := #[] }] 1057 2 #[13] #[{ accessFlags := 26, nameIndex := 15, descriptorIndex := 16, attributes := #[] }])
  fields := #[{ name := "serialVersionUID", type := .long, accessFlags := 26, slot := 0, constantValue := 0 }]
  methods := #[k12m0]
  instanceTypes := #[]
  staticTypes := #[.long]
  resolved := Array.replicate 37 none
  statics := none }

def pool13 : Array CpInfo := pool [(1, .class_ 2), (0, u "java/lang/Double"), (11, u "(D)Z"), (31, .methodref 1 47), (0, .nameAndType 48 49), (0, u "doubleToLongBits"), (0, u "(D)J"), (64, .class_ 116), (1, u "java/lang/Number"), (3, u "value"), (0, u "D"), (0, .methodref 1 123), (0, .nameAndType 124 14), (0, u "isNaN"), (9, .methodref 1 135), (0, .nameAndType 136 49), (0, u "doubleToRawLongBits"), (4, u "compare"), (0, u "(DD)I"), (30, u "TYPE"), (0, u "Ljava/lang/Class;"), (0, .class_ 176), (0, u "java/lang/Comparable"), (0, .class_ 178), (0, u "java/lang/constant/Constable"), (0, .class_ 180), (0, u "java/lang/constant/ConstantDesc"), (0, u "POSITIVE_INFINITY"), (3, u "NEGATIVE_INFINITY"), (2, u "NaN"), (2, u "MAX_VALUE"), (0, u "MIN_NORMAL"), (0, u "MIN_VALUE"), (2, u "SIZE"), (0, u "I"), (1, u "PRECISION"), (1, u "MAX_EXPONENT"), (1, u "MIN_EXPONENT"), (1, u "BYTES"), (3, u "serialVersionUID"), (0, u "J")] 79

def k13c0 : Code := { maxStack := 4, maxLocals := 2, code := jdk_117_method_6_code, exceptionTable := #[], attributes := #[] }
def k13m0 : Method := { name := "isNaN", desc := "(D)Z", sig := { parameters := [.double], returnType := some .boolean }, accessFlags := 9, code := some k13c0 }
def k13c1 : Code := { maxStack := 2, maxLocals := 2, code := jdk_117_method_23_code, exceptionTable := #[], attributes := #[] }
def k13m1 : Method := { name := "doubleToLongBits", desc := "(D)J", sig := { parameters := [.double], returnType := some .long }, accessFlags := 9, code := some k13c1 }
def k13m2 : Method := { name := "doubleToRawLongBits", desc := "(D)J", sig := { parameters := [.double], returnType := some .long }, accessFlags := 265, code := none }
def k13c3 : Code := { maxStack := 4, maxLocals := 8, code := jdk_117_method_27_code, exceptionTable := #[], attributes := #[] }
def k13m3 : Method := { name := "compare", desc := "(DD)I", sig := { parameters := [.double, .double], returnType := some .int }, accessFlags := 9, code := some k13c3 }
/-- java/lang/Double -/
def k13 : Class := { plain "java/lang/Double" (some 12) with
  accessFlags := 49
  interfaces := #[5, 7, 8]
  cf := some (fileOf pool13 1 #[] #[{ accessFlags := 9, nameIndex := 124, descriptorIndex := 14, attributes := #[] }, { accessFlags := 9, nameIndex := 48, descriptorIndex := 49, attributes := #[] }, { accessFlags := 265, nameIndex := 136, descriptorIndex := 49, attributes := #[] }, { accessFlags := 9, nameIndex := 141, descriptorIndex := 142, attributes := #[] }] 49 114 #[175, 177, 179] #[{ accessFlags := 25, nameIndex := 181, descriptorIndex := 121, attributes := #[] }, { accessFlags := 25, nameIndex := 185, descriptorIndex := 121, attributes := #[] }, { accessFlags := 25, nameIndex := 188, descriptorIndex := 121, attributes := #[] }, { accessFlags := 25, nameIndex := 191, descriptorIndex := 121, attributes := #[] }, { accessFlags := 25, nameIndex := 192, descriptorIndex := 121, attributes := #[] }, { accessFlags := 25, nameIndex := 193, descriptorIndex := 121, attributes := #[] }, { accessFlags := 25, nameIndex := 196, descriptorIndex := 197, attributes := #[] }, { accessFlags := 25, nameIndex := 199, descriptorIndex := 197, attributes := #[] }, { accessFlags := 25, nameIndex := 201, descriptorIndex := 197, attributes := #[] }, { accessFlags := 25, nameIndex := 203, descriptorIndex := 197, attributes := #[] }, { accessFlags := 25, nameIndex := 205, descriptorIndex := 197, attributes := #[] }, { accessFlags := 25, nameIndex := 173, descriptorIndex := 174, attributes := #[] }, { accessFlags := 18, nameIndex := 120, descriptorIndex := 121, attributes := #[] }, { accessFlags := 26, nameIndex := 209, descriptorIndex := 210, attributes := #[] }])
  fields := #[{ name := "POSITIVE_INFINITY", type := .double, accessFlags := 25, slot := 0, constantValue := 0 }, { name := "NEGATIVE_INFINITY", type := .double, accessFlags := 25, slot := 1, constantValue := 0 }, { name := "NaN", type := .double, accessFlags := 25, slot := 2, constantValue := 0 }, { name := "MAX_VALUE", type := .double, accessFlags := 25, slot := 3, constantValue := 0 }, { name := "MIN_NORMAL", type := .double, accessFlags := 25, slot := 4, constantValue := 0 }, { name := "MIN_VALUE", type := .double, accessFlags := 25, slot := 5, constantValue := 0 }, { name := "SIZE", type := .int, accessFlags := 25, slot := 6, constantValue := 0 }, { name := "PRECISION", type := .int, accessFlags := 25, slot := 7, constantValue := 0 }, { name := "MAX_EXPONENT", type := .int, accessFlags := 25, slot := 8, constantValue := 0 }, { name := "MIN_EXPONENT", type := .int, accessFlags := 25, slot := 9, constantValue := 0 }, { name := "BYTES", type := .int, accessFlags := 25, slot := 10, constantValue := 0 }, { name := "TYPE", type := (.object "java/lang/Class"), accessFlags := 25, slot := 11, constantValue := 0 }, { name := "value", type := .double, accessFlags := 18, slot := 0, constantValue := 0 }, { name := "serialVersionUID", type := .long, accessFlags := 26, slot := 12, constantValue := 0 }]
  methods := #[k13m0, k13m1, k13m2, k13m3]
  instanceTypes := #[.double]
  staticTypes := #[.double, .double, .double, .double, .double, .double, .int, .int, .int, .int, .int, (.object "java/lang/Class"), .long]
  resolved := Array.replicate 290 none
  statics := none }

def pool14 : Array CpInfo := pool [(1, .class_ 2), (0, u "java/lang/Integer"), (16, u "digits"), (0, u "[C"), (39, u "(II)I"), (24, u "DigitOnes"), (0, u "[B"), (2, u "DigitTens"), (99, .class_ 190), (0, u "java/lang/Integer$IntegerCache"), (3, u "I"), (8, .class_ 204), (0, u "java/lang/Number"), (2, u "value"), (53, u "compare"), (40, u "TYPE"), (0, u "Ljava/lang/Class;"), (0, .class_ 305), (0, u "java/lang/Comparable"), (0, .class_ 307), (0, u "java/lang/constant/Constable"), (0, .class_ 309), (0, u "java/lang/constant/ConstantDesc"), (0, u "MIN_VALUE"), (1, u "MAX_VALUE"), (3, u "SIZE"), (1, u "BYTES"), (1, u "serialVersionUID"), (0, u "J")] 131

def k14c0 : Code := { maxStack := 2, maxLocals := 2, code := jdk_33_method_40_code, exceptionTable := #[], attributes := #[] }
def k14m0 : Method := { name := "compare", desc := "(II)I", sig := { parameters := [.int, .int], returnType := some .int }, accessFlags := 9, code := some k14c0 }
/-- java/lang/Integer -/
def k14 : Class := { plain "java/lang/Integer" (some 12) with
  accessFlags := 49
  interfaces := #[5, 7, 8]
  cf := some (fileOf pool14 1 #[.nestMembers #[189]] #[{ accessFlags := 9, nameIndex := 261, descriptorIndex := 60, attributes := #[] }] 49 203 #[304, 306, 308] #[{ accessFlags := 25, nameIndex := 310, descriptorIndex := 194, attributes := #[] }, { accessFlags := 25, nameIndex := 312, descriptorIndex := 194, attributes := #[] }, { accessFlags := 25, nameIndex := 302, descriptorIndex := 303, attributes := #[] }, { accessFlags := 24, nameIndex := 19, descriptorIndex := 20, attributes := #[] }, { accessFlags := 24, nameIndex := 89, descriptorIndex := 86, attributes := #[] }, { accessFlags := 24, nameIndex := 85, descriptorIndex := 86, attributes := #[] }, { accessFlags := 18, nameIndex := 207, descriptorIndex := 194, attributes := #[] }, { accessFlags := 25, nameIndex := 316, descriptorIndex := 194, attributes := #[] }, { accessFlags := 25, nameIndex := 318, descriptorIndex := 194, attributes := #[] }, { accessFlags := 26, nameIndex := 320, descriptorIndex := 321, attributes := #[] }])
  fields := #[{ name := "MIN_VALUE", type := .int, accessFlags := 25, slot := 0, constantValue := 0 }, { name := "MAX_VALUE", type := .int, accessFlags := 25, slot := 1, constantValue := 0 }, { name := "TYPE", type := (.object "java/lang/Class"), accessFlags := 25, slot := 2, constantValue := 0 }, { name := "digits", type := (.array .char), accessFlags := 24, slot := 3, constantValue := 0 }, { name := "DigitTens", type := (.array .byte), accessFlags := 24, slot := 4, constantValue := 0 }, { name := "DigitOnes", type := (.array .byte), accessFlags := 24, slot := 5, constantValue := 0 }, { name := "value", type := .int, accessFlags := 18, slot := 0, constantValue := 0 }, { name := "SIZE", type := .int, accessFlags := 25, slot := 6, constantValue := 0 }, { name := "BYTES", type := .int, accessFlags := 25, slot := 7, constantValue := 0 }, { name := "serialVersionUID", type := .long, accessFlags := 26, slot := 8, constantValue := 0 }]
  methods := #[k14m0]
  instanceTypes := #[.int]
  staticTypes := #[.int, .int, (.object "java/lang/Class"), (.array .char), (.array .byte), (.array .byte), .int, .int, .long]
  resolved := Array.replicate 453 none
  statics := none }

def pool15 : Array CpInfo := pool [(2, .class_ 4), (1, u "java/lang/Object"), (0, u "<init>"), (0, u "()V"), (17, .class_ 26), (1, u "jdk/internal/util/Preconditions"), (28, .class_ 56), (0, u "jdk/internal/util/Preconditions$4"), (57, .class_ 115), (0, u "jdk/internal/util/Preconditions$1"), (7, u "SIOOBE_FORMATTER"), (0, u "Ljava/util/function/BiFunction;"), (0, .class_ 126), (0, u "jdk/internal/util/Preconditions$2"), (3, u "AIOOBE_FORMATTER"), (0, .class_ 132), (0, u "jdk/internal/util/Preconditions$3"), (3, u "IOOBE_FORMATTER")] 57

def k15m0 : Method := { name := "<init>", desc := "()V", sig := { parameters := [], returnType := none }, accessFlags := 1, code := none }
/-- jdk/internal/util/Preconditions -/
def k15 : Class := { plain "jdk/internal/util/Preconditions" (some 0) with
  accessFlags := 33
  interfaces := #[]
  cf := some (fileOf pool15 24 #[.nestMembers #[55, 131, 125, 114]] #[{ accessFlags := 1, nameIndex := 5, descriptorIndex := 6, attributes := #[] }] 33 2 #[] #[{ accessFlags := 25, nameIndex := 123, descriptorIndex := 124, attributes := #[] }, { accessFlags := 25, nameIndex := 130, descriptorIndex := 124, attributes := #[] }, { accessFlags := 25, nameIndex := 136, descriptorIndex := 124, attributes := #[] }])
  fields := #[{ name := "SIOOBE_FORMATTER", type := (.object "java/util/function/BiFunction"), accessFlags := 25, slot := 0, constantValue := 0 }, { name := "AIOOBE_FORMATTER", type := (.object "java/util/function/BiFunction"), accessFlags := 25, slot := 1, constantValue := 0 }, { name := "IOOBE_FORMATTER", type := (.object "java/util/function/BiFunction"), accessFlags := 25, slot := 2, constantValue := 0 }]
  methods := #[k15m0]
  instanceTypes := #[]
  staticTypes := #[(.object "java/util/function/BiFunction"), (.object "java/util/function/BiFunction"), (.object "java/util/function/BiFunction")]
  resolved := Array.replicate 194 none
  statics := some 1 }

def pool16 : Array CpInfo := pool [(9, u "<init>"), (6, .class_ 18), (1, u "java/lang/Object"), (0, u "()V"), (1, .class_ 23), (1, u "jdk/internal/util/ArraysSupport"), (0, u "LOG2_ARRAY_LONG_INDEX_SCALE"), (0, u "I"), (2, u "U"), (0, u "Ljdk/internal/misc/Unsafe;"), (8, u "BIG_ENDIAN"), (0, u "Z"), (8, u "LOG2_BYTE_BIT_SIZE"), (4, u "LOG2_ARRAY_INT_INDEX_SCALE"), (54, u "JLA"), (0, u "Ljdk/internal/access/JavaLangAccess;"), (11, u "LOG2_ARRAY_BOOLEAN_INDEX_SCALE"), (9, u "LOG2_ARRAY_BYTE_INDEX_SCALE"), (5, u "LOG2_ARRAY_CHAR_INDEX_SCALE"), (5, u "LOG2_ARRAY_SHORT_INDEX_SCALE"), (18, u "LOG2_ARRAY_FLOAT_INDEX_SCALE"), (24, u "LOG2_ARRAY_DOUBLE_INDEX_SCALE"), (89, u "T_BOOLEAN"), (2, u "T_CHAR"), (1, u "T_FLOAT"), (1, u "T_DOUBLE"), (1, u "T_BYTE"), (1, u "T_SHORT"), (1, u "T_INT"), (1, u "T_LONG"), (1, u "SOFT_MAX_ARRAY_LENGTH")] 83

def k16m0 : Method := { name := "<init>", desc := "()V", sig := { parameters := [], returnType := none }, accessFlags := 2, code := none }
/-- jdk/internal/util/ArraysSupport -/
def k16 : Class := { plain "jdk/internal/util/ArraysSupport" (some 0) with
  accessFlags := 33
  interfaces := #[]
  cf := some (fileOf pool16 21 #[] #[{ accessFlags := 2, nameIndex := 9, descriptorIndex := 19, attributes := #[] }] 33 16 #[] #[{ accessFlags := 24, nameIndex := 28, descriptorIndex := 29, attributes := #[] }, { accessFlags := 26, nameIndex := 38, descriptorIndex := 39, attributes := #[] }, { accessFlags := 25, nameIndex := 121, descriptorIndex := 25, attributes := #[] }, { accessFlags := 25, nameIndex := 131, descriptorIndex := 25, attributes := #[] }, { accessFlags := 25, nameIndex := 137, descriptorIndex := 25, attributes := #[] }, { accessFlags := 25, nameIndex := 143, descriptorIndex := 25, attributes := #[] }, { accessFlags := 25, nameIndex := 53, descriptorIndex := 25, attributes := #[] }, { accessFlags := 25, nameIndex := 24, descriptorIndex := 25, attributes := #[] }, { accessFlags := 25, nameIndex := 162, descriptorIndex := 25, attributes := #[] }, { accessFlags := 25, nameIndex := 187, descriptorIndex := 25, attributes := #[] }, { accessFlags := 26, nameIndex := 48, descriptorIndex := 25, attributes := #[] }, { accessFlags := 25, nameIndex := 277, descriptorIndex := 25, attributes := #[] }, { accessFlags := 25, nameIndex := 280, descriptorIndex := 25, attributes := #[] }, { accessFlags := 25, nameIndex := 282, descriptorIndex := 25, attributes := #[] }, { accessFlags := 25, nameIndex := 284, descriptorIndex := 25, attributes := #[] }, { accessFlags := 25, nameIndex := 286, descriptorIndex := 25, attributes := #[] }, { accessFlags := 25, nameIndex := 288, descriptorIndex := 25, attributes := #[] }, { accessFlags := 25, nameIndex := 290, descriptorIndex := 25, attributes := #[] }, { accessFlags := 25, nameIndex := 292, descriptorIndex := 25, attributes := #[] }, { accessFlags := 26, nameIndex := 108, descriptorIndex := 109, attributes := #[] }, { accessFlags := 25, nameIndex := 294, descriptorIndex := 25, attributes := #[] }])
  fields := #[{ name := "U", type := (.object "jdk/internal/misc/Unsafe"), accessFlags := 24, slot := 0, constantValue := 0 }, { name := "BIG_ENDIAN", type := .boolean, accessFlags := 26, slot := 1, constantValue := 0 }, { name := "LOG2_ARRAY_BOOLEAN_INDEX_SCALE", type := .int, accessFlags := 25, slot := 2, constantValue := 0 }, { name := "LOG2_ARRAY_BYTE_INDEX_SCALE", type := .int, accessFlags := 25, slot := 3, constantValue := 0 }, { name := "LOG2_ARRAY_CHAR_INDEX_SCALE", type := .int, accessFlags := 25, slot := 4, constantValue := 0 }, { name := "LOG2_ARRAY_SHORT_INDEX_SCALE", type := .int, accessFlags := 25, slot := 5, constantValue := 0 }, { name := "LOG2_ARRAY_INT_INDEX_SCALE", type := .int, accessFlags := 25, slot := 6, constantValue := 0 }, { name := "LOG2_ARRAY_LONG_INDEX_SCALE", type := .int, accessFlags := 25, slot := 7, constantValue := 0 }, { name := "LOG2_ARRAY_FLOAT_INDEX_SCALE", type := .int, accessFlags := 25, slot := 8, constantValue := 0 }, { name := "LOG2_ARRAY_DOUBLE_INDEX_SCALE", type := .int, accessFlags := 25, slot := 9, constantValue := 0 }, { name := "LOG2_BYTE_BIT_SIZE", type := .int, accessFlags := 26, slot := 10, constantValue := 0 }, { name := "T_BOOLEAN", type := .int, accessFlags := 25, slot := 11, constantValue := 0 }, { name := "T_CHAR", type := .int, accessFlags := 25, slot := 12, constantValue := 0 }, { name := "T_FLOAT", type := .int, accessFlags := 25, slot := 13, constantValue := 0 }, { name := "T_DOUBLE", type := .int, accessFlags := 25, slot := 14, constantValue := 0 }, { name := "T_BYTE", type := .int, accessFlags := 25, slot := 15, constantValue := 0 }, { name := "T_SHORT", type := .int, accessFlags := 25, slot := 16, constantValue := 0 }, { name := "T_INT", type := .int, accessFlags := 25, slot := 17, constantValue := 0 }, { name := "T_LONG", type := .int, accessFlags := 25, slot := 18, constantValue := 0 }, { name := "JLA", type := (.object "jdk/internal/access/JavaLangAccess"), accessFlags := 26, slot := 19, constantValue := 0 }, { name := "SOFT_MAX_ARRAY_LENGTH", type := .int, accessFlags := 25, slot := 20, constantValue := 0 }]
  methods := #[k16m0]
  instanceTypes := #[]
  staticTypes := #[(.object "jdk/internal/misc/Unsafe"), .boolean, .int, .int, .int, .int, .int, .int, .int, .int, .int, .int, .int, .int, .int, .int, .int, .int, .int, (.object "jdk/internal/access/JavaLangAccess"), .int]
  resolved := Array.replicate 378 none
  statics := none }

def pool17 : Array CpInfo := pool [(1, u "java/lang/Cloneable"), (0, .class_ 1), (0, u "java/lang/Object"), (0, .class_ 3)] 3

/-- java/lang/Cloneable -/
def k17 : Class := { plain "java/lang/Cloneable" (some 0) with
  accessFlags := 1537
  interfaces := #[]
  cf := some (fileOf pool17 2 #[] #[] 1537 4 #[] #[])
  fields := #[]
  methods := #[]
  instanceTypes := #[]
  staticTypes := #[]
  resolved := Array.replicate 8 none
  statics := none }

/-- the primitive byte -/
def k18 : Class := { plain "byte" none with kind := .primitive 'B', accessFlags := 0x411 }
/-- [B -/
def k19 : Class := { plain "[B" (some 0) with kind := .array 18 .byte, interfaces := #[17, 4], accessFlags := 1041 }

/-- the primitive int -/
def k20 : Class := { plain "int" none with kind := .primitive 'I', accessFlags := 0x411 }
/-- [I -/
def k21 : Class := { plain "[I" (some 0) with kind := .array 20 .int, interfaces := #[17, 4], accessFlags := 1041 }

def heap : Heap := #[{ cls := 9, slots := #[.long 0, .int 1, .null, .int 0, .null, .int 0, .int 0], vm := .statics 9 },
  { cls := 15, slots := #[.null, .null, .null], vm := .statics 15 }]
def classes : Array Class := #[k0, k1, k2, k3, k4, k5, k6, k7, k8, k9, k10, k11, k12, k13, k14, k15, k16, k17, k18, k19, k20, k21]
def interned : List (Array UInt16 × Addr) := []
def slotsUsed : Nat := 10
def theMethod : MethodId := ⟨1, 1⟩
def args0 : Array Value := #[.int 5, .int 7, .int 3, .int 2, .int 65, .int 0]
def aboutOver (below : List Frame) : State where
  vm := { classes := classes, interned := interned.toArray }
  heap := heap
  slotsUsed := slotsUsed
  threads := #[{ frames := .invoking theMethod args0 :: below }]
def below0 : List Frame := [.native { method := ⟨0, 0⟩, args := #[] }]
def about1 : State := aboutOver below0
def p0 : Program := .bare "" "" ""
def e0 : Env := launch0.env 0 0 0
theorem w_frames : about1.frames = Frame.invoking theMethod args0 :: below0 := rfl
set_option maxRecDepth 65536 in
theorem w_args : argsFit about1.vm theMethod args0 = true := by decide +kernel
set_option maxRecDepth 65536 in
theorem w_heap : heapFits about1 = true := by decide +kernel
set_option maxRecDepth 65536 in
theorem w_runnable : about1.curStatus? = some .runnable := by decide +kernel
set_option maxRecDepth 65536 in
theorem w_alone : about1.alone = true := by decide +kernel
set_option maxRecDepth 65536 in
theorem w_named : about1.methodNamed? x = some theMethod := by decide +kernel
set_option maxRecDepth 65536 in
theorem w_hears : about1.hears theMethod below0 = true := by decide +kernel
set_option maxRecDepth 65536 in
theorem w_ripe : about1.ripe theMethod args0 below0 = true := by decide +kernel
theorem w_running : about1.status = .running := rfl
set_option maxRecDepth 65536 in
theorem w_room : about1.hasRoom e0.platform room_1 = true :=
  launch0.hasRoom_least _ room_1 (by decide +kernel) (by decide +kernel) (by decide +kernel) (by decide +kernel) (by decide +kernel) (by decide +kernel)
theorem allAtoms_all (ts : List Jvm.Cond) (a : Array Jvm.Value) (st : Jvm.State) : (allAtoms ts).before a st = ts.all (fun c => c.before a st) := by
  induction ts with
  | nil => rfl
  | cons c t ih =>
    show (Jvm.Cond.and c (allAtoms t)).before a st = _
    rw [Jvm.Cond.before_and, ih, List.all_cons]
def words1 : List Jvm.Cond := Jvm.Cond.code x code maxLocals ret :: tables_1
/-- a 'code' word, met by the world's own term for the bytes: nothing is compared byte by byte -/
theorem code_word {y : MethodName} {bytes : ByteArray} {mx : Nat} {rt : Option FieldType} {a : Array Value} {s : State} {m : MethodId} {meth : Method} {c : Code} (h1 : s.methodNamed? y = some m) (h2 : s.vm.method? m = some meth) (h3 : meth.code = some c) (h4 : c.code = bytes)
    (h5 : (c.maxLocals == mx && c.exceptionTable.isEmpty && decide (c.maxStack ≤ mostOperands) && decide (meth.sig.returnType = rt) && !meth.locks && decide (parseMethodDescriptor y.desc = some meth.sig)) = true) : (Jvm.Cond.code y bytes mx rt).before a s = true := by
  simp only [Bool.and_eq_true, beq_iff_eq, Bool.not_eq_true', decide_eq_true_eq] at h5
  obtain ⟨⟨⟨⟨⟨g1, g2⟩, g3⟩, g4⟩, g5⟩, g6⟩ := h5
  simp [Cond.before, Cond.holds, Cond.value, h1, h2, h3, h4, g1, g2, g3, g4, g5, g6]
def isCode : Jvm.Cond → Bool
  | .code _ _ _ _ => true
  | _ => false
theorem all_split {L : List Jvm.Cond} {P : Jvm.Cond → Bool} (h1 : L.all (fun c => isCode c || P c) = true) (h2 : ∀ c ∈ L.filter isCode, P c = true) : L.all P = true := by
  refine List.all_eq_true.mpr fun c hc => ?_
  have h := List.all_eq_true.mp h1 c hc
  rcases Bool.eq_false_or_eq_true (isCode c) with hi | hi
  · exact h2 c (List.mem_filter.mpr ⟨hc, hi⟩)
  · simpa [hi] using h
set_option maxRecDepth 65536 in
theorem w_c0 : (Jvm.Cond.code x code maxLocals ret).before args0 about1 = true := code_word (m := ⟨1, 1⟩) (meth := k1m1) (c := k1c1) (by decide +kernel) rfl rfl rfl (by decide +kernel)
set_option maxRecDepth 65536 in
theorem w_c1 : (Jvm.Cond.code ({ cls := "java/lang/String", name := "valueOf", desc := "(C)Ljava/lang/String;" } : Jvm.MethodName) jdk_42_method_139_code (1 : Nat) (Option.some (Jvm.ClassFile.FieldType.object "java/lang/String"))).before args0 about1 = true := code_word (m := ⟨9, 2⟩) (meth := k9m2) (c := k9c2) (by decide +kernel) rfl rfl rfl (by decide +kernel)
set_option maxRecDepth 65536 in
theorem w_c2 : (Jvm.Cond.code ({ cls := "java/lang/StringLatin1", name := "canEncode", desc := "(C)Z" } : Jvm.MethodName) jdk_43_method_3_code (1 : Nat) (Option.some Jvm.ClassFile.FieldType.boolean)).before args0 about1 = true := code_word (m := ⟨10, 1⟩) (meth := k10m1) (c := k10c1) (by decide +kernel) rfl rfl rfl (by decide +kernel)
set_option maxRecDepth 65536 in
theorem w_c3 : (Jvm.Cond.code ({ cls := "java/lang/StringLatin1", name := "toBytes", desc := "(C)[B" } : Jvm.MethodName) jdk_43_method_46_code (1 : Nat) (Option.some (Jvm.ClassFile.FieldType.array Jvm.ClassFile.FieldType.byte))).before args0 about1 = true := code_word (m := ⟨10, 2⟩) (meth := k10m2) (c := k10c2) (by decide +kernel) rfl rfl rfl (by decide +kernel)
set_option maxRecDepth 65536 in
theorem w_c4 : (Jvm.Cond.code ({ cls := "java/lang/String", name := "<init>", desc := "([BB)V" } : Jvm.MethodName) jdk_42_method_151_code (3 : Nat) (Option.none : Option Jvm.ClassFile.FieldType)).before args0 about1 = true := code_word (m := ⟨9, 3⟩) (meth := k9m3) (c := k9c3) (by decide +kernel) rfl rfl rfl (by decide +kernel)
set_option maxRecDepth 65536 in
theorem w_c5 : (Jvm.Cond.code ({ cls := "java/lang/Object", name := "<init>", desc := "()V" } : Jvm.MethodName) object_method_1_code (1 : Nat) (Option.none : Option Jvm.ClassFile.FieldType)).before args0 about1 = true := code_word (m := ⟨0, 0⟩) (meth := k0m0) (c := k0c0) (by decide +kernel) rfl rfl rfl (by decide +kernel)
set_option maxRecDepth 65536 in
theorem w_c6 : (Jvm.Cond.code ({ cls := "com/example/sortition/sortition/Element", name := "<init>", desc := "(ILjava/lang/String;D)V" } : Jvm.MethodName) prog_24_method_1_code (5 : Nat) (Option.none : Option Jvm.ClassFile.FieldType)).before args0 about1 = true := code_word (m := ⟨3, 0⟩) (meth := k3m0) (c := k3c0) (by decide +kernel) rfl rfl rfl (by decide +kernel)
set_option maxRecDepth 65536 in
theorem w_c7 : (Jvm.Cond.code ({ cls := "java/lang/Record", name := "<init>", desc := "()V" } : Jvm.MethodName) jdk_30_method_1_code (1 : Nat) (Option.none : Option Jvm.ClassFile.FieldType)).before args0 about1 = true := code_word (m := ⟨2, 0⟩) (meth := k2m0) (c := k2c0) (by decide +kernel) rfl rfl rfl (by decide +kernel)
set_option maxRecDepth 65536 in
theorem w_c8 : (Jvm.Cond.code ({ cls := "java/util/Objects", name := "requireNonNull", desc := "(Ljava/lang/Object;Ljava/lang/String;)Ljava/lang/Object;" } : Jvm.MethodName) jdk_31_method_11_code (2 : Nat) (Option.some (Jvm.ClassFile.FieldType.object "java/lang/Object"))).before args0 about1 = true := code_word (m := ⟨11, 1⟩) (meth := k11m1) (c := k11c1) (by decide +kernel) rfl rfl rfl (by decide +kernel)
set_option maxRecDepth 65536 in
theorem w_c9 : (Jvm.Cond.code ({ cls := "java/lang/String", name := "isEmpty", desc := "()Z" } : Jvm.MethodName) jdk_42_method_55_code (1 : Nat) (Option.some Jvm.ClassFile.FieldType.boolean)).before args0 about1 = true := code_word (m := ⟨9, 1⟩) (meth := k9m1) (c := k9c1) (by decide +kernel) rfl rfl rfl (by decide +kernel)
set_option maxRecDepth 65536 in
theorem w_c10 : (Jvm.Cond.code ({ cls := "com/example/sortition/sortition/Element", name := "outranks", desc := "(Lcom/example/sortition/sortition/Element;)Z" } : Jvm.MethodName) prog_24_method_2_code (2 : Nat) (Option.some Jvm.ClassFile.FieldType.boolean)).before args0 about1 = true := code_word (m := ⟨3, 1⟩) (meth := k3m1) (c := k3c1) (by decide +kernel) rfl rfl rfl (by decide +kernel)
set_option maxRecDepth 65536 in
theorem w_c11 : (Jvm.Cond.code ({ cls := "com/example/sortition/sortition/Element", name := "compareRank", desc := "(Lcom/example/sortition/sortition/Element;Lcom/example/sortition/sortition/Element;)I" } : Jvm.MethodName) prog_24_method_3_code (3 : Nat) (Option.some Jvm.ClassFile.FieldType.int)).before args0 about1 = true := code_word (m := ⟨3, 2⟩) (meth := k3m2) (c := k3c2) (by decide +kernel) rfl rfl rfl (by decide +kernel)
set_option maxRecDepth 65536 in
theorem w_c12 : (Jvm.Cond.code ({ cls := "java/lang/Double", name := "compare", desc := "(DD)I" } : Jvm.MethodName) jdk_117_method_27_code (8 : Nat) (Option.some Jvm.ClassFile.FieldType.int)).before args0 about1 = true := code_word (m := ⟨13, 3⟩) (meth := k13m3) (c := k13c3) (by decide +kernel) rfl rfl rfl (by decide +kernel)
set_option maxRecDepth 65536 in
theorem w_c13 : (Jvm.Cond.code ({ cls := "java/lang/Double", name := "doubleToLongBits", desc := "(D)J" } : Jvm.MethodName) jdk_117_method_23_code (2 : Nat) (Option.some Jvm.ClassFile.FieldType.long)).before args0 about1 = true := code_word (m := ⟨13, 1⟩) (meth := k13m1) (c := k13c1) (by decide +kernel) rfl rfl rfl (by decide +kernel)
set_option maxRecDepth 65536 in
theorem w_c14 : (Jvm.Cond.code ({ cls := "java/lang/Double", name := "isNaN", desc := "(D)Z" } : Jvm.MethodName) jdk_117_method_6_code (2 : Nat) (Option.some Jvm.ClassFile.FieldType.boolean)).before args0 about1 = true := code_word (m := ⟨13, 0⟩) (meth := k13m0) (c := k13c0) (by decide +kernel) rfl rfl rfl (by decide +kernel)
set_option maxRecDepth 65536 in
theorem w_c15 : (Jvm.Cond.code ({ cls := "java/lang/Integer", name := "compare", desc := "(II)I" } : Jvm.MethodName) jdk_33_method_40_code (2 : Nat) (Option.some Jvm.ClassFile.FieldType.int)).before args0 about1 = true := code_word (m := ⟨14, 0⟩) (meth := k14m0) (c := k14c0) (by decide +kernel) rfl rfl rfl (by decide +kernel)
def codes1 : List Jvm.Cond := [Jvm.Cond.code x code maxLocals ret, Jvm.Cond.code ({ cls := "java/lang/String", name := "valueOf", desc := "(C)Ljava/lang/String;" } : Jvm.MethodName) jdk_42_method_139_code (1 : Nat) (Option.some (Jvm.ClassFile.FieldType.object "java/lang/String")), Jvm.Cond.code ({ cls := "java/lang/StringLatin1", name := "canEncode", desc := "(C)Z" } : Jvm.MethodName) jdk_43_method_3_code (1 : Nat) (Option.some Jvm.ClassFile.FieldType.boolean), Jvm.Cond.code ({ cls := "java/lang/StringLatin1", name := "toBytes", desc := "(C)[B" } : Jvm.MethodName) jdk_43_method_46_code (1 : Nat) (Option.some (Jvm.ClassFile.FieldType.array Jvm.ClassFile.FieldType.byte)), Jvm.Cond.code ({ cls := "java/lang/String", name := "<init>", desc := "([BB)V" } : Jvm.MethodName) jdk_42_method_151_code (3 : Nat) (Option.none : Option Jvm.ClassFile.FieldType), Jvm.Cond.code ({ cls := "java/lang/Object", name := "<init>", desc := "()V" } : Jvm.MethodName) object_method_1_code (1 : Nat) (Option.none : Option Jvm.ClassFile.FieldType), Jvm.Cond.code ({ cls := "com/example/sortition/sortition/Element", name := "<init>", desc := "(ILjava/lang/String;D)V" } : Jvm.MethodName) prog_24_method_1_code (5 : Nat) (Option.none : Option Jvm.ClassFile.FieldType), Jvm.Cond.code ({ cls := "java/lang/Record", name := "<init>", desc := "()V" } : Jvm.MethodName) jdk_30_method_1_code (1 : Nat) (Option.none : Option Jvm.ClassFile.FieldType), Jvm.Cond.code ({ cls := "java/util/Objects", name := "requireNonNull", desc := "(Ljava/lang/Object;Ljava/lang/String;)Ljava/lang/Object;" } : Jvm.MethodName) jdk_31_method_11_code (2 : Nat) (Option.some (Jvm.ClassFile.FieldType.object "java/lang/Object")), Jvm.Cond.code ({ cls := "java/lang/String", name := "isEmpty", desc := "()Z" } : Jvm.MethodName) jdk_42_method_55_code (1 : Nat) (Option.some Jvm.ClassFile.FieldType.boolean), Jvm.Cond.code ({ cls := "com/example/sortition/sortition/Element", name := "outranks", desc := "(Lcom/example/sortition/sortition/Element;)Z" } : Jvm.MethodName) prog_24_method_2_code (2 : Nat) (Option.some Jvm.ClassFile.FieldType.boolean), Jvm.Cond.code ({ cls := "com/example/sortition/sortition/Element", name := "compareRank", desc := "(Lcom/example/sortition/sortition/Element;Lcom/example/sortition/sortition/Element;)I" } : Jvm.MethodName) prog_24_method_3_code (3 : Nat) (Option.some Jvm.ClassFile.FieldType.int), Jvm.Cond.code ({ cls := "java/lang/Double", name := "compare", desc := "(DD)I" } : Jvm.MethodName) jdk_117_method_27_code (8 : Nat) (Option.some Jvm.ClassFile.FieldType.int), Jvm.Cond.code ({ cls := "java/lang/Double", name := "doubleToLongBits", desc := "(D)J" } : Jvm.MethodName) jdk_117_method_23_code (2 : Nat) (Option.some Jvm.ClassFile.FieldType.long), Jvm.Cond.code ({ cls := "java/lang/Double", name := "isNaN", desc := "(D)Z" } : Jvm.MethodName) jdk_117_method_6_code (2 : Nat) (Option.some Jvm.ClassFile.FieldType.boolean), Jvm.Cond.code ({ cls := "java/lang/Integer", name := "compare", desc := "(II)I" } : Jvm.MethodName) jdk_33_method_40_code (2 : Nat) (Option.some Jvm.ClassFile.FieldType.int)]
set_option maxRecDepth 65536 in
theorem codes_eq : words1.filter isCode = codes1 := rfl
theorem w_codes : ∀ c ∈ words1.filter isCode, c.before args0 about1 = true := by
  rw [codes_eq]
  intro c hc
  simp only [codes1, List.mem_cons, List.not_mem_nil, or_false] at hc
  rcases hc with rfl | rfl | rfl | rfl | rfl | rfl | rfl | rfl | rfl | rfl | rfl | rfl | rfl | rfl | rfl | rfl
  · exact w_c0
  · exact w_c1
  · exact w_c2
  · exact w_c3
  · exact w_c4
  · exact w_c5
  · exact w_c6
  · exact w_c7
  · exact w_c8
  · exact w_c9
  · exact w_c10
  · exact w_c11
  · exact w_c12
  · exact w_c13
  · exact w_c14
  · exact w_c15
set_option maxRecDepth 65536 in
theorem w_t1 : (words1.take 24).all (fun c => isCode c || c.before args0 about1) = true := by decide +kernel
set_option maxRecDepth 65536 in
theorem w_t2 : ((words1.drop 24).take 24).all (fun c => isCode c || c.before args0 about1) = true := by decide +kernel
set_option maxRecDepth 65536 in
theorem w_t3 : (((words1.drop 24).drop 24).take 24).all (fun c => isCode c || c.before args0 about1) = true := by decide +kernel
set_option maxRecDepth 65536 in
theorem w_t4 : (((words1.drop 24).drop 24).drop 24).all (fun c => isCode c || c.before args0 about1) = true := by decide +kernel
theorem w_tables : (allAtoms (Jvm.Cond.code x code maxLocals ret :: tables_1)).before args0 about1 = true := by
  rw [allAtoms_all]
  show words1.all (fun c => c.before args0 about1) = true
  refine all_split ?_ w_codes
  rw [← List.take_append_drop 24 words1, List.all_append, w_t1, ← List.take_append_drop 24 (words1.drop 24), List.all_append, w_t2, ← List.take_append_drop 24 ((words1.drop 24).drop 24), List.all_append, w_t3, w_t4]
  rfl
set_option maxRecDepth 65536 in
theorem w_rest : rest_1_c.before args0 about1 = true := by decide +kernel
set_option maxRecDepth 65536 in
theorem w_case : (Jvm.Cond.and given_1 narrow_1).before args0 about1 = true := by decide +kernel
theorem w_applies : (headSpec (Jvm.Cond.code x code maxLocals ret :: tables_1) room_1).applies x e0.platform about1 = true :=
  (Spec.applies_iff w_frames).mpr ⟨w_running, w_runnable, w_alone, w_named, w_hears, w_ripe, w_room, w_tables⟩
theorem atStart : AtStart classFile x code maxLocals ret World_1 tables_1 room_1 Calls_1 rest_1 Pre_1 launch0 p0 e0 about1 theMethod args0 below0 :=
  ⟨lists_1, trivial, launch0.admits_env _ _ _, launch0.least_env, fairChoices_fair.cas, fairChoices_fair.clock, w_frames, w_args, w_heap, w_applies, trivial, w_rest, w_case⟩
end start1
theorem witness_1 : WitnessClaimed_1 := ⟨start1.p0, start1.e0, start1.about1, start1.theMethod, start1.args0, start1.below0, start1.atStart⟩
end Jvm.Pilot.@@N@@
